import PyProof.Rows.All
import Wide.FinOn
import OpenK.AllK
import Wide.All
import Lean
import PySem.Challenge.RW_op0287_02
set_option Elab.async false
set_option linter.all false
set_option compiler.extract_closed false
namespace Mine.Internal
open PySem PySem.W PyProof.Rows PySem.Challenge
open _root_.PySem renaming wpAny_bind → EA, wpAny_pure → EF, sizeLine_eq → EO, wpAny_holding → EY, NameKind → Eb, Builtin → En, wpAny_mono → Ep, Comprehension → Es, sizeLine → FG, wpAny_standAt → FP, ReadsAll → FW, compareOp → Fc, codeAny_builtin → Fd, wpAny_call → Ff, Program → Fn, foldedSetIterable → Fp, starEach → Fv, wpAny_of_eq → GC, keywordEach → GE, wpAny_Call_NameR → GI, codeAny → GP, DictEntry → GQ, cellsFrom → GS, codeAny_call_builtin → GT, seg_bind_wrap → GV, wpAny_newObj_type → GZ, typeLookup_type → Ga, specialOf → Gh, intKind → Gi, mainGlobals → Gk, isSubtype_type → Gl, codeAny_of_tree → Gs, entryFor_of_tree → Gz, backToKw → HB, letOwnedTupleGo → HE, wpAny_truthy_bool → HK, callWith → HL, attributeBase → HO, standAt → HQ, wpAny_isTrue_BoolOp → HR, letTemporaryGo → HY, opaqueClassAbove → H1, builtinsNs → H5, wpAny_Constant_str → H7, wpAny_allTrue_And_cons → H8, wpAny_Call_method_late → H9, wpAny_updateSeq → Hd, plainId_quiet → Hf, wpAny_pyIter_list → Hh, FuncData → Hm, holding → Hu, wpAny_execs_cons → Hv, checkBuiltinCall → Hy, find?_eq_fast → IC, importedModules → ID, Keyword → IE, assignEach → IF, wpAny_rule → IG, isInstance → IH, typeLookup → II, slot_listiter_next → IJ, wpAny_Call_method0_late → IM, wpAny_field → IN, isSubtype → IP, getMethod → IS, wpAny_is_plain → IY, wpAny_typeOf → I4, checkBoundCall → I5, wpAny_allTrue_Or_cons → Ia, wpAny_askSetting → Ig, swappedStores → Ij, ExceptHandler → Im, binaryOp → Iu, entryFor → Iw, wpAny_specialOf → JB, wpAny_Assign_stores → JF, cellsFrom_ok → JI, relabel → JJ, getAttr → JK, Setting → JL, sysModules → JR, firstAsync → JS, call_meets → JW, wpAny_setField_rec → JY, wpAny_assign_Name → J9, wpAny_isNot_plain → Jb, wpAny_truthy_list → Jc, subscripted → Jd, slot_list_getitem → Je, wpAny_collect_seq → Jf, builtinKind → Jg, swapsWithSole → Jk, comprehension → Jl, wpAny_release → Jm, bindArgs → Jt, wpAny_list_append_plain → Ju, firstIter → Jv, wpAny_call_entry → Jw, wpAny_Try_except → Jx, updateSeq → Jy, call_meetsIn → KH, wpAny_load → KJ, wpAny_operating → KQ, wpAny_isTrue_Compare1 → KV, codeAny_call_function → KW, GenState → K2, arm_assign_Subscript → K3, evalArgs → K5, wpAny_seqItems → K7, getItem → Kf, callAny → Ki, strValues → Kj, wpAny_Constant_none → Kl, codeAny_forLoop_any → Km, builtinType_eq_fast → Ko, entry_listiter_next → Kp, wpAny_evalPart_some → Kq, behindInMarks → Kt, cameBackBy → LA, closureFor → LB, typeIs_str → LD, firstIterPos → LM, operate → LN, keeperOf → LQ, callSpecial? → LU, treeTable → LX, storeName → LY, compStart → LZ, noteFrame → L5, slicePick → L6, handedOut → L7, inplaceOp → L8, wpAny_point → Le, newList → Lj, collect → Lk, compTurn → Ln
open _root_.PySem.Str renaming ofString → EB
open _root_.List renaming length_map → EC, mem_append → ED, mem_singleton → EG, getElem?_eq_some_iff → EI, mem_of_getElem? → EK, mem_map → EL, range → EN, map_map → EQ, mem_cons → ES, length_append → EU, getElem?_concat_length → EV, nil_append → EW, length_cons → EX, getElem?_append_right → EZ, map_cons → E6, getElem?_eq_getElem → E8, mem_range → Ec, getElem?_append_left → Ed, set_append_right → Ee, length_singleton → Ef, map_append → Eh, getElem?_map → Ei, cons_append → El, getD_eq_getElem?_getD → Er, filter_cons → Eu, getElem?_cons_succ → Ev, append_nil → FF, append_assoc → FH, length_filter_le → FI, contains_iff_mem → FJ, replicate → FK, map_congr_left → FN, length_range → FR, zip_nil_right → FT, mem_filter → FV, set_cons_succ → F4, zip_cons_cons → F5, getElem?_set_self → F6, not_mem_nil → Fb, pairwise_cons → Fe, foldl_cons → Fh, getElem?_set_ne → Fj, drop_eq_nil_of_le → Fk, zip_nil_left → Fm, take_of_length_le → Fs, nodup_append → Fy, nodup_cons → GF, all_cons → GG, getD → GK, eq_nil_iff_forall_not_mem → GL, filter_eq_self → GN, eq_nil_of_length_eq_zero → GO, lookup_cons → GR, filter_congr → G0, foldl_append → G6, mergeSort_perm → G8, drop_eq_getElem_cons → Gb, length_replicate → Gc, getElem_mem → Ge, all_eq_true → Gf, pairwise_singleton → Gp, size_toArray → Gq, length_eq_zero_iff → Gr, any_eq_true → HA, range_succ → HF, Pairwise → HN, map_eq_nil_iff → HS, cons → HU, mem_flatMap → HW, take_append_of_le_length → H3, length_set → Hc, take_append_drop → Hg, pairwise_map → Hi, pairwise_append → Hj, length → Hn, mem_of_mem_drop → Ho, any_cons → IB, filter_append → IK, eraseIdx_cons_succ → IQ, pairwise_mergeSort → IR, forIn_nil → IX, ext_getElem? → I6, map_nil → I8, take_succ_eq_append_getElem → I9, getElem?_eq_none → Ib, length_take → Ii, map_take → Ip, getElem?_of_mem → Iv, length_erase_le → Ix, find?_cons → JA, find?_eq_none → JZ, map_singleton → J0, foldl_nil → J3, mem_cons_self → J4, filter_filter → J5, pairwise_iff_getElem → J6, mem_or_eq_of_mem_set → J7, append_eq_append_iff → J8, take_add_one → Ji, nil_perm → Jn, map_drop → Jp, length_drop → Jz, nodup_range → KB, ext_getElem → KC, filter_eq_nil_iff → KL, pairwise_lt_range → KM, forIn_cons → KP, length_nil → KR, filter_nil → KS, filter_map → KT, set_append_left → K8, drop_eq_nil_iff → K9, mem_of_mem_take → Ka, pairwise_filter → Kd, replicate_succ → Kn, length_pos_iff → Kr, filter_flatten → Ks, foldl → LC, map_set → LR, any_map → LW
open _root_.Nat renaming le_trans → EE, le_refl → EH, le_add_right → EM, le_of_ble_eq_true → ET, not_lt → E0, add_sub_cancel_left → E1, lt_irrefl → E2, lt_succ_self → E3, lt_of_lt_of_le → E5, le_of_eq → E9, le_succ → Eg, le_of_lt → Ej, zero_le → Ek, ble → Em, lt_of_le_of_lt → Eo, add_le_add_left → Ew, add_assoc → Ez, ne_of_lt → FE, add_right_comm → FZ, add_le_add_right → F8, le_succ_of_le → Fi, sub_self → Fx, succ_le_succ → GH, mul_le_mul_left → GM, le_of_lt_succ → GW, le_of_succ_le → GX, add_le_add → Gj, add_comm → Gv, le_of_succ_le_succ → Gx, le_antisymm → HD, lt_succ_of_lt → HG, zero_add → HH, add_sub_of_le → HI, add_lt_add_left → HP, succ_ne_zero → HT, lt_or_eq_of_le → Ha, min_eq_left → Hb, not_lt_zero → He, lt_trans → Hp, lt_asymm → Hq, min_eq_right → Hw, lt_of_succ_lt → IU, le_total → IV, ne_of_gt → IW, succ_ne_self → Ie, not_le → Ih, mul_le_mul_right → Iq, not_succ_le_zero → Ir, le_add_left → Iz, strongRecOn → JC, sub_lt_sub_left → JD, add_left_cancel → JE, lt_or_ge → JH, sub_le → JO, lt_of_le_of_ne → JP, sub_add_cancel → JQ, min_le_right → Jq, le_of_not_lt → Jr, lt_add_of_pos_right → Js, le_of_sub_eq_zero → KU, not_succ_le_self → KY, succ → KZ, succ_mul → LF, succ_pos → LG, mul_one → La, beq → Lh
open _root_.PySem.Heap renaming get?_push_of_some → EJ, get?_push_size → EP, size_push → ER, lt_size → Ea, get?_update_self → FQ, get?_update_other → GJ, SameBut → GY, get?_update_ne → G9, size_update → Gg, get?_none_of_le → HJ, push → HV, NewExc → Lc
open _root_.Int renaming natCast_nonneg → E4, ofNat_lt → Gw, toNat_natCast → HM, lt_of_le_of_lt → H4, ofNat_le → Hr, toNat → Hs, ofNat → IL, le_trans → KD, fmod_nonneg_of_pos → KN, sub_nonneg_of_le → K0, toNat_of_nonneg → Kk
open _root_.Bool renaming and_eq_true → E7, eq_iff_iff → FU, false_eq_true → F0, not_eq_true' → Fz, eq_false_iff → G7, or_eq_true → Gu, false_or → Ik, and_eq_true_iff → It, or_eq_false_iff → Kc, or_false → Kv, true_and → Kx, not_true → Kz
open _root_.PySem.Challenge renaming rw_op0287_02 → Et
open _root_.PySem.W renaming of_hideAll → Ex, hideAll_get → F9, SharedT → Gm, instObj → Go, hideAll_none → Ht, looks_findIn → Hx, specialIn → JM, handedOut_of → KG, plainGet → K4, looks_field → K6, takesIn → Kh, methodCall_KW → Ku, absHeap → LH, opening → LI, methodObj → L9, looks_clsIn → Ld, callWith_of → Lf, nd_load → Ll, any_some → Lo
open _root_.PySem.Obj renaming mapSeq → Ey, mapFields → Il, data_mapFields → JV, isFreed_of_fields → KX
open _root_.PySem.Value renaming none → FB, type → F7, ref → Fg, isInt → IT, str → JN
open _root_.PySem.PyData renaming eqv → FC, str → FY, strOk → Fl, canLayAll0 → Fq, int → Fw, list → GU, keyHash → HX, none → Iy, canLay0 → J2, bool → Jh, tuple → LV
open _root_.Option renaming map_eq_some_iff → FL, some → GB, bind_eq_some_iff → Gn, bind_some → H0, isSome_iff_exists → IA, map_eq_none_iff → KI, map_map → Kb
open _root_.Array renaming length_toList → FM, getElem?_eq_some_iff → FX, getElem?_eq_getElem → HC, eq_empty_of_size_eq_zero → HZ, toList_append → Hz, getElem?_toList → Ic, toList_setIfInBounds → JU, isEmpty_eq_false_iff → JX, toList_push → Ja, toList_eq_nil_iff → KA, size_push → KO
open _root_.PySem.Calls renaming evalArgs_plain → FO, spliced_cons → FS, spliced_nil → Fo, callWith_builtin → Fu, Name_function_global → Hk, loadGlobal_builtin → Jj
open _root_.PySem.W.Looks renaming of_pure → Fa, ld → IZ, of_peek → Io
open _root_.PySem.Txt renaming replace → Gy, join → I7
open _root_.PySem.Sem renaming onRaise_eq_wrap → JG
open _root_.PyProof.Rows renaming Subscript_ → KE, AllBare → Ke, sortedAll → Kg, listUpdate_at → Ky, isTrue_plain → LL, tail_any → LP, seqEpoch_at → Lg
open _root_.PySem.Data renaming ctorIdx → LJ
open _root_.Prod renaming mk → Li
set_option maxRecDepth 100000
set_option maxHeartbeats 4000000
section
set_option compiler.extract_closed false
universe u1 u2 u3 u4 u5 u6 u7 u8 u9
section
variable {α1:Sort u1} {α2:Sort u2} {α3:Sort u3} {α4:Sort u4} {α5:Sort u5} {α6:Sort u6} {α7:Sort u7} {α8:Sort u8} {α9:Sort u9} {P:Prop}
theorem Df {p:α1->Prop} (h:∃ a,p a) (k:∀ a,p a->P):P:=h.elim k
theorem CJ {p:α1->α2->Prop} (h:∃ a b,p a b) (k:∀ a b,p a b->P):P:=h.elim fun a h=>Df h (k a)
theorem DB {p:α1->α2->α3->Prop} (h:∃ a b c,p a b c) (k:∀ a b c,p a b c->P):P:=h.elim fun a h=>CJ h (k a)
theorem Ds {p:α1->α2->α3->α4->Prop} (h:∃ a b c d,p a b c d) (k:∀ a b c d,p a b c d->P):P:=h.elim fun a h=>DB h (k a)
theorem Cv {p:α1->α2->α3->α4->α5->Prop} (h:∃ a b c d e,p a b c d e) (k:∀ a b c d e,p a b c d e->P):P:=h.elim fun a h=>Ds h (k a)
theorem C8 {p:α1->α2->α3->α4->α5->α6->Prop} (h:∃ a b c d e f,p a b c d e f) (k:∀ a b c d e f,p a b c d e f->P):P:=h.elim fun a h=>Cv h (k a)
theorem DW {p:α1->α2->α3->α4->α5->α6->α7->Prop} (h:∃ a b c d e f g,p a b c d e f g) (k:∀ a b c d e f g,p a b c d e f g->P):P:=h.elim fun a h=>C8 h (k a)
theorem Cg {p:α1->α2->α3->α4->α5->α6->α7->α8->Prop} (h:∃ a b c d e f g i,p a b c d e f g i) (k:∀ a b c d e f g i,p a b c d e f g i->P):P:=h.elim fun a h=>DW h (k a)
theorem Dz {p:α1->α2->α3->α4->α5->α6->α7->α8->α9->Prop} (h:∃ a b c d e f g i j,p a b c d e f g i j) (k:∀ a b c d e f g i j,p a b c d e f g i j->P):P:=h.elim fun a h=>Cg h (k a)
variable {p q r s t u v w x:Prop}
theorem Bn (h:p/\q) (k:p->q->P):P:=k h.1 h.2
theorem B8 (h:p/\q/\r) (k:p->q->r->P):P:=Bn h.2 (k h.1)
theorem BO (h:p/\q/\r/\s) (k:p->q->r->s->P):P:=B8 h.2 (k h.1)
theorem Be (h:p/\q/\r/\s/\t) (k:p->q->r->s->t->P):P:=BO h.2 (k h.1)
theorem BL (h:p/\q/\r/\s/\t/\u) (k:p->q->r->s->t->u->P):P:=Be h.2 (k h.1)
theorem B4 (h:p/\q/\r/\s/\t/\u/\v) (k:p->q->r->s->t->u->v->P):P:=BL h.2 (k h.1)
theorem B1 (h:p/\q/\r/\s/\t/\u/\v/\w) (k:p->q->r->s->t->u->v->w->P):P:=B4 h.2 (k h.1)
theorem Dx (h:p/\q/\r/\s/\t/\u/\v/\w/\x) (k:p->q->r->s->t->u->v->w->x->P):P:=B1 h.2 (k h.1)
end
section
variable {a b c d e f g k m n x y z L:Nat} {i j:Int} {q0:Nat} {p q:Prop}
theorem ge0 (e:Em m n=true) (h:x<=m):x<=n:=EE h (ET e)
theorem ge1 (h:x<=y) (h2:y<=m) (e:Em m n=true):x<=n:=ge0 e (EE h h2)
theorem ge2 (h:x<=y) (h2:y<m) (e:Em m n=true):x<=n:=ge1 h (Ej h2) e
theorem ge3 (h:x<y) (h2:y<m) (e:Em m n=true):x<=n:=ge2 (Ej h) h2 e
theorem ge4 (h:x=y) (h2:y<=m) (e:Em m n=true):x<=n:=ge0 e (h▸h2)
theorem ge5 (h:x=y) (h2:y<m) (e:Em m n=true):x<=n:=ge0 e (h▸Ej h2)
theorem ge6 (h:y=x) (h2:y<m) (e:Em m n=true):x<=n:=ge5 h.symm h2 e
theorem ge7 (h:y=x+(z+1)) (h2:y<=m) (e:Em m n=true):x<=n:=ge0 e (EE (EM x _) (h▸h2))
theorem ge8 (h:x<=k) (h1:y=k+(z+1)) (h2:y<=m) (e:Em m n=true):x<=n:=EE h (ge7 h1 h2 e)
theorem ge9 (h:x<=m/\p) (e:Em m n=true):x<=n:=ge0 e h.1
theorem CZ (h:x=z) (h1:z<y) (h2:y<=m) (e:Em m n=true):x<=n:=ge4 h (EE (Ej h1) h2) e
theorem yk (h:y<=m) (e:Em m n=true):min z y<=n:=ge1 (Jq _ _) h e
theorem CP (h:x=min z y) (h2:y<=m) (e:Em m n=true):x<=n:=h▸yk h2 e
theorem Dq (h:x<=min z y) (h2:y<=m) (e:Em m n=true):x<=n:=EE h (yk h2 e)
theorem Bx (h:y<=m) (e:Em m n=true):min z y - k<=n:=EE (JO _ _) (yk h e)
theorem Bt (h:y<=m) (e:Em (m+2+m) n=true):min z y+2+(y - k)<=n:=ge0 e (Gj (F8 (EE (Jq _ _) h) 2) (EE (JO _ _) h))
theorem C2 (h:x<=y - k) (h2:y<=m) (e:Em m n=true):x<=n:=ge1 (EE h (JO _ _)) h2 e
theorem DI (h:x<=y+1) (h1:y=z) (h2:z<m) (e:Em m n=true):x<=n:=ge0 e (EE h (h1▸h2))
theorem C1 (h:y<m) (e:Em m n=true):1+y<=n:=ge0 e (Gv 1 y▸h)
theorem Cs (h:y<=m) (e:Em (1+m+1) n=true):1+y+1<=n:=ge0 e (GH (Ew h 1))
theorem D8 (h:y<=m) (e:Em (1+m) n=true):1+y<=n:=ge0 e (Ew h 1)
theorem BH (h:x<=y) (h2:y<m) (e:Em (1+2 * m) n=true):1+2 * x<=n:=ge0 e (Ew (GM 2 (EE h (Ej h2))) 1)
theorem CV (h:x<=y) (h2:y<m) (e:Em (1+2 * m+1) n=true):1+2 * x+1<=n:=ge0 e (GH (BH h h2 (Nat.ble_self_eq_true _)))
theorem DM (h:x<=k+y) (h2:y<=m) (e:Em (k+m) n=true):x<=n:=ge0 e (EE h (Ew h2 k))
theorem DA (h:p/\x<=y+z) (h1:y<=k) (h2:z<=m) (e:Em (k+m) n=true):x<=n:=ge0 e (EE h.2 (Gj h1 h2))
theorem Aw (h:x<=y * k) (h1:y<=m) (e:Em (m * k) n=true):x<=n:=ge0 e (EE h (Iq k h1))
theorem Cb (h:x<=y * k) (h0:y=z) (h1:z<=m) (e:Em (m * k) n=true):x<=n:=Aw h (h0▸h1) e
theorem Cw (h:y<m) (e:Em (m+(m+1) * k) n=true):y+(y+1) * k<=n:=ge0 e (Gj (Ej h) (Iq k (GH (Ej h))))
theorem DU (h:x<=y) (h2:y<z) (h3:z<=m) (e:Em m n=true):x+1<=n:=ge0 e (EE (Eo h h2) h3)
theorem Cj (h:x+1<=y) (h2:y<=m) (e:Em m n=true):x<n:=ge1 h h2 e
theorem DJ (h:x<=m) (e:Em (m+1) n=true):x+1<=n:=ge0 e (GH h)
theorem Cm (h:x+k<=y) (h2:y<=m) (e:Em m n=true):x<=n:=ge1 (EE (EM x k) h) h2 e
theorem Cq (h1:a<=4) (h2:b<=4) (h3:c<=4) (h4:d<=4):a+(b+(c+(d+0)))<=16:=Gj h1 (Gj h2 (Gj h3 h4))
theorem lt1 (h:x=y) (h2:y<m) (e:Em m n=true):x<n:=E5 (h▸h2) (ET e)
theorem lt2 (h:x=y) (h2:y<=m) (e:Em (m+1) n=true):x<n:=ge0 e (GH (h▸h2))
theorem lt3 (h:y=x) (h2:y<m):x<m:=h▸h2
theorem lt4 (h:x=m) (e:Em (k+1) m=true):k<x:=h▸ET e
theorem lt5 (h:x=m) (h2:y<m):y<x:=h▸h2
theorem lt6 (h:z<y) (h1:y<m) (h2:x=m):z<x:=h2▸Hp h h1
theorem lt7 (h:z<y) (h1:y<m):z<m:=Hp h h1
theorem lt8 (h:y=x) (h2:z<y):z<x:=h▸h2
theorem lt9 (h:z<y) (h2:x=y+1):z<x:=h2▸HG h
theorem Do (h:x<y+1) (h2:¬ x=y):x<y:=JP (GW h) h2
theorem eq1 (h:x<y+1) (h2:¬ x<y):x=y:=HD (GW h) (Jr h2)
theorem Ce (h:x+1<y):x<y:=IU h
theorem Dk (h:x<y):x - 1<y:=Eo (JO _ _) h
theorem DP (h:x<y):x+1<y+1:=Nat.succ_lt_succ h
theorem C4 (h:x+1<y+1):x<y:=Nat.lt_of_succ_lt_succ h
theorem DN (h:x<y):x<y+k:=E5 h (EM _ _)
theorem BS:x<x+(k+1):=Nat.lt_succ_of_le (EM x k)
theorem D1 (h:x<=y):x<y+1:=Nat.lt_succ_of_le h
theorem Bo (h:x<m) (h1:z=m) (h2:y<x):x - y+y<z:=h1▸(JQ (Ej h2)).symm▸h
theorem Bz (h:p/\x<0+y/\q):x - 0<y:=HH y▸h.2.1
theorem DX (h:x+1<=m) (h2:y=x):y<m:=h2▸h
theorem Cr (h:(x<m/\p)/\q) (h2:y<x):y<m:=Hp h2 h.1.1
theorem C0 (h:x<=y) (h2:y<z):y - x<z - x:=Nat.sub_lt_sub_right h h2
theorem CU (h:x+(y+1)<=m):x+y<m:=h
theorem Dn (h:y=x+(z+1)):x<y:=h▸BS
theorem Dr (h:x<y):2 * x<2 * y:=Nat.mul_lt_mul_of_pos_left h (by decide)
theorem DE (h:x<y):2 * x+1<2 * y:=E5 (E3 _) (GM 2 h)
theorem le1 (h:x<=y):x<=y+1:=Fi h
theorem le3 (h:n - x=k+1):x<n:=Nat.lt_of_sub_ne_zero (h▸HT k)
theorem le4 (h:n - (x+1)=0):n<=x+1:=KU h
theorem yj (h:a * 8+b<=c * 8+d) (h2:d<8):a<=c:=GW (Nat.lt_of_mul_lt_mul_right (a:=8) (Eo (EE (EM _ b) h) (LF c 8▸HP h2 (c * 8))))
theorem le5 (h:a * 8+b<=c * 8+d) (h2:d<5):a<=c:=yj h (Hp h2 (by decide))
theorem le6 (h:x<=y):x<=y - z+z:=EE h (Nat.sub_le_iff_le_add.mp (EH _))
theorem le7:x<=x+k:=EM _ _
theorem le8:x<=x+1+k:=EE (Eg x) (EM _ _)
theorem le9 (h:x<=y):x+1<=y+1:=GH h
theorem Az (h:x<=y+1+z):x<=y+(z+1):=FZ y 1 z▸h
theorem C5 (h:x+(y+1)<=z):x+1+y<=z:=FZ x 1 y▸h
theorem CS (h:x+(y+z)<=d):x+y<=d:=EE (Ew (EM y z) x) h
theorem Bw (h:x+(y+z)<=d):x+y+z<=d:=Ez x y z▸h
theorem CM (h:x<=y) (h2:x+1=z):z<=y+1:=h2▸GH h
theorem CH (h:x<=y) (h2:0<z):x+1<=y+z:=Gj h h2
theorem Dm (h:x<=y) (h2:y<z):x+1<=z:=Eo h h2
theorem Cy (h:c<=d+a) (h2:a<=b):c<=d+b:=EE h (Ew h2 d)
theorem CX (h:a<b) (h2:c+b<=d):c+1+a<=d:=EE (FZ c 1 a▸Ew h c) h2
theorem Cd (h:p/\x<=y+d) (h2:q/\y<=z+1):x<=z+(d+1):=Az (EE h.2 (F8 h2.2 d))
theorem CE (h:p/\f<=b+g) (h2:q/\b<=c+d):f<=c+(g+d * 1):=EE h.2 (EE (F8 h2.2 g) (E9 ((Ez c d g).trans (congrArg (c + ·) ((Gv d g).trans (congrArg (g + ·) (La d).symm))))))
theorem C9 (h:a<=b+c) (h2:c<=d) (h3:e=b+d+d+1):a<=e:=h3▸EE h (EE (Ew h2 b) (EE (EM _ d) (Eg _)))
theorem Dh (h:a<=b * k) (h2:c<=k):c+a<=(b+1) * k:=LF b k▸Gv c a▸Gj h h2
theorem Cu (h:a<=b * k):a+b * 1<=b * (k+1):=Gj h (E9 (La b))
theorem CT (h:a<=b/\b<c) (h2:d<=c - (b+1)):d+1<=c - a:=E5 (Eo h2 (JD h.2 (E3 b))) (Nat.sub_le_sub_left h.1 c)
theorem C3:4 - x<=4:=JO _ _
theorem D9 (h:x<=y):0+x<=y:=(HH x).symm▸h
theorem DK (h:x=y):x<=y:=E9 h
theorem CY (h:x<=m):x+(m - x)<=m:=E9 (HI h)
theorem DS (h:x<y):x<=y:=Ej h
theorem CG:x<=y\/y<=x:=IV x y
theorem Dw:i<=j\/j<=i:=Int.le_total i j
theorem Br:2+2 * x<=3+2 * x+y:=EE (F8 (Eg 2) _) (EM _ _)
theorem Co:2<=2+2 * x+y:=EE (EM 2 _) (EM _ _)
theorem Bq:x<=x+4+2 * y:=EE (EM x 4) (EM _ _)
theorem DO (h:x<=y) (h2:z=x):z<=y:=h2▸h
theorem no1 (h:y<=x) (h2:x<y):False:=Nat.not_le_of_lt h2 h
theorem no2 (h:x+k<x):False:=Nat.not_lt_of_le (EM x k) h
theorem no3 (h:x+k+y<x):False:=no2 (k:=k+y) (Ez x k y▸h)
theorem no4 (h:0=x+1):False:=HT x h.symm
theorem ye {α:Type u1} {x:α} {P:Prop} (h:x∈([]:List α)):P:=absurd h Fb
theorem jP {α:Type u1} {p:α->Prop}:∀ x,x∈([]:List α)->p x:=fun zz h=>ye h
theorem no5 (h:x+7=y+k) (h2:y<=m) (e:Em (m+k) 6=true):False:=KY 6 (EE (Iz 7 x) (h▸EE (F8 h2 k) (ET e)))
theorem no9 (h:x+2+2 * y=x+3+2 * z):False:=absurd ((Nat.mul_mod_right 2 y).symm.trans ((congrArg (· % 2) (JE (h.trans (Ez (x+2) 1 (2 * z))))).trans (Nat.add_mul_mod_self_left 1 2 z))) (by decide)
theorem Cp (h:x=y+1) (h1:x+1<=z) (h2:z<y):False:=Hq (IU (Eq.mp (congrArg (· + 1<=z) h) h1)) h2
theorem D7 (h:x=y+1) (h0:y=z) (h1:x+1<=z):False:=KY z (GX (Eq.mp (congrArg (· + 1<=z) (h.trans (congrArg (· + 1) h0))) h1))
theorem Dg (h:¬ c<b) (h1:a+2<=b) (h2:c=a+1):False:=h (h2▸h1)
theorem DD (h:¬ c<b) (h1:a+2<=b) (h2:c<a):False:=h (E5 h2 (EE (EM a 2) h1))
theorem sP (h:x+2=x+k) (e:Lh 2 k=false):False:=Nat.ne_of_beq_eq_false e (JE h)
theorem Cc (h:x+2=x+4\/x+2=x+3\/x+2=x\/x+2=x+1):False:=h.elim (sP · rfl) (·.elim (sP · rfl) (·.elim (sP (k:=0) · rfl) (sP · rfl)))
theorem Dv (h:x<y) (h1:y<=z) (h2:z<=x):False:=Nat.not_lt_of_le (EE h1 h2) h
theorem Di (h:x<y) (h2:y=x):False:=FE h h2.symm
theorem CL (h:x+(0 - 1)+1=y) (h2:(y:Int)=x):False:=Ie x (h.trans (IL.inj h2))
theorem eq3:x+(2+2 * y)=x+2+2 * y:=(Ez ..).symm
theorem eq4:x+(y+1)=x+1+y:=FZ x y 1
theorem eq5:k+x=x+k:=Gv k x
theorem eq6:2 * x+1+1=2 * (x+1):=rfl
theorem eq7:2 * (x+1)=2 * x+1+1:=rfl
theorem eq8:2 * (x+1)+1=2 * x+1+1+1:=rfl
theorem eq9:2 * x+1+1=2+2 * x:=Gv (2 * x) 2
theorem DV:a+b * 1+1 * (b+1)=a+b+b+1:=by rw [La,Nat.one_mul];rfl
theorem CW:x+(y+1+1+1+1)=x+4+y:=FZ x y 4
theorem CB:x+2+2 * y+1=x+3+2 * y:=FZ (x+2) (2 * y) 1
theorem D3:x+(2+2 * y+(z+1))=x+3+2 * y+z:=(Ez x _ _).symm.trans ((congrArg (· + (z+1)) (Ez x 2 (2 * y)).symm).trans ((FZ (x+2+2 * y) 1 z).symm.trans (congrArg (· + z) (FZ (x+2) (2 * y) 1))))
theorem CC:3+2 * x+y - (2+2 * x)=y+1:=(congrArg (· - (2+2 * x)) ((congrArg (· + y) (FZ 2 1 (2 * x))).trans (FZ (2+2 * x) 1 y))).trans (E1 (2+2 * x) (y+1))
theorem Ct:c+(b+(d - e))=c+b+(d - e):=(Ez ..).symm
theorem Bs (h:x<y):x+(y - x)=y:=HI (Ej h)
theorem DQ (h:x<=y):x+(y - x)=y:=HI h
theorem CK (h:x<m+1):x+(m - x)=m:=HI (GW h)
theorem DZ (h:n - x=k+1):x+k+1=n:=(h▸HI (Ej (le3 h)):x+(k+1)=n)
theorem Dl (h:x+1+1+1<=y):y=y - 1+1:=(Nat.succ_pred (IW (E5 (LG _) h))).symm
theorem Ch (h:2<=x):x=x - 2+2:=(JQ h).symm
theorem CI (h:x=y+1):x - 1=y:=congrArg Nat.pred h
theorem D6 (h:x+1=y+1):x=y:=KZ.inj h
theorem Dd:x+1=y+1↔x=y:=Nat.succ_inj
theorem DF (h:x=1) (h2:y<x):y=0:=Nat.lt_one_iff.mp (h▸h2)
theorem CQ (h:x<=y) (h2:x ≥ y):x=y:=HD h h2
theorem Cn (h:n - x=0) (h2:x<=n):x=n:=HD h2 (KU h)
theorem B3 (h:a<8) (h1:b<8) (h2:c * 8+a=d * 8+b):c=d:=HD (yj (E9 h2) h1) (yj (E9 h2.symm) h)
theorem CO (h:a<8) (h1:b<8) (h2:c * 8+a=d * 8+b):a=b:=JE (B3 h h1 h2▸h2)
theorem DG (h:x=5) (h2:y+1<5):min y x+(x - (y+2)+1+1)=5:=by
 subst h;rw [Hb (Ej (IU h2))];exact (congrArg (y + ·) (Gv _ 2)).trans ((Ez y 2 _).symm.trans (HI h2))
theorem if1 (h:a<8) (h1:b<8) (h2:(c:Int)≠d):c * 8+a<d * 8+b↔(c:Int)<d:=⟨fun h=>Int.lt_iff_le_and_ne.mpr ⟨Hr.mpr (yj (Ej h) h1),h2⟩,fun g=>E5 (LF c 8▸HP h (c * 8)) (EE (Iq 8 (Gw.mp g)) (EM _ b))⟩
theorem if2 (h:(a:Int)=b):a * 8+c<b * 8+d↔(c:Int)<d:=by
 cases IL.inj h;exact Nat.add_lt_add_iff_left.trans Gw.symm
theorem if3:(x:Int)=y↔x=y:=Int.ofNat_inj
theorem if4:(x:Int)<y↔x<y:=Gw
theorem or0 (h:n=z+5) (h2:b=z+k) (e:Em (k+1) 5=true):z<=b/\b<n:=h▸h2▸⟨EM z k,HP (ET e) z⟩
theorem or1 (h:n=z+5) (h2:b=z+4\/b=z+3\/b=z\/b=z+1):z<=b/\b<n:=h2.elim (or0 h · rfl) (·.elim (or0 h · rfl) (·.elim (or0 (k:=0) h · rfl) (or0 h · rfl)))
theorem Ck:∀ x,x<=5->2<=x->(x=2\/x=3\/x=4\/x=5):=by decide
theorem or2 (h:2<=x) (h2:x<=5):x=2\/x=3\/x=4\/x=5:=Ck x h2 h
theorem gg {t:Nat} (e:Em k q0=true) (h:m<n) (r:d+q0 * n+t<L):d+k+q0 * m+t<L:=Eo (F8 (EE (E9 (Ez d k _)) (Ew (EE (F8 (ET e) _) (EE (E9 (Gv q0 (q0 * m))) (GM q0 h))) d)) t) r
theorem g0 {t:Nat} (h:m<=n) (r:d+q0 * n+t<L):d+q0 * m+t<L:=Eo (F8 (Ew (GM q0 h) d) t) r
theorem ro0 (h:m<=n) (r:d+4 * n+20<L):d+4 * m+20<L:=g0 h r
theorem ro1 (h:m<n) (r:d+4 * n+20<L):d+4 * m+20<L:=g0 (Ej h) r
theorem ro2 (h:m<n) (r:d+4 * n+20<L):d+1+4 * m+20<L:=gg rfl h r
theorem ro3 (r:d+4 * n+20<L):d<L:=Eo (EE (EM d _) (EM _ 20)) r
theorem ro4 (r:d+4 * (m+1)+20<L):d+4 * m+20<L:=g0 (Eg m) r
theorem ro5 (r:d+4 * (m+1)+20<L):d+1+4 * m+20<L:=gg rfl (E3 m) r
theorem ro6 (h:a<=d+1) (r:d+4 * (m+1)+20<L):a+4 * m+20<L:=Eo (F8 (F8 h _) 20) (ro5 r)
theorem ro7 (h:m+2<=n) (r:d+4 * n+20<L):d+4 * (m+1)+20<L:=g0 (GX h) r
theorem un0 (h:m<=n) (r:d+16 * n+200<L):d+16 * m+200<L:=g0 h r
theorem un1 (h:m<n) (r:d+16 * n+200<L):d+16 * m+200<L:=g0 (Ej h) r
theorem un2 (h:m<n) (r:d+16 * n+200<L):d+1+16 * m+200<L:=gg rfl h r
theorem un3 (h:m<n) (r:d+16 * n+200<L):d+1+1+16 * m+200<L:=gg (k:=2) rfl h r
theorem un4 (h:m<n) (r:d+16 * n+200<L):d+4+16 * m+200<L:=gg rfl h r
theorem un5 (r:d+16 * (m+1)+200<L):d+1+16 * m+200<L:=gg rfl (E3 m) r
theorem un6 (r:d+16 * (m+1)+200<L):d+3+16 * m+200<L:=gg rfl (E3 m) r
theorem un7 (h:m+2<=n) (r:d+16 * n+200<L):d+1+1+16 * (m+1)+200<L:=gg (k:=2) rfl h r
theorem un8 (r:d+16 * n+200<L):d+200<L:=Eo (F8 (EM d _) 200) r
theorem un9 (r:d+200<L):d+64<L:=Eo (Ew (by decide) d) r
theorem C7 (h:c<=64) (r:d+200<L):d+1+min k c<L:=Eo (EE (Ew (EE (Jq _ _) h) (d+1)) (EE (E9 (Ez d 1 64)) (Ew (by decide) d))) r
theorem Cf (h:a=d+1) (r:d+16 * (m+1)+200<L):a+16 * m+200<L:=h▸un5 r
theorem fi1 (h:x<=m) (e:Em m 1000000=true):(x:Int)<2 ^ 63:=H4 (Hr.mpr (ge0 e h)) (by decide)
theorem fi2 (h:x<m) (e:Em m 1000000=true):(x:Int)<2 ^ 63:=fi1 (Ej h) e
theorem fi3 (h:x<y) (h2:y<=m) (e:Em m 1000000=true):(x:Int)<2 ^ 63:=fi1 (EE (Ej h) h2) e
theorem fi4 (h:x=y) (h2:y<=m) (e:Em m 1000000=true):(x:Int)<2 ^ 63:=fi1 (h▸h2) e
theorem fi5:(-2 ^ 62:Int)<=(x:Int):=KD (by decide) (E4 x)
theorem fi6 (h:x<=m) (e:Em m 1000000=true):(x:Int)<2 ^ 62:=H4 (Hr.mpr (ge0 e h)) (by decide)
theorem fi8 (h:x<=y) (h2:y<=m) (e:Em m 1000000=true):(x:Int)<2 ^ 63:=fi1 (EE h h2) e
theorem fi9 (h:x<=z) (h1:z<=y) (h2:y<=m) (e:Em m 1000000=true):(x:Int)<2 ^ 63:=fi8 h (EE h1 h2) e
theorem C6 (h:x<=z) (h1:z<y) (h2:y<=m) (e:Em m 1000000=true):(x:Int)<2 ^ 63:=fi9 h (Ej h1) h2 e
theorem DC (h:x<y) (h2:y=m) (e:Em m 1000000=true):(x:Int)<2 ^ 63:=fi3 h (E9 h2) e
theorem Du (h:x+1<y) (h2:y<=m) (e:Em m 1000000=true):(x:Int)+1<2 ^ 63:=fi3 h h2 e
theorem Dj (h:x+1<y) (h2:y<=m) (e:Em m 1000000=true):(x:Int)<2 ^ 63:=fi3 (IU h) h2 e
theorem DL (h:x<=y - k) (h2:y<=m) (e:Em m 1000000=true):(x:Int)<2 ^ 63:=fi8 (EE h (JO _ _)) h2 e
theorem CR (h:x<=m) (e:Em (1+2 * m) 1000000=true):((1+2 * x:Nat):Int)<2 ^ 63:=fi1 (Ew (GM 2 h) 1) e
theorem Ca (h:x<m) (e:Em m 1000000=true):(x:Int)<2 ^ 62:=fi6 (Ej h) e
theorem D0 (h:x<y) (h2:y<=m) (e:Em m 1000000=true):(x:Int)<2 ^ 62:=fi6 (EE (Ej h) h2) e
theorem DH:((x % 6:Nat):Int)<2 ^ 63:=fi2 (Nat.mod_lt x (by decide)) rfl
theorem Bu (h:(x:Int)<2 ^ 63):(x:Int) - 1<2 ^ 63:=H4 (Int.sub_le_self _ (by decide)) h
theorem Bv (h:x<y) (h2:(y:Int)<i):(x:Int)<i:=Int.lt_trans (Gw.mpr h) h2
theorem nn0:0<=(x:Int):=E4 x
theorem nn1:0<=(x:Int)+1:=E4 (x+1)
theorem nn2 (h:0<=i):-2 ^ 63<=i:=KD (by decide) h
theorem nn3 (h:0<=i) (h2:i<=1000):-9223372036854775808<=i/\i<9223372036854775808:=⟨nn2 h,H4 h2 (by decide)⟩
theorem nn4 (h:i<=1000):1 * i.toNat<=1000:=EE (E9 (Nat.one_mul _)) (Int.toNat_le.mpr h)
theorem nn5 (h:x=y+1):-(x:Int)<=-1:=Int.neg_le_neg (Hr.mpr (h▸LG y))
theorem nn6 (h:x≠0):0<=(x:Int) - 1:=K0 (Hr.mpr (Nat.pos_of_ne_zero h))
theorem mo1:x % 6<6:=Nat.mod_lt x (by decide)
theorem mo2:((x % 6:Nat):Int).toNat<6:=mo1
theorem mo3:(x:Int) % 6=((x % 6:Nat):Int):=rfl
theorem tn1:((a:Nat):Int).toNat=a:=rfl
theorem tn2:((a:Int) - 1).toNat=a - 1:=Int.pred_toNat a
theorem tn3:(4 - (a:Int)).toNat=4 - a:=Int.toNat_sub 4 a
theorem tn4 (h:x=y+1):(-1+(x:Int)).toNat=y:=h▸congrArg Hs ((congrArg (-1 + ·) (Int.add_comm (y:Int) 1)).trans (Int.neg_add_cancel_left 1 y))
theorem tn5 (h:i.toNat<x) (h2:y=x):i<(y:Int):=h2▸H4 (Int.self_le_toNat i) (Gw.mpr h)
theorem tn6 (h0:0<=i) (h:i.toNat<x) (h2:y=x):0<=i/\i<(y:Int):=⟨h0,tn5 h h2⟩
theorem tn7 (h0:0<=i) (h:i<4):i.toNat<4:=(Int.toNat_lt h0).mpr h
theorem DR (h:¬ j<i):((i - j).toNat:Int)=0:=congrArg IL (Int.toNat_of_nonpos (Int.sub_nonpos_of_le (Int.not_lt.mp h)))
theorem Db (h:j<i):((i - j).toNat:Int)=i - j:=Kk (K0 (Int.le_of_lt h))
theorem ca1 (h:(x:Int)=y):x=y:=IL.inj h
theorem ca2 (h:(x:Int)=y):y=x:=(IL.inj h).symm
theorem ca3 (h:x=y):(x:Int)=y:=congrArg IL h
theorem ca4 (h:x<=y):(x:Int)<=y:=Hr.mpr h
theorem ca5 (h:(x:Int)<y):x<y:=Gw.mp h
theorem ca6 (h:x+1<y):(x:Int)+1<y:=Gw.mpr h
theorem ca7:((x+1:Nat):Int) - 1=x:=Int.add_sub_cancel x 1
theorem ca8:i+((x:Int)+1)=i+x+1:=(Int.add_assoc ..).symm
theorem ca9:i+(x:Int) * 1=i+x:=congrArg (i + ·) (Int.mul_one _)
theorem CN (h:0<y):(x:Int)<x+y:=Gw.mpr (Js h)
theorem D4 (h:a+1=b+c):(d:Int)+b+c=((d+1:Nat):Int)+a:=congrArg IL ((Ez d b c).trans ((congrArg (d + ·) h.symm).trans (FZ d a 1)):d+b+c=d+1+a)
theorem CA (h:x<y) (h2:¬ x+1<y):(y:Int)=x+1:=congrArg IL (HD (Jr h2) h)
theorem D5 (h:¬ 0<(x:Int)):x=0:=Nat.eq_zero_of_not_pos fun g=>h (Gw.mpr g)
theorem Bp (h:(x:Int)=0):x=0:=IL.inj h
theorem om1 (h:x<=m) (e:Em m n=true):x<=n:=EE h (ET e)
theorem om2 (h:x<m) (e:Em m n=true):x<n:=E5 h (ET e)
theorem om3 (h:x<m) (e:Em m (n+1)=true):x<=n:=GW (om2 h e)
theorem om4 (h:x<=m) (e:Em (m+1) n=true):x<n:=Eo h (ET e)
theorem om5 (h:x=m) (e:Em m n=true):x<=n:=om1 (E9 h) e
theorem su2 (h:n - x=k+1):x<n:=le3 h
end
theorem RN {h:Heap} {motive:∀ (v:Value) (as:List Addr),Reads h v .none as->Prop} (none:motive .none [] .none) {v as} (r:Reads h v .none as):motive v as r:=by cases r;exact none
theorem RB {h:Heap} {b:Bool} {motive:∀ (v:Value) (as:List Addr),Reads h v (.bool b) as->Prop} (bool:motive (.bool b) [] (.bool b)) {v as} (r:Reads h v (.bool b) as):motive v as r:=by cases r;exact bool
theorem RI {h:Heap} {i:Int} {motive:∀ (v:Value) (as:List Addr),Reads h v (.int i) as->Prop} (int:∀ t,motive (.int i t) [] (.int i t)) {v as} (r:Reads h v (.int i) as):motive v as r:=by cases r;exact int _
theorem RS {h:Heap} {x:Str} {motive:∀ (v:Value) (as:List Addr),Reads h v (.str x) as->Prop} (str:∀ t,motive (.str x t) [] (.str x t)) {v as} (r:Reads h v (.str x) as):motive v as r:=by cases r;exact str _
theorem RL {h:Heap} {xs:List PyData} {motive:∀ (v:Value) (as:List Addr),Reads h v (.list xs) as->Prop} (list:∀ {a o vs n as} (ho:h.get? a=some o) (hc:o.cls=.type "list") (hd:o.data=.seq vs n) (hr:FW h vs.toList xs as),motive (.ref a) (a :: as) (.list ho hc hd hr)) {v as} (r:Reads h v (.list xs) as):motive v as r:=by cases r with | list a b c d=>exact list a b c d
theorem RT {h:Heap} {xs:List PyData} {motive:∀ (v:Value) (as:List Addr),Reads h v (.tuple xs) as->Prop} (tuple:∀ {a o vs n as} (ho:h.get? a=some o) (hc:o.cls=.type "tuple") (hd:o.data=.seq vs n) (hr:FW h vs.toList xs as),motive (.ref a) as (.tuple ho hc hd hr)) {v as} (r:Reads h v (.tuple xs) as):motive v as r:=by cases r with | tuple a b c d=>exact tuple a b c d
theorem RA0 {h:Heap} {motive:∀ (vs:List Value) (as:List Addr),FW h vs [] as->Prop} (nil:motive [] [] .nil) {vs as} (r:FW h vs [] as):motive vs as r:=by cases r;exact nil
theorem RA1 {h:Heap} {d:PyData} {ds:List PyData} {motive:∀ (vs:List Value) (as:List Addr),FW h vs (d :: ds) as->Prop} (cons:∀ {v vs as bs} (r:Reads h v d as) (rs:FW h vs ds bs),motive (v :: vs) (as++bs) (.cons r rs)) {vs as} (r:FW h vs (d :: ds) as):motive vs as r:=by cases r with | cons a b=>exact cons a b
section
open Lean
def foL {α β:Type} (f:β->α->β):List α->β->β
 | [],b=>b
 | x :: r,b=>foL f r (f b x)
def sx (s:String):Syntax:=
 let put (st:List (Array Syntax)) (w:String):List (Array Syntax):=match w,st with
  | "",st=>st
  | w,x :: r=>x.push (mkAtom w) :: r
  | _,[]=>[]
 let (st,w):=foL (fun (st,w) (c:Char)=>
  if c == '(' then (#[] :: put st w, "")
  else if c == ')' then (match put st w with
   | x :: y :: r=>y.push (mkNullNode x) :: r
   | st=>st, "")
  else if c == ' ' || c == '\n' then (put st w, "")
  else (st,w.push c)) s.toList (([#[]], ""):List (Array Syntax)×String)
 mkNullNode ((put st w).headD #[])
def mT (k:String) (xs:Array Syntax):Syntax:=mkNode (`Lean.Parser.Tactic++k.toName) (#[mkAtom k]++xs)
def mE (k:String) (xs:Array Syntax):Syntax:=mkNode (`Lean.Parser.Term++k.toName) xs
def mN (k:Name) (xs:Array Syntax):Syntax:=mkNode k xs
def sq (ts:Array Syntax):Syntax:=mN `Lean.Parser.Tactic.tacticSeq #[mN `Lean.Parser.Tactic.tacticSeq1Indented #[mkNullNode (mkSepArray ts (mkAtom ";"))]]
def bt (f:Array Syntax->Syntax) (v:Array Syntax):Nat->Syntax->Syntax
 | n+1,x=>
  let w:=match x with | .atom _ s=>s | _ => ""
  let d (s:String):Syntax:=v.getD (s.drop 1).toString.toNat! .missing
  if w == "" then
   let k:=match x.getArg 0 with | .atom _ s=>s | _ => ""
   let ys:=foL (fun a y=>a.push (bt f v n y)) (x.getArgs.extract 1 x.getNumArgs).toList #[]
   if k == "n" then mkNullNode ys
   else if k == "s" then f ys
   else if k == "g" then mkNode `group #[x,f ys]
   else mkNode ((if k.front == 'T' then `Lean.Parser.Tactic else if k.front == 'E' then `Lean.Parser.Term else `Lean)++(k.drop 2).toString.toName) ys
  else if w.front == '$' then d w
  else if w.front == '`' then mkIdent (w.drop 1).toString.toName
  else mkAtom w
 | _,x=>x
def T (s:String) (v:Array Syntax):Syntax:=bt sq v 20 ((sx s).getArg 0)
def tw (s:String):Syntax:=mN `PySem.W.tacticWtm_at_ #[mkAtom "wtm_at",Syntax.mkStrLit s]
def fo {β:Type} (f:β->Syntax->β) (b:β) (xs:Array Syntax):β:=foL f xs.toList b
def mpL (f:Syntax->Syntax):List Syntax->Array Syntax->Array Syntax
 | [],a=>a
 | x :: r,a=>mpL f r (a.push (f x))
def mp (f:Syntax->Syntax) (xs:Array Syntax):Array Syntax:=mpL f xs.toList #[]
def hd0 (x:Syntax):String:=match x with | .atom _ s=>s | _ => ""
def br (l:String) (xs:Array Syntax) (r:String):Array Syntax:=#[mkAtom l,mkNullNode (mkSepArray xs (mkAtom ",")),mkAtom r]
def nl:Syntax:=mkNullNode
def oc:Syntax:=mN `Lean.Parser.Tactic.optConfig #[nl]
def ap (f:Syntax) (xs:Array Syntax):Syntax:=if xs.isEmpty then f else mE "app" #[f,mkNullNode xs]
def idn (s:String):Syntax:=mkIdent s.toName
def nth (x:Syntax) (i:Nat):Syntax:=x.getArg i
def abr (s:String):String:=match s with
 | "%a" => "by assumption"
 | "%k" => "by kr"
 | "%w" => "by wr"
 | "%i" => "by iw rfl"
 | "%j" => "by iw wr"
 | "%2" => "by iw iw rfl"
 | _ => "by iw (e (< _ rfl))"
def tbl:String := "'_ c x (E.hole _)
'rfl c x (T.tacticRfl rfl)
'wr c x (T.withUnfoldingAll x (s (T.tacticRfl rfl)))
'iw c x (T.intro x (n (E.hole _)))
'dk c x (T.decide x (T.optConfig (n (T.configItem (T.posConfigItem + `kernel)))))
'om c x (T.omega x (T.optConfig (n)))
'decide c x (T.decide x (T.optConfig (n)))
:by c $0 (E.byTactic x $1)
:< t $0 (E.anonymousCtor x $0 x)
:fun t $0 (E.fun x (E.basicFun (n (E.hole _)) (n) x $2))
e t $0 (T.exact x $2)
; c $0 (T.paren x $1 x)
red c $0 (T.withReducible x $1)
all c $0 (T.allGoals x $1)
try c $0 (T.tacticTry_ x $1)
first c (g $0) (T.first x $3)
rw t (T.rwRule (n) $0) (T.rwSeq x (T.optConfig (n)) (T.rwRuleSeq x $0 x) (n))
simp t (T.simpLemma (n) (n) $0) (T.simp x (T.optConfig (n)) (n) (n only) (n x $0 x) (n))
dsimp t (T.simpLemma (n) (n) $0) (T.dsimp x (T.optConfig (n)) (n) (n only) (n x $0 x) (n))"
def row (t s:String):Option Syntax:=((t.splitOn "\n").find? (·.startsWith (s ++ " "))).map sx
def it (f:Name->Name):Nat->Bool->Syntax->Syntax
 | n+1,b,x=>
  let nm (s:String):Syntax:=if s.front == '^' then idn (s.drop 1).toString else mkIdent (f s.toName)
  let s:=hd0 x
  let c:=s.front
  let ys:=x.getArgs
  let xs:=ys.extract 1 ys.size
  let h:=hd0 (nth x 0)
  let cs (y:Syntax) (zs:Array Syntax):Syntax:=T "(T.case x (n (T.caseArg (L.binderIdent $0) (n))) x $1)" #[nm (hd0 y),sq (mp (it f n false) zs)]
  let rw?:=row tbl (if s != "" then "'" ++ s else if b then ":" ++ h else h)
  if b && c == '?' then T "(E.syntheticHole ? $0)" #[if s == "?_" then mkAtom "_" else nm (s.drop 1).toString]
  else if b && c == '%' then it f n true (sx (abr s))
  else if b && c.isDigit then Syntax.mkNumLit s
  else if !b && s != "" && c.isUpper then tw s
  else if s == "kr" then mN ``tacticKernel_rfl #[mkAtom s]
  else match (if b && s != "" && s != "_" then none else rw?) with
  | some r=>
   let zs:=mp (it f n (hd0 (nth r 1) == "t")) xs
   let zs:=mp (fun z=>bt sq #[z] 9 (nth r 2)) zs
   bt sq #[mkNullNode (mkSepArray zs (mkAtom ",")),sq zs,zs.getD 0 .missing,mkNullNode zs] 20 (nth r 3)
  | none=>
   if s != "" then (if b then idn s else mT s #[nl])
   else if b then ap (it f n true (nth x 0)) (mp (it f n true) xs)
   else if h == "r" then T "(T.paren x $0 x)" #[sq (#[T "(T.refine' x $0)" #[it f n true xs[0]!]]++mp (fun y=>cs (nth y 0) (y.getArgs.extract 1 y.getNumArgs)) (xs.extract 1 xs.size))]
   else if h == "c" then cs (nth x 1) (xs.extract 1 xs.size)
   else
    let hc:=h.front
    let (as,ts):=fo (fun (as,ts) x=>
     let w:=((hd0 x).drop 1).toString
     let k := "k" ++ toString as.size
     if (hd0 x).front == '=' then (as.push (it f n true (if w == "a" then mkAtom "%a" else if w == "_" then mkAtom "?_" else if w == "rfl" then mkAtom w else if w.front == ':' then mkAtom (w.drop 1).toString else mkNullNode #[mkAtom w,mkAtom "%a"])),ts)
     else (as.push (it f n true (mkAtom ("?" ++ k))),ts.push (cs (mkAtom k) #[x]))) ((#[],#[]):Array Syntax×Array Syntax) xs
    let g:=ap (idn (if hc == '!' || hc == '~' then (h.drop 1).toString else h)) as
    let r:=T "(T.paren x $0 x)" #[sq (#[T "(T.refine' x $0)" #[if hc == '~' then ap (idn "OpG.of2") #[g] else g]]++ts)]
    if hc == '!' then r else T "(T.withReducible x (s $0))" #[r]
 | _,_,x=>x
def wt (t s:String):MacroM (TSyntax `tactic):=do
 let some l:=(t.splitOn "\n").find? fun l=>l.startsWith (s ++ " ") | Macro.throwUnsupported
 let xs:=(sx (l.drop (s.length+1)).toString).getArgs
 let m <- MonadQuotation.getContext
 let k <- MonadQuotation.getCurrMacroScope
 return ⟨it (Lean.addMacroScope m · k) 30 false (if xs.size==1 then xs[0]! else mkNullNode (#[mkAtom "first"]++xs))⟩
def omg (t:String):Syntax:=
 let om:=T "(T.omega x (T.optConfig (n (T.configItem (T.posConfigItem + `splitDisjunctions)))))" #[]
 let (a,b,_):=foL (fun (a,b,l) (w:String)=>
  if l == "" then (if w == "|" then (b,#[], "") else (a,b,w))
  else (a,b.push (T "(g (T.exact x $0))" #[ap (idn l) (foL (fun b c=>if c == '-' then b else b.push (if c == 'a' then it id 9 true (mkAtom "%a") else idn "rfl")) w.toList #[])]), "")) (t.splitOn " ") ((#[],#[], ""):Array Syntax×Array Syntax×String)
 T "(T.withReducible x (s (T.first x $0)))" #[mkNullNode (#[T "(g (T.assumption x))" #[]]++a ++ #[T "(g (T.failIfSuccess x (s (T.failIfSuccess x (s $0)))) (T.first x $1))" #[om,mkNullNode (b ++ #[T "(g $0)" #[om]])]])]
def mO (p v:Syntax):Syntax:=T "(T.obtain x (n $0) (n) (n x (n $1)))" #[p,v]
def ob (p v:Syntax):Syntax:=
 let rc:=T "(T.rcases x (n (T.elimTarget (n) $1)) (n with (T.rcasesPatLo $0 (n))))" #[p,v]
 let tu:=(p.getArg 0).getArg 0
 if !(tu.getKind == `Lean.Parser.Tactic.rcasesPat.tuple) || (p.getArg 0).getNumArgs != 1 then rc else
 let ps:=(tu.getArg 1).getSepArgs
 let n:=ps.size
 let vn:=v.getId
 let b:=if v.isIdent && vn.toString.startsWith "z'" then vn.toString ++ "'" else "z'"
 let z (i:Nat):=idn (b++toString i)
 let isV (t:Syntax):=t.isIdent && t.getId==vn
 let clr:=if v.isIdent then #[T "(T.tacticTry_ x (s (T.clear x (n $0))))" #[v]] else #[]
 let med (xs:Array Syntax):Syntax:=T "(T.rcasesPatMed (n (T.rcasesPat.tuple x $0 x)))" #[mkNullNode (mkSepArray xs (mkAtom ","))]
 if v.isIdent && (ps.any fun q=>(q.find? isV).isSome) then T "(T.paren x (s (T.revert x (n $0)) (T.intro x (n $1)) $2) x)" #[v,z n,mO p (z n)] else
 let alt (e:Bool) (k:Nat):Array Syntax:=
  let full:=if e then k+1==n else k==n
  let a:=if full then n else if e then k else k - 1
  let (xs,ts):=fo (fun (xs,ts) q=>
   let m:=q.getArg 0
   let o:=(m.getArg 0).getArg 0
   let y:=z xs.size
   if (m.getArg 0).getNumArgs==1 && o.getKind == `Lean.Parser.Tactic.rcasesPat.one then
    let i:=o.getArg 0
    if i.getId == `rfl then (xs.push y,ts.push (T "(T.subst x (n $0))" #[y])) else (xs.push i,ts)
   else if (m.getArg 0).getNumArgs==1 && (o.getKind == `Lean.Parser.Tactic.rcasesPat.ignore || o.getKind == `Lean.Parser.Tactic.rcasesPat.clear) then (xs.push (T "(E.hole _)" #[]),ts)
   else (xs.push y,ts.push (mO m y))) ((#[],clr):Array Syntax×Array Syntax) (ps.extract 0 a)
  let (xs,ts):=if full then (xs,ts) else (xs.push (z n),ts.push (mO (med (ps.extract a n)) (z n)))
  #[T "(T.refine x (E.app $0 (n $1 (E.fun x (E.basicFun $2 (n) x (E.syntheticHole ? _))))))" #[idn ((if e then "exE" else "andE")++toString k),v,mkNullNode xs]]++ts
 let up (e:Bool):=Nat.rec (motive:=fun zz=>Array Syntax) #[] (fun k r=>if (if e then k+1<n else 1<=k && k<n) then #[mN `group #[mkAtom "|",sq (alt e (k+1))]]++r else r) 9
 if n<2 then rc else T "(T.first x $0)" #[mkNullNode (up true++up false ++ #[T "(g $0)" #[rc]])]
@[elab_as_elim] theorem rwE {α:Sort u} {a b:α} {motive:α->Prop} (h:a=b) (p:motive b):motive a:=h▸p
@[elab_as_elim] theorem rwS {α:Sort u} {a b:α} {motive:α->Prop} (h:b=a) (p:motive b):motive a:=h▸p
@[elab_as_elim] theorem rwI {a b:Prop} {motive:Prop->Prop} (h:a↔b) (p:motive b):motive a:=propext h▸p
@[elab_as_elim] theorem rwJ {a b:Prop} {motive:Prop->Prop} (h:b↔a) (p:motive b):motive a:=propext h▸p
def rwq (xs:Array Syntax):Syntax:=
 let one (r:Syntax):Syntax:=
  let t:=nth r 1
  let el:=T "(E.ellipsis x)" #[]
  let a:=if t.getKind == `Lean.Parser.Term.app then mE "app" #[nth t 0,mkNullNode ((nth t 1).getArgs.push el)] else ap t #[el]
  let k (e s:String):=T "(g (T.withReducibleAndInstances x (s (T.focus x (s (T.refine' x (E.app $0 (n $1 (E.syntheticHole ? _)))) (T.rotateRight x (n $2)))))))" #[idn (if (nth r 0).getNumArgs==0 then e else s),a,Syntax.mkNumLit "1"]
  T "(T.first x (n (g (T.failIfSuccess x (s (T.failIfSuccess x (s $0)))) (T.first x (n $1 $2 (g (T.fail x (n)))))) (g $0)))" #[T "(T.rewriteSeq x (T.optConfig (n)) (T.rwRuleSeq x (n $0) x) (n))" #[r],k "rwE" "rwS",k "rwI" "rwJ"]
 T "(T.paren x $0 x)" #[sq (mp one xs |>.push (T "(T.tacticTry_ x (s (T.withReducible x (s (T.tacticRfl rfl)))))" #[]))]
def pc:Nat->Syntax->Option Syntax
 | 0,_=>none
 | n+1,p=>
  if p.isIdent then (if p.getId.isAtomic then some (T "(T.rcasesPat.one $0)" #[p]) else none)
  else if p.isOfKind `Lean.Parser.Term.hole then some (T "(T.rcasesPat.ignore _)" #[])
  else if p.isOfKind `Lean.Parser.Term.anonymousCtor then
   (fo (fun (a:Option (Array Syntax)) x=>match a,pc n x with
    | some a,some y=>some (a.push (T "(T.rcasesPatLo (T.rcasesPatMed (n $0)) (n))" #[y]))
    | _,_=>none) (some #[]) (nth p 1).getSepArgs).map fun xs=>T "(T.rcasesPat.tuple x $0 x)" #[mkNullNode (mkSepArray xs (mkAtom ","))]
  else none
def mb (x p b:Syntax):Option Syntax:=
 if !p.isOfKind `Lean.Parser.Term.anonymousCtor || (b.find? (·.isOfKind `Lean.Parser.Term.syntheticHole)).isSome then none else
 (pc 9 p).map fun q=>T "(E.byTactic x (s $0 (T.exact x $1)))" #[ob (T "(T.rcasesPatMed (n $0))" #[q]) x,b]
def aR:Syntax:=T "(s (T.tacticRfl rfl))" #[]
def aI:Syntax:=T "(s (T.intro x (n (E.hole _))) (T.tacticRfl rfl))" #[]
def aJ:Syntax:=T "(s (T.intro x (n (E.hole _) (E.hole _))) (T.tacticRfl rfl))" #[]
def aK:Syntax:=T "(s (T.intro x (n (E.hole _) (E.hole _) (E.hole _))) (T.tacticRfl rfl))" #[]
def aU:Syntax:=T "(s (T.withUnfoldingAll x (s (T.tacticRfl rfl))))" #[]
def aV:Syntax:=T "(s (T.intro x (n (E.hole _))) (T.withUnfoldingAll x (s (T.tacticRfl rfl))))" #[]
def aW:Syntax:=T "(s (T.intro x (n (E.hole _) (E.hole _))) (T.withUnfoldingAll x (s (T.tacticRfl rfl))))" #[]
def aD:Syntax:=T "(s (T.decide x (T.optConfig (n))))" #[]
theorem sb1 {n i k:Nat} (h:n - i=k+1):n - (i+1)=k:=by rw [Nat.sub_add_eq,h,Nat.add_sub_cancel]
theorem sb2 {n i k:Nat} (h:n - i=k+1):i+1<=n:=Nat.lt_of_sub_pos (h▸LG k)
theorem sb3 {n i:Nat} (h:i<n):n - i=n - i - 1+1:=(JQ (Nat.sub_pos_of_lt h)).symm
theorem sb5 {a n i:Nat} (h:i<n):a+(n - (i+1))<a+(n - i):=HP (JD h (E3 i)) a
theorem cs4 {i:Nat} (h:i<4):i=0\/i=1\/i=2\/i=3:=(by decide:∀ i,i<4->i=0\/i=1\/i=2\/i=3) i h
theorem gl1 {l r:Nat}:l+1+r - l=r+1:=by rw [Ez,E1,Gv]
theorem ep1 {a b c d:Nat} (h:a * 8+c=b * 8+d) (h1:c<8) (h2:d<8):a=b:=
 have e:∀ a c,c<8->(a * 8+c) / 8=a:=fun a c h=>by rw [Gv,Nat.add_mul_div_right _ _ (by decide),Nat.div_eq_of_lt h,HH]
 (e a c h1).symm.trans ((congrArg (· / 8) h).trans (e b d h2))
theorem ex4 {i j:Nat} (h:∃ a,a<4 - i/\i+a=j):j<4:=h.elim fun zz h=>h.2▸Nat.add_lt_of_lt_sub' h.1
theorem cb7 {p v:Nat} (h:p<=4) (e:v+1+1+1+1+1+1+1=p+1+1):False:=by
 have e:v+1+1+1+1+1=p:=KZ.inj (KZ.inj e)
 subst e
 exact Ir _ (Gx (Gx (Gx (Gx h))))
theorem fc7 {b x:Nat}:b+5+x=b+4+(x+1):=by rw [FZ,<- Ez,FZ b 4]
theorem aa1 {i l:Nat}:i+1+l=i+(l+1):=(Ez i 1 l).trans (congrArg (i + ·) (Gv 1 l))
theorem tr1 {a b c:Nat} (h:a<=b) (k:b<=c):a<=c:=EE h k
theorem tr2 {a b c:Nat} (h:a<b) (k:b<=c):a<c:=E5 h k
theorem tr3 {a b c:Nat} (h:a<=b) (k:b<c):a<c:=Eo h k
theorem tr4 {a b c:Int} (h:a<=b) (k:b<=c):a<=c:=KD h k
def tA (y:Syntax):Syntax:=T "(E.typeAscription (E.hygienicLParen x $1) (E.syntheticHole ? _) x (n $0) x)" #[y,mN hygieneInfoKind #[mkIdent .anonymous]]
def sw (y:Syntax):Syntax:=T "(T.refine x $0)" #[tA y]
def hv (d:Syntax):Syntax:=
 let d:=nth d 0
 let y:=nth d 2
 let y:=if y.getNumArgs==0 then T "(E.hole _)" #[] else nth (nth y 0) 1
 T "(T.paren x (s (T.refine x (E.app $0 (n $1))) (T.intro x (n $2))) x)" #[tA (T "(E.arrow $0 x (E.hole _))" #[y]),nth d 4,nth (nth d 0) 0]
theorem nc {α:Type u} {P:Prop} (f:α->Nat) {a b:α} (h:a=b) (k:Lh (f a) (f b)=false):P:=by
 subst h
 rw [Nat.beq_refl] at k
 cases k
theorem cs0 {α:Sort u} {P:Prop} {a:α} (_:a=a) (k:P):P:=k
theorem cs1 {α:Type u} {P:Prop} {a b:α} (h:some a=some b) (k:a=b->P):P:=k (GB.inj h)
theorem cs2 {α:Type u} {β:Type v} {P:Prop} {a c:α} {b d:β} (h:(a,b)=(c,d)) (k:a=c->b=d->P):P:=k (congrArg Prod.fst h) (congrArg Prod.snd h)
theorem cs3 {α:Type u} {P:Prop} {a c:α} {b d:List α} (h:a :: b=c :: d) (k:a=c->b=d->P):P:=k (HU.inj h).1 (HU.inj h).2
theorem Dy {P:Prop} {a b:Addr} (h:Fg a=Fg b) (k:a=b->P):P:=k (Fg.inj h)
def cz (h:Syntax):Syntax:=
 let z:=mkIdent (h.getId.appendAfter "z")
 let sp (s e:String):Array Syntax:=foL (fun a w=>a.push (T e #[h,z,idn w,idn (w ++ ".ctorIdx"),idn "rfl"])) (s.splitOn " ") #[]
 T "(T.first x $0)" #[mkNullNode (sp "x" "(g (T.subst x (n $0)))"
  ++ sp "Option Bool List AV Out Flow Data Value PyData LS NameKind AO Cls" "(g (T.exact x (E.app `nc (n $3 $0 $4))))"
  ++ sp "cs1 cs4' cs5 cs6 csD csR" "(g (T.refine x (E.app $2 (n $0 (E.syntheticHole ? _)))) (T.tacticTry_ x (s (T.clear x (n $0)))) (T.intro x (n $0)) (T.cases x (n (T.elimTarget (n) $0)) (n) (n)))"
  ++ sp "cs2 cs3" "(g (T.refine x (E.app $2 (n $0 (E.syntheticHole ? _)))) (T.tacticTry_ x (s (T.clear x (n $0)))) (T.intro x (n $0 $1)) (T.cases x (n (T.elimTarget (n) $0)) (n) (n)) (T.cases x (n (T.elimTarget (n) $1)) (n) (n)))"
  ++ sp "cs0" "(g (T.refine x (E.app $2 (n $0 (E.syntheticHole ? _)))) (T.tacticTry_ x (s (T.clear x (n $0)))))" ++ sp "x" "(g (T.fail x (n)))")]
def oh (h:Syntax):Syntax:=
 let g:=nth (nth h 1) 1
 T "(T.refine x (E.app `hdT (n $0 $1 $2 (E.fun x (E.basicFun (n (E.hole _)) (n) x (E.anonymousCtor x (n (E.anonymousCtor x (n $3 x $3 x $3) x) x $3 x $3 x $3) x))) $4 $4 $4 (E.syntheticHole ? `hw) (E.syntheticHole ? `hc))))" #[nth g 0,nth g 1,nth g 2,T "(E.byTactic x (s $0))" #[mN ``tacticKernel_rfl #[mkAtom "kernel_rfl"]],T "(E.byTactic x (s (T.tacticRfl rfl)))" #[]]
theorem y02 {a b:Nat} (h:a<=b) (h2:b<5):a<=16777216:=EE h (EE (Ej h2) (by decide))
theorem y03 {b:Nat} (h:b<5):(b:Int)<2 ^ 62:=Int.lt_trans (Gw.mpr h) (by decide)
theorem y04 {b:Nat} (h:b<5):b<=4:=GW h
theorem y05 {a b:Nat} (e:a=b) (h:b<5):a<=100:=e▸EE (Ej h) (by decide)
theorem y06 {g e:Nat} (h:g<e) (h2:e<5):g+1<=5:=EE h (Ej h2)
theorem y07 {a b c:Nat} (h:a+b<=c):a<=c:=EE (EM a b) h
theorem y08 {g:Nat} (h:g<=5):1+2 * g<32:=Eo (Ew (GM 2 h) 1) (by decide)
theorem y09 {m:Int}:m - 0=m:=Int.sub_zero m
theorem y10 {a b:Nat} (h:a+1<=b) (e:b=0):False:=by subst e;exact Ir _ h
theorem y11 {a b:Nat} (h:a+1<=b):b≠0:=fun e=>y10 h e
theorem y15 {a b i:Nat} (e:a=b) (h:¬ i<b):a<=i:=e▸E0.mp h
theorem y16 {p:Nat} (h:0+1=p+1+1):False:=HT _ (KZ.inj h).symm
theorem y20 {k:Nat} (h:k<=1000):k+1<4096:=Eo (GH h) (by decide)
theorem y26 {z:Nat}:z+1<z+2:=E3 _
theorem y31 {p:Nat} (h:¬ p=0):0<p:=Nat.pos_of_ne_zero h
theorem y32 {a b:Nat} (e:a=b+1):b<=a:=e▸Eg b
theorem y34 {f:Nat} (h:f<=5):((2:Nat):Int) * (f:Int)<=2 ^ 27:=KD (Hr.mpr (GM 2 h)) (by decide)
def omt:String := "om1 ar om2 ar om3 ar om4 ar om5 ar fi1 ar fi2 ar fi3 aar fi4 aar fi5 - fi6 ar ro0 aa ro1 aa ro2 aa ro3 a ro4 a ro5 a un0 aa un1 aa un2 aa un3 aa un4 aa un5 a un6 a su2 a fo4 a | fi8 aar fi9 aaar C6 aaar DC aar Du aar Dj aar DL aar CR ar Ca ar D0 aar DH - Bu a Bv aa ro6 aa ro7 aa un7 aa un8 a un9 a C7 aa Cf aa tn1 - DR a Db a lt1 aar lt2 aar lt3 aa lt4 ar lt5 aa lt6 aaa lt7 aa lt8 aa lt9 aa Do aa Ce a Dk a DP a C4 a DN a BS - D1 a Bo aaa Bz a DX aa Cr aa C0 aa CU a Dn a Dr a DE a le1 a le3 a le4 a le5 aa le6 a le7 - le8 - le9 a Az a C5 a CS a Bw a CM aa CH aa Dm aa Cy aa CX aa Cd aa CE aa C9 aaa Dh aa Cu a CT aa C3 - D9 a DK a CY a DS a CG - Dw - Br - Co - Bq - DO aa ge1 aar ge2 aar ge3 aar ge4 aar ge5 aar ge6 aar ge7 aar ge8 aaar ge9 ar CZ aaar yk ar CP aar Dq aar Bx ar Bt ar C2 aar DI aaar C1 ar Cs ar D8 ar BH aar CV aar DM aar DA aaar Aw aar Cb aaar Cw ar DU aaar Cj aar DJ ar Cm aar Cq aaaa eq1 aa eq3 - eq4 - eq5 - eq6 - eq7 - eq8 - eq9 - DV - CW - CB - D3 - CC - Ct - Bs a DQ a CK a DZ a Dl a Ch a CI a D6 a Dd - DF aa CQ aa Cn aa B3 aaa CO aaa DG aa no1 aa no2 a no3 a no4 a no5 aar no9 a Cp aaa D7 aaa Dg aaa DD aaa Cc a Dv aaa Di aa CL aa if1 aaa if2 a if3 - if4 - or1 aa or2 aa nn0 - nn1 - nn2 a nn3 aa nn4 a nn5 a nn6 a mo1 - mo2 - mo3 - tn2 - tn3 - tn4 a tn5 aa tn6 aaa tn7 aa ca1 a ca2 a ca3 a ca4 a ca5 a ca6 a ca7 - ca8 - ca9 - CN a D4 a CA aa D5 a Bp a sb1 a sb2 a sb3 a sb5 a cs4 a gl1 - ep1 aaa ex4 a cb7 aa fc7 - aa1 - tr1 aa tr2 aa tr3 aa tr4 aa y02 aa y03 a y04 a y05 aa y06 aa y07 a y08 a y09 - y10 aa y11 a y15 aa y16 a y20 a y26 - y31 a y32 a y34 a"
end
end
section
set_option genSizeOf false
set_option tactic.hygienic false
open Lean Lean.Parser.Tactic in
local macro_rules
  | `(tactic| obtain $p:rcasesPatMed:=$v:term)=>return ob p v
open Lean in
local macro_rules
  | `(tactic| omega)=>return omg omt
open Lean in
local macro_rules
  | `(match $x:term with | $p:term=>$b:term)=>match mb x p b with | some s=>return s | none=>Macro.throwUnsupported
open Lean in
local macro_rules
  | `(tactic| cases $h:ident)=>return cz h
open Lean in
local macro_rules
  | `(tactic| show $t)=>return sw t
open Lean in
local macro_rules
  | `(tactic| have' $d:letDecl)=>return hv d
open Lean Lean.Parser.Tactic in
local macro_rules
  | `(tactic| rw $s:rwRuleSeq)=>let a:=(nth s 1).getArgs;if a.size % 2==0 then Macro.throwUnsupported else return rwq s.raw[1].getSepArgs
noncomputable def goI (stp:Gm->Thread->Option (Gm×Thread)) (ex:Thread->Option (List Value)):Nat->Gm->Thread->Option Gm
 | 0,_,_=>none
 | n+1,s,t=>match ex t with
  | some []=>some s
  | some (_ :: _)=>none
  | none=>match stp s t with
   | some (s',t')=>goI stp ex n s' t'
   | none=>none
noncomputable def goT (stp:Gm->Thread->Option (Gm×Thread)) (okk:Thread->Bool):Nat->Gm->Thread->Option Gm
 | 0,_,_=>none
 | n+1,s,t=>match through t with
  | true=>some s
  | false=>match okk t with
   | false=>none
   | true=>match stp s t with
    | some (s',t')=>goT stp okk n s' t'
    | none=>none
theorem jX {tb:String->Option En} {p:Fn} {w:World}:∀ {n:Nat} {s s':Gm} {t:Thread},
  goI (stepT (denote tb) p w) Thread.atExitBegin n s t=some s'->importEnds tb p w n s.abs t=some s'.abs:=by
 intro n
 induction n with
 | zero=>intro _ _ _ h;cases h
 | succ n jX=>
  intro s s' t h;unfold goI at h
  unfold importEnds
  cases he:t.atExitBegin with
  | some l=>
   rw [he] at h
   cases l with
   | nil=>cases h;rfl
   | cons=>cases h
  | none=>
   rw [he] at h
   cases hs:stepT (denote tb) p w s t with
   | none=>rw [hs] at h;cases h
   | some r=>obtain ⟨s₂,t₂⟩:=r;rw [hs] at h;dsimp only;rw [stepT_spec hs];exact jX h
theorem jV {tb:String->Option En} {p:Fn} {w:World} {n₀:Nat} {ann:Option Value}:∀ {n:Nat} {s s':Gm} {t:Thread},
  goT (stepT (denote tb) p w) (stepOk n₀ ann) n s t=some s'->topRun tb p w n₀ ann n s.abs t=some s'.abs:=by
 intro n
 induction n with
 | zero=>intro _ _ _ h;cases h
 | succ n jV=>
  intro s s' t h;unfold goT at h
  unfold topRun
  cases he:through t with
  | true=>rw [he] at h;cases h;rfl
  | false=>
   rw [he] at h
   cases hk:stepOk n₀ ann t with
   | false=>rw [hk] at h;cases h
   | true=>
    rw [hk] at h
    cases hs:stepT (denote tb) p w s t with
    | none=>rw [hs] at h;cases h
    | some r=>obtain ⟨s₂,t₂⟩:=r;rw [hs] at h;dsimp only;rw [stepT_spec hs];exact jV h
noncomputable def ofL:List Obj->BT->Nat->Option BT
 | [],t,_=>some t
 | o :: r,t,n=>match ((t.ins n o).get n).isSome with
  | true=>ofL r (t.ins n o) (n+1)
  | false=>none
theorem nK {life:Life}:∀ {l:List Obj} {t t':BT} {n:Nat},ofL l t n=some t'->LH t' (n+l.length) life=⟨(LH t n life).objs++l.toArray,life⟩:=by
 intro l
 induction l with
 | nil=>intro t t' n h;cases h;simp [LH]
 | cons o r nK=>
  intro t t' n h;unfold ofL at h
  cases g:((t.ins n o).get n).isSome with
  | false=>rw [g] at h;cases h
  | true=>
   rw [g] at h
   have z:=nK h
   rw [absHeap_ins g] at z
   rw [EX,show n+(r.length+1)=n+1+r.length by omega,z]
   simp [HV,LH]
noncomputable def rE (imp stp:World->Gm->Thread->Option (Gm×Thread)) (ex:Thread->Option (List Value)) (okk:Nat->Option Value->Thread->Bool) (fence:Shared->Option Shared)
  (s₀:Shared) (t₀ t₁:Thread) (N:Nat) (w:World):Option (Shared×Gm):=
 (goI (imp w) ex N ⟨.nil,0,s₀.heap.life,s₀.gens,s₀.drawn,s₀.toks,s₀.os⟩ t₀).bind fun SI=>
 (fence SI.abs).bind fun s1=>
 (ofL s1.heap.objs.toList .nil 0).bind fun T0=>
 (goT (stp w) (okk s1.heap.objs.size (s1.heap.nsMap Gk "__annotations__")) N ⟨T0,s1.heap.objs.toList.length,s1.heap.life,s1.gens,s1.drawn,s1.toks,s1.os⟩ t₁).bind fun S2=>some (s1,S2)
noncomputable def the {α:Type} (d:α) (o:Option α):α:=@Option.rec α (fun zz=>α) d (fun a=>a) o
noncomputable def fD:Shared×Gm:=({},⟨.nil,0,{},#[],{},0,{}⟩)
noncomputable def mZ (S:Gm) (a:Nat):Option Obj:=match Nat.blt a S.n with
 | true=>(match S.tree.get a with | some o=>alive o | none=>none)
 | false=>none
set_option tactic.hygienic true in
theorem lG {S:Gm} {a:Nat} {o:Obj} (h:mZ S a=some o):S.abs.heap.get? a=some o:=by
 unfold mZ at h
 split at h
 ·rename_i hb
  split at h
  ·rename_i o' g
   exact (abs_get (ET hb) g).trans h
  ·cases h
 ·cases h
theorem qc {S:Gm}:∀ {as:List Nat} {r:Frag},as.map (mZ S)=r.map (fun p=>some p.2)->as.map S.abs.heap.get? = r.map (fun p=>some p.2):=by
 intro as
 induction as with
 | nil=>
  intro r h
  cases r with
  | nil=>rfl
  | cons _ _=>cases h
 | cons a as qc=>
  intro r h
  cases r with
  | nil=>cases h
  | cons o os=>
   rw [E6,E6] at h
   obtain ⟨h1,h2⟩:=HU.inj h
   rw [E6,E6,lG h1,qc h2]
noncomputable def AD {α β:Type} (f:α->β) (l:List α):List β:=@List.rec α (fun zz=>List β) [] (fun a zz r=>f a :: r) l
noncomputable def Bf {α β:Type} (f:α->β) (l:List α):List β:=@List.rec α (fun zz=>List β) [] (fun a zz r=>f a :: r) l
theorem sK {α β:Type} (f:α->β) (l:List α):AD f l=l.map f:=by
 induction l with
 | nil=>rfl
 | cons a l ih=>exact congrArg (f a :: ·) ih
theorem Ac {α β γ:Type} {f:α->β} {g:γ->β} {l:List α} {r:List γ} (h:AD f l=Bf g r):l.map f=r.map g:=(sK f l).symm.trans (h.trans (sK g r))
theorem zV (s:Shared) (h:s.heap.objs = #[]):(⟨.nil,0,s.heap.life,s.gens,s.drawn,s.toks,s.os⟩:Gm).abs=s:=by
 obtain ⟨⟨objs,l⟩,g,d,t,o⟩:=s
 have' h:objs = #[]:=h
 subst h
 rfl
theorem z7 (s:Shared) {T:BT} (h:ofL s.heap.objs.toList .nil 0=some T):(⟨T,s.heap.objs.toList.length,s.heap.life,s.gens,s.drawn,s.toks,s.os⟩:Gm).abs=s:=by
 have z:=nK (life:=s.heap.life) h
 rw [HH] at z
 obtain ⟨⟨objs,l⟩,g,d,t,o⟩:=s
 show (⟨LH T objs.toList.length l,g,d,t,o⟩:Shared)=_
 rw [z]
 simp [LH,BT.list]
noncomputable def Ak (p:Fn) (N:Nat) (w:World):Option (Shared×Gm):=
 rE (stepT (denote LX) (LI p)) (stepT (denote LX) p) Thread.atExitBegin stepOk (fenceModules? p) (start (LI p)).1 (start (LI p)).2 (topStub p) N w
noncomputable def gW (p:Fn) (N:Nat) (w:World):Option (Shared×Gm):=
 rE (Fast.tw10156331382660048174 (Fast.tw11892475500146522536 Fast.tw14364793385576792824) (LI p)) (Fast.tw10156331382660048174 (Fast.tw11892475500146522536 Fast.tw14364793385576792824) p)
  Fast.tw3805553451399329143 Fast.tw6613529449190102663 (Fast.tw14289696077712309145 p) (start (LI p)).1 (start (LI p)).2 (topStub p) N w
theorem yo:Ak=gW:=by
 unfold Ak gW
 rw [Fast.te10156331382660048174,Fast.te11892475500146522536,Fast.te14364793385576792824,Fast.te3805553451399329143,Fast.te6613529449190102663,Fast.te14289696077712309145]
noncomputable def zp (p:Fn) (s1:Shared) (s:Shared):Bool:=(staticsOk (ID p.main.body) s1.heap s.heap && namesBound p s.heap && gensDone s && laidKept s1.heap s.heap) && (s1.heap.isNs Gk && s1.gens.size==0)
theorem zP {p q:Fn} {loose:List Str} {Xt:Shared->Bool} {α:Type} {Yf:Shared->α} {Ya:World->α} {N:Nat}
  (h:∀ w,(gW p N w=some (the fD (gW p N w))/\zp p (the fD (gW p N w)).1 (the fD (gW p N w)).2.abs=true /\
   Fast.tw4187177175401517315 q loose (ID p.main.body) Xt true (the fD (gW p N w)).2.abs=openGood q loose)/\Yf (the fD (gW p N w)).2.abs=Ya w):LeftO p q loose Xt Yf Ya N:=fun w=>by
 obtain ⟨⟨h0,hg,hs⟩,hy⟩:=h w
 rw [<- Fast.te4187177175401517315] at hs
 generalize the fD (gW p N w)=r at h0 hg hs hy
 obtain ⟨s1,S2⟩:=r
 rw [<- yo] at h0
 unfold Ak rE at h0
 obtain ⟨SI,h1,h0⟩:=Gn.mp h0
 obtain ⟨s1',h2,h0⟩:=Gn.mp h0
 obtain ⟨T0,h3,h0⟩:=Gn.mp h0
 obtain ⟨S2',h4,h0⟩:=Gn.mp h0
 cases h0
 have r1:=jX h1
 rw [zV _ rfl] at r1
 have r2:=jV h4
 rw [z7 _ h3] at r2
 unfold openEnds fencedOpening
 rw [r1]
 show ((fenceModules? p SI.abs).bind (topFrom LX p w N)).map _=_
 rw [h2]
 show (topFrom LX p w N _).map _=_
 unfold topFrom
 obtain ⟨g1,g2⟩:=It.mp hg
 rw [g2,r2]
 dsimp only [Option.bind]
 rw [g1]
 show some (openSeen q loose (ID p.main.body) Xt true S2'.abs,Yf S2'.abs)=_
 rw [hs,hy]
noncomputable def eo (a:Addr) (o:Obj) (H:Hook):Hook:=
 ⟨Option Obj×Bool×H.α,fun s=>(s.heap.get? a,(s.heap.get? JR).isSome,H.obs s),fun w=>(some o,true,H.val w),fun w h=>h.get? a=some o/\(∃ o,h.get? JR=some o)/\H.says w h,
  fun w s e=>have e':=(Li.inj e).2;⟨(Li.inj e).1,IA.mp (Li.inj e').1,H.of w s (Li.inj e').2⟩,fun w h h' y k=>⟨k _ _ y.1,let ⟨o,e⟩:=y.2.1;⟨o,k _ _ e⟩,H.keeps w h h' y.2.2 k⟩⟩
noncomputable def LK (p q:Fn) (loose:List Str) (Xt:Shared->Bool) (N:Nat) (K:Params->Frag) (as:List Addr) (a:Addr) (o:Obj):Prop:=∀ w:World,(gW p N w=some (the fD (gW p N w))/\zp p (the fD (gW p N w)).1 (the fD (gW p N w)).2.abs=true /\
   Fast.tw4187177175401517315 q loose (ID p.main.body) Xt true (the fD (gW p N w)).2.abs=openGood q loose) /\
   mZ (the fD (gW p N w)).2 a=some o/\(mZ (the fD (gW p N w)).2 JR).isSome=true/\AD (mZ (the fD (gW p N w)).2) as=Bf (fun p=>some p.2) (K w.params)
theorem z8 {p q:Fn} {loose:List Str} {Xt:Shared->Bool} {N:Nat} {K:Params->Frag} {as:List Addr} {e:∀ P,as=(K P).map (·.1)} {a:Addr} {o:Obj}
  (h:LK p q loose Xt N K as a o):LeftO p q loose Xt (Hook.obs (eo a o (kHook K as e))) (Hook.val (eo a o (kHook K as e))) N:=
 zP fun w=>⟨(h w).1,by
  obtain ⟨x,hx⟩:=IA.mp (h w).2.2.1
  show (_,_,_)=(_,_,_)
  rw [lG (h w).2.1,lG hx]
  exact congrArg _ (congrArg _ (qc (Ac (h w).2.2.2)))⟩
noncomputable def qG:Obj:={cls:=.none,data:=.fields #[]}
noncomputable def rK:List Str:=(["_wall", "_NODE_OUT", "_NODE_DONE", "_NodeInfo", "CycleError", "TopologicalSorter", "_twin_re_1", "_whence", "_index", "UnsupportedOperation", "IOBase", "BufferedIOBase", "TextIOBase", "BytesIO", "StringIO", "_kind", "_fspath", "_check_arg_types", "isabs", "join", "join_path", "dirname", "shlex", "split", "join_shlex", "_find_unsafe", "quote", "_deduplicate", "_deduplicate_unhashable", "_compare_args_orderless", "_law_cells", "_law_words", "_law_bonds", "_law_sorter", "_law_rounds", "_law_one_by_one", "_law_runs", "_law_is_stepped", "_law_is_least", "_law_changed", "_law_alike", "_law_text", "_law_read", "_law_holds"]:List String).map EB
noncomputable def qv:Fn:=view PySem.Challenge.pw_op0287_02 [0,1,53]
section
set_option maxHeartbeats 0
theorem lw0:sreFenced Et.row.prog.main=true:=by rw [Fast.te11788848310118352699,];kernel_rfl
theorem lw1:((moduleNames Et.row.prog.main.body).isEmpty || lookedIntoSs (moduleNames Et.row.prog.main.body) Et.row.prog.main.body)=true:=by
  rw [Fast.te9807087744658564304,Fast.te12862048085361865435,];kernel_rfl
theorem lw2:namesResolve Et.row.prog=true:=by rw [Fast.te8377067652309620493,];kernel_rfl
theorem lw4:noRoadLSs {strict:=!(ID Et.row.prog.main.body).all cThrough.contains,foot:=none,bare:=(["vars", "dir", "locals"]:List Str).filter (readsOut Et.row.prog Et.row.prog.main.body)} Et.row.prog.main.body=true:=by
  rw [Fast.te8326940854005059898,Fast.te5923862056798008813,Fast.te13343964577679436407,];kernel_rfl
theorem lw5:(namesMeet Et.row.prog Et.row.prog.main.body fun zz n=>attrL n)=true:=by
  rw [Fast.te17119622794617984870,Fast.te17868728402115742887,];kernel_rfl
theorem DY:(namesMeet Et.prog Et.above fun zz n=>!Et.own.contains n)=true:=by
  rw [Fast.te17119622794617984870,Fast.te3471404346716756564,Fast.te10792542408131684335,];kernel_rfl
end
section
set_option maxHeartbeats 0
theorem ws:Et.wellSaid=true:=by
  unfold OpenLaw.wellSaid OpenRow.wellSaid OpenRow.partSaid looksOpen
  repeat' (with_reducible apply look_both)
  all_goals (first
    | (with_reducible exact lw0) | (with_reducible exact lw1) | (with_reducible exact lw2) | (with_reducible exact lw4) | (with_reducible exact lw5) | (with_reducible exact DY)
    | ((try rw [Fast.te8326940854005059898,]);(try rw [Fast.te17119622794617984870,]);(try rw [Fast.te8179353310426384613,]);(try rw [Fast.te9558739934217749035,]);(try rw [Fast.te16286561074155671207,]);(try rw [Fast.te18344453789297297638,])
       (try rw [Fast.te797321630700447069,]);(try rw [Fast.te6984425678791042302,]);(try rw [Fast.te10792542408131684335,]);(try rw [Fast.te9572597257264208301,]);(try rw [Fast.te10501279942588096481,]);(try rw [Fast.named_eq,]);(try rw [Fast.te482687673346738481,])
       (try rw [Fast.te3471404346716756564,]);(try rw [Fast.sDec_eq,])
       kernel_rfl))
end
section
set_option maxHeartbeats 0
local macro_rules | `(tactic| o_law)=>return T "(T.refine x (E.app `holds_law (n `ws (E.fun x (E.basicFun (n (E.hole _)) (n) x (E.syntheticHole ? _))))))" #[]
theorem hdT (K:Params->Frag) (as:List Addr) (e:∀ P,as=(K P).map (·.1)) {d:DefRec} {kwd:List (Str×Expr)} (hl:LK Et.row.prog qv rK (fun s=>xlAt qv [] s && recOk [] s) 7000 K as 866 qG)
    (hdef:defOf qv Et.row.name=some (d,kwd)) (hp:Et.row.prog.theDef Et.row.name=some (d.params,d.body,d.scope)) (hk:kwWritten? d.params.kwonlyargs d.params.kw_defaults=some kwd) (hw:Et.row.toRowW.promised)
    (call:WalkO qv rK (XL qv []) (Hook.says (eo 866 qG (kHook K as e))) Et.row.toRowW d kwd fun f vs=>PySem.call f vs):Et.row.Holds:=
  holds_open (q:=qv) (loose:=rK) (Xt:=fun s=>xlAt qv [] s && recOk [] s) (XP:=XL qv []) (Yf:=Hook.obs (eo 866 qG (kHook K as e))) (Ya:=Hook.val (eo 866 qG (kHook K as e))) (YP:=Hook.says (eo 866 qG (kHook K as e))) (N:=7000)
    (z8 hl) (Hook.of (eo 866 qG (kHook K as e))) (Hook.keeps (eo 866 qG (kHook K as e))) (fun s e=>xl_of s (It.mp e).1) XL.keeps hdef hp hk
    (fun s e=>recFacts_of (It.mp e).2) (by rfl) (row_said ws) (by decide +kernel) ⟨rfl,rfl,rfl,rfl,rfl,by decide +kernel⟩ hw call
local macro_rules | `(tactic| o_head $h)=>return oh h
open_top hd for PySem.Challenge.rw_op0287_02
end
section
set_option linter.all false
set_option compiler.extract_closed false
theorem nz {fz:List Nat} {n k:Nat} (h:∀ i∈fz,i<n) (e:n<=k):k∉fz:=fun m=>absurd (h k m) (E0.mpr e)
section
variable {P:List Value->Prop}
theorem vs0 (h:P []) (vs:List Value) (e:vs.length=0):P vs:=GO e▸h
theorem vsS {n:Nat} (h:∀ a vs,vs.length=n->P (a :: vs)) (vs:List Value) (e:vs.length=n+1):P vs:=by
  cases vs with
  | nil=>exact absurd e (HT n).symm
  | cons a vs=>exact h a vs (KZ.inj e)
theorem vs1 (h:∀ a,P [a]):∀ vs:List Value,vs.length=1->P vs:=vsS fun a=>vs0 (P:=fun l=>P (a :: l)) (h a)
theorem vs2 (h:∀ a b,P [a,b]):∀ vs:List Value,vs.length=2->P vs:=vsS fun a=>vs1 (P:=fun l=>P (a :: l)) (h a)
theorem vs3 (h:∀ a b c,P [a,b,c]):∀ vs:List Value,vs.length=3->P vs:=vsS fun a=>vs2 (P:=fun l=>P (a :: l)) (h a)
theorem vs4 (h:∀ a b c d,P [a,b,c,d]):∀ vs:List Value,vs.length=4->P vs:=vsS fun a=>vs3 (P:=fun l=>P (a :: l)) (h a)
end
def tab:String := "R wr
R1 (; iw wr)
R2 (; iw iw wr)
Nk kr
Ndk dk
Non (; iw Me)
Nas assumption wr
Nmod decide assumption
Mshape assumption rfl kr decide
Mside assumption decide rfl om (; (simp List.length_cons List.length_nil List.length_map sizeLine_eq) (first done decide om))
Nlt decide (; (simp List.length_cons List.length_nil) om)
Mnz assumption (nz =a Mle)
Mle om (; (simp List.length_append List.length_cons List.length_nil) om)
Mpeek (!vs0 Mpk) (!vs1 Mpk) (!vs2 Mpk) (!vs3 Mpk) (!vs4 Mpk)
Mpk (; intros (rw (bH.K %a)) kr)
Mqt (r (aB ?v ?t %i %i %i) (v Me) (t Ma))
De (r (pH (bH.look H rfl) rfl rfl ?c rfl rfl rfl rfl rfl rfl ?o ?f ?^hb ?^bl ?^st ?^h ?^hr) (c (e (bH.code H %k))) (o Mnames) (f decide))
Dp (; De (c ^hb (r (bP.args ?k) (k Mpeek))) (c ^bl Mblank) (c ^st (simp List.map_cons List.map_nil List.zip_cons_cons List.zip_nil_right List.zip_nil_left) Mstall))
Dc (; (r (dO ?k ?i ?f ?c ?b ?^hc ?^hz %2) (k Mcompok) (i Mi) (f Mfrees) (c Mclos) (b Mblank)) (all (try (dsimp List.nil_append))))
Da (; (r (dw ?k ?i ?f ?c ?b ?^hc ?^hz ?t %x %2 %i %i) (k Mcompok) (i Mi) (f Mfrees) (c Mclos) (b Mblank) (t Ma)) (all (try (dsimp List.nil_append))))
Mdats (kf.nil) (kf.cons Mdats)
Mload (bj.here) (ld1) (ld2) (ld3) (ld4) (ld5) (ld6) (bj.there Mload)
Mloadc (eA.cell) (eA.free) (eA.there Mloadc)
Mcellat (dM.cell) (dM.free) (dM.there Mcellat)
Mglob (bw.here) (ga1) (ga2) (ga3) (ga4) (ga5) (ga6) (bw.there Mglob)
Mstore (bS.here) (sa1) (sa2) (sa3) (sa4) (sa5) (bS.there Mstore)
Mblank (cL.nil) (bl4 Mblank) (cL.cons Mblank)
Mclos (gN.nil) (gN.free Mloadc Mclos) (gN.other Mclos)
Mfrees (cF.nil) (cF.free Mcellat Mfrees) (cF.loc Mfrees) (cF.cel Mfrees) (cF.glo Mfrees)
Msub (Sub.nil) (Sub.same Msub) (Sub.drop Msub)
Nkind (!Or.inl =rfl) (!Or.inr =rfl)
Mnames (!dW.mk Ndk Ndk)
Mcompok (!jf.of Mnames =rfl =rfl)
Mstall (cO.nil) (cO.cons Mstore Nkind Mstall)
Mfact (pq =a) (rS =a) (lp =a) (oC =a) (oK =a) (pN =a) (oj =a) (j9 =a) (je =a) (lB =a) (qO =a) (rA =a) (rm =a) (qV =a) (z9 =a) (nq =a) (yq =a) (lZ =a) (fC =a) (ez =a) (iH =a) (rj =a) (rl =a) (oY =a) (l9 =a) (yb =a) (rG =a) (us =a) (zM =a) (zR =a)
Mbfact (yy =a) (zY =a) (BA =a) (Ba =a) (BQ =a) (Bc =a) (BC =a) (BK =a) (yP =a) (yF =a) (BP =a) (BX =a) (n0 =a) (oO =a) (zx =a) (AS =a) (y8 =a) (zX =a) (zw =a) (AF =a) (Bb =a) (BV =a) (As =a) (AU =a) (AT =a) (AY =a) (Bl =a) (B5 =a) (BR =a) (BY =a) (zy =a) (Au =a) (xx =a) (xE =a) (gH =a) (gI =a) (mz =a) (oE =a) (on =a) (qU =a)
Mop (~wQ) (~AL) (~xH) (Ad) (gy) (~y6) (~y4) (~zu) (~AQ) (~AC Nmod) (~A9 Mside Mside) (~zU Mside Mside) (~BF) (~zj) (~Bm) (~si) (~qz) (~xQ) (~vb =rfl) (~kt =rfl) (ua =rfl) (oU =rfl) (~k8 Mside) (~re Mshape Mshape) (~fA Mshape Mshape) (~pP Mshape Mshape) (~wg Mshape Mshape) (~ia Mshape Mshape)
Mbc (we) (AN Mside) (yW Mside) (mx =rfl Mside) (AB R) (AK)
Mpart (vE) (vJ Me Mcast)
Mcast (rfl) (!BI) (!Bg) (!BD) assumption
Me (bV Me Mgeta R1) (ig) (oM) (ik) (fF) (eW Mload) (vY Mglob Mfact) (kO Mglob Mbfact Mbfact) (ct Me Me Mop) (oF Me Me Mop R) (zD Me) (ti Ml Mdats Mside) (cq Me Ml Mbc R) (oP Me Non) (qZ Me Non) (jc Me Mpart Mpart Mside R2) (yE Me Me Mside Mside Mside R2) (uD Me Me Mside Mside Mside R2)
Ml (bQ) (bF Me Ml R)
Ntru (dT) (ki) (zJ) (iq =_) (fK =_)
Mt (zl Mload Mgeta R1) (zn Mload Mload Mgeta R1) (ai Me Me Mop R) (dN Mt) (b7 Me Ntru R1)
Mi (sH Mglob Mbfact Mbfact Me Mside Mside R R R) (pv Mglob Mbfact Mbfact Me Me Mside Mside Mside Mside R R R R) (fH Me R Nnm) (kc Me R R)
Nnm (!OnL.name R)
Ma (b9 Me Mseta) (qa Mstore) (ut Mstore)
Mat (cN) (im) (qA) (en =a) (sZ =a) (dH) (fm) (eh =a) (iu =a) assumption (!iG.trans =rfl) (!iX.trans =rfl) (!gU =:dH) (!gU =:fm)
Ma2 (!mL Ma Ma R R1)
Mzip (!xM Mglob Mbfact Mbfact Me Me R R R)
Mgeta (A5 =a) (Am =a) (AE =a) (AZ =a) (A4 =a) (yM =a) (xv =a) (yA =a) (lf =a) (lr =a) (tM =a) (nI =a) (tV =a) (j7 =a) (pW =a) (Ae =a) (pM =a) (ni =a) (vG =a) (xp =a Nlt =rfl) (!cJ Mat =bv Nfd Nas R) (!dB Mat =eL Mslot Nas R) (!uv =:iG =da Nfd Nk)
Nfd (!fd_ =a Nk)
Mslot (!sL =a) (!iP =a) (!tG =a)
Mseta (!bh Mat Mnz =bv Nfd Nlt) (!gR Mat Mnz =eL Mslot Nlt)
Ms (r (uH %a (da %a) ?v ?o (fd_ %a %k) %k (Nat.le_of_ble_eq_true rfl) ?n %i %i %i) (v Mv) (o Me) (n kr)) Mqt (r (bL (aY.of ?t ?d) (aF ?b)) (t Mt1) (d rfl) (b Ms)) (r (aN (aY.of ?t ?d) aG) (t Mts) (d kr))
Mv Me (r (aH.of (aH.st (vK ?x) ?y) ?z) (x Me) (y (rw List.append_assoc) rfl) (z (e (congrArg AV.ref List.length_append))))
Mts (r (b7 ?x (iq ?y) %j) (x Me) (y dk))
Mgo (r (aA ?s ?_) (s Ms))
Mt1 (!dN Mt1) Mt
Mt4 (zl Mload Mgeta R1) (zn Mload Mload Mgeta R1) (dN Mt4) (b7 Me Ntr4 R1) Mt
Ntr4 (dT) (ki) (iq Nl4)
Nl4 assumption dk (; (rw kJ) decide)
Mdec assumption rfl kr
Nd4 assumption dk rfl
Mtt (red (r (dC (aY.of ?t ?d)) (t Mt4) (d Nd4))) (red (r (cH (aY.of ?t ?d) ?u) (t Mt4) (d Nd4) (u Mt4))) Mt4
Mhead (r (aA ?p (aA (aN (aY.of ?t ?d) aG) (aA (aN (aY.of ?u ?v) aG) ?_))) (p Mh1) (t Mt4) (d (first assumption kr)) (u Mge) (v rfl))
Mh1 (r (aN (aY.of (dC (aY.of ?t ?d)) rfl) (aF (aB ?r ?a %i %i %i))) (t Mts) (d kr) (r Mrd) (a Ma))
Mrd (r (Ap %a ?o ?e rfl %a (Nat.le_refl 2) rfl %a ?h %x) (o Me) (e Ml) (h (first (e (Or.inl (< _ %a rfl rfl))) (e (Or.inr (< %a rfl rfl))))))
Mge (r (ai ?x ig (OpG.of2 si) %w) (x Me))
M0 (r (aF (aN (aY.of ?t ?d) ?_)) (t Mtt) (d Nd4))
M1 (r (aF (bL (aY.of ?t ?d) ?_)) (t Mtt) (d Nd4))
Mas (r (aB ?v (b9 ?o ?s) %i %i %i) (v Me) (o Me) (s Mst4))
Mst4 (DT =a =a) (Dt =a =a) (By =a =a) (xk =a =a)
Mnq (r (aB (aH.of ?v %k) (b9 ?o (jA %a _ %a)) %i %i %i) (v Me) (o Me))
Mcat (r (fM ?o ?g ?v (OpG.of2 (oZ ?z)) (xk %a %a)) (o Me) (g Mgeta) (v Me) (z (rw sizeLine_eq kJ) om))
Mdbg (r (aN (aY.of (ai ?x ig (OpG.of2 si) %w) ?d) aG) (x Me) (d rfl))"
end
noncomputable abbrev cK (hot:List Addr) (h:Heap):Heap:=hideAll h hot
theorem y7 {hot:List Addr} {h h':Heap} (k:∀ b o,b∉hot->h.get? b=some o->h'.get? b=some o):∀ b o,(cK hot h).get? b=some o->(cK hot h').get? b=some o:=by
 intro b o e
 have hb:b∉hot:=fun hm=>by rw [Ht hot hm] at e;cases e
 exact F9 hot (k b o hb (Ex hot e)) hb
theorem hH {hot hot':List Addr} {h:Heap} (s:∀ a∈hot,a∈hot'):∀ b o,(cK hot' h).get? b=some o->(cK hot h).get? b=some o:=by
 intro b o e
 have hb:b∉hot':=fun hm=>by rw [Ht hot' hm] at e;cases e
 exact F9 hot (Ex hot' e) fun hm=>hb (s b hm)
theorem lh {h:Heap} {v:Value} {d:PyData} {bs:List Addr} (r:Reads h v d bs) {vs:List Value} {ds:List PyData} {as:List Addr} (q:FW h vs ds as):∃ cs,FW h (vs++[v]) (ds++[d]) cs:=by
 induction ds generalizing vs as with
 | nil=>cases q using RA0;exact ⟨_,.cons r .nil⟩
 | cons d ds ih=>cases q using RA1 with
  | cons r' t=>exact let ⟨_,z⟩:=ih t;⟨_,.cons r' z⟩
theorem a9 {h:Heap} {vs:List Value} {ds:List PyData} {as:List Addr} (q:FW h vs ds as):vs.length=ds.length:=by
 induction ds generalizing vs as with
 | nil=>cases q using RA0;rfl
 | cons d ds ih=>cases q using RA1 with
  | cons r' t=>exact congrArg (· + 1) (ih t)
section
variable {prog:Fn} {w:World} {A:Around} {R:Result->Shared->Prop} {s:Shared}
end
section
open PySem
theorem xO (h:Heap) (a:Addr) (f:Obj->Obj):(h.update a f).objs.size=h.objs.size:=(GY.update (h:=h) (a:=a) (f:=f)).1
theorem jo (s:Shared) (g:Nat) (x:K2):(s.setGen g x).gens.size=s.gens.size:=Array.size_setIfInBounds
noncomputable def Up (s s':Shared):Prop:=s.heap.objs.size<=s'.heap.objs.size/\s.toks<=s'.toks/\s.gens.size<=s'.gens.size
section
variable {s s' s'':Shared}
theorem Up.refl:Up s s:=⟨EH _,EH _,EH _⟩
theorem Up.trans (a:Up s s') (b:Up s' s''):Up s s'':=⟨EE a.1 b.1,EE a.2.1 b.2.1,EE a.2.2 b.2.2⟩
theorem Up.upd {a:Addr} {f:Obj->Obj}:Up s {s with heap:=s.heap.update a f}:=⟨E9 (xO _ _ _).symm,EH _,EH _⟩
theorem Up.push {o:Obj}:Up s {s with heap:=s.heap.push o}:=⟨by rw [ER];exact Eg _,EH _,EH _⟩
theorem Up.tok:Up s {s with toks:=s.toks+1}:=⟨EH _,Eg _,EH _⟩
theorem Up.new {c:K2}:Up s {s with gens:=s.gens.push c}:=⟨EH _,EH _,by rw [KO];exact Eg _⟩
theorem Up.set {g:Nat} {x:K2}:Up s (s.setGen g x):=⟨EH _,EH _,E9 (jo _ _ _).symm⟩
end
theorem sV {M:Model} {Γ:Ctx} {p:Pos} {t:Sem Fin} {fs:List Frame} {s s':Shared} {e:End} (h:Runs M Γ p t fs s e s'):Up s s':=by
 induction h
 all_goals first | exact .refl | assumption | exact Up.upd.trans (by assumption) | exact Up.push.trans (by assumption) | exact Up.tok.trans (by assumption) | exact Up.new.trans (by assumption) | exact a_ih.trans a_ih_1 | exact Up.set.trans a_ih | exact Up.set.trans (a_ih.trans (Up.set.trans a_ih_1)) | exact a_ih.trans (Up.set.trans a_ih_1)
theorem xh {M:Model} {Γ:Ctx} {p:Pos} {g:Nat} {r:Resume} {s s':Shared} {res:GenResult} (h:Wakes M Γ p g r s res s'):Up s s':=by
 unfold Wakes at h
 generalize s.gens[g]? = x at h
 have k:∀ {Γ p t fs},(∃ e₁ s₁,Runs M Γ p t fs (s.setGen g .running) e₁ s₁/\e₁.quiet=true/\res=e₁.result/\s'=s₁.setGen g e₁.genState)->Up s s':=fun h=>by
  obtain ⟨e₁,s₁,hr,_,_,rfl⟩:=h;exact Up.set.trans ((sV hr).trans .set)
 have k2:∀ {P:Prop},P/\s'=s->Up s s':=fun h=>h.2▸.refl
 cases x with
 | none=>exact h.elim
 | some st=>cases st with
  | fresh c=>cases r with
   | send v=>cases v<;>first | exact k h | exact k2 h
   | throw x=>exact h.2▸.set
  | suspended=>exact k h
  | running=>exact k2 h
  | finished=>exact k2 h
theorem BB {α:Type} (M:Model) (Γ:Ctx) (b:Shared) (t:Sem α):∀ (Q:α->Pos->Shared->Prop) (E:Value->Pos->Shared->Prop) (p:Pos) (s:Shared),Up b s->Sem.wp M Γ t Q E p s->
  Sem.wp M Γ t (fun a p' s'=>Up b s'/\Q a p' s') (fun e p' s'=>Up b s'/\E e p' s') p s:=by
 induction t with
 | pure a=>exact fun Q E p s hn h=>⟨hn,h⟩
 | raise e=>exact fun Q E p s hn h=>⟨hn,h⟩
 | unsupported _=>exact fun Q E p s zz h=>h
 | finish _=>exact fun Q E p s zz h=>h
 | rule _ k ih=>exact ih ()
 | «at» p' k ih=>exact fun Q E p s hn h=>ih () Q E p' s hn h
 | load a _ k ih=>exact fun Q E p s hn h=>h.elim fun o h=>⟨o,h.1,ih o Q E p s hn h.2⟩
 | update a _ f k ih=>exact fun Q E p s hn h=>⟨h.1,ih () Q E p _ (hn.trans .upd) h.2⟩
 | loadIfAlive a k ih=>exact fun Q E p s hn h=>ih _ Q E p s hn h
 | point _ k ih=>exact ih ()
 | register _ _=>exact fun Q E p s zz h=>h
 | alloc o k ih=>exact fun Q E p s hn h=>ih _ Q E p _ (hn.trans .push) h
 | fresh k ih=>exact fun Q E p s hn h=>ih _ Q E p _ (hn.trans .tok) h
 | ask k ih=>exact fun Q E p s hn h=>ih _ Q E p s hn h
 | choose src m k ih=>exact fun Q E p s hn h=>⟨h.1,ih _ Q E p _ hn h.2⟩
 | os q _ k ih=>exact fun Q E p s hn h=>ih _ Q E p _ hn h
 | call c hd _ _ k ih=>exact fun Q E p s hn h=>h.elim fun r h=>h.elim fun s' h=>⟨r,s',h.1,ih r Q E p s' (hn.trans (sV h.1)) h.2⟩
 | handled own k ih=>exact fun Q E p s hn h=>ih _ Q E p s hn h
 | genState g k ih=>exact fun Q E p s hn h=>h.elim fun st h=>⟨st,h.1,ih _ Q E p s hn h.2⟩
 | newGen c k ih=>exact fun Q E p s hn h=>ih _ Q E p _ (hn.trans .new) h
 | resume g r _ k ih=>exact fun Q E p s hn h=>h.elim fun res h=>h.elim fun s' h=>⟨res,s',h.1,ih res Q E p s' (hn.trans (xh h.1)) h.2⟩
 | yield _ _ _ _=>exact fun Q E p s zz h=>h
 | stack k ih=>exact fun Q E p s hn h=>ih _ Q E p s hn h
 | fork _ _=>exact fun Q E p s zz h=>h
 | thread k ih=>exact fun Q E p s hn h=>ih _ Q E p s hn h
 | await _ _ _ _ _=>exact fun Q E p s zz h=>h
section
variable {α:Type} {M:Model} {A:Around} {s:Shared} {t:Sem α} {Q:α->Shared->Prop} {E:Value->Shared->Prop}
theorem j6 (h:wpAny M A t (fun a s'=>Up s s'->Q a s') (fun e s'=>Up s s'->E e s') s):wpAny M A t Q E s:=
 Ep (Q:=fun a s'=>Up s s'/\(Up s s'->Q a s')) (E:=fun e s'=>Up s s'/\(Up s s'->E e s')) (fun Γ p hΓ=>BB M Γ _ t _ _ p s .refl (h Γ p hΓ)) (fun zz zz x=>x.2 x.1) (fun zz zz x=>x.2 x.1)
theorem ao (h:wpAny M A t (fun a s'=>s.heap.objs.size<=s'.heap.objs.size->Q a s') (fun e s'=>s.heap.objs.size<=s'.heap.objs.size->E e s') s):wpAny M A t Q E s:=
 j6 (Ep h (fun zz zz f u=>f u.1) (fun zz zz f u=>f u.1))
theorem qf (h:wpAny M A t (fun a s'=>s.toks<=s'.toks->Q a s') (fun e s'=>s.toks<=s'.toks->E e s') s):wpAny M A t Q E s:=
 j6 (Ep h (fun zz zz f u=>f u.2.1) (fun zz zz f u=>f u.2.1))
theorem rF (h:wpAny M A t (fun a s'=>s.gens.size<=s'.gens.size->Q a s') (fun e s'=>s.gens.size<=s'.gens.size->E e s') s):wpAny M A t Q E s:=
 j6 (Ep h (fun zz zz f u=>f u.2.2) (fun zz zz f u=>f u.2.2))
end
end
theorem ltA {a b:Nat} (h:a<b):a<b:=h
theorem leA {a b:Nat} (h:a<=b):a<=b:=h
inductive AV where
 | dat (d:PyData)
 | ref (i:Nat)
 | con (v:Value)
inductive AO where
 | list (xs:List AV)
 | inst (C:Addr) (xs:List (Str×AV))
 | slot (C:Addr) (xs:List (Option AV))
 | dict (xs:List (Int×AV))
 | set (xs:List Int)
 | iter (l k:Nat)
 | next (it:Nat)
 | deq
 | sdict (xs:List Str)
 | raw (o:Obj)
 | code (a:Addr)
noncomputable abbrev aC:=List AO
set_option genInjectivity false in
structure Mu where
 hid:List Addr
 objs:List (Addr×List Addr)
 fz:List Nat:=[]
noncomputable def Mu.foot (μ:Mu):List Addr:=μ.objs.flatMap (·.2)
theorem aj {μ:Mu} {p:Addr×List Addr} {b:Addr} (hp:p∈μ.objs) (hb:b∈p.2):b∈μ.foot:=HW.mpr ⟨p,hp,hb⟩
noncomputable def af (μ:Mu) (h:Heap):AV->Value->Prop
 | .dat d,v=>∃ as,Reads (cK μ.hid h) v d as
 | .ref i,v=>∃ p,μ.objs[i]? = some p/\v=.ref p.1
 | .con c,v=>v=c
noncomputable def aw (μ:Mu) (h:Heap):List AV->List Value->Prop
 | [],[]=>True
 | a :: as,v :: vs=>af μ h a v/\aw μ h as vs
 | _,_=>False
theorem aw.e1 {μ:Mu} {h:Heap} {a:AV} {vs:List Value} (r:aw μ h [a] vs):∃ v,vs=[v]/\af μ h a v:=by
 cases vs with
 | nil=>exact r.elim
 | cons v vs=>cases vs with
  | nil=>exact ⟨v,rfl,r.1⟩
  | cons=>exact r.2.elim
theorem aw.e2 {μ:Mu} {h:Heap} {a b:AV} {vs:List Value} (r:aw μ h [a,b] vs):∃ u v,vs=[u,v]/\af μ h a u/\af μ h b v:=by
 cases vs with
 | nil=>exact r.elim
 | cons v vs=>exact r.2.e1.elim fun w q=>⟨v,w,by rw [q.1],r.1,q.2⟩
noncomputable def cX (P:Params) (μ:Mu) (h:Heap):List (Str×AV)->List GQ->Prop
 | [],[]=>True
 | (x,a) :: as,e :: es=>(e.hash=HX P x/\(∃ t,e.key=.str x t)/\af μ h a e.val)/\cX P μ h as es
 | _,_=>False
noncomputable def eM (μ:Mu) (h:Heap):Option AV->Option Value->Prop
 | none,none=>True
 | some a,some v=>af μ h a v
 | _,_=>False
noncomputable def cw (μ:Mu) (h:Heap):List (Option AV)->List (Option Value)->Prop
 | [],[]=>True
 | a :: as,v :: vs=>eM μ h a v/\cw μ h as vs
 | _,_=>False
noncomputable def cD (μ:Mu) (h:Heap):List (Int×AV)->List (Int×Value)->Prop
 | [],[]=>True
 | (k,a) :: as,(k',v) :: vs=>(k=k'/\af μ h a v)/\cD μ h as vs
 | _,_=>False
@[elab_as_elim] theorem aw.ind {μ:Mu} {h:Heap} {motive:List AV->List Value->Prop} {as:List AV} {vs:List Value} (r:aw μ h as vs) (h0:motive [] [])
  (h1:∀ a v as vs,af μ h a v->aw μ h as vs->motive as vs->motive (a :: as) (v :: vs)):motive as vs:=by
 induction as generalizing vs with
 | nil=>cases vs with
  | nil=>exact h0
  | cons _ _=>exact r.elim
 | cons p as ih=>cases vs with
  | nil=>exact r.elim
  | cons q vs=>exact h1 _ _ _ _ r.1 r.2 (ih r.2)
@[elab_as_elim] theorem cX.ind {P:Params} {μ:Mu} {h:Heap} {motive:List (Str×AV)->List GQ->Prop} {as:List (Str×AV)} {vs:List GQ} (r:cX P μ h as vs) (h0:motive [] [])
  (h1:∀ x a e as vs,e.hash=HX P x/\(∃ t,e.key=.str x t)/\af μ h a e.val->cX P μ h as vs->motive as vs->motive ((x,a) :: as) (e :: vs)):motive as vs:=by
 induction as generalizing vs with
 | nil=>cases vs with
  | nil=>exact h0
  | cons _ _=>exact r.elim
 | cons p as ih=>cases vs with
  | nil=>exact r.elim
  | cons q vs=>exact h1 p.1 p.2 q _ _ r.1 r.2 (ih r.2)
@[elab_as_elim] theorem cw.ind {μ:Mu} {h:Heap} {motive:List (Option AV)->List (Option Value)->Prop} {as:List (Option AV)} {vs:List (Option Value)} (r:cw μ h as vs) (h0:motive [] [])
  (h1:∀ a v as vs,eM μ h a v->cw μ h as vs->motive as vs->motive (a :: as) (v :: vs)):motive as vs:=by
 induction as generalizing vs with
 | nil=>cases vs with
  | nil=>exact h0
  | cons _ _=>exact r.elim
 | cons p as ih=>cases vs with
  | nil=>exact r.elim
  | cons q vs=>exact h1 _ _ _ _ r.1 r.2 (ih r.2)
@[elab_as_elim] theorem cD.ind {μ:Mu} {h:Heap} {motive:List (Int×AV)->List (Int×Value)->Prop} {xs:List (Int×AV)} {kvs:List (Int×Value)} (r:cD μ h xs kvs) (h0:motive [] [])
  (h1:∀ k a v xs kvs,af μ h a v->motive xs kvs->motive ((k,a) :: xs) ((k,v) :: kvs)):motive xs kvs:=by
 induction xs generalizing kvs with
 | nil=>cases kvs with
  | nil=>exact h0
  | cons _ _=>exact r.elim
 | cons p xs ih=>
  obtain ⟨k,a⟩:=p
  cases kvs with
  | nil=>exact r.elim
  | cons q kvs=>
   obtain ⟨k2,v⟩:=q;obtain ⟨⟨rfl,hv⟩,r⟩:=r;exact h1 _ _ _ _ _ hv (ih r)
set_option genInjectivity false in
structure Cx where
 prog:Fn
 w:World
 K:Frag
 h0:Heap
 mg:Str->Option Value
 mb:Str->Option Value
structure Cx.Ok (C:Cx):Prop where
 K:C.K.In C.h0
 g:C.h0.Ns Gk C.mg
 b:C.h0.Ns H5 C.mb
 lim:C.h0.NoLimit
 sys:∃ o,C.h0.get? JR=some o
 bmod:∃ bm ob,BMod C.h0 Gk C.mg bm ob
 blt:∀ x:Str,x ≠ "__name__" -> C.mb x=bootBuiltins x
noncomputable def ef (C:Cx) (μ:Mu) (h:Heap) (p:Addr×List Addr):AO->Prop
 | .list xs=>p.2=[p.1]/\∃ vs:Array Value,h.PlainList p.1 vs/\aw μ h xs vs.toList
 | .inst c xs=>∃ dx es n,p.2=[p.1,dx]/\p.1≠dx/\h.get? p.1=some (Go c dx)/\h.get? dx=some (dictOf es n)/\cX C.w.params μ h xs es
 | .slot c xs=>∃ (vs:Array (Option Value)) (dx:Addr),p.2=[p.1,dx]/\p.1≠dx/\h.get? p.1=some {cls:=.ref c,dict:=some dx,data:=.plain,slots:=vs}/\h.get? dx=some emptyDict/\cw μ h xs vs.toList
 | .dict xs=>p.2=[p.1]/\∃ kvs,h.DictOf (Gi C.prog C.w) p.1 kvs/\cD μ h xs kvs
 | .set xs=>p.2=[p.1]/\h.SetOf (Gi C.prog C.w) p.1 (fun k=>xs.contains k) xs.length
 | .iter l k=>p.2=[p.1]/\∃ q,μ.objs[l]? = some q/\h.get? p.1=some {cls:=.type "list_iterator",data:=.fields #[.ref q.1,.int k 0]}
 | .next it=>p.2=[p.1]/\∃ q,μ.objs[it]? = some q/\h.get? p.1=some {cls:=.type "method-wrapper",data:=.fields #[.builtin "list_iterator.__next__",.ref q.1]}
 | .deq=>p.2=[p.1]/\∃ o,h.get? p.1=some o
 | .sdict xs=>p.2=[p.1]/\h.DictOf (PySem.strKind C.prog C.w) p.1 (xs.map fun k=>(k,FB))
 | .raw o=>p.2=[p.1]/\h.get? p.1=some o
 | .code a=>p.2=[p.1]/\p.1=a/\∃ ps:Array Value,h.get? p.1=some {cls:=.none,data:=.fields ps}/\TriplesOk ps.toList
noncomputable def FA (A:Around) (b:Addr):Prop:=∃ l,A.frames=some l/\∃ env∈l,env.frame=some b
noncomputable abbrev A0:Around:={}
theorem nr {b:Addr}:¬ FA A0 b:=fun h=>h.elim fun zz e=>nc Option.ctorIdx e.1 rfl
noncomputable def aL (A:Around) (W:Addr->Prop) (s s':Shared):Prop:=∃ h' g' tk,s'={s with heap:=h',gens:=g',toks:=tk}/\(s.heap.objs.size<=h'.objs.size/\(Ke s.gens->Ke g')) /\
 ∀ b o,¬ W b->s.heap.get? b=some o->h'.get? b=some o\/(FA A b/\(∃ es n,o.data=.dict es n)/\∃ o',h'.get? b=some o'/\o'.data=o.data)
noncomputable def NoW:Addr->Prop:=fun zz=>False
section
variable {A:Around} {W W':Addr->Prop} {s s':Shared}
theorem aL.refl (A:Around) (W:Addr->Prop) (s:Shared):aL A W s s:=⟨_,_,_,rfl,⟨EH _,id⟩,fun zz zz zz e=>.inl e⟩
theorem aL.le (k:aL A W s s'):s.heap.objs.size<=s'.heap.objs.size:=by obtain ⟨h',g',tk,rfl,l,_⟩:=k;exact l.1
theorem aL.bare (k:aL A W s s') (h:Ke s.gens):Ke s'.gens:=by obtain ⟨h',g',tk,rfl,l,_⟩:=k;exact l.2 h
theorem aL.like (k:aL A W s s') {b:Addr} {o:Obj} (hb:¬ W b) (e:s.heap.get? b=some o):∃ o',s'.heap.get? b=some o'/\o'.data=o.data:=by
 obtain ⟨h',g',tk,rfl,_,x⟩:=k
 rcases x b o hb e with q | ⟨_,_,o',q,r⟩
 ·exact ⟨o,q,rfl⟩
 ·exact ⟨o',q,r⟩
theorem aL.at (k:aL A W s s') {b:Addr} {o:Obj} (hb:¬ W b) (hF:¬ FA A b) (e:s.heap.get? b=some o):s'.heap.get? b=some o:=by
 obtain ⟨h',g',tk,rfl,_,x⟩:=k
 exact (x b o hb e).elim id fun q=>absurd q.1 hF
theorem aL.atD (k:aL A W s s') {b:Addr} {o:Obj} (hb:¬ W b) (hD:∀ es n,o.data≠.dict es n) (e:s.heap.get? b=some o):s'.heap.get? b=some o:=by
 obtain ⟨h',g',tk,rfl,_,x⟩:=k
 exact (x b o hb e).elim id fun ⟨_,⟨es,n,q⟩,_⟩=>absurd q (hD es n)
theorem aL.up (k:aL A0 NoW s s'):∀ b o,s.heap.get? b=some o->s'.heap.get? b=some o:=fun zz zz e=>k.at id nr e
theorem aL.lift (k:aL A0 NoW s s'):aL A W s s':=by
 obtain ⟨h',g',tk,rfl,l,x⟩:=k
 exact ⟨h',g',tk,rfl,l,fun b o zz e=>.inl ((x b o id e).elim id fun q=>absurd q.1 nr)⟩
theorem aL.mono (k:aL A W s s') (h:∀ b,W b->W' b\/s.heap.objs.size<=b):aL A W' s s':=by
 obtain ⟨h',g',tk,rfl,l,x⟩:=k
 refine ⟨h',g',tk,rfl,l,fun b o hb e=>x b o (fun hm=>?_) e⟩
 rcases h b hm with q | q
 ·exact hb q
 ·exact absurd (Ea e) (E0.mpr q)
theorem aL.frames {A':Around} (k:aL A W s s') (h:∀ b,FA A b->FA A' b\/W b\/s.heap.objs.size<=b):aL A' W s s':=by
 obtain ⟨h',g',tk,rfl,l,x⟩:=k
 refine ⟨h',g',tk,rfl,l,fun b o hb e=>(x b o hb e).imp id fun q=>⟨?_,q.2⟩⟩
 rcases h b q.1 with q | q | q
 ·exact q
 ·exact absurd q hb
 ·exact absurd (Ea e) (E0.mpr q)
theorem aL.trans {a b c:Shared} (x:aL A W a b) (y:aL A W' b c) (h:∀ d,W' d->W d\/a.heap.objs.size<=d):aL A W a c:=by
 obtain ⟨h1,g1,t1,rfl,l1,k1⟩:=x
 obtain ⟨h2,g2,t2,rfl,l2,k2⟩:=y
 refine ⟨h2,g2,t2,rfl,⟨EE l1.1 l2.1,fun q=>l2.2 (l1.2 q)⟩,fun d o hd e=>?_⟩
 have hd':¬ W' d:=fun hm=>by
  rcases h d hm with q | q
  ·exact hd q
  ·exact absurd (Ea e) (E0.mpr q)
 rcases k1 d o hd e with q | ⟨f,dd,o1,q,r⟩
 ·exact k2 d o hd' q
 ·rcases k2 d o1 hd' q with q2 | ⟨_,_,o2,q2,r2⟩
  ·exact .inr ⟨f,dd,o1,q2,r⟩
  ·exact .inr ⟨f,dd,o2,q2,r2.trans r⟩
end
structure Ext (μ μ':Mu) (n:Nat):Prop where
 grow:∃ t,μ'.objs=μ.objs++t/\∀ p∈t,∀ b∈p.2,n<=b
 sub:∀ b∈μ.hid,b∈μ'.hid
 new:∀ b∈μ'.hid,b∈μ.hid\/n<=b
theorem Ext.refl (μ:Mu) (n:Nat):Ext μ μ n:=⟨⟨[],by simp,jP⟩,fun zz h=>h,fun zz h=>.inl h⟩
theorem Ext.objs {μ μ':Mu} {n:Nat} (x:Ext μ μ' n):∃ t,μ'.objs=μ.objs++t:=let ⟨t,e,_⟩:=x.grow;⟨t,e⟩
theorem Ext.foot {μ μ':Mu} {n:Nat} (x:Ext μ μ' n):∀ b∈μ'.foot,b∈μ.foot\/n<=b:=by
 intro b hb
 obtain ⟨t,e,h⟩:=x.grow
 unfold Mu.foot at hb ⊢
 rw [e,List.flatMap_append,ED] at hb
 exact hb.imp id fun hb=>let ⟨p,hp,h2⟩:=HW.mp hb;h p hp b h2
theorem Ext.trans {a b c:Mu} {n m:Nat} (x:Ext a b n) (y:Ext b c m) (h:n<=m):Ext a c n:=by
 refine ⟨?_,fun b h=>y.sub b (x.sub b h),fun b hb=>?_⟩
 ·obtain ⟨t,e,f⟩:=x.grow;obtain ⟨t',e',f'⟩:=y.grow
  refine ⟨t++t',by rw [e',e,FH],fun p hp b hb=>?_⟩
  rcases ED.mp hp with q | q
  ·exact f p q b hb
  ·exact EE h (f' p q b hb)
 ·rcases y.new b hb with q | q
  ·exact x.new b q
  ·exact .inr (EE h q)
theorem Ext.get {μ μ':Mu} {n i:Nat} {p:Addr×List Addr} (x:Ext μ μ' n) (h:μ.objs[i]? = some p):μ'.objs[i]? = some p:=by
 obtain ⟨t,e⟩:=x.objs
 rw [e,Ed (EI.mp h).1];exact h
theorem lE {A:Around} {μ μ':Mu} {W:Addr->Prop} {s s':Shared} (x:Ext μ μ' s.heap.objs.size) (k:aL A W s s') (hW:∀ b,W b\/FA A b->b∈μ.hid\/s.heap.objs.size<=b) :
  ∀ b o,(cK μ.hid s.heap).get? b=some o->(cK μ'.hid s'.heap).get? b=some o:=by
 intro b o e
 have hb:b∉μ.hid:=fun hm=>by rw [Ht _ hm] at e;cases e
 have e':=Ex _ e
 have hl:=Ea e'
 refine F9 _ (k.at (fun hm=>?_) (fun hm=>?_) e') fun hm=>?_
 ·rcases hW b (.inl hm) with q | q
  ·exact hb q
  ·exact absurd hl (E0.mpr q)
 ·rcases hW b (.inr hm) with q | q
  ·exact hb q
  ·exact absurd hl (E0.mpr q)
 ·rcases x.new b hm with q | q
  ·exact hb q
  ·exact absurd hl (E0.mpr q)
theorem uI {h h':Heap} (k:∀ b o,(∀ vs,o.data≠.fields vs)->h.get? b=some o->h'.get? b=some o) {v:Value} {d:PyData} {as:List Addr} (r:Reads h v d as):Reads h' v d as:=by
 have key:∀ {b:Addr} {o:Obj},(∀ vs,o.data≠.fields vs)->h.get? b=some o->h'.get? b=some o:=fun q e=>k _ _ q e
 refine Reads.rec (motive_1:=fun v d as zz=>Reads h' v d as) (motive_2:=fun v d as zz=>FW h' v d as) .none .bool .int .str ?_ ?_ ?_ .nil ?_ r
 ·intro a o vs n xs as ho hc hd _ ih;exact .list (key (fun zz q=>nc LJ (hd.symm.trans q) rfl) ho) hc hd ih
 ·intro a o vs n xs as ho hc hd _ ih;exact .tuple (key (fun zz q=>nc LJ (hd.symm.trans q) rfl) ho) hc hd ih
 ·intro a o es n kvs as bs ho hc hd _ _ i1 i2;exact .dict (key (fun zz q=>nc LJ (hd.symm.trans q) rfl) ho) hc hd i1 i2
 ·intro v vs d ds as bs _ _ i1 i2;exact .cons i1 i2
structure Mov (μ μ':Mu) (h h':Heap):Prop where
 obj:∀ (i:Nat) p,μ.objs[i]? = some p->μ'.objs[i]? = some p
 rd:∀ {v:Value} {d:PyData} {as:List Addr},Reads (cK μ.hid h) v d as->Reads (cK μ'.hid h') v d as
theorem Mov.trans {a b c:Mu} {h1 h2 h3:Heap} (x:Mov a b h1 h2) (y:Mov b c h2 h3):Mov a c h1 h3:=⟨fun i p e=>y.obj i p (x.obj i p e),fun r=>y.rd (x.rd r)⟩
theorem Mov.eqL {a a' b:Mu} {h1 h2:Heap} (x:Mov a b h1 h2) (h:a.hid=a'.hid) (o:a.objs=a'.objs):Mov a' b h1 h2:=⟨fun i p e=>x.obj i p (o▸e),fun r=>x.rd (h▸r)⟩
theorem Mov.eqR {a b b':Mu} {h1 h2:Heap} (x:Mov a b h1 h2) (h:b.hid=b'.hid) (o:b.objs=b'.objs):Mov a b' h1 h2:=⟨fun i p e=>o▸x.obj i p e,fun r=>h▸x.rd r⟩
section
variable {μ μ':Mu} {h h':Heap} (m:Mov μ μ' h h')
include m
theorem af.move {a:AV} {v:Value} (r:af μ h a v):af μ' h' a v:=by
 cases a with
 | dat d=>obtain ⟨as,r⟩:=r;exact ⟨as,m.rd r⟩
 | ref i=>obtain ⟨p,e,q⟩:=r;exact ⟨p,m.obj i p e,q⟩
 | con c=>exact r
theorem aw.move {as:List AV} {vs:List Value} (r:aw μ h as vs):aw μ' h' as vs:=aw.ind r trivial fun zz zz zz zz hv zz ih=>⟨af.move m hv,ih⟩
theorem cX.move {P:Params} {as:List (Str×AV)} {vs:List GQ} (r:cX P μ h as vs):cX P μ' h' as vs:=cX.ind r trivial fun zz zz zz zz zz hv zz ih=>⟨⟨hv.1,hv.2.1,af.move m hv.2.2⟩,ih⟩
theorem eM.move {a:Option AV} {v:Option Value} (r:eM μ h a v):eM μ' h' a v:=by
 cases a with
 | none=>cases v with
  | none=>exact trivial
  | some _=>exact r.elim
 | some _=>cases v with
  | none=>exact r.elim
  | some _=>exact af.move m r
theorem cw.move {as:List (Option AV)} {vs:List (Option Value)} (r:cw μ h as vs):cw μ' h' as vs:=cw.ind r trivial fun zz zz zz zz hv zz ih=>⟨eM.move m hv,ih⟩
theorem cD.move {as:List (Int×AV)} {vs:List (Int×Value)} (r:cD μ h as vs):cD μ' h' as vs:=cD.ind r trivial fun zz zz zz zz zz hv ih=>⟨⟨rfl,af.move m hv⟩,ih⟩
theorem ef.move {C:Cx} {p:Addr×List Addr} {o:AO} (hp:∀ b∈p.2,∀ o,h.get? b=some o->h'.get? b=some o) (r:ef C μ h p o):ef C μ' h' p o:=by
 cases o with
 | list xs=>obtain ⟨e,vs,l,r⟩:=r;exact ⟨e,vs,l.at (hp _ (by rw [e];exact .head _)),aw.move m r⟩
 | inst c xs=>
  obtain ⟨dx,es,n,e,ne,o1,o2,r⟩:=r;exact ⟨dx,es,n,e,ne,hp _ (by rw [e];exact .head _) _ o1,hp _ (by rw [e];exact .tail _ (.head _)) _ o2,cX.move m r⟩
 | slot c xs=>obtain ⟨vs,dx,e,ne,o1,o2,r⟩:=r;exact ⟨vs,dx,e,ne,hp _ (by rw [e];exact .head _) _ o1,hp _ (by rw [e];exact .tail _ (.head _)) _ o2,cw.move m r⟩
 | dict xs=>obtain ⟨e,kvs,⟨o,es,ep,d,r1⟩,r⟩:=r;exact ⟨e,kvs,⟨o,es,ep,hp _ (by rw [e];exact .head _) _ d,r1⟩,cD.move m r⟩
 | set xs=>obtain ⟨e,o,es,ep,t,ho,r⟩:=r;exact ⟨e,o,es,ep,t,hp _ (by rw [e];exact .head _) _ ho,r⟩
 | iter l n=>obtain ⟨e,q,hq,ho⟩:=r;exact ⟨e,q,m.obj _ _ hq,hp _ (by rw [e];exact .head _) _ ho⟩
 | next l=>obtain ⟨e,q,hq,ho⟩:=r;exact ⟨e,q,m.obj _ _ hq,hp _ (by rw [e];exact .head _) _ ho⟩
 | deq=>obtain ⟨e,o,ho⟩:=r;exact ⟨e,o,hp _ (by rw [e];exact .head _) _ ho⟩
 | sdict xs=>obtain ⟨e,o,es,ep,d,r1⟩:=r;exact ⟨e,o,es,ep,hp _ (by rw [e];exact .head _) _ d,r1⟩
 | raw o=>obtain ⟨e,ho⟩:=r;exact ⟨e,hp _ (by rw [e];exact .head _) _ ho⟩
 | code a=>obtain ⟨e,e2,ps,ho,r⟩:=r;exact ⟨e,e2,ps,hp _ (by rw [e];exact .head _) _ ho,r⟩
end
theorem ef.there {C:Cx} {μ:Mu} {h:Heap} {p:Addr×List Addr} {o:AO} (r:ef C μ h p o):∀ b∈p.2,∃ ob,h.get? b=some ob:=by
 intro b hb
 cases o with
 | list xs=>obtain ⟨e,vs,⟨n,l⟩,_⟩:=r;rw [e] at hb;exact ⟨_,EG.mp hb▸l⟩
 | inst c xs=>
  obtain ⟨dx,es,n,e,ne,o1,o2,r⟩:=r
  rw [e] at hb
  rcases ES.mp hb with rfl | hb
  ·exact ⟨_,o1⟩
  ·exact ⟨_,EG.mp hb▸o2⟩
 | slot c xs=>
  obtain ⟨vs,dx,e,ne,o1,o2,r⟩:=r
  rw [e] at hb
  rcases ES.mp hb with rfl | hb
  ·exact ⟨_,o1⟩
  ·exact ⟨_,EG.mp hb▸o2⟩
 | dict xs=>obtain ⟨e,kvs,⟨o,es,ep,d,r1⟩,r⟩:=r;rw [e] at hb;exact ⟨_,EG.mp hb▸d⟩
 | set xs=>obtain ⟨e,o,es,ep,t,ho,r⟩:=r;rw [e] at hb;exact ⟨_,EG.mp hb▸ho⟩
 | iter l n=>obtain ⟨e,q,hq,ho⟩:=r;rw [e] at hb;exact ⟨_,EG.mp hb▸ho⟩
 | next l=>obtain ⟨e,q,hq,ho⟩:=r;rw [e] at hb;exact ⟨_,EG.mp hb▸ho⟩
 | deq=>obtain ⟨e,o,ho⟩:=r;rw [e] at hb;exact ⟨_,EG.mp hb▸ho⟩
 | sdict xs=>obtain ⟨e,o,es,ep,d,r1⟩:=r;rw [e] at hb;exact ⟨_,EG.mp hb▸d⟩
 | raw o=>obtain ⟨e,ho⟩:=r;rw [e] at hb;exact ⟨_,EG.mp hb▸ho⟩
 | code a=>obtain ⟨e,_,_,ho,_⟩:=r;rw [e] at hb;exact ⟨_,EG.mp hb▸ho⟩
section
variable {A:Around} {μ μ':Mu} {W:Addr->Prop} {s s':Shared} (x:Ext μ μ' s.heap.objs.size) (k:aL A W s s') (hW:∀ b,W b\/FA A b->b∈μ.hid\/s.heap.objs.size<=b)
include x k hW
theorem Mov.of:Mov μ μ' s.heap s'.heap:=⟨fun zz zz e=>x.get e,fun r=>PyProof.Rows.Reads.keeps (lE x k hW) r⟩
theorem af.mono {a:AV} {v:Value} (h:af μ s.heap a v):af μ' s'.heap a v:=h.move (.of x k hW)
theorem aw.mono {as:List AV} {vs:List Value} (h:aw μ s.heap as vs):aw μ' s'.heap as vs:=aw.move (.of x k hW) h
theorem cX.mono {P:Params} {as:List (Str×AV)} {vs:List GQ} (h:cX P μ s.heap as vs):cX P μ' s'.heap as vs:=cX.move (.of x k hW) h
theorem cw.mono {as:List (Option AV)} {vs:List (Option Value)} (h:cw μ s.heap as vs):cw μ' s'.heap as vs:=cw.move (.of x k hW) h
theorem cD.mono {as:List (Int×AV)} {vs:List (Int×Value)} (h:cD μ s.heap as vs):cD μ' s'.heap as vs:=cD.move (.of x k hW) h
theorem ef.mono {C:Cx} {p:Addr×List Addr} {o:AO} (hp:∀ b∈p.2,∀ o,s.heap.get? b=some o->s'.heap.get? b=some o) (h:ef C μ s.heap p o):ef C μ' s'.heap p o:=ef.move (.of x k hW) hp h
end
theorem Mov.records {A:Around} {μ:Mu} {W:Addr->Prop} {s s':Shared} (k:aL A W s s') (hW:∀ b,W b->∃ o vs,s.heap.get? b=some o/\o.data=.fields vs) (hF:∀ b,FA A b->b∈μ.hid):Mov μ μ s.heap s'.heap:=
 ⟨fun zz zz e=>e,fun r=>uI (fun b o hd e=>by
  have hb:b∉μ.hid:=fun hm=>by rw [Ht _ hm] at e;cases e
  have e':=Ex _ e;refine F9 _ (k.at (fun hw=>?_) (fun hf=>hb (hF b hf)) e') hb
  obtain ⟨o',vs,ho',hd'⟩:=hW b hw
  rw [e'] at ho';cases ho'
  exact hd vs hd') r⟩
structure Sim (C:Cx) (μ:Mu) (σ:aC) (h:Heap):Prop where
 len:μ.objs.length=σ.length
 rep:∀ (i:Nat) p o,μ.objs[i]? = some p->σ[i]? = some o->ef C μ h p o
 foot:∀ b∈μ.foot,b∈μ.hid
 apart:μ.objs.Pairwise fun p q=>∀ b∈p.2,b∉q.2
 self:∀ p∈μ.objs,p.1∈p.2
set_option genInjectivity false in
structure Lv where
 q:Bool
 n:Nat
 fz:List Nat
structure Frs (A:Around) (μ:Mu) (h:Heap):Prop where
 all:∃ l,A.frames=some l/\∀ env∈l,env.scope.kind≠.module/\∃ L,env.frame=some L/\L∈μ.hid/\L∉μ.foot/\∃ o es n,h.get? L=some o/\o.data=.dict es n
theorem Frs.fa {A:Around} {μ:Mu} {h:Heap} (f:Frs A μ h) {b:Addr} (hb:FA A b):b∈μ.hid/\b∉μ.foot/\∃ o es n,h.get? b=some o/\o.data=.dict es n:=by
 obtain ⟨l,e,H⟩:=f.all
 obtain ⟨l',e',env,hm,hf⟩:=hb
 rw [e] at e';cases e'
 obtain ⟨_,L,hL,r⟩:=H env hm
 rw [hf] at hL;cases hL
 exact r
structure aT (C:Cx) (l:Lv) (A:Around) (μ:Mu) (σ:aC) (s:Shared):Prop where
 quiet:l.q=true->A.handled=none
 frz:μ.fz=l.fz
 room:A.depth+4 * l.n+20<recursionLimit
 units:A.units+16 * l.n+200<cLine
 top:C.h0.objs.size<=s.heap.objs.size
 base:∀ b o,C.h0.get? b=some o->s.heap.get? b=some o
 low:∀ b∈μ.hid,C.h0.get? b=none
 lt:∀ b∈μ.hid,b<s.heap.objs.size
 sim:Sim C μ σ s.heap
 frs:Frs A μ s.heap
noncomputable def dq (env:Env) (m:Str->Option Value) (μ:Mu) (h:Heap) (x:Str) (a:AV):Prop:=
 ∃ v,af μ h a v/\((env.kindOf x=some .local/\m x=some v)\/((env.kindOf x=some .cell\/env.kindOf x=some .free)/\∃ c,env.cells.lookup x=some c/\h.IsCell c (some v)))
noncomputable abbrev aE:=List (Str×Eb)
noncomputable abbrev aO:=List (Option AV)
noncomputable def fB (env:Env) (m:Str->Option Value) (μ:Mu) (h:Heap):aE->aO->Prop
 | (x,_) :: N,some a :: ρ=>dq env m μ h x a/\fB env m μ h N ρ
 | _ :: N,none :: ρ=>fB env m μ h N ρ
 | _,[]=>True
 | [],_ :: _=>False
structure aM (A:Around) (N:aE) (env:Env) (μ:Mu) (ρ:aO) (h:Heap):Prop where
 fn:env.scope.kind=.function
 glob:env.globals=Gk
 blt:env.builtins=H5
 nodup:(N.map (·.1)).Nodup
 plain:∀ p∈N,(p.1==("__debug__" : Str))=false/\(p.1==("__classdict__" : Str))=false
 kinds:∀ p∈N,env.kindOf p.1=some p.2\/(p.2=.free/\env.kindOf p.1=some .cell)
 hidL:env.locals∈μ.hid
 freeL:env.locals∉μ.foot
 cellsIn:∀ p∈N,p.2=.cell\/p.2=.free->∃ c,env.cells.lookup p.1=some c
 cells:∀ p∈env.cells,p.2∈μ.hid/\p.2∉μ.foot/\p.2≠env.locals/\∃ v,h.IsCell p.2 v
 apart:∀ p∈env.cells,∀ q∈env.cells,p.2=q.2->p.1=q.1
 fe:∃ L,env.frame=some L/\FA A L
 vals:∃ m,h.Ns env.locals m/\fB env m μ h N ρ
noncomputable def WS (μ:Mu) (N:aE) (env:Env):Addr->Prop:=fun b=>(∃ i p,μ.objs[i]? = some p/\i∉μ.fz/\b∈p.2)\/b=env.locals\/∃ x,(x,Eb.cell)∈N/\env.cells.lookup x=some b
noncomputable def WC (μ:Mu):Addr->Prop:=fun b=>∃ i p,μ.objs[i]? = some p/\i∉μ.fz/\b∈p.2
theorem bG {α:Type} {x:Str} {c:α} {l:List (Str×α)} (h:l.lookup x=some c):(x,c)∈l:=by
 induction l with
 | nil=>cases h
 | cons p l ih=>
  obtain ⟨y,d⟩:=p
  rw [GR] at h
  cases q:x==y with
  | true=>
   rw [q] at h
   cases h
   rw [eq_of_beq q];exact .head _
  | false=>rw [q] at h;exact .tail _ (ih h)
theorem WC.foot {μ:Mu} {b:Addr} (h:WC μ b):b∈μ.foot:=let ⟨_,_,hp,_,hb⟩:=h;aj (EK hp) hb
theorem WC.ext {μ μ':Mu} {n:Nat} (x:Ext μ μ' n) (hz:μ'.fz=μ.fz) {b:Addr} (h:WC μ' b):WC μ b\/n<=b:=by
 obtain ⟨i,p,hp,hi,hb⟩:=h
 obtain ⟨t,e,f⟩:=x.grow
 by_cases hlt:i<μ.objs.length
 ·rw [e,Ed hlt] at hp
  exact .inl ⟨i,p,hp,hz▸hi,hb⟩
 ·rw [e,EZ (E0.mp hlt)] at hp
  exact .inr (f p (EK hp) b hb)
theorem noW {P:Addr->Prop}:∀ b,NoW b\/FA A0 b->P b:=fun b hb=>hb.elim (fun h=>h.elim) fun h=>absurd h nr
theorem aT.fw {C:Cx} {lv:Lv} {A:Around} {μ:Mu} {σ:aC} {s:Shared} {W:Addr->Prop} {n:Nat} (G:aT C lv A μ σ s) (h:∀ b,W b->b∈μ.hid\/n<=b):∀ b,W b\/FA A b->b∈μ.hid\/n<=b:=
 fun b hb=>hb.elim (h b) fun q=>.inl (G.frs.fa q).1
theorem aT.notFA {C:Cx} {lv:Lv} {A:Around} {μ:Mu} {σ:aC} {s:Shared} {b:Addr} (G:aT C lv A μ σ s) (h:b∈μ.foot):¬ FA A b:=fun q=>(G.frs.fa q).2.1 h
theorem aT.notFA0 {C:Cx} {lv:Lv} {A:Around} {μ:Mu} {σ:aC} {s:Shared} {b:Addr} {o:Obj} (G:aT C lv A μ σ s) (h:C.h0.get? b=some o):¬ FA A b:=fun q=>by rw [G.low b (G.frs.fa q).1] at h;cases h
theorem dE {C:Cx} {N:aE} {env:Env} {μ:Mu} {σ:aC} {ρ:aO} {h h':Heap} (G:Sim C μ σ h) (F:aM A N env μ ρ h'):∀ b,WS μ N env b->b∈μ.hid:=by
 intro b hb
 rcases hb with q | rfl | ⟨x,_,hl⟩
 ·exact G.foot b (WC.foot q)
 ·exact F.hidL
 ·exact (F.cells (x,b) (bG hl)).1
theorem bi {N:aE} {env:Env} {μ μ':Mu} {n:Nat} (x:Ext μ μ' n) (hz:μ'.fz=μ.fz):∀ b,WS μ' N env b->WS μ N env b\/n<=b:=by
 intro b hb
 rcases hb with q | q
 ·exact (WC.ext x hz q).imp .inl id
 ·exact .inl (.inr q)
noncomputable def bj (N:aE) (ρ:aO) (x:Str) (a:AV):Prop:=∀ P:aE->aO->Prop,(∀ k N ρ,P ((x,k) :: N) (some a :: ρ))->(∀ p N o ρ,P N ρ->P (p :: N) (o :: ρ))->P N ρ
noncomputable def bS (N:aE) (ρ:aO) (x:Str) (k:Eb) (a:AV) (ρ':aO):Prop:=∀ P:aE->aO->aO->Prop,(∀ N o ρ,P ((x,k) :: N) (o :: ρ) (some a :: ρ))->(∀ p N o ρ ρ',P N ρ ρ'->P (p :: N) (o :: ρ) (o :: ρ'))->P N ρ ρ'
section
variable {N:aE} {ρ ρ':aO} {x:Str} {a:AV} {k:Eb} {p p1 p2 p3 p4 p5:Str×Eb} {o o1 o2 o3 o4 o5:Option AV}
theorem bj.here:bj ((x,k) :: N) (some a :: ρ) x a:=fun zz h zz=>h _ _ _
theorem bj.there (l:bj N ρ x a):bj (p :: N) (o :: ρ) x a:=fun P h t=>t _ _ _ _ (l P h t)
theorem ld1:bj (p :: (x,k) :: N) (o :: some a :: ρ) x a:=.there .here
theorem ld2:bj (p :: p1 :: (x,k) :: N) (o :: o1 :: some a :: ρ) x a:=.there ld1
theorem ld3:bj (p :: p1 :: p2 :: (x,k) :: N) (o :: o1 :: o2 :: some a :: ρ) x a:=.there ld2
theorem ld4:bj (p :: p1 :: p2 :: p3 :: (x,k) :: N) (o :: o1 :: o2 :: o3 :: some a :: ρ) x a:=.there ld3
theorem ld5:bj (p :: p1 :: p2 :: p3 :: p4 :: (x,k) :: N) (o :: o1 :: o2 :: o3 :: o4 :: some a :: ρ) x a:=.there ld4
theorem ld6:bj (p :: p1 :: p2 :: p3 :: p4 :: p5 :: (x,k) :: N) (o :: o1 :: o2 :: o3 :: o4 :: o5 :: some a :: ρ) x a:=.there ld5
theorem bS.here:bS ((x,k) :: N) (o :: ρ) x k a (some a :: ρ):=fun zz h zz=>h _ _ _
theorem bS.there (l:bS N ρ x k a ρ'):bS (p :: N) (o :: ρ) x k a (o :: ρ'):=fun P h t=>t _ _ _ _ _ (l P h t)
theorem sa1:bS (p1 :: (x,k) :: N) (o1 :: o :: ρ) x k a (o1 :: some a :: ρ):=.there .here
theorem sa2:bS (p1 :: p2 :: (x,k) :: N) (o1 :: o2 :: o :: ρ) x k a (o1 :: o2 :: some a :: ρ):=.there sa1
theorem sa3:bS (p1 :: p2 :: p3 :: (x,k) :: N) (o1 :: o2 :: o3 :: o :: ρ) x k a (o1 :: o2 :: o3 :: some a :: ρ):=.there sa2
theorem sa4:bS (p1 :: p2 :: p3 :: p4 :: (x,k) :: N) (o1 :: o2 :: o3 :: o4 :: o :: ρ) x k a (o1 :: o2 :: o3 :: o4 :: some a :: ρ):=.there sa3
theorem sa5:bS (p1 :: p2 :: p3 :: p4 :: p5 :: (x,k) :: N) (o1 :: o2 :: o3 :: o4 :: o5 :: o :: ρ) x k a (o1 :: o2 :: o3 :: o4 :: o5 :: some a :: ρ):=.there sa4
theorem bS.mem (h:bS N ρ x k a ρ'):(x,k)∈N:=h (fun N zz zz=>(x,k)∈N) (fun zz zz zz=>.head _) fun zz zz zz zz zz h=>.tail _ h
theorem bj.mem (h:bj N ρ x a):∃ k,(x,k)∈N:=h (fun N zz=>∃ k,(x,k)∈N) (fun k zz zz=>⟨k,.head _⟩) fun zz zz zz zz h=>h.imp fun zz h=>.tail _ h
end
section
variable {env:Env} {m m':Str->Option Value} {μ μ':Mu} {h h':Heap}
theorem bj.var {N:aE} {ρ:aO} {x:Str} {a:AV} (l:bj N ρ x a):fB env m μ h N ρ->dq env m μ h x a:=
 l (fun N ρ=>fB env m μ h N ρ->dq env m μ h x a) (fun zz zz zz v=>v.1) fun p N o ρ ih v=>by
  cases o with
  | none=>exact ih v
  | some b=>exact ih v.2
theorem fB.map:∀ {N:aE} {ρ:aO},(∀ p∈N,∀ a,dq env m μ h p.1 a->dq env m' μ' h' p.1 a)->fB env m μ h N ρ->fB env m' μ' h' N ρ:=by
 intro N
 induction N with
 | nil=>
  intro ρ _ v
  cases ρ with
  | nil=>trivial
  | cons _ _=>exact v
 | cons p N ih=>
  intro ρ f v
  cases ρ with
  | nil=>trivial
  | cons o ρ=>cases o with
   | none=>exact ih (fun p hp=>f p (.tail _ hp)) v
   | some a=>exact ⟨f p (.head _) _ v.1,ih (fun p hp=>f p (.tail _ hp)) v.2⟩
theorem bS.vars {N:aE} {ρ ρ':aO} {x:Str} {k:Eb} {a:AV} (l:bS N ρ x k a ρ') (nd:(N.map (·.1)).Nodup) (hx:dq env m' μ' h' x a) (ho:∀ y b,y≠x->(∃ k,(y,k)∈N)->dq env m μ h y b->dq env m' μ' h' y b)
  (v:fB env m μ h N ρ):fB env m' μ' h' N ρ':=by
 refine (l (fun N ρ ρ'=>(x,k)∈N/\((N.map (·.1)).Nodup->(∀ y b,y≠x->(∃ k,(y,k)∈N)->dq env m μ h y b->dq env m' μ' h' y b)->fB env m μ h N ρ->fB env m' μ' h' N ρ')) (fun N o ρ=>⟨.head _,fun nd ho v=>?_⟩) fun p N o ρ ρ' ih=>⟨.tail _ ih.1,fun nd ho v=>?_⟩).2 nd ho v<;>rw [E6,GF] at nd
 ·have' r:fB env m μ h N ρ:=by cases o with
   | none=>exact v
   | some b=>exact v.2
  exact ⟨hx,r.map fun p hp a w=>ho _ a (fun e=>nd.1 (e▸EL.mpr ⟨p,hp,rfl⟩)) ⟨p.2,.tail _ hp⟩ w⟩
 ·have ho':∀ y b,y≠x->(∃ k,(y,k)∈N)->dq env m μ h y b->dq env m' μ' h' y b:=fun y b ne hk=>ho y b ne (hk.imp fun zz h=>.tail _ h)
  cases o with
  | none=>exact ih.2 nd.2 ho' v
  | some b=>exact ⟨ho _ b (fun e=>nd.1 (e▸EL.mpr ⟨(x,k),ih.1,rfl⟩)) ⟨p.2,.head _⟩ v.1,ih.2 nd.2 ho' v.2⟩
end
noncomputable def Sub (ρ ρ':aO):Prop:=∀ P:aO->aO->Prop,(∀ ρ,P ρ [])->(∀ o ρ ρ',P ρ ρ'->P (o :: ρ) (o :: ρ'))->(∀ o ρ ρ',P ρ ρ'->P (o :: ρ) (none :: ρ'))->P ρ ρ'
theorem Sub.nil {ρ:aO}:Sub ρ []:=fun zz h zz zz=>h _
theorem Sub.same {o:Option AV} {ρ ρ':aO} (s:Sub ρ ρ'):Sub (o :: ρ) (o :: ρ'):=fun P a b c=>b _ _ _ (s P a b c)
theorem Sub.drop {o:Option AV} {ρ ρ':aO} (s:Sub ρ ρ'):Sub (o :: ρ) (none :: ρ'):=fun P a b c=>c _ _ _ (s P a b c)
theorem Sub.refl {ρ:aO}:Sub ρ ρ:=by
 induction ρ with
 | nil=>exact .nil
 | cons _ _ ih=>exact .same ih
theorem Sub.vars {env:Env} {m:Str->Option Value} {μ:Mu} {h:Heap} {ρ ρ':aO} (s:Sub ρ ρ'):∀ {N:aE},fB env m μ h N ρ->fB env m μ h N ρ':=by
 refine s (fun ρ ρ'=>∀ {N:aE},fB env m μ h N ρ->fB env m μ h N ρ') (fun zz N zz=>by cases N<;>trivial) (fun o ρ ρ' ih N v=>?_) fun o ρ ρ' ih N v=>?_
 ·cases N with
  | nil=>exact v
  | cons p N=>cases o with
   | none=>exact ih v
   | some b=>exact ⟨v.1,ih v.2⟩
 ·cases N with
  | nil=>exact v.elim
  | cons p N=>cases o with
   | none=>exact ih v
   | some b=>exact ih v.2
section
variable {C:Cx} {lv:Lv} {A:Around} {N:aE} {env:Env} {μ μ':Mu} {σ σ':aC} {ρ ρ':aO} {s s':Shared}
theorem dq.mono {m:Str->Option Value} {x:Str} {a:AV} {W:Addr->Prop} (e:Ext μ μ' s.heap.objs.size) (k:aL A W s s') (hW:∀ b,W b\/FA A b->b∈μ.hid\/s.heap.objs.size<=b) (hc:∀ c,env.cells.lookup x=some c->∀ o,s.heap.get? c=some o->∃ o',s'.heap.get? c=some o'/\o'.data=o.data)
  (h:dq env m μ s.heap x a):dq env m μ' s'.heap x a:=by
 obtain ⟨v,r,q⟩:=h
 refine ⟨v,af.mono e k hW r,q.imp id fun ⟨k1,c,hl,o,ho,hd⟩=>let ⟨o',ho',e'⟩:=hc c hl o ho;⟨k1,c,hl,o',ho',e'.trans hd⟩⟩
theorem aM.sub (F:aM A N env μ ρ s.heap) (h:Sub ρ ρ'):aM A N env μ ρ' s.heap:=
 let ⟨m,hn,v⟩:=F.vals;⟨F.fn,F.glob,F.blt,F.nodup,F.plain,F.kinds,F.hidL,F.freeL,F.cellsIn,F.cells,F.apart,F.fe,m,hn,h.vars v⟩
theorem aM.ext {A1:Around} {W:Addr->Prop} (F:aM A N env μ ρ s.heap) (x:Ext μ μ' s.heap.objs.size) (k:aL A1 W s s') (hW:∀ b,W b\/FA A1 b->b∈μ.hid\/s.heap.objs.size<=b) (hL:¬ W env.locals) (hC:∀ p∈env.cells,¬ W p.2):aM A N env μ' ρ s'.heap:=by
 obtain ⟨m,hn,hv⟩:=F.vals
 have hf:∀ b,b<s.heap.objs.size->b∉μ.foot->b∉μ'.foot:=fun b hb h1 h2=>(x.foot b h2).elim h1 fun q=>absurd hb (E0.mpr q)
 exact ⟨F.fn,F.glob,F.blt,F.nodup,F.plain,F.kinds,x.sub _ F.hidL,hf _ hn.lt F.freeL,F.cellsIn,fun p hp=>let ⟨a,b,c,v,o,ho,d⟩:=F.cells p hp;let ⟨o',ho',d'⟩:=k.like (hC p hp) ho;⟨x.sub _ a,hf _ (Ea ho) b,c,v,o',ho',d'.trans d⟩,F.apart,F.fe,m,
  let ⟨o,es,ep,e,d,r⟩:=hn;let ⟨o',e',d'⟩:=k.like hL e;⟨o',es,ep,e',d'.trans d,r⟩,hv.map fun p zz a h=>h.mono x k hW fun c hc o e=>k.like (hC (p.1,c) (bG hc)) e⟩
structure aS (C:Cx) (lv:Lv) (A:Around) (N:aE) (env:Env) (μ:Mu) (s:Shared) (ρ:aO) (σ:aC) (μ':Mu) (s':Shared):Prop where
 fz0:μ.fz=lv.fz
 good:aT C lv A μ' σ s'
 fr:aM A N env μ' ρ s'.heap
 ext:Ext μ μ' s.heap.objs.size
 kept:aL A (WS μ N env) s s'
theorem aS.refl (G:aT C lv A μ σ s) (F:aM A N env μ ρ s.heap):aS C lv A N env μ s ρ σ μ s:=⟨G.frz,G,F,Ext.refl _ _,aL.refl _ _ _⟩
theorem aS.trans {μ₁ μ₂:Mu} {s₁ s₂:Shared} {ρ₁ ρ₂:aO} {σ₁ σ₂:aC} (x:aS C lv A N env μ s ρ₁ σ₁ μ₁ s₁) (y:aS C lv A N env μ₁ s₁ ρ₂ σ₂ μ₂ s₂):aS C lv A N env μ s ρ₂ σ₂ μ₂ s₂:=
 ⟨x.fz0,y.good,y.fr,x.ext.trans y.ext x.kept.le,x.kept.trans y.kept (bi x.ext (x.good.frz.trans x.fz0.symm))⟩
theorem aS.sub (x:aS C lv A N env μ s ρ σ μ' s') (h:Sub ρ ρ'):aS C lv A N env μ s ρ' σ μ' s':=⟨x.fz0,x.good,x.fr.sub h,x.ext,x.kept⟩
theorem aS.val {v:Value} {a:AV} (G:aT C lv A μ σ s) (F:aM A N env μ ρ s.heap) (x:aS C lv A N env μ s ρ' σ' μ' s') (h:af μ s.heap a v):af μ' s'.heap a v:=
 af.mono x.ext x.kept (G.fw fun b hb=>.inl (dE G.sim F b hb)) h
theorem Sim.grow {s s':Shared} (S:Sim C μ σ s.heap) (k:aL A0 NoW s s'):Sim C μ σ s'.heap:=
 ⟨S.len,fun i p o hp ho=>(S.rep i p o hp ho).mono (Ext.refl μ _) k noW fun b zz o e=>k.up b o e,S.foot,S.apart,S.self⟩
theorem Frs.mono {W:Addr->Prop} (f:Frs A μ s.heap) (x:Ext μ μ' s.heap.objs.size) (k:aL A W s s') (hl:∀ b∈μ.hid,b<s.heap.objs.size) (hW:∀ b,FA A b->W b->∃ o es n,s'.heap.get? b=some o/\o.data=.dict es n):Frs A μ' s'.heap:=by
 obtain ⟨l,e,H⟩:=f.all
 refine ⟨l,e,fun env hm=>?_⟩
 obtain ⟨a,L,hL,h1,h2,o,es,n,ho,hd⟩:=H env hm
 refine ⟨a,L,hL,x.sub _ h1,fun q=>(x.foot _ q).elim h2 fun z=>absurd (hl _ h1) (E0.mpr z),?_⟩
 by_cases hw:W L
 ·exact hW L ⟨l,e,env,hm,hL⟩ hw
 ·obtain ⟨o',ho',hd'⟩:=k.like hw ho
  exact ⟨o',es,n,ho',hd'.trans hd⟩
theorem Frs.up {n:Nat} (f:Frs A μ s.heap) (x:Ext μ μ' s.heap.objs.size) (k:aL A0 NoW s s') (hl:∀ b∈μ.hid,b<s.heap.objs.size):Frs A μ' s'.heap:=f.mono x (k.lift (W:=NoW)) hl fun zz zz h=>h.elim
theorem aT.grow (G:aT C lv A μ σ s) (k:aL A0 NoW s s'):aT C lv A μ σ s':=
 ⟨G.quiet,G.frz,G.room,G.units,EE G.top k.le,fun b o e=>k.up b o (G.base b o e),G.low,fun b hb=>E5 (G.lt b hb) k.le,G.sim.grow k,G.frs.up (n:=0) (Ext.refl _ _) k G.lt⟩
theorem aM.grow (F:aM A N env μ ρ s.heap) (k:aL A0 NoW s s'):aM A N env μ ρ s'.heap:=F.ext (Ext.refl _ _) k noW id fun zz zz hb=>hb
theorem aS.grow (G:aT C lv A μ σ s) (F:aM A N env μ ρ s.heap) (k:aL A0 NoW s s'):aS C lv A N env μ s ρ σ μ s':=
 ⟨G.frz,G.grow k,F.grow k,Ext.refl _ _,k.lift⟩
theorem ab {h':Heap} {tk:Nat} (l:s.heap.objs.size<=h'.objs.size) (k:∀ b o,s.heap.get? b=some o->h'.get? b=some o):aL A0 NoW s {s with heap:=h',toks:=tk}:=⟨h',s.gens,tk,rfl,⟨l,id⟩,fun b o zz e=>.inl (k b o e)⟩
theorem bB (o:Obj) (tk:Nat):aL A0 NoW s {s with heap:=s.heap.push o,toks:=tk}:=ab (by rw [ER];exact Eg _) fun zz zz e=>EJ _ e
theorem ae (tk:Nat):aL A0 NoW s {s with toks:=tk}:=ab (EH _) fun zz zz e=>e
theorem aT.inK (ok:C.Ok) (G:aT C lv A μ σ s):C.K.In s.heap:=fun a o e=>G.base _ _ (ok.K a o e)
theorem ku {p q:Addr×List Addr} {i j:Nat} {l:List (Addr×List Addr)} (h:l.Pairwise fun p q=>∀ b∈p.2,b∉q.2) (hi:l[i]? = some p) (hj:l[j]? = some q) (ne:i≠j):∀ b∈p.2,b∉q.2:=by
 obtain ⟨li,ei⟩:=EI.mp hi
 obtain ⟨lj,ej⟩:=EI.mp hj
 rcases Nat.lt_or_gt_of_ne ne with q | q
 ·have:=J6.mp h i j li lj q
  rw [ei,ej] at this;exact this
 ·have:=J6.mp h j i lj li q
  rw [ei,ej] at this;exact fun b hb hb'=>this b hb' hb
theorem aT.turn {W:Addr->Prop} (G:aT C lv A μ σ s) (k:aL A W s s') (h1:∀ b,W b->b∈μ.hid) (h2:∀ b,W b->b∉μ.foot) (h3:∀ b,FA A b->W b->∃ o es n,s'.heap.get? b=some o/\o.data=.dict es n):aT C lv A μ σ s':=
 ⟨G.quiet,G.frz,G.room,G.units,EE G.top k.le,fun b o e=>k.at (fun hb=>by rw [G.low b (h1 b hb)] at e;cases e) (G.notFA0 e) (G.base b o e),G.low,fun b hb=>E5 (G.lt b hb) k.le,
  ⟨G.sim.len,fun i p o hp ho=>(G.sim.rep i p o hp ho).mono (Ext.refl _ _) k (G.fw fun b hb=>.inl (h1 b hb)) fun b hb o e=>k.at (fun hw=>h2 b hw (aj (EK hp) hb)) (G.notFA (aj (EK hp) hb)) e,G.sim.foot,G.sim.apart,G.sim.self⟩,G.frs.mono (Ext.refl _ _) k G.lt h3⟩
theorem WS.of_foot {i:Nat} {p:Addr×List Addr} {b:Addr} (hp:μ.objs[i]? = some p) (hi:i∉μ.fz) (hb:b∈p.2):WS μ N env b:=.inl ⟨i,p,hp,hi,hb⟩
theorem aT.write {i:Nat} {p:Addr×List Addr} {o':AO} (G:aT C lv A μ σ s) (hp:μ.objs[i]? = some p) (k:aL A (·∈p.2) s s') (h:ef C μ s'.heap p o'):aT C lv A μ (σ.set i o') s':=by
 have hmem:p∈μ.objs:=EK hp
 have' hW:∀ b,b∈p.2\/FA A b->b∈μ.hid\/s.heap.objs.size<=b:=G.fw fun b hb=>.inl (G.sim.foot b (aj hmem hb))
 have hlen:i<σ.length:=by rw [<- G.sim.len];exact (EI.mp hp).1
 refine ⟨G.quiet,G.frz,G.room,G.units,EE G.top k.le,fun b o e=>k.at (fun hb=>?_) (G.notFA0 e) (G.base b o e),G.low,fun b hb=>E5 (G.lt b hb) k.le,?_,G.frs.mono (Ext.refl _ _) k G.lt fun b hf hb=>absurd hf (G.notFA (aj hmem hb))⟩
 ·rw [G.low b (G.sim.foot b (aj hmem hb))] at e;cases e
 ·refine ⟨by rw [Hc];exact G.sim.len,fun j q o hq ho=>?_,G.sim.foot,G.sim.apart,G.sim.self⟩
  by_cases hij:i=j
  ·subst hij
   rw [hp] at hq;cases hq
   rw [F6 hlen] at ho;cases ho
   exact h
  ·rw [Fj hij] at ho
   exact (G.sim.rep j q o hq ho).mono (Ext.refl _ _) k hW fun b hb o e=>k.at (fun hb'=>ku G.sim.apart hp hq hij b hb' hb) (G.notFA (aj (EK hq) hb)) e
theorem aS.write {i:Nat} {p:Addr×List Addr} {o':AO} (G:aT C lv A μ σ s) (F:aM A N env μ ρ s.heap) (hp:μ.objs[i]? = some p) (hz:i∉lv.fz) (k:aL A (·∈p.2) s s') (h:ef C μ s'.heap p o') :
  aS C lv A N env μ s ρ (σ.set i o') μ s':=by
 have hmem:p∈μ.objs:=EK hp
 exact ⟨G.frz,G.write hp k h,F.ext (Ext.refl _ _) k (G.fw fun b hb=>.inl (G.sim.foot b (aj hmem hb))) (fun hb=>F.freeL (aj hmem hb)) (fun q hq hb=>(F.cells q hq).2.1 (aj hmem hb)),Ext.refl _ _,
  k.mono fun b hb=>.inl (WS.of_foot hp (G.frz▸hz) hb)⟩
noncomputable def Mu.hide (μ:Mu) (l:List Addr):Mu:={μ with hid:=l++μ.hid}
noncomputable def Mu.add (μ:Mu) (a:Addr) (fp:List Addr):Mu:={μ with hid:=fp++μ.hid,objs:=μ.objs++[(a,fp)]}
theorem fS {l:List Addr} {n:Nat} (hl:∀ b∈l,n<=b):Ext μ (μ.hide l) n:=⟨⟨[],by simp [Mu.hide],jP⟩,fun zz h=>ED.mpr (.inr h),fun c h=>by
  rcases ED.mp h with h | h
  ·exact .inr (hl c h)
  ·exact .inl h⟩
theorem aT.hide {l:List Addr} (G:aT C lv A μ σ s) (k:aL A0 NoW s s') (hb:∀ b∈l,s.heap.objs.size<=b/\b<s'.heap.objs.size):aT C lv A (μ.hide l) σ s':=by
 have x:Ext μ (μ.hide l) s.heap.objs.size:=fS fun b h=>(hb b h).1
 refine ⟨G.quiet,G.frz,G.room,G.units,EE G.top k.le,fun b o e=>k.up b o (G.base b o e),fun c h=>?_,fun c h=>?_,⟨G.sim.len,fun i p o hp ho=>(G.sim.rep i p o hp ho).mono x k noW fun b zz o e=>k.up b o e,fun c h=>ED.mpr (.inr (G.sim.foot c h)),G.sim.apart,G.sim.self⟩,G.frs.up (n:=0) x k G.lt⟩
 ·rcases ED.mp h with h | h
  ·exact HJ (EE G.top (hb c h).1)
  ·exact G.low c h
 ·rcases ED.mp h with h | h
  ·exact (hb c h).2
  ·exact E5 (G.lt c h) k.le
theorem aT.alloc {a:Addr} {fp:List Addr} {o:AO} (G:aT C lv A μ σ s) (k:aL A0 NoW s s') (hfp:∀ b∈fp,s.heap.objs.size<=b/\b<s'.heap.objs.size) (ha:a∈fp)
  (h:ef C (μ.add a fp) s'.heap (a,fp) o):aT C lv A (μ.add a fp) (σ++[o]) s'/\Ext μ (μ.add a fp) s.heap.objs.size:=by
 have' hfoot:∀ b,b∈Mu.foot (μ.add a fp)↔b∈μ.foot\/b∈fp:=fun b=>by simp [Mu.foot,Mu.add]
 have x:Ext μ (μ.add a fp) s.heap.objs.size:=⟨⟨_,rfl,fun p hp b hb=>by rw [EG.mp hp] at hb;exact (hfp b hb).1⟩,fun zz h=>ED.mpr (.inr h),fun b h=>by
  rcases ED.mp h with q | q
  ·exact .inr (hfp b q).1
  ·exact .inl q⟩
 refine ⟨⟨G.quiet,G.frz,G.room,G.units,EE G.top k.le,fun b o e=>k.up b o (G.base b o e),fun b hb=>?_,fun b hb=>?_,⟨by simp [G.sim.len,Mu.add],fun i p o' hp ho=>?_,fun b hb=>?_,?_,fun p hp=>?_⟩,G.frs.up (n:=0) x k G.lt⟩,x⟩
 ·rcases ED.mp hb with q | q
  ·exact HJ (EE G.top (hfp b q).1)
  ·exact G.low b q
 ·rcases ED.mp hb with q | q
  ·exact (hfp b q).2
  ·exact E5 (G.lt b q) k.le
 ·have hp':(μ.objs++[(a,fp)])[i]? = some p:=hp
  by_cases hi:i<σ.length
  ·have hi':i<μ.objs.length:=by rw [G.sim.len];exact hi
   rw [Ed hi] at ho
   rw [Ed hi'] at hp'
   exact (G.sim.rep i p o' hp' ho).mono x k noW fun b zz o e=>k.up b o e
  ·have' e1:i=σ.length:=by
    have:=(EI.mp ho).1
    simp at this;omega
   subst e1
   rw [<- G.sim.len,EV] at hp'
   rw [EV] at ho
   cases ho;cases hp'
   exact h
 ·rcases (hfoot b).mp hb with q | q
  ·exact ED.mpr (.inr (G.sim.foot b q))
  ·exact ED.mpr (.inl q)
 ·refine Hj.mpr ⟨G.sim.apart,Gp _ _,fun p hp q hq b hb hb'=>?_⟩
  rw [EG.mp hq] at hb'
  have l1:=ltA (G.lt b (G.sim.foot b (aj hp hb)));have l2:=leA (hfp b hb').1
  omega
 ·rcases ED.mp hp with q | q
  ·exact G.sim.self p q
  ·rw [EG.mp q];exact ha
theorem aS.alloc {a:Addr} {fp:List Addr} {o:AO} (G:aT C lv A μ σ s) (F:aM A N env μ ρ s.heap) (k:aL A0 NoW s s') (hfp:∀ b∈fp,s.heap.objs.size<=b/\b<s'.heap.objs.size) (ha:a∈fp)
  (h:ef C (μ.add a fp) s'.heap (a,fp) o):aS C lv A N env μ s ρ (σ++[o]) (μ.add a fp) s':=
 let ⟨g,x⟩:=G.alloc k hfp ha h
 ⟨G.frz,g,F.ext x k noW id (fun zz zz hb=>hb),x,k.lift⟩
theorem gA {A':Around} {x:Str} {k:Eb} {a:AV} {v:Value} {Q:Unit->Shared->Prop} {E:Value->Shared->Prop} (G:aT C lv A μ σ s) (F:aM A N env μ ρ s.heap) (l:bS N ρ x k a ρ') (hk:k=.local\/k=.cell) (r:af μ s.heap a v)
  (h:∀ s',aS C lv A N env μ s ρ' σ μ s'->Q () s'):wpAny (model C.prog C.w) A' (LY env x v) Q E s:=by
 obtain ⟨m,hnm,hv⟩:=F.vals
 rcases hk with rfl | rfl
 ·have hkx:env.kindOf x=some .local:=(F.kinds _ l.mem).elim id fun e=>nc Eb.ctorIdx e.1 rfl
  refine wpAny_storeName_local hkx hnm (fun h' hn hs=>h _ ?_) (by rw [F.fn];rfl)
  have k:aL A (· = env.locals) s {s with heap:=h',toks:=s.toks+1}:=⟨h',_,_,rfl,⟨E9 hs.1.symm,id⟩,fun b o hb e=>.inl ((hs.2 b hb).trans e)⟩
  have hW:∀ b,b=env.locals\/FA A b->b∈μ.hid\/s.heap.objs.size<=b:=G.fw fun b hb=>hb▸.inl F.hidL
  have cel:∀ p∈env.cells,¬ p.2=env.locals:=fun p hp q=>(F.cells p hp).2.2.1 q
  refine ⟨G.frz,G.turn k (fun b hb=>hb▸F.hidL) (fun b hb=>hb▸F.freeL) (fun b zz hb=>by subst hb;exact let ⟨o,es,ep,e,d,_⟩:=hn;⟨o,es,ep,e,d⟩),?_,Ext.refl _ _,k.mono fun b hb=>.inl (.inr (.inl hb))⟩
  refine ⟨F.fn,F.glob,F.blt,F.nodup,F.plain,F.kinds,F.hidL,F.freeL,F.cellsIn,fun p hp=>let ⟨a,b,c,v,o,ho,d⟩:=F.cells p hp;let ⟨o',ho',d'⟩:=k.like (cel p hp) ho;⟨a,b,c,v,o',ho',d'.trans d⟩,F.apart,F.fe,_,hn,l.vars F.nodup ⟨v,r.mono (Ext.refl _ _) k hW,.inl ⟨hkx,by simp⟩⟩ (fun y b ne zz w=>?_) hv⟩
  obtain ⟨u,ru,q⟩:=w;exact ⟨u,ru.mono (Ext.refl _ _) k hW,q.imp (fun ⟨h1,h2⟩=>⟨h1,by simp [ne,h2]⟩) fun ⟨h1,c,h2,o,ho,hd⟩=>let ⟨o',ho',d'⟩:=k.like (cel (y,c) (bG h2)) ho;⟨h1,c,h2,o',ho',d'.trans hd⟩⟩
 ·have hkx:env.kindOf x=some .cell:=(F.kinds _ l.mem).elim id fun e=>nc Eb.ctorIdx e.1 rfl
  obtain ⟨c,hc⟩:=F.cellsIn _ l.mem (.inl rfl);obtain ⟨c1,c2,c3,v0,hv0⟩:=F.cells (x,c) (bG hc);refine wpAny_storeName_cell F.fn hkx hc hv0 fun h' hn hs=>h _ ?_
  dsimp only at c1 c2 c3
  have k:aL A (· = c) s {s with heap:=h'}:=⟨h',_,_,rfl,⟨E9 hs.1.symm,id⟩,fun b o hb e=>.inl ((hs.2 b hb).trans e)⟩
  have hW:∀ b,b=c\/FA A b->b∈μ.hid\/s.heap.objs.size<=b:=G.fw fun b hb=>hb▸.inl c1
  refine ⟨G.frz,G.turn k (fun b hb=>hb▸c1) (fun b hb=>hb▸c2) (fun b hf hb=>by subst hb;exact let ⟨_,_,o,es,n,e,d⟩:=G.frs.fa hf;let ⟨o',e',d'⟩:=hv0;by rw [e] at e';cases e';rw [d] at d';cases d'),?_,Ext.refl _ _,k.mono fun b hb=>.inl (.inr (.inr ⟨x,l.mem,hb▸hc⟩))⟩
  refine ⟨F.fn,F.glob,F.blt,F.nodup,F.plain,F.kinds,F.hidL,F.freeL,F.cellsIn,fun p hp=>?_,F.apart,F.fe,m,let ⟨o,es,ep,e,d,r⟩:=hnm;let ⟨o',e',d'⟩:=k.like (fun q=>c3 q.symm) e;⟨o',es,ep,e',d'.trans d,r⟩,l.vars F.nodup ⟨v,r.mono (Ext.refl _ _) k hW,.inr ⟨.inl hkx,c,hc,hn⟩⟩ (fun y b ne zz w=>?_) hv⟩
  ·obtain ⟨a,b,d,v',o,ho,e⟩:=F.cells p hp
   by_cases hpc:p.2=c
   ·exact ⟨a,b,d,some v,hpc▸hn⟩
   ·exact let ⟨o',ho',e'⟩:=k.like hpc ho;⟨a,b,d,v',o',ho',e'.trans e⟩
  ·obtain ⟨u,ru,q⟩:=w
   refine ⟨u,ru.mono (Ext.refl _ _) k hW,q.imp id fun ⟨h1,d,h2,o,ho,hd⟩=>let ⟨o',ho',e'⟩:=k.like (fun q=>ne ?_) ho;⟨h1,d,h2,o',ho',e'.trans hd⟩⟩
   exact F.apart (y,d) (bG h2) (x,c) (bG hc) q
end
inductive Out where
 | nxt
 | brk
 | cnt
 | ret (a:AV)
noncomputable def nP (μ:Mu) (h:Heap):Out->Flow->Prop
 | .nxt,f=>f=.next
 | .brk,f=>f=.brk
 | .cnt,f=>f=.cont
 | .ret a,f=>∃ v,f=.ret v/\af μ h a v
section
variable (C:Cx) (lv:Lv) (N:aE)
noncomputable def aH (e:Expr) (ρ:aO) (σ:aC) (a:AV) (ρ':aO) (σ':aC):Prop:=
 ∀ (A:Around) (env:Env) (μ:Mu) (s:Shared) (Q:Value->Shared->Prop) (E:Value->Shared->Prop),C.Ok->aT C lv A μ σ s->aM A N env μ ρ s.heap->
  (∀ v μ' s',aS C lv A N env μ s ρ' σ' μ' s'->af μ' s'.heap a v->Q v s')->wpAny (model C.prog C.w) A (eval e env) Q E s
noncomputable def aY (e:Expr) (ρ:aO) (σ:aC) (b:Bool) (ρ':aO) (σ':aC):Prop:=
 ∀ (A:Around) (env:Env) (μ:Mu) (s:Shared) (Q:Bool->Shared->Prop) (E:Value->Shared->Prop),C.Ok->aT C lv A μ σ s->aM A N env μ ρ s.heap->
  (∀ μ' s',aS C lv A N env μ s ρ' σ' μ' s'->Q b s')->wpAny (model C.prog C.w) A (isTrue e env (eval e env)) Q E s
noncomputable def jI (es:List Expr) (ρ:aO) (σ:aC) (as:List AV) (ρ':aO) (σ':aC):Prop:=
 ∀ (A:Around) (env:Env) (μ:Mu) (s:Shared) (pos:Pos) (Q:List Value->Shared->Prop) (E:Value->Shared->Prop),C.Ok->aT C lv A μ σ s->aM A N env μ ρ s.heap->
  (∀ vs μ' s',aS C lv A N env μ s ρ' σ' μ' s'->aw μ' s'.heap as vs->Q vs s')->wpAny (model C.prog C.w) A (spliced (backTo pos (Fv es env))) Q E s
noncomputable def aq (st:Stmt) (ρ:aO) (σ:aC) (o:Out) (ρ':aO) (σ':aC):Prop:=
 ∀ (A:Around) (env:Env) (μ:Mu) (s:Shared) (Q:Flow->Shared->Prop) (E:Value->Shared->Prop),C.Ok->aT C lv A μ σ s->aM A N env μ ρ s.heap->
  (∀ f μ' s',aS C lv A N env μ s ρ' σ' μ' s'->nP μ' s'.heap o f->Q f s')->wpAny (model C.prog C.w) A (exec st env) Q E s
noncomputable def ay (b:List Stmt) (ρ:aO) (σ:aC) (o:Out) (ρ':aO) (σ':aC):Prop:=
 ∀ (A:Around) (env:Env) (μ:Mu) (s:Shared) (Q:Flow->Shared->Prop) (E:Value->Shared->Prop),C.Ok->aT C lv A μ σ s->aM A N env μ ρ s.heap->
  (∀ f μ' s',aS C lv A N env μ s ρ' σ' μ' s'->nP μ' s'.heap o f->Q f s')->wpAny (model C.prog C.w) A (execs b env) Q E s
end
noncomputable def Op2 (C:Cx) (t:Value->Value->Sem Value) (a b d:PyData):Prop:=
 ∀ (A:Around) (hot:List Addr) (u v:Value) (s:Shared) (as bs:List Addr) (Q:Value->Shared->Prop) (E:Value->Shared->Prop),A.units+200<cLine->Reads (cK hot s.heap) u a as->Reads (cK hot s.heap) v b bs->(∀ a∈hot,a<s.heap.objs.size)->
  (∀ x s' cs,aL A0 NoW s s'->Reads (cK hot s'.heap) x d cs->Q x s')->wpAny (model C.prog C.w) A (t u v) Q E s
noncomputable def OpG (C:Cx) (lv:Lv) (σ:aC) (t:Value->Value->Sem Value) (a b:AV) (d:PyData):Prop:=
 ∀ (A:Around) (μ:Mu) (u v:Value) (s:Shared) (Q:Value->Shared->Prop) (E:Value->Shared->Prop),C.Ok->aT C lv A μ σ s->af μ s.heap a u->af μ s.heap b v->
  (∀ x s' cs,aL A0 NoW s s'->Reads (cK μ.hid s'.heap) x d cs->Q x s')->wpAny (model C.prog C.w) A (t u v) Q E s
noncomputable def Tru (C:Cx) (d:PyData) (b:Bool):Prop:=
 ∀ (A:Around) (hot:List Addr) (u:Value) (s:Shared) (as:List Addr) (Q:Bool->Shared->Prop) (E:Value->Shared->Prop),Reads (cK hot s.heap) u d as->(∀ s',aL A0 NoW s s'->Q b s')->wpAny (model C.prog C.w) A (truthy u) Q E s
section
variable {C:Cx} {lv:Lv} {N:aE} {ρ ρ₁ ρ₂ ρ₃:aO} {σ σ₁ σ₂ σ₃:aC}
theorem cP {hot:List Addr} {h:Heap} {v:Value} {d:PyData} {as:List Addr} (r:Reads (cK hot h) v d as):Reads h v d as:=PyProof.Rows.Reads.keeps (fun zz zz e=>Ex hot e) r
theorem cS {hot:List Addr} {s s':Shared} (k:aL A0 NoW s s'):∀ b o,(cK hot s.heap).get? b=some o->(cK hot s'.heap).get? b=some o:=y7 fun zz zz zz e=>k.up _ _ e
theorem aT.units' {A:Around} {μ:Mu} {σ:aC} {s:Shared} (G:aT C lv A μ σ s):A.units+200<cLine:=by have:=G.units;omega
theorem OpG.of2 {t:Value->Value->Sem Value} {a b d:PyData} (h:Op2 C t a b d):OpG C lv σ t (.dat a) (.dat b) d:=fun A μ u v s Q E _ G ⟨as,ru⟩ ⟨bs,rv⟩ hQ=>h A μ.hid u v s as bs Q E G.units' ru rv G.lt hQ
theorem eW {x:Str} {pos:Pos} {a:AV} (l:bj N ρ x a):aH C lv N (.Name x pos) ρ σ a ρ σ:=by
 intro A env μ s Q E _ G F hQ
 obtain ⟨m,hn,hv⟩:=F.vals
 obtain ⟨k,hm⟩:=l.mem
 have hp:=F.plain _ hm
 obtain ⟨v,r,h⟩:=l.var hv
 rcases h with ⟨hk,hm⟩ | ⟨hk,c,hc,hi⟩
 ·exact wpAny_Name (wpAny_loadName_local F.fn hk hn hm (hQ v μ s (aS.refl G F) r)) hp.1
 ·rcases hk with hk | hk
  ·exact wpAny_Name (wpAny_loadName_cell F.fn hk hc hi (hQ v μ s (aS.refl G F) r)) hp.1
  ·exact wpAny_Name (wpAny_loadName_free F.fn hk hc hi (hQ v μ s (aS.refl G F) r) hp.2) hp.1
noncomputable def bw (N:aE) (x:Str):Prop:=∀ P:aE->Prop,(∀ N,P ((x,.globalImplicit) :: N))->(∀ p N,P N->P (p :: N))->P N
section
variable {x:Str} {p p1 p2 p3 p4 p5:Str×Eb}
theorem bw.here:bw ((x,.globalImplicit) :: N) x:=fun zz h zz=>h _
theorem bw.there (g:bw N x):bw (p :: N) x:=fun P h t=>t _ _ (g P h t)
theorem ga1:bw (p :: (x,.globalImplicit) :: N) x:=.there .here
theorem ga2:bw (p :: p1 :: (x,.globalImplicit) :: N) x:=.there ga1
theorem ga3:bw (p :: p1 :: p2 :: (x,.globalImplicit) :: N) x:=.there ga2
theorem ga4:bw (p :: p1 :: p2 :: p3 :: (x,.globalImplicit) :: N) x:=.there ga3
theorem ga5:bw (p :: p1 :: p2 :: p3 :: p4 :: (x,.globalImplicit) :: N) x:=.there ga4
theorem ga6:bw (p :: p1 :: p2 :: p3 :: p4 :: p5 :: (x,.globalImplicit) :: N) x:=.there ga5
theorem bw.mem (h:bw N x):(x,Eb.globalImplicit)∈N:=h (fun N=>(x,Eb.globalImplicit)∈N) (fun zz=>.head _) fun zz zz h=>.tail _ h
end
theorem aM.globKind {x:Str} {env:Env} {μ:Mu} {h:Heap} (F:aM A N env μ ρ h) (g:bw N x):env.kindOf x=some .globalImplicit:=(F.kinds _ g.mem).elim id fun e=>nc Eb.ctorIdx e.1 rfl
theorem vY {x:Str} {pos:Pos} {v:Value} (g:bw N x) (hv:C.mg x=some v):aH C lv N (.Name x pos) ρ σ (.con v) ρ σ:=by
 intro A env μ s Q E ok G F hQ
 have' hp:=F.plain _ g.mem
 exact Hk F.fn (F.globKind g) (Calls.loadGlobal_global (F.glob▸ok.g.keeps G.base) hv (hQ v μ s (aS.refl G F) rfl)) hp.1
theorem kO {x:Str} {pos:Pos} {v:Value} (g:bw N x) (hm:C.mg x=none) (hv:C.mb x=some v):aH C lv N (.Name x pos) ρ σ (.con v) ρ σ:=by
 intro A env μ s Q E ok G F hQ
 have' hp:=F.plain _ g.mem
 exact Hk F.fn (F.globKind g) (Jj (F.glob▸ok.g.keeps G.base) hm (F.blt▸ok.b.keeps G.base) hv (hQ v μ s (aS.refl G F) rfl)) hp.1
theorem ig {i:Int} {k:Nat} {pos:Pos}:aH C lv N (.Constant (.int i) k pos) ρ σ (.dat (.int i)) ρ σ:=fun zz zz zz zz zz zz zz G F hQ=>
 wpAny_Constant_int (hQ _ _ _ (aS.grow G F (ae _)) ⟨[],.int i _⟩)
theorem oM {x:Str} {k:Nat} {pos:Pos}:aH C lv N (.Constant (.str x) k pos) ρ σ (.dat (.str x)) ρ σ:=fun zz zz zz zz zz zz zz G F hQ=>
 H7 (hQ _ _ _ (aS.grow G F (ae _)) ⟨[],.str x _⟩)
theorem ik {k:Nat} {pos:Pos}:aH C lv N (.Constant .none k pos) ρ σ (.dat .none) ρ σ:=fun zz zz zz zz zz zz zz G F hQ=>
 Kl (hQ _ _ _ (aS.refl G F) ⟨[],.none⟩)
theorem fF {b:Bool} {k:Nat} {pos:Pos}:aH C lv N (.Constant (.bool b) k pos) ρ σ (.dat (.bool b)) ρ σ:=fun zz zz zz zz zz zz zz G F hQ=>
 wpAny_Constant_bool (hQ _ _ _ (aS.refl G F) ⟨[],.bool b⟩)
theorem ct {l r:Expr} {op:Operator} {pos:Pos} {a b:AV} {d:PyData} (hl:aH C lv N l ρ σ a ρ₁ σ₁) (hr:aH C lv N r ρ₁ σ₁ b ρ₂ σ₂) (ho:OpG C lv σ₂ (Iu op) a b d) :
  aH C lv N (.BinOp l op r pos) ρ σ (.dat d) ρ₂ σ₂:=fun A env μ s zz zz ok G F hQ=>
 wpAny_BinOp (hl A env μ s _ _ ok G F fun u μ1 s1 P1 ru=>hr A env μ1 s1 _ _ ok P1.good P1.fr fun v μ2 s2 P2 rv=>
  ho A μ2 u v s2 _ _ ok P2.good (P2.val P1.good P1.fr ru) rv fun zz s3 cs k rx=>hQ _ μ2 s3 (P1.trans (P2.trans (aS.grow P2.good P2.fr k))) ⟨cs,rx⟩)
theorem oF {l r:Expr} {op:CmpOp} {pos:Pos} {a b:AV} {d:PyData} (hl:aH C lv N l ρ σ a ρ₁ σ₁) (hr:aH C lv N r ρ₁ σ₁ b ρ₂ σ₂) (ho:OpG C lv σ₂ (Fc op) a b d)
  (hm:autoParam (Kt op r=false) aU):aH C lv N (.Compare l [op] [r] pos) ρ σ (.dat d) ρ₂ σ₂:=fun A env μ s zz zz ok G F hQ=>
 wpAny_Compare1 (hl A env μ s _ _ ok G F fun u μ1 s1 P1 ru=>hr A env μ1 s1 _ _ ok P1.good P1.fr fun v μ2 s2 P2 rv=>
  ho A μ2 u v s2 _ _ ok P2.good (P2.val P1.good P1.fr ru) rv fun zz s3 cs k rx=>hQ _ μ2 s3 (P1.trans (P2.trans (aS.grow P2.good P2.fr k))) ⟨cs,rx⟩) hm
theorem ai {l r:Expr} {op:CmpOp} {pos:Pos} {a b:AV} {c:Bool} (hl:aH C lv N l ρ σ a ρ₁ σ₁) (hr:aH C lv N r ρ₁ σ₁ b ρ₂ σ₂) (ho:OpG C lv σ₂ (Fc op) a b (.bool c))
  (hm:autoParam (Kt op r=false) aU):aY C lv N (.Compare l [op] [r] pos) ρ σ c ρ₂ σ₂:=fun A env μ s zz zz ok G F hQ=>
 KV (hl A env μ s _ _ ok G F fun u μ1 s1 P1 ru=>hr A env μ1 s1 _ _ ok P1.good P1.fr fun v μ2 s2 P2 rv=>
  ho A μ2 u v s2 _ _ ok P2.good (P2.val P1.good P1.fr ru) rv fun zz s3 zz k rx=>by
   cases rx using RB
   exact HK (hQ μ2 s3 (P1.trans (P2.trans (aS.grow P2.good P2.fr k))))) hm
theorem zD {x:Expr} {pos:Pos} {i:Int} (h:aH C lv N x ρ σ (.dat (.int i)) ρ₁ σ₁):aH C lv N (.UnaryOp .USub x pos) ρ σ (.dat (.int (-i))) ρ₁ σ₁:=fun A env μ s Q E ok G F hQ=>
 wpAny_UnaryOp (h A env μ s _ _ ok G F fun _ μ1 s1 P1 ⟨_,ru⟩=>by
  cases ru using RI
  exact neg_int (hQ _ μ1 _ (P1.trans (aS.grow P1.good P1.fr (ae _))) ⟨[],.int _ _⟩))
theorem b7 {e:Expr} {d:PyData} {b:Bool} (h:aH C lv N e ρ σ (.dat d) ρ₁ σ₁) (ht:Tru C d b) (he:autoParam (∀ env,isTrue e env (eval e env)=(do let v <- eval e env;HQ e.pos;Hu [v] (truthy v))) aI) :
  aY C lv N e ρ σ b ρ₁ σ₁:=fun A env μ s Q E ok G F hQ=>
 LL (h A env μ s _ _ ok G F fun _ μ1 s1 P1 ⟨_,ru⟩=>ht A μ1.hid _ s1 _ _ _ ru fun s2 k=>hQ μ1 s2 (P1.trans (aS.grow P1.good P1.fr k))) (he env)
theorem dN {x:Expr} {pos:Pos} {b:Bool} (h:aY C lv N x ρ σ b ρ₁ σ₁):aY C lv N (.UnaryOp .Not x pos) ρ σ (!b) ρ₁ σ₁:=fun A env μ s zz zz ok G F hQ=>wpAny_isTrue_Not (h A env μ s _ _ ok G F hQ)
theorem dC {x y:Expr} {pos:Pos} (h:aY C lv N x ρ σ false ρ₁ σ₁) {r:List Expr}:aY C lv N (.BoolOp .And (x :: y :: r) pos) ρ σ false ρ₁ σ₁:=fun A env μ s zz zz ok G F hQ=>
 HR (H8 (h A env μ s _ _ ok G F hQ))
theorem cH {x y:Expr} {pos:Pos} {b:Bool} (h:aY C lv N x ρ σ true ρ₁ σ₁) (h':aY C lv N y ρ₁ σ₁ b ρ₂ σ₂):aY C lv N (.BoolOp .And [x,y] pos) ρ σ b ρ₂ σ₂:=fun A env μ s zz zz ok G F hQ=>
 HR (H8 (h A env μ s _ _ ok G F fun μ1 s1 P1=>H8 (h' A env μ1 s1 _ _ ok P1.good P1.fr fun μ2 s2 P2=>by
  cases b with
  | false=>exact hQ μ2 s2 (P1.trans P2)
  | true=>exact wpAny_allTrue_And_nil (hQ μ2 s2 (P1.trans P2)))))
theorem sW {x y:Expr} {pos:Pos} (h:aY C lv N x ρ σ true ρ₁ σ₁) {r:List Expr}:aY C lv N (.BoolOp .Or (x :: y :: r) pos) ρ σ true ρ₁ σ₁:=fun A env μ s zz zz ok G F hQ=>
 HR (Ia (h A env μ s _ _ ok G F hQ))
theorem fq {x y:Expr} {pos:Pos} {b:Bool} (h:aY C lv N x ρ σ false ρ₁ σ₁) (h':aY C lv N y ρ₁ σ₁ b ρ₂ σ₂):aY C lv N (.BoolOp .Or [x,y] pos) ρ σ b ρ₂ σ₂:=fun A env μ s zz zz ok G F hQ=>
 HR (Ia (h A env μ s _ _ ok G F fun μ1 s1 P1=>Ia (h' A env μ1 s1 _ _ ok P1.good P1.fr fun μ2 s2 P2=>by
  cases b with
  | true=>exact hQ μ2 s2 (P1.trans P2)
  | false=>exact wpAny_allTrue_Or_nil (hQ μ2 s2 (P1.trans P2)))))
theorem aY.of {e:Expr} {b b':Bool} (h:aY C lv N e ρ σ b ρ₁ σ₁) (e':b=b'):aY C lv N e ρ σ b' ρ₁ σ₁:=e'▸h
theorem aH.of {e:Expr} {a a':AV} (h:aH C lv N e ρ σ a ρ₁ σ₁) (e':a=a'):aH C lv N e ρ σ a' ρ₁ σ₁:=e'▸h
theorem y5 {t x y:Expr} {pos:Pos} {a:AV} (h:aY C lv N t ρ σ true ρ₁ σ₁) (hx:aH C lv N x ρ₁ σ₁ a ρ₂ σ₂):aH C lv N (.IfExp t x y pos) ρ σ a ρ₂ σ₂:=fun A env μ s Q E ok G F hQ=>
 wpAny_IfExp (h A env μ s _ _ ok G F fun μ1 s1 P1=>hx A env μ1 s1 _ _ ok P1.good P1.fr fun v μ2 s2 P2 r=>hQ v μ2 s2 (P1.trans P2) r)
theorem bQ:jI C lv N [] ρ σ [] ρ σ:=fun zz zz zz zz zz zz zz zz G F hQ=>Fo (hQ [] _ _ (aS.refl G F) trivial)
noncomputable def bx (e:Expr):Bool:=!Lh e.ctorIdx 22
theorem a7 {e:Expr} {es:List Expr} {env:Env} (h:bx e=true):Fv (e :: es) env=(false,eval e env) :: Fv es env:=by
 cases e<;>first | rfl | cases h
theorem bF {e:Expr} {es:List Expr} {a:AV} {as:List AV} (h:aH C lv N e ρ σ a ρ₁ σ₁) (hs:jI C lv N es ρ₁ σ₁ as ρ₂ σ₂) (hn:autoParam (bx e=true) aR):jI C lv N (e :: es) ρ σ (a :: as) ρ₂ σ₂:=by
 intro A env μ s pos Q E ok G F hQ
 rw [a7 hn]
 exact FS (h A env μ s _ _ ok G F fun v μ1 s1 P1 r=>hs A env μ1 s1 pos _ _ ok P1.good P1.fr fun vs μ2 s2 P2 rs=>hQ (v :: vs) μ2 s2 (P1.trans P2) ⟨P2.val P1.good P1.fr r,rs⟩)
end
noncomputable def c8 (C:Cx) (lv:Lv) (N:aE) (t:Expr) (a:AV) (ρ:aO) (σ:aC) (ρ':aO) (σ':aC):Prop:=
 ∀ (A:Around) (env:Env) (μ:Mu) (s:Shared) (v:Value) (Q:Unit->Shared->Prop) (E:Value->Shared->Prop),C.Ok->aT C lv A μ σ s->aM A N env μ ρ s.heap->af μ s.heap a v->
  (∀ μ' s',aS C lv A N env μ s ρ' σ' μ' s'->Q () s')->wpAny (model C.prog C.w) A (assign t env v) Q E s
section
variable {C:Cx} {lv:Lv} {N:aE} {ρ ρ₁ ρ₂ ρ₃ ρ':aO} {σ σ₁ σ₂ σ₃ σ':aC} {o:Out} {a b:AV}
theorem qa {x:Str} {pos:Pos} (l:bS N ρ x .local a ρ₁):c8 C lv N (.Name x pos) a ρ σ ρ₁ σ:=fun A env μ s v Q E ok G F r hQ=>
 J9 (gA G F l (.inl rfl) r fun s' P=>hQ μ s' P)
theorem ut {x:Str} {pos:Pos} (l:bS N ρ x .cell a ρ₁):c8 C lv N (.Name x pos) a ρ σ ρ₁ σ:=fun A env μ s v Q E ok G F r hQ=>
 J9 (gA G F l (.inr rfl) r fun s' P=>hQ μ s' P)
theorem aB {t value:Expr} {pos:Pos} (hv:aH C lv N value ρ σ a ρ₁ σ₁) (ht:c8 C lv N t a ρ₁ σ₁ ρ₂ σ₂) (he:autoParam (∀ env,(IF [t] env).map (·.2)=[assign t env]) aI)
  (hs:autoParam (∀ env,Jk [t] value pos.line env=pure false) aI) (hw:autoParam (∀ env,Ij [t] value env=pure none) aI):aq C lv N (.Assign [t] value pos) ρ σ .nxt ρ₂ σ₂:=fun A env μ s Q E ok G F hQ=>
 JF (by
  rw [he]
  exact hv A env μ s _ _ ok G F fun v μ1 s1 P1 r=>ht A env μ1 s1 v _ _ ok P1.good P1.fr r fun μ2 s2 P2=>hQ _ μ2 s2 (P1.trans P2) rfl) (hs env) (hw env)
theorem pd {t t' value:Expr} {pos:Pos} (hv:aH C lv N value ρ σ a ρ₁ σ₁) (ht:c8 C lv N t a ρ₁ σ₁ ρ₂ σ₂) (ht':c8 C lv N t' a ρ₂ σ₂ ρ₃ σ₃) (he:autoParam (∀ env,(IF [t,t'] env).map (·.2)=[assign t env,assign t' env]) aI)
  (hw:autoParam (∀ env,Ij [t,t'] value env=pure none) aI):aq C lv N (.Assign [t,t'] value pos) ρ σ .nxt ρ₃ σ₃:=fun A env μ s Q E ok G F hQ=>
 wpAny_Assign_two (hv A env μ s _ _ ok G F fun v μ1 s1 P1 r=>ht A env μ1 s1 v _ _ ok P1.good P1.fr r fun μ2 s2 P2=>ht' A env μ2 s2 v _ _ ok P2.good P2.fr (P2.val P1.good P1.fr r) fun μ3 s3 P3=>hQ _ μ3 s3 (P1.trans (P2.trans P3)) rfl) (he env) (hw env)
theorem bR {e:Expr} {pos:Pos} (h:aH C lv N e ρ σ a ρ₁ σ₁) (hs:autoParam (∀ env,swapsWith e none pos.line env=pure false) aI):aq C lv N (.Expr e pos) ρ σ .nxt ρ₁ σ₁:=fun A env μ s Q E ok G F hQ=>
 wpAny_Expr_any (h A env μ s _ _ ok G F fun v μ1 s1 P1 zz=>hQ _ μ1 s1 P1 rfl) (by unfold interactive;rw [F.fn];rfl) (hs env)
theorem aX {e:Expr} {pos:Pos} (h:aH C lv N e ρ σ a ρ₁ σ₁):aq C lv N (.Return (some e) pos) ρ σ (.ret a) ρ₁ σ₁:=fun A env μ s Q E ok G F hQ=>
 wpAny_Return_some (h A env μ s _ _ ok G F fun v μ1 s1 P1 r=>hQ _ μ1 s1 P1 ⟨v,rfl,r⟩)
theorem iB {pos:Pos}:aq C lv N (.Break pos) ρ σ .brk ρ σ:=fun A env μ s Q E ok G F hQ=>wpAny_Break (hQ _ μ s (aS.refl G F) rfl)
theorem yY {pos:Pos}:aq C lv N (.Continue pos) ρ σ .cnt ρ σ:=fun A env μ s Q E ok G F hQ=>wpAny_Continue (hQ _ μ s (aS.refl G F) rfl)
theorem bL {t:Expr} {x y:List Stmt} {pos:Pos} (h:aY C lv N t ρ σ true ρ₁ σ₁) (hx:ay C lv N x ρ₁ σ₁ o ρ₂ σ₂):aq C lv N (.If t x y pos) ρ σ o ρ₂ σ₂:=fun A env μ s Q E ok G F hQ=>
 wpAny_If (h A env μ s _ _ ok G F fun μ1 s1 P1=>hx A env μ1 s1 _ _ ok P1.good P1.fr fun f μ2 s2 P2 r=>hQ f μ2 s2 (P1.trans P2) r)
theorem aN {t:Expr} {x y:List Stmt} {pos:Pos} (h:aY C lv N t ρ σ false ρ₁ σ₁) (hx:ay C lv N y ρ₁ σ₁ o ρ₂ σ₂):aq C lv N (.If t x y pos) ρ σ o ρ₂ σ₂:=fun A env μ s Q E ok G F hQ=>
 wpAny_If (h A env μ s _ _ ok G F fun μ1 s1 P1=>hx A env μ1 s1 _ _ ok P1.good P1.fr fun f μ2 s2 P2 r=>hQ f μ2 s2 (P1.trans P2) r)
theorem aG:ay C lv N [] ρ σ .nxt ρ σ:=fun A env μ s Q E ok G F hQ=>wpAny_execs_nil (hQ _ μ s (aS.refl G F) rfl)
theorem aA {st:Stmt} {r:List Stmt} (h:aq C lv N st ρ σ .nxt ρ₁ σ₁) (hr:ay C lv N r ρ₁ σ₁ o ρ₂ σ₂):ay C lv N (st :: r) ρ σ o ρ₂ σ₂:=fun A env μ s Q E ok G F hQ=>
 Hv (h A env μ s _ _ ok G F fun f μ1 s1 P1 e=>by
  obtain rfl:=e;exact hr A env μ1 s1 _ _ ok P1.good P1.fr fun f μ2 s2 P2 r=>hQ f μ2 s2 (P1.trans P2) r)
theorem cA {st:Stmt} {r:List Stmt} (h:aq C lv N st ρ σ o ρ₁ σ₁) (ho:o≠.nxt):ay C lv N (st :: r) ρ σ o ρ₁ σ₁:=fun A env μ s Q E ok G F hQ=>
 Hv (h A env μ s _ _ ok G F fun f μ1 s1 P1 e=>by
  have z:=hQ f μ1 s1 P1 e
  cases o with
  | nxt=>exact absurd rfl ho
  | brk=>obtain rfl:=e;exact z
  | cnt=>obtain rfl:=e;exact z
  | ret a=>obtain ⟨v,rfl,_⟩:=e;exact z)
theorem a8 {st:Stmt} {r:List Stmt} (h:aq C lv N st ρ σ (.ret a) ρ₁ σ₁):ay C lv N (st :: r) ρ σ (.ret a) ρ₁ σ₁:=cA h (by intro q;cases q)
theorem ay.sub {b:List Stmt} (h:ay C lv N b ρ σ o ρ₁ σ₁) (hs:Sub ρ₁ ρ₂):ay C lv N b ρ σ o ρ₂ σ₁:=fun A env μ s Q E ok G F hQ=>h A env μ s Q E ok G F fun f μ1 s1 P r=>hQ f μ1 s1 (P.sub hs) r
theorem aq.sub {b:Stmt} (h:aq C lv N b ρ σ o ρ₁ σ₁) (hs:Sub ρ₁ ρ₂):aq C lv N b ρ σ o ρ₂ σ₁:=fun A env μ s Q E ok G F hQ=>h A env μ s Q E ok G F fun f μ1 s1 P r=>hQ f μ1 s1 (P.sub hs) r
inductive vD (K:aO->aC->Prop) (o:Out) (ρ₂:aO) (σ₂:aC) (o':Out) (ρ':aO) (σ':aC):Prop
 | again (ρ₃:aO):o=.nxt\/o=.cnt->Sub ρ₂ ρ₃->K ρ₃ σ₂->vD K o ρ₂ σ₂ o' ρ' σ'
 | brk:ρ₂=ρ'->σ₂=σ'->o=.brk->o'=.nxt->vD K o ρ₂ σ₂ o' ρ' σ'
 | ret (a:AV):ρ₂=ρ'->σ₂=σ'->o=.ret a->o'=.ret a->vD K o ρ₂ σ₂ o' ρ' σ'
noncomputable def zo (C:Cx) (lv:Lv) (N:aE) (test:Expr) (body orelse:List Stmt) (K:aO->aC->Prop) (ρ:aO) (σ:aC) (o':Out) (ρ':aO) (σ':aC):Prop:=
 ∀ P:Prop,(∀ ρ₁ σ₁,aY C lv N test ρ σ false ρ₁ σ₁->ay C lv N orelse ρ₁ σ₁ o' ρ' σ'->P)->(∀ ρ₁ σ₁ o ρ₂ σ₂,aY C lv N test ρ σ true ρ₁ σ₁->ay C lv N body ρ₁ σ₁ o ρ₂ σ₂->vD K o ρ₂ σ₂ o' ρ' σ'->P)->P
noncomputable def eZ (C:Cx) (lv:Lv) (N:aE) (test:Expr) (body orelse:List Stmt):Nat->aO->aC->Out->aO->aC->Prop
 | 0,ρ,σ,o',ρ',σ'=>zo C lv N test body orelse (fun zz zz=>False) ρ σ o' ρ' σ'
 | k+1,ρ,σ,o',ρ',σ'=>zo C lv N test body orelse (fun ρ₃ σ₃=>eZ C lv N test body orelse k ρ₃ σ₃ o' ρ' σ') ρ σ o' ρ' σ'
section
variable {test:Expr} {body orelse:List Stmt} {k:Nat} {o':Out}
theorem eZ.done (a:aY C lv N test ρ σ false ρ₁ σ₁) (b:ay C lv N orelse ρ₁ σ₁ o ρ₂ σ₂):eZ C lv N test body orelse k ρ σ o ρ₂ σ₂:=by cases k<;>exact fun P h zz=>h _ _ a b
theorem eZ.turn (a:aY C lv N test ρ σ true ρ₁ σ₁) (b:ay C lv N body ρ₁ σ₁ o ρ₂ σ₂) (c:o=.nxt\/o=.cnt) (d:Sub ρ₂ ρ₃) (e:eZ C lv N test body orelse k ρ₃ σ₂ o' ρ' σ'):eZ C lv N test body orelse (k+1) ρ σ o' ρ' σ':=fun P zz h=>h _ _ _ _ _ a b (.again _ c d e)
theorem eZ.brk (a:aY C lv N test ρ σ true ρ₁ σ₁) (b:ay C lv N body ρ₁ σ₁ .brk ρ₂ σ₂):eZ C lv N test body orelse k ρ σ .nxt ρ₂ σ₂:=by cases k<;>exact fun P zz h=>h _ _ _ _ _ a b (.brk rfl rfl rfl rfl)
theorem eZ.ret {a:AV} (h:aY C lv N test ρ σ true ρ₁ σ₁) (b:ay C lv N body ρ₁ σ₁ (.ret a) ρ₂ σ₂):eZ C lv N test body orelse k ρ σ (.ret a) ρ₂ σ₂:=by cases k<;>exact fun P zz g=>g _ _ _ _ _ h b (.ret _ rfl rfl rfl rfl)
end
theorem eZ.inv {test:Expr} {body orelse:List Stmt} {k:Nat} {o':Out} {P:Prop} (h:eZ C lv N test body orelse k ρ σ o' ρ' σ') (h1:∀ ρ₁ σ₁,aY C lv N test ρ σ false ρ₁ σ₁->ay C lv N orelse ρ₁ σ₁ o' ρ' σ'->P)
  (h2:∀ ρ₁ σ₁ o ρ₂ σ₂,aY C lv N test ρ σ true ρ₁ σ₁->ay C lv N body ρ₁ σ₁ o ρ₂ σ₂->vD (fun ρ₃ σ₃=>∃ m,m<k/\eZ C lv N test body orelse m ρ₃ σ₃ o' ρ' σ') o ρ₂ σ₂ o' ρ' σ'->P):P:=by
 cases k with
 | zero=>exact h P h1 fun zz zz zz zz zz a b c=>h2 _ _ _ _ _ a b (by
  cases c with
  | again _ _ _ e=>exact e.elim
  | brk e1 e2 e3 e4=>exact .brk e1 e2 e3 e4
  | ret _ e1 e2 e3 e4=>exact .ret _ e1 e2 e3 e4)
 | succ k=>exact h P h1 fun zz zz zz zz zz a b c=>h2 _ _ _ _ _ a b (by
  cases c with
  | again _ e1 e2 e=>exact .again _ e1 e2 ⟨_,E3 _,e⟩
  | brk e1 e2 e3 e4=>exact .brk e1 e2 e3 e4
  | ret _ e1 e2 e3 e4=>exact .ret _ e1 e2 e3 e4)
theorem dJ {test:Expr} {body orelse:List Stmt} {pos:Pos} {k:Nat} (h:eZ C lv N test body orelse k ρ σ o ρ' σ'):aq C lv N (.While test body orelse pos) ρ σ o ρ' σ':=fun A env μ s Q E ok G F hQ=>by
 refine wpAny_While (codeAny_whileLoop (fun n s₁=>∃ μ₁ ρ₁ σ₁,eZ C lv N test body orelse n ρ₁ σ₁ o ρ' σ'/\aS C lv A N env μ s ρ₁ σ₁ μ₁ s₁) (fun n s₁ hI=>?_) k ⟨μ,ρ,σ,h,aS.refl G F⟩)
 obtain ⟨μ₁,ρ₁,σ₁,hw,P⟩:=hI
 refine hw.inv (fun ρ₂ σ₂ ht hb=>?_) fun ρ₂ σ₂ o1 ρ₃ σ₃ ht hb hx=>?_
 ·exact ht A env μ₁ s₁ _ _ ok P.good P.fr fun μ2 s2 P2=>hb A env μ2 s2 _ _ ok P2.good P2.fr fun f μ3 s3 P3 r=>hQ f μ3 s3 (P.trans (P2.trans P3)) r
 ·refine ht A env μ₁ s₁ _ _ ok P.good P.fr fun μ2 s2 P2=>hb A env μ2 s2 _ _ ok P2.good P2.fr fun f μ3 s3 P3 r=>?_
  have P':=P.trans (P2.trans P3);clear P2 P3 ht hb hw P h
  cases hx with
  | again ρ₄ ho hs hw=>
   obtain ⟨m,hm,hw⟩:=hw
   rcases ho with rfl | rfl<;>obtain rfl:=r<;>exact ⟨_,hm,μ3,_,_,hw,P'.sub hs⟩
  | brk e1 e2 e3 e4=>
   subst e1 e2 e3 e4;obtain rfl:=r;exact hQ _ μ3 s3 P' rfl
  | ret a e1 e2 e3 e4=>
   subst e1 e2 e3 e4;obtain ⟨v,rfl,r⟩:=r;exact hQ _ μ3 s3 P' ⟨v,rfl,r⟩
structure e8 (prog:Fn) (w:World) (A:Around) (tg:Expr) (I:Addr) (fp wr:List Addr) (n:Nat) (P:Nat->Value->Nat->Heap->Prop) (St:Nat->Heap->Prop):Prop where
 sub:∀ b∈wr,b∈fp
 frame:∀ i h h',St i h->(∀ b∈fp,∀ o,h.get? b=some o->h'.get? b=some o)->St i h'
 item:∀ i (s:Shared) (Q:Option Value->Shared->Prop) (K:Value->Shared->Prop) (E:Value->Shared->Prop),i<n->St i s.heap->(∀ v s1,wpAny (model prog w) A (HE tg (.ref I) v) (fun zz s2=>K v s2) E s1->Q (some v) s1)->
  (∀ v h' tk,P i v s.heap.objs.size h'->St (i+1) h'->(∀ b o,b∉wr->s.heap.get? b=some o->h'.get? b=some o)->s.heap.objs.size<=h'.objs.size->K v {s with heap:=h',toks:=tk})->wpAny (model prog w) A (pyNext (.ref I)) Q E s
 done:∀ (s:Shared) (Q:Option Value->Shared->Prop) (E:Value->Shared->Prop),St n s.heap->
  (∀ h' tk,(∀ b o,b∉wr->s.heap.get? b=some o->h'.get? b=some o)->Q none {s with heap:=h',toks:=tk})->wpAny (model prog w) A (pyNext (.ref I)) Q E s
 self:∀ i (s:Shared) (Q:Value->Shared->Prop) (E:Value->Shared->Prop),St i s.heap->Q (.ref I) s->wpAny (model prog w) A (pyIter (.ref I)) Q E s
theorem e8.of {prog:Fn} {w:World} {A:Around} {tg:Expr} {I:Addr} {fp wr:List Addr} {n:Nat} {P:Nat->Value->Prop} {St:Nat->Heap->Prop} (W:Walks prog w A I fp wr n P St)
  (hgo:∀ i v (s:Shared) (Q:Unit->Shared->Prop) (E:Value->Shared->Prop),P i v->St (i+1) s.heap->Q () s->wpAny (model prog w) A (HE tg (.ref I) v) Q E s):e8 prog w A tg I fp wr n (fun i v zz zz=>P i v) St where
 sub:=W.sub
 frame:=W.frame
 item:=fun i s Q K E hi st hQ hK=>ao (W.item i s _ _ hi st fun v h' tk hP st' hk hl=>hQ v _ (hgo i v _ _ _ hP st' (hK v h' tk hP st' hk hl)))
 done:=W.done
 self:=W.self
theorem e8.name {prog:Fn} {w:World} {A:Around} {tg:Expr} {I:Addr} {fp wr:List Addr} {n:Nat} {P:Nat->Value->Prop} {St:Nat->Heap->Prop} (W:Walks prog w A I fp wr n P St) (hl:∀ it v,HE tg it v=pure ()) :
  e8 prog w A tg I fp wr n (fun i v zz zz=>P i v) St:=.of W fun i v s Q E zz zz hQ=>GC (hl _ _) hQ
noncomputable def jT (C:Cx) (A:Around) (N:aE) (tg:Expr) (env:Env) (μ:Mu) (ls:List Nat) (base:Nat) (h:Heap) (I:Addr) (items:List AV):Prop:=
 ∃ fp wr P St,e8 C.prog C.w A tg I fp wr items.length P St/\St 0 h/\(∀ b∈fp,b<h.objs.size)/\(∀ b∈fp,¬ WS {μ with fz:=ls++μ.fz} N env b/\¬ FA A b)/\(∀ b∈wr,b∈μ.hid/\b∉μ.foot/\base<=b) /\
  (∀ b∈fp,b∈μ.hid->b∈wr\/b∈μ.foot)/\∀ (i:Nat) v a n h' μ',items[i]? = some a->P i v n h'->(∀ b∈μ'.hid,b<n)->Mov μ μ' h h'->af μ' h' a v
noncomputable def gK (C:Cx) (lv:Lv) (N:aE) (tg:Expr) (e:Expr) (ls:List Nat) (ρ:aO) (σ:aC) (items:List AV) (ρ':aO) (σ':aC):Prop:=
 ∀ (A:Around) (env:Env) (μ:Mu) (s:Shared) (Q:Value->Shared->Prop) (E:Value->Shared->Prop),C.Ok->aT C lv A μ σ s->aM A N env μ ρ s.heap->
  (∀ I μ' s',aS C lv A N env μ s ρ' σ' μ' s'->jT C A N tg env μ' ls s.heap.objs.size s'.heap I items->Q (.ref I) s')->wpAny (model C.prog C.w) A (eval e env) (fun x s₁=>wpAny (model C.prog C.w) A (pyIter x) Q E s₁) E s
noncomputable def fQ (C:Cx) (lv:Lv) (N:aE) (tg:Expr) (body orelse:List Stmt):List AV->aO->aC->Out->aO->aC->Prop
 | [],ρ,σ,o',ρ',σ'=>ay C lv N orelse ρ σ o' ρ' σ'
 | x :: xs,ρ,σ,o',ρ',σ'=>∀ P:Prop,(∀ ρ₁ σ₁ o ρ₂ σ₂,c8 C lv N tg x ρ σ ρ₁ σ₁->ay C lv N body ρ₁ σ₁ o ρ₂ σ₂->vD (fun ρ₃ σ₃=>fQ C lv N tg body orelse xs ρ₃ σ₃ o' ρ' σ') o ρ₂ σ₂ o' ρ' σ'->P)->P
section
variable {tg:Expr} {body orelse:List Stmt} {x:AV} {xs:List AV} {o':Out}
theorem fQ.done (a:ay C lv N orelse ρ σ o ρ₂ σ₂):fQ C lv N tg body orelse [] ρ σ o ρ₂ σ₂:=a
theorem fQ.turn (a:c8 C lv N tg x ρ σ ρ₁ σ₁) (b:ay C lv N body ρ₁ σ₁ o ρ₂ σ₂) (c:o=.nxt\/o=.cnt) (d:Sub ρ₂ ρ₃) (e:fQ C lv N tg body orelse xs ρ₃ σ₂ o' ρ' σ'):fQ C lv N tg body orelse (x :: xs) ρ σ o' ρ' σ':=fun P k=>k _ _ _ _ _ a b (.again _ c d e)
theorem fQ.ret {r:AV} (a:c8 C lv N tg x ρ σ ρ₁ σ₁) (b:ay C lv N body ρ₁ σ₁ (.ret r) ρ₂ σ₂):fQ C lv N tg body orelse (x :: xs) ρ σ (.ret r) ρ₂ σ₂:=fun P k=>k _ _ _ _ _ a b (.ret _ rfl rfl rfl rfl)
end
structure zc (C:Cx) (lv:Lv) (A:Around) (N:aE) (env:Env) (K:List AV->aO->aC->Prop) (items:List AV) (m1:Mu) (s1:Shared) (wr:List Addr) (St:Nat->Heap->Prop) (n i:Nat) (ρ₂:aO) (σ₂:aC) (μ₂:Mu) (s₂:Shared):Prop where
 run:K (items.drop i) ρ₂ σ₂
 good:aT C lv A μ₂ σ₂ s₂
 fr:aM A N env μ₂ ρ₂ s₂.heap
 ext:Ext m1 μ₂ s1.heap.objs.size
 kept:aL A (fun b=>WS m1 N env b\/b∈wr) s1 s₂
 st:St i s₂.heap
 left:n=items.length - i
 le:i<=items.length
theorem af.fz {μ:Mu} {f:List Nat} {h:Heap} {a:AV} {v:Value}:af {μ with fz:=f} h a v↔af μ h a v:=by cases a<;>exact Iff.rfl
theorem Ext.fz {μ:Mu} {f:List Nat} {n:Nat}:Ext μ {μ with fz:=f} n:=⟨⟨[],by simp,jP⟩,fun zz h=>h,fun zz h=>.inl h⟩
theorem aT.fz {A:Around} {μ:Mu} {s:Shared} (G:aT C lv A μ σ s) (f:List Nat):aT C {lv with fz:=f} A {μ with fz:=f} σ s:=
 ⟨G.quiet,rfl,G.room,G.units,G.top,G.base,G.low,G.lt,⟨G.sim.len,fun i p o hp ho=>(G.sim.rep i p o hp ho).mono Ext.fz (aL.refl A0 NoW s) noW fun zz zz zz e=>e,G.sim.foot,G.sim.apart,G.sim.self⟩,G.frs.up (n:=0) Ext.fz (aL.refl A0 NoW s) G.lt⟩
theorem aM.fz {env:Env} {μ:Mu} {s:Shared} (F:aM A N env μ ρ s.heap) (f:List Nat):aM A N env {μ with fz:=f} ρ s.heap:=
 F.ext Ext.fz (aL.refl A0 NoW s) noW id fun zz zz h=>h
theorem WS.fz {μ:Mu} {env:Env} {ls:List Nat} {b:Addr} (h:WS {μ with fz:=ls++μ.fz} N env b):WS μ N env b:=by
 rcases h with ⟨i,p,hp,hi,hb⟩ | h
 ·exact .inl ⟨i,p,hp,fun q=>hi (ED.mpr (.inr q)),hb⟩
 ·exact .inr h
theorem mR {n i:Nat} (h:i<n):n - (i+1)<n - i:=JD h (E3 i)
theorem bq {t iter:Expr} {body orelse:List Stmt} {pos:Pos} {ls:List Nat} {items:List AV} (hi:gK C lv N t iter ls ρ σ items ρ₁ σ₁) (hf:fQ C {lv with fz:=ls++lv.fz} N t body orelse items ρ₁ σ₁ o ρ' σ')
  (hs:autoParam (∀ env x,Fp iter env x=pure x) aJ):aq C lv N (.For t iter body orelse pos) ρ σ o ρ' σ':=fun A env μ s Q E ok G F hQ=>by
 refine wpAny_For (hi A env μ s _ _ ok G F fun I μ1 s1 P1 hIt=>?_) (hs env)
 obtain ⟨fp,wr,P,St,W,st0,hlt,hfp,hwr,-,hP⟩:=hIt
 have hz1:μ1.fz=lv.fz:=P1.good.frz
 rw [hz1] at hfp
 have hnf:∀ b∈fp,¬ FA A b:=fun b hb=>(hfp b hb).2
 have' hwL:∀ b∈wr,¬ env.locals=b:=fun b hb q=>by
  obtain ⟨m,hn,_⟩:=F.vals;have l1:=ltA hn.lt;have l2:=leA (hwr b hb).2.2
  rw [q] at l1;omega
 have' hwC:∀ b∈wr,∀ p∈env.cells,¬ p.2=b:=fun b hb p hp q=>by
  obtain ⟨_,_,_,v,hv⟩:=F.cells p hp;have l1:=ltA hv.lt;have l2:=leA (hwr b hb).2.2
  rw [q] at l1;omega
 have G1:=P1.good.fz (ls++lv.fz)
 have F1:=P1.fr.fz (ls++lv.fz)
 generalize hm:({μ1 with fz:=ls++lv.fz}:Mu)=m1 at G1 F1 hfp
 have hh1:m1.hid=μ1.hid:=by rw [<- hm]
 have ho1:m1.objs=μ1.objs:=by rw [<- hm]
 have hf1:m1.foot=μ1.foot:=by unfold Mu.foot;rw [ho1]
 have' WWh:∀ b,(WS m1 N env b\/b∈wr)\/FA A b->b∈m1.hid\/s1.heap.objs.size<=b:=G1.fw fun b hb=>hb.elim (fun q=>.inl (dE G1.sim F1 b q)) fun q=>.inl (hh1▸(hwr b q).1)
 have fin:∀ μ3 s3,aT C {lv with fz:=ls++lv.fz} A μ3 σ' s3->aM A N env μ3 ρ' s3.heap->Ext m1 μ3 s1.heap.objs.size->aL A (fun b=>WS m1 N env b\/b∈wr) s1 s3->aS C lv A N env μ s ρ' σ' {μ3 with fz:=lv.fz} s3:=by
  intro μ3 s3 g f x k;have x':Ext μ1 {μ3 with fz:=lv.fz} s1.heap.objs.size:=⟨by have:=x.grow;rw [ho1] at this;exact this,fun b hb=>x.sub b (hh1▸hb),fun b hb=>hh1▸x.new b hb⟩
  refine ⟨G.frz,g.fz lv.fz,f.fz lv.fz,P1.ext.trans x' P1.kept.le,P1.kept.trans k fun b hb=>?_⟩
  rcases hb with q | q
  ·rw [<- hm,<- hz1] at q
   exact bi P1.ext (hz1.trans G.frz.symm) b (WS.fz q)
  ·exact .inr (hwr b q).2.2
 refine Km (fun n s₂=>∃ i ρ₂ σ₂ μ₂,zc C {lv with fz:=ls++lv.fz} A N env (fun xs ρ₂ σ₂=>fQ C {lv with fz:=ls++lv.fz} N t body orelse xs ρ₂ σ₂ o ρ' σ') items m1 s1 wr St n i ρ₂ σ₂ μ₂ s₂)
  (fun n s₂ hI=>?_) (items.length - 0) ⟨0,ρ₁,σ₁,m1,hf,G1,F1,Ext.refl _ _,aL.refl _ _ _,st0,rfl,Ek _⟩
 clear hf P1 hi G F hs
 obtain ⟨i,ρ₂,σ₂,μ₂,V⟩:=hI
 have G2:=V.good
 have x2:=V.ext
 have step:∀ h' tk,(∀ b o,b∉wr->s₂.heap.get? b=some o->h'.get? b=some o)->s₂.heap.objs.size<=h'.objs.size->
   aT C {lv with fz:=ls++lv.fz} A μ₂ σ₂ {s₂ with heap:=h',toks:=tk}/\aM A N env μ₂ ρ₂ h'/\aL A (fun b=>WS m1 N env b\/b∈wr) s1 {s₂ with heap:=h',toks:=tk}:=by
  intro h' tk hk hl;have k:aL A (·∈wr) s₂ {s₂ with heap:=h',toks:=tk}:=⟨h',_,_,rfl,⟨hl,id⟩,fun b o hb e=>.inl (hk b o hb e)⟩
  have w1:∀ b∈wr,b∈μ₂.hid:=fun b hb=>x2.sub b (hh1▸(hwr b hb).1)
  refine ⟨G2.turn k w1 (fun b hb q=>?_) (fun b hf hb=>absurd hf (hnf b (W.sub b hb))),V.fr.ext (s':={s₂ with heap:=h',toks:=tk}) (Ext.refl _ _) k (G2.fw fun b hb=>.inl (w1 b hb)) (fun q=>hwL _ q rfl) (fun p hp q=>hwC _ q p hp rfl),V.kept.trans k fun b hb=>.inl (.inr hb)⟩
  rcases x2.foot b q with q | q
  ·exact (hwr b hb).2.1 (hf1▸q)
  ·exact absurd (hlt b (W.sub b hb)) (E0.mpr q)
 have keepSt:∀ j (s₃ s₄:Shared) μ₃ σ₃ ρ₃,St j s₃.heap->Ext m1 μ₃ s1.heap.objs.size->aT C {lv with fz:=ls++lv.fz} A μ₃ σ₃ s₃->aM A N env μ₃ ρ₃ s₃.heap->aL A (WS μ₃ N env) s₃ s₄->St j s₄.heap:=by
  intro j s₃ s₄ μ₃ σ₃ ρ₃ st x g f k;refine W.frame j _ _ st fun b hb o e=>k.at (fun q=>?_) (hnf b hb) e
  rcases bi x (by rw [g.frz,<- hm]) b q with q | q
  ·exact (hfp b hb).1 q
  ·exact absurd (hlt b hb) (E0.mpr q)
 have hf:=V.run
 rcases JH i items.length with hi | hi
 ·rw [Gb hi] at hf
  refine hf _ fun ρa σa o1 ρb σb ha hb hrest=>?_
  refine W.item i s₂ _ _ _ hi V.st (fun v s1 h=>h) fun v h' tk hv st' hk hl=>?_
  obtain ⟨g,f,k⟩:=step h' tk hk hl;have r:af μ₂ h' _ v:=hP i v _ _ _ _ (E8 hi) hv G2.lt ((Mov.of (s':={s₂ with heap:=h',toks:=tk}) x2 k WWh).eqL hh1 ho1);refine ha A env μ₂ _ v _ _ ok g f r fun μ3 s3 P3=>hb A env μ3 s3 _ _ ok P3.good P3.fr fun fl μ4 s4 P4 r=>?_
  have k4:=(k.trans P3.kept fun b q=>(bi x2 (by rw [G2.frz,<- hm]) b q).imp .inl id)
  have x3:=x2.trans P3.ext k.le;have k5:=(k4.trans P4.kept fun b q=>(bi x3 (by rw [P3.good.frz,<- hm]) b q).imp .inl id)
  have x4:=x3.trans P4.ext k4.le
  cases hrest with
  | again ρc ho hs hf=>
   have' st4:St (i+1) s4.heap:=keepSt _ s3 s4 μ3 _ _ (keepSt _ {s₂ with heap:=h',toks:=tk} s3 μ₂ _ _ st' x2 g f P3.kept) x3 P3.good P3.fr P4.kept;have z:=zc.mk (K:=fun xs ρ₂ σ₂=>fQ C {lv with fz:=ls++lv.fz} N t body orelse xs ρ₂ σ₂ o ρ' σ') hf P4.good (P4.fr.sub hs) x4 k5 st4 rfl hi
   rcases ho with rfl | rfl<;>obtain rfl:=r<;>exact ⟨_,V.left▸mR hi,_,_,_,_,z⟩
  | brk e1 e2 e3 e4=>
   subst e3 e4;obtain rfl:=r;exact hQ _ _ s4 (fin μ4 s4 (e2▸P4.good) (e1▸P4.fr) x4 k5) rfl
  | ret a e1 e2 e3 e4=>
   subst e3 e4;obtain ⟨v',rfl,r⟩:=r;exact hQ _ _ s4 (fin μ4 s4 (e2▸P4.good) (e1▸P4.fr) x4 k5) ⟨v',rfl,af.fz.mpr r⟩
 ·obtain rfl:i=items.length:=HD V.le hi
  rw [Fk hi] at hf
  refine ao (W.done s₂ _ _ V.st fun h' tk hk hl=>?_)
  obtain ⟨g,f,k⟩:=step h' tk hk hl;exact hf A env μ₂ _ _ _ ok g f fun f μ3 s3 P3 r=>hQ f _ s3 (fin μ3 s3 P3.good P3.fr (x2.trans P3.ext k.le) (k.trans P3.kept fun b q=>(bi x2 (by rw [G2.frz,<- hm]) b q).imp .inl id)) (by
   cases o with
   | ret a=>exact let ⟨v,e,r⟩:=r;⟨v,e,af.fz.mpr r⟩
   | nxt=>exact r
   | brk=>exact r
   | cnt=>exact r)
end
section
variable {C:Cx} {lv:Lv} {N:aE} {ρ ρ₁ ρ₂ ρ₃ ρ':aO} {σ σ₁ σ₂ σ₃ σ':aC} {o:Out} {a b:AV} {A:Around} {env:Env} {μ μ':Mu} {s s':Shared}
theorem aS.hide {l:List Addr} (G:aT C lv A μ σ s) (F:aM A N env μ ρ s.heap) (k:aL A0 NoW s s') (hb:∀ b∈l,s.heap.objs.size<=b/\b<s'.heap.objs.size):aS C lv A N env μ s ρ σ (μ.hide l) s':=
 let x:=fS (μ:=μ) fun b h=>(hb b h).1
 ⟨G.frz,G.hide k hb,F.ext x k noW id (fun zz zz hb=>hb),x,k.lift⟩
theorem bg {h:Heap} {vs:List Value} {ds:List PyData} {as:List Addr} (q:FW h vs ds as) (i:Nat) (v:Value) (d:PyData) (e:vs[i]? = some v) (e':ds[i]? = some d):∃ bs,Reads h v d bs:=by
 induction ds generalizing vs as i with
 | nil=>cases e'
 | cons d' ds ih=>cases q using RA1 with
  | cons r t=>cases i with
   | zero=>cases e;cases e';exact ⟨_,r⟩
   | succ i=>exact ih t i e e'
theorem jj {P:Nat->Value->Nat->Heap->Prop} {St:Nat->Heap->Prop} {tg:Expr} {I:Addr} {fp wr news:List Addr} {items:List AV} {ls:List Nat} {base:Nat} (G:aT C lv A μ σ s) (F:aM A N env μ ρ s.heap) (hb':base<=s.heap.objs.size)
  (W:e8 C.prog C.w A tg I fp wr items.length P St) (hnew:∀ b∈news,s.heap.objs.size<=b/\b<s'.heap.objs.size) (hwn:∀ b∈wr,b∈news) (k:aL A0 NoW s s') (st:St 0 s'.heap)
  (hfp:∀ b∈fp,b∈wr\/(s.heap.objs.size<=b/\b<s'.heap.objs.size/\b∉news)\/(b<s.heap.objs.size/\¬ WS {μ with fz:=ls++μ.fz} N env b/\(b∈μ.hid->b∈μ.foot)))
  (hP:∀ (i:Nat) v a n h' μ',items[i]? = some a->P i v n h'->(∀ b∈μ'.hid,b<n)->Mov μ μ' s.heap h'->af μ' h' a v) :
  aS C lv A N env μ s ρ σ (μ.hide news) s'/\jT C A N tg env (μ.hide news) ls base s'.heap I items:=by
 have P0:aS C lv A N env μ s ρ σ (μ.hide news) s':=aS.hide G F k hnew
 have' old:∀ b,s.heap.objs.size<=b->b∉μ.foot:=fun b hb q=>absurd (G.lt _ (G.sim.foot _ q)) (E0.mpr hb)
 have oldW:∀ b,s.heap.objs.size<=b->¬ WS {(μ.hide news) with fz:=ls++μ.fz} N env b:=fun b hb q=>by
  have' l:b<s.heap.objs.size:=by
   rcases q with ⟨i,p,hp,_,hb'⟩ | rfl | ⟨x,_,hl⟩
   ·exact G.lt b (G.sim.foot b (aj (EK hp) hb'))
   ·exact G.lt _ F.hidL
   ·exact G.lt _ (F.cells (x,b) (bG hl)).1
  exact absurd l (E0.mpr hb)
 have oldF:∀ b,s.heap.objs.size<=b->¬ FA A b:=fun b hb q=>absurd (G.lt _ (G.frs.fa q).1) (E0.mpr hb)
 refine ⟨P0,fp,wr,P,St,W,st,fun b hb=>?_,fun b hb=>⟨fun q=>?_,fun q=>?_⟩,fun b hb=>?_,fun b hb hh=>?_,fun i v a n h' μ' e p hn m=>hP i v a n h' μ' e p hn ((Mov.of P0.ext P0.kept (G.fw fun b hb=>.inl (dE G.sim F b hb))).trans m)⟩
 ·rcases hfp b hb with h | h | h
  ·exact (hnew b (hwn b h)).2
  ·exact h.2.1
  ·exact E5 h.1 k.le
 ·rcases hfp b hb with h | h | h
  ·exact oldW b (hnew b (hwn b h)).1 q
  ·exact oldW b h.1 q
  ·exact h.2.1 q
 ·rcases hfp b hb with h | h | h
  ·exact oldF b (hnew b (hwn b h)).1 q
  ·exact oldF b h.1 q
  ·exact (G.frs.fa q).2.1 (h.2.2 (G.frs.fa q).1)
 ·exact ⟨ED.mpr (.inl (hwn b hb)),old b (hnew b (hwn b hb)).1,EE hb' (hnew b (hwn b hb)).1⟩
 ·rcases hfp b hb with h | h | h
  ·exact .inl h
  ·rcases ED.mp hh with hh | hh
   ·exact absurd hh h.2.2
   ·exact absurd (G.lt _ hh) (E0.mpr h.1)
  ·rcases ED.mp hh with hh | hh
   ·exact absurd h.1 (E0.mpr (hnew b hh).1)
   ·exact .inr (h.2.2 hh)
theorem dh {P:Nat->Value->Prop} {St:Nat->Heap->Prop} {tg:Expr} {I:Addr} {fp:List Addr} {items:List AV} {ls:List Nat} {base:Nat} (G:aT C lv A μ σ s) (F:aM A N env μ ρ s.heap) (hb':base<=s.heap.objs.size)
  (W:e8 C.prog C.w A tg I fp [I] items.length (fun i v zz zz=>P i v) St) (hI:I<s'.heap.objs.size) (hI':s.heap.objs.size<=I) (k:aL A0 NoW s s') (st:St 0 s'.heap)
  (hfp:∀ b∈fp,b=I\/(b<s.heap.objs.size/\¬ WS {μ with fz:=ls++μ.fz} N env b/\(b∈μ.hid->b∈μ.foot))) (hP:∀ (i:Nat) v a,items[i]? = some a->P i v->af μ s.heap a v) :
  aS C lv A N env μ s ρ σ (μ.hide [I]) s'/\jT C A N tg env (μ.hide [I]) ls base s'.heap I items:=
 jj G F hb' W (fun b hb=>by rw [EG.mp hb];exact ⟨hI',hI⟩) (fun b hb=>hb) k st (fun b hb=>(hfp b hb).imp (fun q=>by rw [q];exact .head _) .inr) fun i v a n h' μ' e p zz m=>af.move m (hP i v a e p)
theorem ng {f:List Nat} {b:Addr} {ob:Obj} (G:aT C lv A μ σ s) (F:aM A N env μ ρ s.heap) (e:(cK μ.hid s.heap).get? b=some ob):¬ WS {μ with fz:=f} N env b:=by
 have hb:b∉μ.hid:=fun hm=>by rw [Ht _ hm] at e;cases e
 rintro (⟨i,p,hp,_,hb'⟩ | rfl | ⟨x,_,hl⟩)
 ·exact hb (G.sim.foot b (aj (EK hp) hb'))
 ·exact hb F.hidL
 ·exact hb (F.cells (x,b) (bG hl)).1
theorem kH {ds:List PyData} {i:Nat} {a:AV} (e:(ds.map AV.dat)[i]? = some a):∃ d,ds[i]? = some d/\a=.dat d:=by
 rw [Ei] at e
 cases hx:ds[i]? with
 | none=>rw [hx] at e;cases e
 | some d=>rw [hx] at e;cases e;exact ⟨d,rfl,rfl⟩
theorem bN {h:Heap} {as:List AV} {vs:List Value} (r:aw μ h as vs):vs.length=as.length:=aw.ind r rfl fun zz zz zz zz zz zz ih=>congrArg (· + 1) ih
theorem ec {h:Heap} {as:List AV} {vs:List Value} (r:aw μ h as vs):∀ (i:Nat) (v:Value) (a:AV),vs[i]? = some v->as[i]? = some a->af μ h a v:=by
 refine aw.ind r (fun i v a e zz=>by cases e) fun a' v' as vs hv zz ih i v a e e'=>?_
 cases i with
 | zero=>cases e;cases e';exact hv
 | succ i=>exact ih i v a (by simpa using e) (by simpa using e')
theorem ic {h:Heap} {ds:List PyData} {vs:List Value} {bs:List Addr} (q:FW (cK μ.hid h) vs ds bs):aw μ h (ds.map .dat) vs:=by
 induction ds generalizing vs bs with
 | nil=>cases q using RA0;exact trivial
 | cons d ds ih=>cases q using RA1 with
  | cons r t=>exact ⟨⟨_,r⟩,ih t⟩
theorem fL {h:Heap} {ds:List PyData} {vs:List Value} (r:aw μ h (ds.map .dat) vs):∃ bs,FW (cK μ.hid h) vs ds bs:=by
 induction ds generalizing vs with
 | nil=>cases vs with
  | nil=>exact ⟨_,.nil⟩
  | cons _ _=>exact r.elim
 | cons d ds ih=>cases vs with
  | nil=>exact r.elim
  | cons v vs=>
   obtain ⟨⟨_,r⟩,rs⟩:=r;obtain ⟨_,t⟩:=ih rs;exact ⟨_,.cons r t⟩
theorem kM {b:Addr} {ob:Obj} {hid:List Addr} {h:Heap} (e:(cK hid h).get? b=some ob):b∉hid:=fun hm=>by rw [Ht _ hm] at e;cases e
noncomputable def nS (e:Expr):Bool:=Lh e.ctorIdx 23
theorem hY {tg:Expr} (h:nS tg=true):∀ it v,HE tg it v=pure ():=by
 cases tg<;>first | (intro _ _;rfl) | cases h
noncomputable def zm (e:Expr):Bool:=Lh e.ctorIdx 25
noncomputable def wB:PyData->Bool
 | .tuple _=>true
 | _=>false
inductive OnL (tg:Expr) (ds:List PyData):Prop
 | name:nS tg=true->OnL tg ds
 | tup:zm tg=true->(∀ d∈ds,wB d=true)->OnL tg ds
theorem OnL.walks {h:Heap} {tg:Expr} {ds:List PyData} {I l:Addr} {fp wr:List Addr} {n:Nat} {vs:Array Value} (t:OnL tg ds) (hr:∃ as,FW h vs.toList ds as)
  (W:Walks C.prog C.w A I fp wr n (fun i v=>vs[i]? = some v) (fun i h=>h.IsListIter I l i/\h.IsList l vs)):e8 C.prog C.w A tg I fp wr n (fun i v zz zz=>vs[i]? = some v) (fun i h=>h.IsListIter I l i/\h.IsList l vs):=by
 cases t with
 | name t=>exact .name W (hY t)
 | tup t hd=>
  refine .of W fun i v s Q E p st hQ=>?_
  obtain ⟨as,hr⟩:=hr;have hi:i<ds.length:=by
   have:=(FX.mp p).1
   rw [<- a9 hr];simpa using this
  obtain ⟨bs,r⟩:=bg hr i v ds[i] (by simpa using p) (by simp [hi])
  have hq:=hd ds[i] (Ge hi)
  cases tg<;>first | cases t | skip
  generalize ds[i]=d at r hq
  cases r<;>first | (cases hq;done) | exact wpAny_letOwnedTupleGo_listiter st.1 hQ
theorem fH {tg e:Expr} {ds:List PyData} (h:aH C lv N e ρ σ (.dat (.list ds)) ρ₁ σ₁) (hq:autoParam (lv.q=true) aR) (ht:OnL tg ds):gK C lv N tg e [] ρ σ (ds.map .dat) ρ₁ σ₁:=by
 intro A env μ s Q E ok G F hQ
 refine h A env μ s _ _ ok G F fun v μ1 s1 P1 qq1=>?_
 obtain ⟨as,r⟩:=qq1
 cases r using RL with
 | @list a o vs n as ho hc hd hr=>
  have hl:s1.heap.IsList a vs:=⟨o,Ex _ ho,hc,n,hd⟩;have hlt:a<s1.heap.objs.size:=Ea (Ex _ ho);have hlen:vs.size=ds.length:=a9 hr;refine Hh hl ?_;have W:=Walks.list (prog:=C.prog) (w:=C.w) (P1.good.quiet hq) s1.heap.objs.size a (FE hlt) vs
  rw [show vs.size=(ds.map AV.dat).length by simp [hlen]] at W
  obtain ⟨P2,it⟩:=dh (tg:=tg) (s':={s1 with heap:=s1.heap.push {cls:=.type "list_iterator",data:=.fields #[.ref a,.int 0 0]}}) (ls:=[]) (base:=s.heap.objs.size) P1.good P1.fr P1.kept.le (ht.walks ⟨_,hr⟩ W) (by show _<(HV _ _).objs.size;rw [ER];exact E3 _) (EH _) (bB _ _)
   ⟨⟨_,EP _ rfl,rfl,rfl⟩,hl.at fun o e=>EJ _ e⟩ (fun b hb=>by
    rcases ES.mp hb with rfl | hb
    ·exact .inl rfl
    ·rw [EG.mp hb];exact .inr ⟨hlt,ng P1.good P1.fr ho,fun q=>absurd q (kM ho)⟩) fun i v a e p=>by
     obtain ⟨d,hd',rfl⟩:=kH e;exact bg hr i v d (by simpa using p) hd'
  exact hQ _ _ _ (P1.trans P2) it
theorem kc {tg e:Expr} {ds:List PyData} (h:aH C lv N e ρ σ (.dat (.tuple ds)) ρ₁ σ₁) (hq:autoParam (lv.q=true) aR) (hnm:autoParam (nS tg=true) aR):gK C lv N tg e [] ρ σ (ds.map .dat) ρ₁ σ₁:=by
 intro A env μ s Q E ok G F hQ
 refine h A env μ s _ _ ok G F fun v μ1 s1 P1 qq1=>?_
 obtain ⟨as,r⟩:=qq1
 cases r using RT with
 | @tuple a o vs n as ho hc hd hr=>
  have hl:s1.heap.IsTuple a vs:=⟨o,Ex _ ho,hc,n,hd⟩;have hlt:a<s1.heap.objs.size:=Ea (Ex _ ho);have hlen:vs.size=ds.length:=a9 hr;refine wpAny_pyIter_tuple hl ?_;have W:=Walks.tuple (prog:=C.prog) (w:=C.w) (P1.good.quiet hq) s1.heap.objs.size a (FE hlt) vs
  rw [show vs.size=(ds.map AV.dat).length by simp [hlen]] at W
  obtain ⟨P2,it⟩:=dh (tg:=tg) (s':={s1 with heap:=s1.heap.push {cls:=.type "tuple_iterator",data:=.fields #[.ref a,.int 0 0]}}) (ls:=[]) (base:=s.heap.objs.size) P1.good P1.fr P1.kept.le (.name W (hY hnm)) (by show _<(HV _ _).objs.size;rw [ER];exact E3 _) (EH _) (bB _ _)
   ⟨⟨_,EP _ rfl,rfl,rfl⟩,let ⟨o,ho,r⟩:=hl;⟨o,EJ _ ho,r⟩⟩ (fun b hb=>by
    rcases ES.mp hb with rfl | hb
    ·exact .inl rfl
    ·rw [EG.mp hb];exact .inr ⟨hlt,ng P1.good P1.fr ho,fun q=>absurd q (kM ho)⟩) fun i v a e p=>by
     obtain ⟨d,hd',rfl⟩:=kH e;exact bg hr i v d (by simpa using p) hd'
  exact hQ _ _ _ (P1.trans P2) it
theorem jQ {i:Nat} {p:Addr×List Addr} {b:Addr} (G:aT C lv A μ σ s) (F:aM A N env μ ρ s.heap) (hp:μ.objs[i]? = some p) (hb:b∈p.2):¬ WS {μ with fz:=[i]++μ.fz} N env b:=by
 rintro (⟨j,q,hq,hj,hb'⟩ | rfl | ⟨x,_,hl⟩)
 ·by_cases hij:j=i
  ·exact hj (hij▸.head _)
  ·exact ku G.sim.apart hq hp hij b hb' hb
 ·exact F.freeL (aj (EK hp) hb)
 ·exact (F.cells (x,b) (bG hl)).2.1 (aj (EK hp) hb)
theorem x8 {tg e:Expr} {i:Nat} {xs:List AV} (h:aH C lv N e ρ σ (.ref i) ρ₁ σ₁) (hx:σ₁[i]? = some (.list xs)) (hq:autoParam (lv.q=true) aR) (hnm:autoParam (nS tg=true) aR):gK C lv N tg e [i] ρ σ xs ρ₁ σ₁:=by
 intro A env μ s Q E ok G F hQ
 refine h A env μ s _ _ ok G F fun v μ1 s1 P1 qq1=>?_
 obtain ⟨p,hp,hv⟩:=qq1
 subst hv
 obtain ⟨e1,vs,hpl,hr⟩:=P1.good.sim.rep i p _ hp hx
 have hl:s1.heap.IsList p.1 vs:=hpl.isList
 have hlt:p.1<s1.heap.objs.size:=P1.good.lt _ (P1.good.sim.foot _ (aj (EK hp) (by rw [e1];exact .head _)))
 have' hlen:vs.size=xs.length:=bN hr
 refine Hh hl ?_
 have W:=Walks.list (prog:=C.prog) (w:=C.w) (P1.good.quiet hq) s1.heap.objs.size p.1 (FE hlt) vs
 rw [hlen] at W
 obtain ⟨P2,it⟩:=dh (tg:=tg) (s':={s1 with heap:=s1.heap.push {cls:=.type "list_iterator",data:=.fields #[.ref p.1,.int 0 0]}}) (ls:=[i]) (base:=s.heap.objs.size) P1.good P1.fr P1.kept.le (.name W (hY hnm)) (by show _<(HV _ _).objs.size;rw [ER];exact E3 _) (EH _) (bB _ _)
  ⟨⟨_,EP _ rfl,rfl,rfl⟩,hl.at fun o e=>EJ _ e⟩ (fun b hb=>by
   rcases ES.mp hb with rfl | hb
   ·exact .inl rfl
   ·rw [EG.mp hb];exact .inr ⟨hlt,jQ P1.good P1.fr hp (by rw [e1];exact .head _),fun zz=>aj (EK hp) (by rw [e1];exact .head _)⟩) fun j v a e p=>ec hr j v a (by simpa using p) e
 exact hQ _ _ _ (P1.trans P2) it
noncomputable def jF (a:Int) (n:Nat):List AV:=(EN n).map fun (i:Nat)=>AV.dat (.int (a+i))
theorem jr {tg:Expr} {R:Obj} {M c:Int} {tk base:Nat} (hnm:nS tg=true) (G:aT C lv A μ σ s) (F:aM A N env μ ρ s.heap) (hb:base<=s.heap.objs.size) (hq:lv.q=true) (hsz:(((M - c).toNat:Nat):Int)=En.Range.rangeSize c M 1) :
  aS C lv A N env μ s ρ σ (μ.hide [(s.heap.push R).objs.size]) {s with heap:=(s.heap.push R).push {cls:=.type "range_iterator",data:=.fields #[rawInt c,rawInt (En.Range.rangeSize c M 1),rawInt 1]},toks:=tk} /\
   jT C A N tg env (μ.hide [(s.heap.push R).objs.size]) [] base ((s.heap.push R).push {cls:=.type "range_iterator",data:=.fields #[rawInt c,rawInt (En.Range.rangeSize c M 1),rawInt 1]}) (s.heap.push R).objs.size (jF c (M - c).toNat):=by
 have W:=Walks.range (prog:=C.prog) (w:=C.w) (G.quiet hq) (s.heap.push R).objs.size c 1 (M - c).toNat
 have hl:(jF c (M - c).toNat).length=(M - c).toNat:=by simp [jF]
 generalize hi:jF c (M - c).toNat=items at hl
 rw [<- hl] at W
 refine dh (tg:=tg) (s':={s with heap:=(s.heap.push R).push {cls:=.type "range_iterator",data:=.fields #[rawInt c,rawInt (En.Range.rangeSize c M 1),rawInt 1]},toks:=tk}) (ls:=[]) (base:=base) G F hb (.name W (hY hnm)) (by simp only [ER];exact E3 _) (by simp only [ER];exact Eg _) (ab (by simp only [ER];exact Fi (Eg _)) fun b o e=>EJ _ (EJ _ e)) ?_ (fun b hb=>.inl (EG.mp hb)) fun i v a e p=>?_
 ·rw [hl,hsz]
  have' e1:c+((0:Nat):Int) * 1=c:=by simp
  have' e2:En.Range.rangeSize c M 1 - ((0:Nat):Int)=En.Range.rangeSize c M 1:=by simp
  rw [e1,e2]
  exact EP _ rfl
 ·obtain ⟨t,rfl⟩:=p
  rw [<- hi] at e
  have hlt:i<(M - c).toNat:=by
   have:=(EI.mp e).1
   simpa [jF] using this
  have:a=.dat (.int (c+i)):=by
   simp [jF,hlt] at e
   exact e.symm
  subst this
  rw [show c+(i:Int) * 1=c+i by omega]
  exact ⟨_,.int _ t⟩
theorem sH {tg e:Expr} {rp rpos:Pos} {M:Int} (g:bw N "range") (hm:C.mg "range" = none) (hb:C.mb "range" = some (.type "range")) (he:aH C lv N e ρ σ (.dat (.int M)) ρ₁ σ₁) (hlo:-(2 ^ 62)<=M) (hhi:M<2 ^ 62)
  (hn:autoParam (bx e=true) aR) (hq:autoParam (lv.q=true) aR) (hnm:autoParam (nS tg=true) aR):gK C lv N tg (.Call (.Name "range" rp) [e] [] rpos) [] ρ σ (jF 0 M.toNat) ρ₁ σ₁:=by
 intro A env μ s Q E ok G F hQ
 refine GI ?_
 refine kO (pos:=rp) g hm hb A env μ s _ _ ok G F fun v μ0 s0 P0 e0=>?_
 obtain rfl:=e0
 rw [show backTo rpos (Fv [e] env)=[(false,eval e env)] by rw [a7 hn];rfl]
 refine PySem.callWith_type rfl (FO (FS (he A env μ0 s0 _ _ ok P0.good P0.fr fun nv μ1 s1 P1 ⟨as,r⟩=>Fo ?_)))
 cases r using RI with
 | int tN=>
  refine call_range_1 ?_;refine wpAny_pyIter_range (IsRange.new ..) (small_one (by decide) (by decide) hlo hhi) ?_
  have P01:=P0.trans P1;obtain ⟨P2,it⟩:=jr (tg:=tg) hnm (R:={cls:=.type "range",data:=.fields #[.int 0 s1.toks,.int M tN,.int 1 (s1.toks+1)]}) (M:=M) (c:=0) (tk:=s1.toks+1+1) (base:=s.heap.objs.size) P01.good P01.fr P01.kept.le hq (by rw [rangeSize_one];split<;>omega)
  rw [show M - 0=M by omega] at it
  exact hQ _ _ _ (P01.trans P2) it
theorem pv {tg e f:Expr} {rp rpos:Pos} {c M:Int} (g:bw N "range") (hm:C.mg "range" = none) (hb:C.mb "range" = some (.type "range")) (he:aH C lv N e ρ σ (.dat (.int c)) ρ₁ σ₁) (hf:aH C lv N f ρ₁ σ₁ (.dat (.int M)) ρ₂ σ₂)
  (hlo:-(2 ^ 62)<=M) (hhi:M<2 ^ 62) (hlo':-(2 ^ 62)<=c) (hhi':c<2 ^ 62)
  (hn:autoParam (bx e=true) aR) (hn':autoParam (bx f=true) aR) (hq:autoParam (lv.q=true) aR) (hnm:autoParam (nS tg=true) aR):gK C lv N tg (.Call (.Name "range" rp) [e,f] [] rpos) [] ρ σ (jF c (M - c).toNat) ρ₂ σ₂:=by
 intro A env μ s Q E ok G F hQ
 refine GI ?_
 refine kO (pos:=rp) g hm hb A env μ s _ _ ok G F fun v μ0 s0 P0 e0=>?_
 obtain rfl:=e0
 rw [show backTo rpos (Fv [e,f] env)=[(false,eval e env),(false,eval f env)] by rw [a7 hn,a7 hn'];rfl]
 refine PySem.callWith_type rfl (FO (FS (he A env μ0 s0 _ _ ok P0.good P0.fr fun nv μ1 s1 P1 r=>FS (hf A env μ1 s1 _ _ ok P1.good P1.fr fun nv' μ2 s2 P2 ⟨as',r'⟩=>Fo ?_))))
 obtain ⟨as,r⟩:=P2.val P1.good P1.fr r
 cases r using RI with
 | int tN=>cases r' using RI with
 | int tN'=>
  refine call_range_2 ?_;refine wpAny_pyIter_range (IsRange.new ..) (small_one hlo' hhi' hlo hhi) ?_;have P01:=P0.trans (P1.trans P2);obtain ⟨P3,it⟩:=jr (tg:=tg) hnm (R:={cls:=.type "range",data:=.fields #[.int c tN,.int M tN',.int 1 s2.toks]}) (M:=M) (c:=c) (tk:=s2.toks+1) (base:=s.heap.objs.size) P01.good P01.fr P01.kept.le hq (by rw [rangeSize_one];split<;>omega)
  exact hQ _ _ _ (P01.trans P3) it
end
theorem bT:∀ (names:List (Str×Eb)) (n:Nat) (acc:List (Str×Addr)),GS n names acc=GS n names []++acc:=by
 intro names
 induction names with
 | nil=>exact fun zz zz=>rfl
 | cons x r ih=>
  intro n acc;obtain ⟨x,k⟩:=x;unfold GS
  split
  ·rw [ih (n+1) ((x,n) :: acc),ih (n+1) [(x,n)],FH];rfl
  ·exact ih n acc
theorem iT:∀ {names:List (Str×Eb)} {n:Nat} {x:Str},(x,Eb.cell)∈names->∃ c,(x,c)∈GS n names []:=by
 intro names
 induction names with
 | nil=>intro n x h;exact absurd h Fb
 | cons p r ih0=>
  obtain ⟨y,k⟩:=p;intro n x h;unfold GS
  rcases ES.mp h with e | h
  ·cases e
   rw [if_pos (by rfl),bT]
   exact ⟨n,ED.mpr (.inr (.head _))⟩
  ·split
   ·rw [bT]
    obtain ⟨c,hc⟩:=ih0 (n:=n+1) h;exact ⟨c,ED.mpr (.inl hc)⟩
   ·exact ih0 h
set_option tactic.hygienic true in
theorem dm {α:Type} {x:Str}:∀ {l:List (Str×α)} {c:α},(x,c)∈l->∃ d,l.lookup x=some d:=by
 intro l
 induction l with
 | nil=>intro c h;exact absurd h Fb
 | cons p l ih0=>
  obtain ⟨y,d⟩:=p;intro c h
  rw [GR]
  split
  ·exact ⟨_,rfl⟩
  ·rename_i ne
   rcases ES.mp h with e | h
   ·cases e;simp at ne
   ·exact ih0 h
theorem sB {α:Type} {x:Str} {c:α}:∀ {l r:List (Str×α)},(∃ d,r.lookup x=some d)->∃ d,(l++r).lookup x=some d:=by
 intro l
 induction l with
 | nil=>intro _ h;exact h
 | cons p l ih0=>
  obtain ⟨y,d⟩:=p;intro r h
  rw [El,GR]
  split
  ·exact ⟨_,rfl⟩
  ·exact ih0 h
theorem nj:∀ (names:List (Str×Eb)) (h:Heap),h.objs.size<=(pushCells h names).objs.size:=by
 intro names
 induction names with
 | nil=>exact fun zz=>EH _
 | cons x r ih=>
  intro h;obtain ⟨_,kind⟩:=x;unfold pushCells
  split
  ·exact EE (by rw [ER];exact Eg _) (ih _)
  ·exact ih h
structure oB (names:aE) (closure:List (Str×Addr)) (μ:Mu) (h:Heap):Prop where
 cells:∀ p∈closure,p.2∈μ.hid/\p.2∉μ.foot/\∃ v,h.IsCell p.2 v
 apart:∀ p∈closure,∀ q∈closure,p.2=q.2->p.1=q.1
 free:∀ x,(x,Eb.free)∈names->∃ c,closure.lookup x=some c
theorem oB.nil {names:aE} {μ:Mu} {h:Heap} (hf:∀ p∈names,p.2≠.free):oB names [] μ h:=⟨jP,jP,fun x h=>absurd rfl (hf (x,.free) h)⟩
structure dW (N:aE):Prop where
 nodup:(N.map (·.1)).Nodup
 plain:∀ p∈N,(p.1==("__debug__" : Str))=false/\(p.1==("__classdict__" : Str))=false
noncomputable def cL (N:aE) (ρ:aO):Prop:=∀ P:aE->aO->Prop,P [] []->(∀ p N ρ,P N ρ->P (p :: N) (none :: ρ))->P N ρ
theorem cL.nil:cL [] []:=fun zz h zz=>h
theorem cL.cons {p:Str×Eb} {N:aE} {ρ:aO} (b:cL N ρ):cL (p :: N) (none :: ρ):=fun P h t=>t _ _ _ (b P h t)
theorem bl4 {p p1 p2 p3:Str×Eb} {N:aE} {ρ:aO} (b:cL N ρ):cL (p :: p1 :: p2 :: p3 :: N) (none :: none :: none :: none :: ρ):=.cons (.cons (.cons (.cons b)))
theorem cL.vars {env:Env} {m:Str->Option Value} {μ:Mu} {h:Heap} {N:aE} {ρ:aO} (b:cL N ρ):fB env m μ h N ρ:=b (fun N ρ=>fB env m μ h N ρ) trivial fun zz zz zz ih=>ih
section
variable {C:Cx} {lv:Lv} {N:aE} {ρ ρ₁ ρ₂ ρ₃ ρ':aO} {σ σ₁ σ₂ σ₃ σ':aC} {o:Out} {a b:AV} {A:Around} {env:Env} {μ μ':Mu} {s s':Shared}
noncomputable def dA (L:Addr) (names:aE):List Addr:=L :: (GS (L+1) names []).map (·.2)
noncomputable def bX (h:Heap) (cls:String) (names:aE):Heap:=pushCells (h.push {cls:=.type cls,data:=.dict #[]}) names
theorem eX {scope:Scope} {globals:Addr} {closure:List (Str×Addr)} {binds:List (Str×Value)} {qual:Str} {func:Option Addr} {code:Value} {around:Option Env} {builtins:Addr} {Q:Env->Shared->Prop} {E:Value->Shared->Prop}
  (h:∀ L',L'=newEnv scope s.heap.objs.size globals (GS (s.heap.objs.size+1) scope.names closure) qual func code around builtins->
   wpAny (model C.prog C.w) A (do
    for (name,v) in binds do LY L' name v
    return L') Q E {s with heap:=bX s.heap (if around.isSome then "dict" else "frame") scope.names}) :
  wpAny (model C.prog C.w) A (newFunctionEnv scope globals closure binds qual func code around builtins) Q E s:=by
 simp only [newFunctionEnv]
 refine EA (wpAny_alloc (EA (wpAny_layCells _ (fun name kind cells=>by cases hkc:kind==Eb.cell<;>simp [hkc]) _ _ _ _ ?_)))
 have h':=h _ rfl
 simp only [ER]
 cases around<;>exact h'
theorem jR {A':Around} {cls:String} {scope:Scope} {closure:List (Str×Addr)} {env':Env} (G:aT C lv A μ σ s) (ok:dW scope.names) (cl:oB scope.names closure μ s.heap) (hb:cL scope.names ρ)
  (e1:env'.locals=s.heap.objs.size) (e2:env'.cells=GS (s.heap.objs.size+1) scope.names closure) (e3:env'.globals=Gk) (e4:env'.builtins=H5) (e5:env'.scope.kind=.function)
  (hk:∀ p∈scope.names,env'.kindOf p.1=some p.2\/(p.2=.free/\env'.kindOf p.1=some .cell)) (hfe:∃ L,env'.frame=some L/\FA A' L) :
  aT C lv A (μ.hide (dA s.heap.objs.size scope.names)) σ {s with heap:=bX s.heap cls scope.names}/\aM A' scope.names env' (μ.hide (dA s.heap.objs.size scope.names)) ρ (bX s.heap cls scope.names) /\
   Ext μ (μ.hide (dA s.heap.objs.size scope.names)) s.heap.objs.size/\aL A0 NoW s {s with heap:=bX s.heap cls scope.names}:=by
 have okc:=JI scope.names (s.heap.push {cls:=.type cls,data:=.dict #[]}) (s.heap.objs.size+1) [] ⟨fun zz zz hm=>(nomatch hm),HN.nil⟩ (by rw [ER];exact EH _)
 rw [ER] at okc
 have k:aL A0 NoW s {s with heap:=bX s.heap cls scope.names}:=ab (tk:=s.toks) (EE (by rw [ER];exact Eg _) (nj _ _)) fun b o e=>pushCells_keeps _ _ b o (EJ _ e)
 have hns:(bX s.heap cls scope.names).Ns s.heap.objs.size fun zz=>none:=(Heap.Ns.new s.heap (.type cls)).keeps (pushCells_keeps _ _)
 have hnew:∀ b∈dA s.heap.objs.size scope.names,s.heap.objs.size<=b/\b<(bX s.heap cls scope.names).objs.size:=by
  intro b hb
  rcases ES.mp hb with rfl | hb
  ·exact ⟨EH _,hns.lt⟩
  ·obtain ⟨p,hp,rfl⟩:=EL.mp hb
   obtain ⟨hc,hl⟩:=okc.empty p.1 p.2 hp;exact ⟨GX hl,hc.lt⟩
 have' x:Ext μ (μ.hide (dA s.heap.objs.size scope.names)) s.heap.objs.size:=fS fun b hb=>(hnew b hb).1
 have nf:∀ b,s.heap.objs.size<=b->b∉μ.foot:=fun b hb q=>absurd (G.lt _ (G.sim.foot _ q)) (E0.mpr hb)
 refine ⟨G.hide k hnew,⟨e5,e3,e4,ok.nodup,ok.plain,hk,?_,?_,?_,?_,?_,hfe,fun zz=>none,by rw [e1];exact hns,hb.vars⟩,x,k⟩
 ·rw [e1];exact ED.mpr (.inl (.head _))
 ·rw [e1];exact nf _ (EH _)
 ·rintro ⟨y,kd⟩ hp hkd
  rw [e2,bT]
  dsimp only at hkd ⊢
  rcases hkd with rfl | rfl
  ·obtain ⟨c,hc⟩:=iT (n:=s.heap.objs.size+1) hp
   exact dm (ED.mpr (.inl hc))
  ·exact sB (c:=0) (cl.free _ hp)
 ·intro p hp
  rw [e2,bT] at hp
  rcases ED.mp hp with hp | hp
  ·obtain ⟨hc,hl⟩:=okc.empty p.1 p.2 hp
   refine ⟨ED.mpr (.inl (.tail _ (EL.mpr ⟨p,hp,rfl⟩))),nf _ (GX hl),?_,none,hc⟩
   rw [e1]
   exact IW hl
  ·obtain ⟨c1,c2,v,c3⟩:=cl.cells p hp
   exact ⟨ED.mpr (.inr c1),c2,by rw [e1];exact FE c3.lt,v,c3.keeps k.up⟩
 ·intro p hp q hq e
  rw [e2,bT] at hp hq
  rcases ED.mp hp with hp | hp<;>rcases ED.mp hq with hq | hq
  ·exact name_of_addr okc.apart (c:=p.2) hp (by rw [e];exact hq)
  ·have l1:=ltA (cl.cells q hq).2.2.choose_spec.lt
   have l2:=leA (okc.empty p.1 p.2 hp).2
   rw [e] at l2;omega
  ·have l1:=ltA (cl.cells p hp).2.2.choose_spec.lt
   have l2:=leA (okc.empty q.1 q.2 hq).2
   rw [e] at l1;omega
  ·exact cl.apart p hp q hq e
theorem nG {scope:Scope} {closure:List (Str×Addr)} {env':Env} (G:aT C lv A μ σ s) (nd:(scope.names.map (·.1)).Nodup) (e1:env'.locals=s.heap.objs.size) (e2:env'.cells=GS (s.heap.objs.size+1) scope.names closure) {l:List Addr} {b:Addr}
  (h:WS (μ.hide l) scope.names env' b):WC μ b\/s.heap.objs.size<=b:=by
 rcases h with h | rfl | ⟨x,hx,hl⟩
 ·exact .inl h
 ·exact .inr (by rw [e1];exact EH _)
 ·right
  have okc:=JI scope.names (s.heap.push {cls:=.type "dict",data:=.dict #[]}) (s.heap.objs.size+1) [] ⟨fun zz zz hm=>(nomatch hm),HN.nil⟩ (by rw [ER];exact EH _)
  rw [ER] at okc
  rw [e2,bT] at hl
  obtain ⟨c,hc⟩:=iT (n:=s.heap.objs.size+1) hx;obtain ⟨d,hd⟩:=dm hc
  rw [List.lookup_append,hd] at hl
  cases hl
  exact GX (okc.empty x _ (bG hd)).2
end
noncomputable def dD (μ:Mu) (h:Heap):List (Str×AV)->List (Str×Value)->Prop
 | [],[]=>True
 | (x,a) :: bs,(y,v) :: vs=>(x=y/\af μ h a v)/\dD μ h bs vs
 | _,_=>False
theorem dD.e0 {μ:Mu} {h:Heap} {vs:List (Str×Value)} (r:dD μ h [] vs):vs=[]:=by
 cases vs with
 | nil=>rfl
 | cons=>exact r.elim
theorem dD.e1 {μ:Mu} {h:Heap} {k:Str} {a:AV} {vs:List (Str×Value)} (r:dD μ h [(k,a)] vs):∃ w,vs=[(k,w)]/\af μ h a w:=by
 cases vs with
 | nil=>exact r.elim
 | cons w vs=>cases w with
  | mk y w=>exact ⟨w,by rw [r.2.e0,r.1.1,],r.1.2⟩
@[elab_as_elim] theorem dD.ind {μ:Mu} {h:Heap} {motive:List (Str×AV)->List (Str×Value)->Prop} {as:List (Str×AV)} {vs:List (Str×Value)} (r:dD μ h as vs) (h0:motive [] [])
  (h1:∀ x a v as vs,af μ h a v->motive as vs->motive ((x,a) :: as) ((x,v) :: vs)):motive as vs:=by
 induction as generalizing vs with
 | nil=>cases vs with
  | nil=>exact h0
  | cons _ _=>exact r.elim
 | cons p as ih=>
  obtain ⟨x,a⟩:=p
  cases vs with
  | nil=>exact r.elim
  | cons q vs=>
   obtain ⟨y,v⟩:=q;obtain ⟨⟨rfl,hv⟩,r⟩:=r;exact h1 _ _ _ _ _ hv (ih r)
section
variable {A:Around} {μ μ':Mu} {W:Addr->Prop} {s s':Shared} (x:Ext μ μ' s.heap.objs.size) (k:aL A W s s') (hW:∀ b,W b\/FA A b->b∈μ.hid\/s.heap.objs.size<=b)
include x k hW
theorem dD.mono {as:List (Str×AV)} {vs:List (Str×Value)} (r:dD μ s.heap as vs):dD μ' s'.heap as vs:=dD.ind r trivial fun zz zz zz zz zz hv ih=>⟨⟨rfl,af.mono x k hW hv⟩,ih⟩
end
theorem lN {μ:Mu} {h:Heap} {names:List Str} {as:List AV} {vs:List Value} (r:aw μ h as vs):dD μ h (names.zip as) (names.zip vs):=by
 refine aw.ind (motive:=fun as vs=>∀ names:List Str,dD μ h (names.zip as) (names.zip vs)) r (fun names=>?_) (fun a v as vs hv zz ih names=>?_) names
 ·rw [FT,FT,];trivial
 ·cases names with
  | nil=>trivial
  | cons x names=>exact ⟨⟨rfl,hv⟩,ih names⟩
theorem kS {μ:Mu} {h:Heap} {as bs:List (Str×AV)} {vs ws:List (Str×Value)} (r:dD μ h as vs) (q:dD μ h bs ws):dD μ h (as++bs) (vs++ws):=dD.ind r q fun zz zz zz zz zz hv ih=>⟨⟨rfl,hv⟩,ih⟩
noncomputable def aP (C:Cx) (m:Nat) (fz:List Nat) (f:Value) (as:List AV) (ks:List (Str×AV)) (σ:aC) (a:AV) (σ':aC):Prop:=
 ∀ (A:Around) (μ:Mu) (s:Shared) (vs:List Value) (kvs:List (Str×Value)) (R:Result->Shared->Prop),C.Ok->aT C ⟨true,m,fz⟩ A μ σ s->aw μ s.heap as vs->dD μ s.heap ks kvs->
  (∀ v μ' s',aT C ⟨true,m,fz⟩ A μ' σ' s'->Ext μ μ' s.heap.objs.size->aL A (WC μ) s s'->af μ' s'.heap a v->R (.ok (.ret v)) s')->GP (model C.prog C.w) A (.call f ⟨vs,kvs⟩) R s
noncomputable def bP (C:Cx) (fd:Hm) (as:List AV) (ks bs:List (Str×AV)):Prop:=
 ∀ (A:Around) (μ:Mu) (s:Shared) (vs:List Value) (kvs:List (Str×Value)) (Q:List (Str×Value)->Shared->Prop) (E:Value->Shared->Prop),C.K.In s.heap->(∀ b∈μ.hid,b<s.heap.objs.size)->aw μ s.heap as vs->dD μ s.heap ks kvs->
  (∀ binds s',aL A0 NoW s s'->dD μ s'.heap bs binds->Q binds s')->wpAny (model C.prog C.w) A (Jt fd ⟨vs,kvs⟩) Q E s
theorem bP.of_peek {C:Cx} {fd:Hm} {as:List AV} {ks bs:List (Str×AV)} (h:∀ μ h vs kvs,aw μ h as vs->dD μ h ks kvs->∃ binds,(∀ S,peek C.K S (Jt fd ⟨vs,kvs⟩)=some binds)/\dD μ h bs binds):bP C fd as ks bs:=by
 intro A μ s vs kvs Q E X _ r rk hQ
 obtain ⟨binds,hp,hr⟩:=h μ s.heap vs kvs r rk
 exact kp_binds X hp _ _ _ _ (hQ binds s (aL.refl _ _ _) hr)
theorem bP.plain {C:Cx} {fd:Hm} {as:List AV} (names:List Str) (dflt:List (Str×Value)) (dbs:List (Str×AV)) (hp:∀ vs:List Value,vs.length=as.length->∀ S,peek C.K S (Jt fd ⟨vs,[]⟩)=some (names.zip vs++dflt))
  (hd:∀ μ h,dD μ h dbs dflt):bP C fd as [] (names.zip as++dbs):=.of_peek fun μ h vs kvs r rk=>by
 cases kvs with
 | nil=>exact ⟨_,hp vs (bN r),kS (lN r) (hd μ h)⟩
 | cons _ _=>exact rk.elim
theorem bP.args {C:Cx} {fd:Hm} {as:List AV} (hp:∀ vs:List Value,vs.length=as.length->∀ S,peek C.K S (Jt fd ⟨vs,[]⟩)=some ((fd.params.args.map (·.arg)).zip vs)):bP C fd as [] ((fd.params.args.map (·.arg)).zip as):=by
 have:=bP.plain (C:=C) (as:=as) (fd.params.args.map (·.arg)) [] [] (fun vs hl S=>by rw [FF,];exact hp vs hl S) fun zz zz=>trivial
 rwa [FF] at this
noncomputable def cO (N:aE) (ρ:aO) (bs:List (Str×AV)) (ρ':aO):Prop:=∀ P:aO->List (Str×AV)->aO->Prop,(∀ ρ,P ρ [] ρ)->(∀ ρ x k a ρ₁ bs ρ₂,bS N ρ x k a ρ₁->k=.local\/k=.cell->P ρ₁ bs ρ₂->P ρ ((x,a) :: bs) ρ₂)->P ρ bs ρ'
theorem cO.nil {N:aE} {ρ:aO}:cO N ρ [] ρ:=fun zz h zz=>h _
theorem cO.cons {N:aE} {ρ:aO} {x:Str} {k:Eb} {a:AV} {ρ₁:aO} {bs:List (Str×AV)} {ρ₂:aO} (l:bS N ρ x k a ρ₁) (hk:k=.local\/k=.cell) (s:cO N ρ₁ bs ρ₂):cO N ρ ((x,a) :: bs) ρ₂:=fun P h t=>t _ _ _ _ _ _ _ l hk (s P h t)
section
variable {C:Cx} {lv:Lv} {N:aE} {ρ ρ₁ ρ₂ ρ₃ ρ':aO} {σ σ₁ σ₂ σ₃ σ':aC} {o:Out} {a b:AV} {A:Around} {env:Env} {μ μ':Mu} {s s':Shared}
theorem mj {bs:List (Str×AV)} (st:cO N ρ bs ρ'):∀ {A':Around} {binds:List (Str×Value)} {μ:Mu} {s:Shared} {Q:PUnit->Shared->Prop} {E:Value->Shared->Prop},aT C lv A μ σ s->aM A N env μ ρ s.heap->dD μ s.heap bs binds->
  (∀ s',aS C lv A N env μ s ρ' σ μ s'->Q ⟨⟩ s')->wpAny (model C.prog C.w) A' (forIn binds PUnit.unit fun (x:Str×Value) _=>do LY env x.1 x.2;pure (ForInStep.yield PUnit.unit)) Q E s:=by
 refine st (fun ρ bs ρ'=>∀ {A':Around} {binds:List (Str×Value)} {μ:Mu} {s:Shared} {Q:PUnit->Shared->Prop} {E:Value->Shared->Prop},aT C lv A μ σ s->aM A N env μ ρ s.heap->dD μ s.heap bs binds->(∀ s',aS C lv A N env μ s ρ' σ μ s'->Q ⟨⟩ s')->wpAny (model C.prog C.w) A' (forIn binds PUnit.unit fun (x:Str×Value) _=>do LY env x.1 x.2;pure (ForInStep.yield PUnit.unit)) Q E s) ?nil ?cons
 case nil=>
  intro _ A' binds μ s Q E G F r h
  cases binds with
  | nil=>rw [IX,];exact EF (h s (aS.refl G F))
  | cons _ _=>exact r.elim
 case cons=>
  intro ρ x k a ρ₁ bs ρ₂ l hk ih A' binds μ s Q E G F r h
  cases binds with
  | nil=>exact r.elim
  | cons p binds=>
   obtain ⟨y,v⟩:=p;obtain ⟨⟨rfl,rv⟩,r⟩:=r
   rw [KP,]
   refine EA (EA (gA G F l hk rv fun s1 P1=>EF ?_))
   exact ih P1.good P1.fr (r.mono P1.ext P1.kept (G.fw fun b hb=>.inl (dE G.sim F b hb))) fun s2 P2=>h s2 (P1.trans P2)
theorem aT.around {lv':Lv} {A':Around} (G:aT C lv A μ σ s) (hq:lv'.q=true->A'.handled=none) (hf:lv'.fz=lv.fz) (h1:A'.depth+4 * lv'.n+20<recursionLimit) (h2:A'.units+16 * lv'.n+200<cLine) (h3:Frs A' μ s.heap):aT C lv' A' μ σ s:=
 ⟨hq,G.frz.trans hf.symm,h1,h2,G.top,G.base,G.low,G.lt,G.sim,h3⟩
theorem Frs.deeper {A1:Around} (f:Frs A μ s.heap) (F:aM A1 N env μ ρ s.heap) (hf:env.frame=some env.locals) (hk:env.scope.kind=.function):Frs (A.deeper env) μ s.heap:=by
 obtain ⟨l,e,H⟩:=f.all
 refine ⟨env :: l,by show A.frames.map _=_;rw [e,];rfl,fun e' hm=>?_⟩
 rcases ES.mp hm with rfl | hm
 ·obtain ⟨m,⟨o,es,n,ho,hd,_⟩,_⟩:=F.vals
  exact ⟨by rw [hk,];decide,_,hf,F.hidL,F.freeL,o,es,n,ho,hd⟩
 ·exact H e' hm
theorem Frs.outer {h:Heap} (f:Frs (A.deeper env) μ h) (f0:∃ l,A.frames=some l):Frs A μ h:=by
 obtain ⟨l,e,H⟩:=f.all
 obtain ⟨l0,e0⟩:=f0
 have e':A.frames.map (env :: ·)=some l:=e
 rw [e0] at e'
 cases e'
 exact ⟨l0,e0,fun e' hm=>H e' (.tail _ hm)⟩
theorem FA.deeper {b:Addr} (hf:env.frame=some env.locals) (h:FA (A.deeper env) b):FA A b\/b=env.locals:=by
 obtain ⟨l,e,e',hm,hb⟩:=h
 have e'':A.frames.map (env :: ·)=some l:=e
 cases hA:A.frames with
 | none=>rw [hA] at e'';cases e''
 | some l0=>
  rw [hA] at e''
  cases e''
  rcases ES.mp hm with rfl | hm
  ·rw [hf] at hb;cases hb;exact .inr rfl
  ·exact .inl ⟨l0,hA,e',hm,hb⟩
inductive Ret:Out->AV->Prop
 | ret {x}:Ret (.ret x) x
 | nxt:Ret .nxt (.dat .none)
theorem mu {m:Nat} {fz:List Nat} {f:Addr} {of:Obj} {fd:Hm} {body:List Stmt} {as:List AV} {ks bs:List (Str×AV)} {out:Out} (hK:C.K.lookup f=some of) (hd:of.data=.func fd) (hbody:fd.body=.stmts body) (hcd:codeIn C.K fd.code fd.qualname=true)
  (hcl:fd.closure=[]) (hg:fd.globals=Gk) (hbl:fd.builtins=H5) (hco:fd.scope.isCoroutine=false) (hgen:fd.scope.isGenerator=false) (hkd:fd.scope.kind=.function) (ok:dW fd.scope.names) (hfree:∀ p∈fd.scope.names,p.2≠.free)
  (hb:bP C fd as ks bs) (bl:cL fd.scope.names ρ) (st:cO fd.scope.names ρ bs ρ₁) (h:∀ (A:Around) (env:Env) (μ:Mu) (s:Shared) (Q:Flow->Shared->Prop) (E:Value->Shared->Prop),env.code=fd.code->C.Ok->aT C ⟨true,m,fz⟩ A μ σ s->aM A fd.scope.names env μ ρ₁ s.heap->
   (∀ f μ' s',aS C ⟨true,m,fz⟩ A fd.scope.names env μ s ρ₂ σ₂ μ' s'->nP μ' s'.heap out f->Q f s')->wpAny (model C.prog C.w) A (execs body env) Q E s) (hr:Ret out a):aP C (m+1) fz (.ref f) as ks σ a σ₂:=by
 intro A μ s vs kvs R okC G rv rk hR
 have X:=G.inK okC
 have hroom:=G.room
 have hunits:=G.units
 dsimp only at hroom hunits
 refine KW (by omega) (X _ _ hK) hd hco hgen hbody (codeRec_of X hcd) (hb A.in1 μ s vs kvs _ _ X G.lt rv rk fun binds s1 k1 rb=>?_)
 have G1:aT C ⟨true,m+1,fz⟩ A μ σ s1:=G.grow k1
 have G1':aT C ⟨true,m,fz⟩ A.in1 μ σ s1:=G1.around (fun zz=>G.quiet rfl) rfl (by show A.depth+_+_<_;dsimp only;omega) (by show A.units+1+_+_<_;dsimp only;omega) ⟨G1.frs.all⟩
 refine eX fun env he=>?_
 rw [hcl,hg,hbl] at he
 have e1:env.locals=s1.heap.objs.size:=by rw [he,];rfl
 have e3:env.frame=some env.locals:=by rw [he,];rfl
 have e4:env.scope.kind=.function:=by rw [he,];exact hkd
 have e2:env.cells=GS (s1.heap.objs.size+1) fd.scope.names []:=by rw [he,];rfl
 have' hkn:∀ p∈fd.scope.names,env.kindOf p.1=some p.2:=by
  intro p hp
  rw [he,]
  show fd.scope.names.lookup p.1=some p.2
  have nd:=ok.nodup;clear he e1 e2 st bl h hb hcl hg hbl hfree;generalize fd.scope.names=l at hp nd
  induction l with
  | nil=>cases hp
  | cons q l ih=>
   obtain ⟨y,ky⟩:=q
   rw [E6,GF] at nd
   rw [GR,]
   rcases ES.mp hp with rfl | hp
   ·simp
   ·have:(p.1==y)=false:=by
     refine beq_eq_false_iff_ne.mpr fun q=>nd.1 (EL.mpr ⟨p,hp,q⟩)
    rw [this,]
    exact ih hp nd.2
 have' hfe:∃ L,env.frame=some L/\FA (A.deeper env) L:=by
  obtain ⟨l,e,_⟩:=G.frs.all;exact ⟨_,e3,env :: l,by show A.frames.map _=_;rw [e,];rfl,env,.head _,e3⟩
 obtain ⟨G2,F2,x2,k2⟩:=jR (A':=A.deeper env) (cls := "frame") (env':=env) G1' ok (.nil hfree) bl e1 e2 (by rw [he,];rfl) (by rw [he,];rfl) (by rw [he,];exact hkd) (fun p hp=>.inl (hkn p hp)) hfe
 have' rb2:dD (μ.hide (dA s1.heap.objs.size fd.scope.names)) (bX s1.heap "frame" fd.scope.names) bs binds:=rb.mono x2 k2 noW
 have G3:aT C ⟨true,m,fz⟩ (A.deeper env) (μ.hide (dA s1.heap.objs.size fd.scope.names)) σ {s1 with heap:=bX s1.heap "frame" fd.scope.names}:=G2.around (fun zz=>G.quiet rfl) rfl (by show A.depth+1+_+_<_;dsimp only;omega) (by show A.units+3+_+_<_;dsimp only;omega) (Frs.deeper (A:=A) ⟨G2.frs.all⟩ F2 e3 e4)
 refine EA (mj st G3 F2 rb2 fun s3 P3=>EF ⟨okC.lim.keeps P3.good.base,codeAny_func ?_⟩)
 refine h (A.deeper env) env _ s3 _ _ (by rw [he,];rfl) okC P3.good P3.fr fun fl μ4 s4 P4 r4=>?_
 have kept:aL A (WC μ) s s4:=by
  have' a1:aL A (WC μ) s s1:=k1.lift;have' a2:aL A (WC μ) s {s1 with heap:=bX s1.heap "frame" fd.scope.names}:=a1.trans (k2.lift (W:=NoW)) fun zz h=>h.elim
  have w:∀ b,WS (μ.hide (dA s1.heap.objs.size fd.scope.names)) fd.scope.names env b->WC μ b\/s.heap.objs.size<=b:=fun b hb=>(nG G1 ok.nodup e1 e2 hb).imp id fun q=>EE k1.le q
  have' k4:aL A (WS (μ.hide (dA s1.heap.objs.size fd.scope.names)) fd.scope.names env) s3 s4:=P4.kept.frames fun b hb=>(FA.deeper e3 hb).imp id fun q=>.inl (.inr (.inl q))
  exact (a2.trans (P3.kept.frames (A':=A) fun b hb=>(FA.deeper e3 hb).imp id fun q=>.inl (.inr (.inl q))) w).trans k4 w
 have G4:aT C ⟨true,m+1,fz⟩ A μ4 σ₂ s4:=P4.good.around G.quiet rfl G.room G.units (P4.good.frs.outer (let ⟨l,e,_⟩:=G.frs.all;⟨l,e⟩))
 have x4:Ext μ μ4 s.heap.objs.size:=(x2.trans (P3.ext.trans P4.ext P3.kept.le) k2.le).trans (Ext.refl _ _) (EH _) |> fun x=>⟨let ⟨t,e,f⟩:=x.grow;⟨t,e,fun p hp b hb=>EE k1.le (f p hp b hb)⟩,x.sub,fun b hb=>(x.new b hb).imp id fun q=>EE k1.le q⟩
 cases hr with
 | ret=>obtain ⟨v,rfl,r⟩:=r4;exact hR v μ4 s4 G4 x4 kept r
 | nxt=>obtain rfl:=r4;exact hR .none μ4 s4 G4 x4 kept ⟨[],.none⟩
theorem pH {m:Nat} {fz:List Nat} {f:Addr} {of:Obj} {fd:Hm} {body:List Stmt} {as:List AV} {ks bs:List (Str×AV)} {out:Out} (hK:C.K.lookup f=some of) (hd:of.data=.func fd) (hbody:fd.body=.stmts body) (hcd:codeIn C.K fd.code fd.qualname=true)
  (hcl:fd.closure=[]) (hg:fd.globals=Gk) (hbl:fd.builtins=H5) (hco:fd.scope.isCoroutine=false) (hgen:fd.scope.isGenerator=false) (hkd:fd.scope.kind=.function) (ok:dW fd.scope.names) (hfree:∀ p∈fd.scope.names,p.2≠.free)
  (hb:bP C fd as ks bs) (bl:cL fd.scope.names ρ) (st:cO fd.scope.names ρ bs ρ₁) (h:ay C ⟨true,m,fz⟩ fd.scope.names body ρ₁ σ out ρ₂ σ₂) (hr:Ret out a):aP C (m+1) fz (.ref f) as ks σ a σ₂:=by
 exact mu hK hd hbody hcd hcl hg hbl hco hgen hkd ok hfree hb bl st (fun A env μ s Q E zz ok G F hQ=>h A env μ s Q E ok G F hQ) hr
end
section
variable {C:Cx} {lv:Lv} {N:aE} {ρ ρ₁ ρ₂ ρ₃ ρ':aO} {σ σ₁ σ₂ σ₃ σ':aC} {o:Out} {a b:AV} {A:Around} {env:Env} {μ μ':Mu} {s s':Shared}
structure Mid (μ μt μ':Mu):Prop where
 objs:μt.objs=μ.objs
 fz:μt.fz=μ.fz
 sup:∀ b∈μ.hid,b∈μt.hid
 sub:∀ b∈μt.hid,b∈μ'.hid
variable {μt:Mu}
theorem Mid.self {n:Nat} (x:Ext μ μ' n):Mid μ μ μ':=⟨rfl,rfl,fun zz h=>h,x.sub⟩
theorem af.back {n:Nat} {h h':Heap} {v v':Value} (x:Ext μ μ' n) (t:Mid μ μt μ') (r₀:af μ h a v) (r:af μ' h' a v'):af μt h' a v':=by
 cases a with
 | dat d=>obtain ⟨as,r⟩:=r;exact ⟨as,PyProof.Rows.Reads.keeps (hH t.sub) r⟩
 | ref i=>
  obtain ⟨p,e,q⟩:=r;obtain ⟨p₀,e₀,_⟩:=r₀
  rw [x.get e₀] at e
  cases e
  exact ⟨_,t.objs▸e₀,q⟩
 | con c=>exact r
theorem aw.back {n:Nat} {h h':Heap} (x:Ext μ μ' n) (t:Mid μ μt μ') {as:List AV} {vs vs':List Value} (r₀:aw μ h as vs):aw μ' h' as vs'->aw μt h' as vs':=by
 refine aw.ind (motive:=fun as zz=>∀ vs',aw μ' h' as vs'->aw μt h' as vs') r₀ (fun vs' r=>?_) (fun a v as vs hv zz ih vs' r=>?_) vs'
 ·cases vs' with
  | nil=>trivial
  | cons _ _=>exact r.elim
 ·cases vs' with
  | nil=>exact r.elim
  | cons _ _=>exact ⟨af.back x t hv r.1,ih _ r.2⟩
theorem cX.back {n:Nat} {P:Params} {h h':Heap} (x:Ext μ μ' n) (t:Mid μ μt μ') {as:List (Str×AV)} {vs vs':List GQ} (r₀:cX P μ h as vs):cX P μ' h' as vs'->cX P μt h' as vs':=by
 refine cX.ind (motive:=fun as zz=>∀ vs',cX P μ' h' as vs'->cX P μt h' as vs') r₀ (fun vs' r=>?_) (fun y a e as es hv zz ih vs' r=>?_) vs'
 ·cases vs' with
  | nil=>trivial
  | cons _ _=>exact r.elim
 ·cases vs' with
  | nil=>exact r.elim
  | cons _ _=>exact ⟨⟨r.1.1,r.1.2.1,af.back x t hv.2.2 r.1.2.2⟩,ih _ r.2⟩
theorem eM.back {n:Nat} {h h':Heap} (x:Ext μ μ' n) (t:Mid μ μt μ') {a:Option AV} {v v':Option Value} (r₀:eM μ h a v) (r:eM μ' h' a v'):eM μt h' a v':=by
 cases a with
 | none=>cases v' with
  | none=>exact trivial
  | some _=>exact r.elim
 | some _=>cases v with
  | none=>exact r₀.elim
  | some _=>cases v' with
   | none=>exact r.elim
   | some _=>exact af.back x t r₀ r
theorem cw.back {n:Nat} {h h':Heap} (x:Ext μ μ' n) (t:Mid μ μt μ') {as:List (Option AV)} {vs vs':List (Option Value)} (r₀:cw μ h as vs):cw μ' h' as vs'->cw μt h' as vs':=by
 refine cw.ind (motive:=fun as zz=>∀ vs',cw μ' h' as vs'->cw μt h' as vs') r₀ (fun vs' r=>?_) (fun a v as vs hv zz ih vs' r=>?_) vs'
 ·cases vs' with
  | nil=>trivial
  | cons _ _=>exact r.elim
 ·cases vs' with
  | nil=>exact r.elim
  | cons _ _=>exact ⟨eM.back x t hv r.1,ih _ r.2⟩
theorem cD.back {n:Nat} {h h':Heap} (x:Ext μ μ' n) (t:Mid μ μt μ') {as:List (Int×AV)} {vs vs':List (Int×Value)} (r₀:cD μ h as vs):cD μ' h' as vs'->cD μt h' as vs':=by
 refine cD.ind (motive:=fun as zz=>∀ vs',cD μ' h' as vs'->cD μt h' as vs') r₀ (fun vs' r=>?_) (fun k a v as vs hv ih vs' r=>?_) vs'
 ·cases vs' with
  | nil=>trivial
  | cons _ _=>exact r.elim
 ·cases vs' with
  | nil=>exact r.elim
  | cons _ _=>exact ⟨⟨r.1.1,af.back x t hv r.1.2⟩,ih _ r.2⟩
theorem ef.back {n:Nat} {h h':Heap} {p:Addr×List Addr} {ob:AO} (x:Ext μ μ' n) (t:Mid μ μt μ') (r₀:ef C μ h p ob) (r:ef C μ' h' p ob):ef C μt h' p ob:=by
 cases ob with
 | list xs=>obtain ⟨_,_,_,r₀⟩:=r₀;obtain ⟨e,vs,l,r⟩:=r;exact ⟨e,vs,l,r₀.back x t r⟩
 | inst c xs=>obtain ⟨_,_,_,_,_,_,_,r₀⟩:=r₀;obtain ⟨dx,es,n,e,ne,o1,o2,r⟩:=r;exact ⟨dx,es,n,e,ne,o1,o2,r₀.back x t r⟩
 | slot c xs=>obtain ⟨_,_,_,_,_,_,r₀⟩:=r₀;obtain ⟨vs,dx,e,ne,o1,o2,r⟩:=r;exact ⟨vs,dx,e,ne,o1,o2,r₀.back x t r⟩
 | dict xs=>obtain ⟨_,_,_,r₀⟩:=r₀;obtain ⟨e,kvs,d,r⟩:=r;exact ⟨e,kvs,d,r₀.back x t r⟩
 | set xs=>exact r
 | iter l k=>obtain ⟨_,q₀,hq₀,_⟩:=r₀;obtain ⟨e,q,hq,r⟩:=r;rw [x.get hq₀] at hq;cases hq;exact ⟨e,_,t.objs▸hq₀,r⟩
 | next l=>obtain ⟨_,q₀,hq₀,_⟩:=r₀;obtain ⟨e,q,hq,r⟩:=r;rw [x.get hq₀] at hq;cases hq;exact ⟨e,_,t.objs▸hq₀,r⟩
 | deq=>exact r
 | sdict xs=>exact r
 | raw o=>exact r
 | code a=>exact r
theorem aT.forget {t:aC} {W:Addr->Prop} (G:aT C lv A μ σ s) (x:Ext μ μ' s.heap.objs.size) (m:Mid μ μt μ') (k:aL A W s s') (G':aT C lv A μ' (σ++t) s'):aT C lv A μt σ s':=by
 have hf:μt.foot=μ.foot:=by unfold Mu.foot;rw [m.objs]
 refine ⟨G.quiet,m.fz.trans G.frz,G.room,G.units,G'.top,G'.base,fun b hb=>G'.low b (m.sub b hb),fun b hb=>G'.lt b (m.sub b hb),⟨by rw [m.objs];exact G.sim.len,fun i p ob hp ho=>?_,fun b hb=>m.sup b (G.sim.foot b (hf▸hb)),by rw [m.objs];exact G.sim.apart,by rw [m.objs];exact G.sim.self⟩,?frs⟩
 case frs=>
  obtain ⟨l,e,Hl⟩:=G.frs.all;refine ⟨l,e,fun env' hm=>?_⟩
  obtain ⟨a,L,hL,b1,b2,_⟩:=Hl env' hm;exact ⟨a,L,hL,m.sup _ b1,hf▸b2,(G'.frs.fa ⟨l,e,env',hm,hL⟩).2.2⟩
 rw [m.objs] at hp
 have' hi:i<σ.length:=(EI.mp ho).1
 exact ef.back x m (G.sim.rep i p ob hp ho) (G'.sim.rep i p ob (x.get hp) (by rw [Ed hi];exact ho))
end
section
variable {C:Cx} {lv:Lv} {σ:aC} {A:Around} {μ:Mu} {s:Shared}
theorem aT.adopt {D:Addr} {ob:AO} (G:aT C lv A μ σ s) (hD:D∈μ.hid) (hf:D∉μ.foot) (hfa:¬ FA A D) (h:ef C {μ with objs:=μ.objs++[(D,[D])]} s.heap (D,[D]) ob):aT C lv A {μ with objs:=μ.objs++[(D,[D])]} (σ++[ob]) s:=by
 have hfoot:∀ b,b∈Mu.foot {μ with objs:=μ.objs++[(D,[D])]}↔b∈μ.foot\/b=D:=fun b=>by simp [Mu.foot]
 have' x:Ext μ {μ with objs:=μ.objs++[(D,[D])]} 0:=⟨⟨_,rfl,fun zz zz zz zz=>Ek _⟩,fun zz h=>h,fun zz h=>.inl h⟩
 refine ⟨G.quiet,G.frz,G.room,G.units,G.top,G.base,G.low,G.lt,⟨by simp [G.sim.len],fun i p o' hp ho=>?_,fun b hb=>?_,?_,fun p hp=>?_⟩,?_⟩
 ·by_cases hi:i<σ.length
  ·have hi':i<μ.objs.length:=by rw [G.sim.len];exact hi
   rw [Ed hi] at ho
   rw [Ed hi'] at hp
   exact (G.sim.rep i p o' hp ho).move ⟨fun zz zz e=>x.get e,fun r=>r⟩ fun zz zz zz e=>e
  ·have' e1:i=σ.length:=by
    have:=(EI.mp ho).1
    simp at this;omega
   subst e1
   rw [<- G.sim.len,EV] at hp
   rw [EV] at ho
   cases ho;cases hp
   exact h
 ·rcases (hfoot b).mp hb with q | q
  ·exact G.sim.foot b q
  ·exact q▸hD
 ·refine Hj.mpr ⟨G.sim.apart,Gp _ _,fun p hp q hq b hb hb'=>?_⟩
  rw [EG.mp hq] at hb'
  rw [EG.mp hb'] at hb
  exact hf (aj hp hb)
 ·rcases ED.mp hp with q | q
  ·exact G.sim.self p q
  ·rw [EG.mp q];exact .head _
 ·obtain ⟨l,e,Hl⟩:=G.frs.all
  refine ⟨l,e,fun env' hm=>?_⟩
  obtain ⟨a,L,hL,b1,b2,r⟩:=Hl env' hm;refine ⟨a,L,hL,b1,fun q=>?_,r⟩
  rcases (hfoot L).mp q with q | q
  ·exact b2 q
  ·exact hfa ⟨l,e,env',hm,q▸hL⟩
end
noncomputable def Frz (σ:aC) (k:Nat) (a:AV) (d:PyData):Prop:=∀ P:AV->PyData->Prop,(∀ d,P (.dat d) d)->
 (∀ i xs ds,k<=i->σ[i]? = some (.list xs)->xs.length=ds.length->(∀ (j:Nat) x d,xs[j]? = some x->ds[j]? = some d->P x d)->P (.ref i) (.list ds))->P a d
theorem Frz.dat {σ:aC} {k:Nat} {d:PyData}:Frz σ k (.dat d) d:=fun zz h zz=>h _
theorem Frz.list {σ:aC} {k i:Nat} {xs:List AV} {ds:List PyData} (h1:k<=i) (h2:σ[i]? = some (.list xs)) (h3:xs.length=ds.length) (h4:∀ (j:Nat) x d,xs[j]? = some x->ds[j]? = some d->Frz σ k x d):Frz σ k (.ref i) (.list ds):=
 fun P a b=>b _ _ _ h1 h2 h3 fun j x d e1 e2=>h4 j x d e1 e2 P a b
theorem Frz.dats {σ:aC} {k i:Nat} {ds:List PyData} (hk:k<=i) (h:σ[i]? = some (.list (ds.map .dat))):Frz σ k (.ref i) (.list ds):=
 .list hk h (by simp) fun j x d hx hd=>by
  obtain ⟨d',hd',rfl⟩:=kH hx
  rw [hd] at hd';cases hd'
  exact .dat
section
variable {C:Cx} {lv:Lv} {N:aE} {ρ ρ₁ ρ₂ ρ₃ ρ':aO} {σ σ₁ σ₂ σ₃ σ':aC} {o:Out} {a b:AV} {A:Around} {env:Env} {μ μ':Mu} {s s':Shared}
theorem gm {h:Heap} {vs:List Value} {ds:List PyData} (e:vs.length=ds.length) (f:∀ (j:Nat) v d,vs[j]? = some v->ds[j]? = some d->∃ bs,Reads h v d bs):∃ bs,FW h vs ds bs:=by
 induction vs generalizing ds with
 | nil=>cases ds with
  | nil=>exact ⟨_,.nil⟩
  | cons _ _=>cases e
 | cons v vs ih=>cases ds with
  | nil=>cases e
  | cons d ds=>
   obtain ⟨_,r⟩:=f 0 v d rfl rfl;obtain ⟨_,t⟩:=ih (ds:=ds) (KZ.inj e) fun j v d h1 h2=>f (j+1) v d h1 h2
   exact ⟨_,.cons r t⟩
theorem Frz.reads {σ':aC} {n:Nat} {d:PyData} (x:Ext μ μ' n) (hn:∀ b∈μ.hid,b<n) (S:Sim C μ' σ' s'.heap) (f:Frz σ' μ.objs.length a d):∀ {v:Value},af μ' s'.heap a v->af μ s'.heap (.dat d) v:=by
 refine f (fun a d=>∀ {v:Value},af μ' s'.heap a v->af μ s'.heap (.dat d) v) ?c1 ?c2
 case c1=>intro d v r;obtain ⟨as,r⟩:=r;exact ⟨as,PyProof.Rows.Reads.keeps (hH x.sub) r⟩
 case c2=>
  intro i xs ds hk hx hl ih v r;obtain ⟨p,hp,rfl⟩:=r;obtain ⟨e1,vs,hpl,hr⟩:=S.rep i p _ hp hx;obtain ⟨m,ho⟩:=hpl;have hv:p.1∉μ.hid:=fun hm=>by
   obtain ⟨t,e,g⟩:=x.grow;have hp':=hp
   rw [e,EZ hk] at hp'
   exact absurd (hn _ hm) (E0.mpr (g p (EK hp') _ (by rw [e1];exact .head _)))
  obtain ⟨bs,ra⟩:=gm (h:=cK μ.hid s'.heap) (vs:=vs.toList) (ds:=ds) (by rw [bN hr,hl]) fun j v d hv hd=>by
   have hlt:j<xs.length:=by rw [hl];exact (EI.mp hd).1
   exact ih j xs[j] d (by simp [hlt]) hd (ec hr j v xs[j] hv (by simp [hlt]))
  exact ⟨_,.list (F9 _ ho hv) rfl rfl ra⟩
theorem aP.pure {m:Nat} {fz:List Nat} {f:Value} {as:List AV} {ks:List (Str×AV)} {t:aC} {d:PyData} (h:aP C m fz f as ks σ a (σ++t)) (hf:Frz (σ++t) σ.length a d):aP C m fz f as ks σ (.dat d) σ:=by
 intro A μ s vs kvs R ok G rv rk hR
 refine h A μ s vs kvs R ok G rv rk fun v μ' s' G' x k r=>?_
 exact hR v μ s' (G.forget x (Mid.self x) k G') (Ext.refl _ _) k (Frz.reads x G.lt G'.sim (by rw [G.sim.len];exact hf) r)
theorem aP.drop {m:Nat} {fz:List Nat} {f:Value} {as:List AV} {ks:List (Str×AV)} {t:aC} {d:PyData} (h:aP C m fz f as ks σ (.dat d) (σ++t)):aP C m fz f as ks σ (.dat d) σ:=h.pure .dat
theorem aS.call {m:Nat} {fz:List Nat} (hfz:fz=lv.fz) (G:aT C lv A μ σ s) (F:aM A N env μ ρ s.heap) (G':aT C ⟨true,m,fz⟩ A μ' σ' s') (x:Ext μ μ' s.heap.objs.size) (k:aL A (WC μ) s s'):aS C lv A N env μ s ρ σ' μ' s':=
 ⟨G.frz,G'.around G.quiet hfz.symm G.room G.units G'.frs,F.ext x k (G.fw fun b hb=>.inl (G.sim.foot b (WC.foot hb))) (fun hb=>F.freeL (WC.foot hb)) (fun p hp hb=>(F.cells p hp).2.1 (WC.foot hb)),x,k.mono fun b hb=>.inl (.inl hb)⟩
theorem i9 {m:Nat} {f:Value} {as:List AV} {ks:List (Str×AV)} {vs:List Value} {kvs:List (Str×Value)} {Q:Value->Shared->Prop} {E:Value->Shared->Prop} (h:aP C m lv.fz f as ks σ a σ') (hm:m<=lv.n) (hq:lv.q=true) (ok:C.Ok) (G:aT C lv A μ σ s) (F:aM A N env μ ρ s.heap)
  (r:aw μ s.heap as vs) (rk:dD μ s.heap ks kvs) (hQ:∀ v μ' s',aS C lv A N env μ s ρ σ' μ' s'->af μ' s'.heap a v->Q v s'):wpAny (model C.prog C.w) A (call f vs kvs) Q E s:=
 Ff (h A μ s vs kvs _ ok (G.around (fun zz=>G.quiet hq) rfl (by have:=G.room;dsimp only;omega) (by have:=G.units;dsimp only;omega) G.frs) r rk fun v μ' s' G' x k rv=>hQ v μ' s' (aS.call rfl G F G' x k) rv)
theorem e7 {x:Str} {np pos:Pos} {e:Expr} {es:List Expr} {f:Addr} {of:Obj} {fd:Hm} {as:List AV} {m:Nat} (hf:aH C lv N (.Name x np) ρ σ (.con (.ref f)) ρ₁ σ₁) (hK:C.K.lookup f=some of) (hd:of.data=.func fd)
  (ha:jI C lv N (e :: es) ρ₁ σ₁ as ρ₂ σ₂) (hc:aP C m lv.fz (.ref f) as [] σ₂ a σ') (hm:autoParam (m<=lv.n) aD) (hq:autoParam (lv.q=true) aR) (hn:autoParam (bx e=true) aR):aH C lv N (.Call (.Name x np) (e :: es) [] pos) ρ σ a ρ₂ σ':=by
 intro A env μ s Q E ok G F hQ
 refine GI (hf A env μ s _ _ ok G F fun v μ1 s1 P1 hv=>?_)
 obtain rfl:=hv
 refine callWith_def hd (ha A env μ1 s1 pos _ _ ok P1.good P1.fr fun vs μ2 s2 P2 r=>⟨(P2.good.inK ok) _ _ hK,?_⟩) (a7 hn)
 exact i9 hc hm hq ok P2.good P2.fr r trivial fun v μ3 s3 P3 rv=>hQ v μ3 s3 (P1.trans (P2.trans P3)) rv
end
section
variable {prog:Fn} {w:World} {A:Around} {R:Result->Shared->Prop} {s:Shared}
theorem sE {elt:Expr} {gens:List Es} {scope:Scope} {pos:Pos}:clausesOf (.ListComp elt gens scope pos)=gens:=rfl
theorem kQ {elt:Expr} {gens:List Es} {depth:Nat} {g:Es} {scope:Scope} {pos:Pos} {it acc:Value} {env:Env} (hg:gens[depth]? = some g) (ha:g.is_async=0)
  (h0:GP (model prog w) A (.compLoop (.ListComp elt gens scope pos) depth it acc env) R s)
  (h:wpAny (model prog w) A (pyIter it) (fun it' s'=>GP (model prog w) A (.compLoop (.ListComp elt gens scope pos) depth it' acc env) R s') (notedBy (model prog w) A env fun x s'=>R (.error x) s') s) :
  GP (model prog w) A (.compStart (.ListComp elt gens scope pos) depth it acc env) R s:=by
 refine Gs ?_
 show wpAny _ A ((LZ (.ListComp elt gens scope pos) depth it acc env).onRaise (fun x=>do L5 x env;HQ theWindowsPlace)) _ _ s
 refine wpAny_notedAt ?_
 unfold LZ
 simp only [sE,hg,Option.elim,ha,bne_self_eq_false,F0,if_false]
 refine EA (Ig (wpAny_ite ?_))
 split
 ·first
   | exact EA (EF (EF (And.intro rfl h0)))
   | exact EF (And.intro rfl h0)
 ·refine EA (IG ?_)
  first
   | exact EA (FP (EA (Ep h (fun it' s' h'=>EF (And.intro rfl h')) fun zz zz x=>x)))
   | (refine EA (FP ?_);exact EA (Ep h (fun it' s' h'=>EF (And.intro rfl h')) fun zz zz x=>x))
theorem gz {elt:Expr} {gens:List Es} {depth:Nat} {g:Es} {scope:Scope} {pos:Pos} {it acc:Value} {env:Env} (hg:gens[depth]? = some g) (haa:∀ g∈gens,g.is_async=0)
  (h:∀ E:Value->Shared->Prop,(∀ e s',E e s'=notedBy (model prog w) A env (fun e s'=>R (.error e) s') e s')->wpAny (model prog w) A (pyNext it) (fun r s₁=>match r with
   | none=>R (.ok .next) s₁
   | some v=>wpAny (model prog w) A (HE g.target it v) (fun zz s₁'=>wpAny (model prog w) A (assign g.target env v) (fun zz s₂=>
     wpAny (model prog w) A (forIn g.ifs true fun c r=>if r=true then do let ok <- isTrue c env (eval c env);pure (ForInStep.yield ok) else pure (ForInStep.yield r)) (fun ok s₃=>
      if ok=true then (match gens[depth+1]? with
       | some g'=>wpAny (model prog w) A (eval g'.iter env) (fun x s₄=>wpAny (model prog w) A (Fp g'.iter env x) (fun x s₅=>wpAny (model prog w) A (pyIter x) (fun it' s₆=>
         GP (model prog w) A (.compStart (.ListComp elt gens scope pos) (depth+1) it' acc env) (fun r s₇=>match r with
          | .ok _=>GP (model prog w) A (.compLoop (.ListComp elt gens scope pos) depth it acc env) R s₇
          | .error e=>LA (model prog w) A env E e s₇) s₆) E s₅) E s₄) E s₃
       | none=>wpAny (model prog w) A (eval elt env) (fun x s₄=>wpAny (model prog w) A (call (.builtin "list.append") [acc,x]) (fun zz s₅=>GP (model prog w) A (.compLoop (.ListComp elt gens scope pos) depth it acc env) R s₅) E s₄) E s₃)
      else GP (model prog w) A (.compLoop (.ListComp elt gens scope pos) depth it acc env) R s₃) E s₂) E s₁') E s₁) E s) :
  GP (model prog w) A (.compLoop (.ListComp elt gens scope pos) depth it acc env) R s:=by
 have ha:=haa g (EK hg)
 refine Gs ?_
 show wpAny _ A ((Ln (.ListComp elt gens scope pos) depth it acc env).onRaise (fun x=>do L5 x env;theTreesLotGoes x)) _ _ s
 refine wpAny_noted ?_
 unfold Ln
 simp only [hg,ha,bne_self_eq_false,F0,if_false]
 refine EA (FP (EA (Ep (h _ fun zz zz=>rfl) (fun r s₁ h₁=>?_) fun zz zz h'=>h')))
 cases r with
 | none=>exact EF h₁
 | some v=>
  refine EA (Ep h₁ (fun zz s₁' h₁'=>?_) fun zz zz h'=>h')
  refine EA (Ep h₁' (fun zz s₂ h₂=>EA (Ep h₂ (fun ok s₃ h₃=>?_) fun zz zz h'=>h')) fun zz zz h'=>h')
  cases ok with
  | false=>exact EF ⟨rfl,h₃⟩
  | true=>
   simp only [if_true] at h₃ ⊢
   cases hd:gens[depth+1]? with
   | none=>
    rw [hd] at h₃
    exact EA (EA (Ep h₃ (fun x s₄ h₄=>EA (Ep h₄ (fun zz s₅ h₅=>EF (EF ⟨rfl,h₅⟩)) fun zz zz h'=>h')) fun zz zz h'=>h'))
   | some g'=>
    rw [hd] at h₃
    have ha':=haa g' (EK hd)
    simp only [ha',bne_self_eq_false,F0,if_false]
    refine EA (Ep h₃ (fun x s₄ h₄=>EA (FP (EA (Ep h₄ (fun x s₅ h₅=>?_) fun zz zz h'=>h')))) fun zz zz h'=>h')
    refine EA (EY (Ep h₅ (fun it' s₆ h₆=>?_) fun zz zz h'=>h'))
    refine EA (wpAny_runOwn (h:=none) (codeAny_mono h₆ fun r s₇ h₇=>?_))
    cases r with
    | error e=>exact h₇
    | ok f=>exact EF ⟨rfl,h₇⟩
end
section
variable {C:Cx} {lv:Lv} {N:aE} {ρ ρ₁ ρ₂ ρ₃ ρ':aO} {σ σ₁ σ₂ σ₃ σ':aC} {o:Out} {a b:AV} {A:Around} {env:Env} {μ μ':Mu} {s s':Shared}
noncomputable def jO (C:Cx) (lv:Lv) (N:aE) (ifs:List Expr) (ρ:aO) (σ:aC) (b:Bool):Prop:=
 ∀ (A:Around) (env:Env) (μ:Mu) (s:Shared) (Q:Bool->Shared->Prop) (E:Value->Shared->Prop),C.Ok->aT C lv A μ σ s->aM A N env μ ρ s.heap->
  (∀ μ' s',aS C lv A N env μ s ρ σ μ' s'->Q b s')->wpAny (model C.prog C.w) A (forIn ifs true fun c r=>if r=true then do let ok <- isTrue c env (eval c env);pure (ForInStep.yield ok) else pure (ForInStep.yield r)) Q E s
theorem m3:jO C lv N [] ρ σ true:=fun A env μ s Q E ok G F hQ=>wpAny_tests_nil (hQ μ s (aS.refl G F))
theorem ci {c:Expr} {b:Bool} (h:aY C lv N c ρ σ b ρ σ):jO C lv N [c] ρ σ b:=fun A env μ s Q E ok G F hQ=>wpAny_tests_one (h A env μ s _ _ ok G F hQ)
noncomputable def Cl (C:Cx) (lv:Lv) (N:aE) (elt:Expr) (σ:aC) (gs:List Es) (xs:List AV) (ρ:aO) (ds:List PyData):Prop:=∀ P:List Es->List AV->aO->List PyData->Prop,
 (∀ gs ρ,P gs [] ρ [])->(∀ g gs x xs ρ ρ₁ ds,c8 C lv N g.target x ρ σ ρ₁ σ->jO C lv N g.ifs ρ₁ σ false->Sub ρ₁ ρ->P (g :: gs) xs ρ ds->P (g :: gs) (x :: xs) ρ ds)->
 (∀ g x xs ρ ρ₁ d ds,c8 C lv N g.target x ρ σ ρ₁ σ->jO C lv N g.ifs ρ₁ σ true->aH C lv N elt ρ₁ σ (.dat d) ρ₁ σ->Sub ρ₁ ρ->P [g] xs ρ ds->P [g] (x :: xs) ρ (d :: ds))->
 (∀ g g' gs x xs ρ ρ₁ ys es ds,c8 C lv N g.target x ρ σ ρ₁ σ->jO C lv N g.ifs ρ₁ σ true->gK C lv N g'.target g'.iter [] ρ₁ σ ys ρ₁ σ->(∀ env x,Fp g'.iter env x=pure x)->P (g' :: gs) ys ρ₁ es->Sub ρ₁ ρ->P (g :: g' :: gs) xs ρ ds->P (g :: g' :: gs) (x :: xs) ρ (es++ds))->P gs xs ρ ds
section
variable {elt:Expr} {g g':Es} {gs:List Es} {x:AV} {xs ys:List AV} {d:PyData} {ds es:List PyData}
theorem Cl.nil:Cl C lv N elt σ gs [] ρ []:=fun zz h zz zz zz=>h _ _
theorem Cl.skip (a:c8 C lv N g.target x ρ σ ρ₁ σ) (b:jO C lv N g.ifs ρ₁ σ false) (c:Sub ρ₁ ρ) (r:Cl C lv N elt σ (g :: gs) xs ρ ds):Cl C lv N elt σ (g :: gs) (x :: xs) ρ ds:=fun P h1 h2 h3 h4=>h2 _ _ _ _ _ _ _ a b c (r P h1 h2 h3 h4)
theorem Cl.one (a:c8 C lv N g.target x ρ σ ρ₁ σ) (b:jO C lv N g.ifs ρ₁ σ true) (e:aH C lv N elt ρ₁ σ (.dat d) ρ₁ σ) (c:Sub ρ₁ ρ) (r:Cl C lv N elt σ [g] xs ρ ds):Cl C lv N elt σ [g] (x :: xs) ρ (d :: ds):=fun P h1 h2 h3 h4=>h3 _ _ _ _ _ _ _ a b e c (r P h1 h2 h3 h4)
theorem Cl.deep (a:c8 C lv N g.target x ρ σ ρ₁ σ) (b:jO C lv N g.ifs ρ₁ σ true) (i:gK C lv N g'.target g'.iter [] ρ₁ σ ys ρ₁ σ) (f:∀ env x,Fp g'.iter env x=pure x) (q:Cl C lv N elt σ (g' :: gs) ys ρ₁ es) (c:Sub ρ₁ ρ) (r:Cl C lv N elt σ (g :: g' :: gs) xs ρ ds) :
  Cl C lv N elt σ (g :: g' :: gs) (x :: xs) ρ (es++ds):=fun P h1 h2 h3 h4=>h4 _ _ _ _ _ _ _ _ _ _ a b i f (q P h1 h2 h3 h4) c (r P h1 h2 h3 h4)
end
noncomputable def iO (C:Cx) (A:Around) (N:aE) (tg:Expr) (env:Env) (μ:Mu) (h:Heap) (I D:Addr) (wr:List Addr) (items:List AV):Prop:=
 ∃ fp P St all i,e8 C.prog C.w A tg I fp wr (all:List AV).length P St/\St i h/\i<=all.length/\items=all.drop i/\(∀ b∈fp,b<h.objs.size/\¬ WS μ N env b/\b≠D/\¬ FA A b)/\(∀ b∈wr,b∈μ.hid/\b∉μ.foot/\b≠env.locals/\∀ p∈env.cells,p.2≠b) /\
  ∀ (j:Nat) v a n h' μ',all[j]? = some a->P j v n h'->(∀ b∈μ'.hid,b<n)->Mov μ μ' h h'->af μ' h' a v
structure Acc (C:Cx) (env:Env) (μ:Mu) (h:Heap) (D:Addr) (acc:List PyData):Prop where
 hid:D∈μ.hid
 foot:D∉μ.foot
 loc:D≠env.locals
 cel:∀ p∈env.cells,p.2≠D
 rd:∃ ys bs,h.PlainList D ys/\FW (cK μ.hid h) ys.toList acc bs
theorem iD {h:Heap} {D:Addr} {acc:List PyData} (x:Acc C env μ h D acc):¬ WS μ N env D:=by
 rintro (⟨i,p,hp,_,hb⟩ | e | ⟨y,_,hl⟩)
 ·exact x.foot (aj (EK hp) hb)
 ·exact x.loc e
 ·exact x.cel (y,D) (bG hl) rfl
theorem l8 {W:Addr->Prop} {vs:List Value} {ds:List PyData} {bs:List Addr} (x:Ext μ μ' s.heap.objs.size) (k:aL A W s s') (hW:∀ b,W b\/FA A b->b∈μ.hid\/s.heap.objs.size<=b) (r:FW (cK μ.hid s.heap) vs ds bs):FW (cK μ'.hid s'.heap) vs ds bs:=
 PyProof.Rows.ReadsAll.keeps (lE x k hW) r
theorem Acc.keeps {W:Addr->Prop} {D:Addr} {acc:List PyData} (h:Acc C env μ s.heap D acc) (G:aT C lv A μ σ s) (x:Ext μ μ' s.heap.objs.size) (k:aL A W s s') (hW:∀ b,W b\/FA A b->b∈μ.hid\/s.heap.objs.size<=b) (hD:¬ W D):Acc C env μ' s'.heap D acc:=by
 obtain ⟨ys,bs,⟨n,hp⟩,r⟩:=h.rd
 refine ⟨x.sub _ h.hid,fun q=>(x.foot _ q).elim h.foot fun l=>absurd (G.lt _ h.hid) (E0.mpr l),h.loc,h.cel,ys,bs,⟨n,k.atD hD (fun zz zz q=>by cases q) hp⟩,l8 x k hW r⟩
end
section
variable {C:Cx} {lv:Lv} {N:aE} {ρ ρ₁ ρ₂ ρ₃ ρ':aO} {σ σ₁ σ₂ σ₃ σ':aC} {o:Out} {a b:AV} {A:Around} {env:Env} {μ μ':Mu} {s s':Shared} {I D:Addr} {tg:Expr} {wr:List Addr} {items:List AV} {acc:List PyData}
theorem iO.keeps {W:Addr->Prop} (h:iO C A N tg env μ s.heap I D wr items) (hz:μ'.fz=μ.fz) (x:Ext μ μ' s.heap.objs.size) (k:aL A W s s') (hW:∀ b,W b\/FA A b->b∈μ.hid\/s.heap.objs.size<=b) (hN:∀ b,W b->WS μ N env b\/b=D\/s.heap.objs.size<=b):iO C A N tg env μ' s'.heap I D wr items:=by
 obtain ⟨fp,P,St,all,i,w,st,hi,e,hfp,hwr,hP⟩:=h
 refine ⟨fp,P,St,all,i,w,w.frame i _ _ st fun b hb ob e=>k.at (fun hw=>?_) (hfp b hb).2.2.2 e,hi,e,fun b hb=>⟨E5 (hfp b hb).1 k.le,fun q=>?_,(hfp b hb).2.2⟩,fun b hb=>⟨x.sub _ (hwr b hb).1,fun q=>?_,(hwr b hb).2.2⟩,fun j v a n h' μ'' e p hn m=>hP j v a n h' μ'' e p hn ((Mov.of x k hW).trans m)⟩
 ·rcases hN b hw with q | q | q
  ·exact (hfp b hb).2.1 q
  ·exact (hfp b hb).2.2.1 q
  ·exact absurd (hfp b hb).1 (E0.mpr q)
 ·rcases bi x hz b q with q | q
  ·exact (hfp b hb).2.1 q
  ·exact absurd (hfp b hb).1 (E0.mpr q)
 ·rcases x.foot b q with q | q
  ·exact (hwr b hb).2.1 q
  ·exact absurd (hfp b (w.sub b hb)).1 (E0.mpr q)
theorem mX {h':Heap} {tk:Nat} (G:aT C lv A μ σ s) (F:aM A N env μ ρ s.heap) (hA:Acc C env μ s.heap D acc) (hwr:∀ b∈wr,b∈μ.hid/\b∉μ.foot/\b≠env.locals/\∀ p∈env.cells,p.2≠b) (hD:D∉wr) (hnf:∀ b∈wr,¬ FA A b) (hl:s.heap.objs.size<=h'.objs.size)
  (hk:∀ b o,b∉wr->s.heap.get? b=some o->h'.get? b=some o):aL A (·∈wr) s {s with heap:=h',toks:=tk}/\aT C lv A μ σ {s with heap:=h',toks:=tk}/\aM A N env μ ρ h'/\Acc C env μ h' D acc:=by
 have k:aL A (·∈wr) s {s with heap:=h',toks:=tk}:=⟨h',_,_,rfl,⟨hl,id⟩,fun b o hb e=>.inl (hk b o hb e)⟩
 exact ⟨k,G.turn k (fun b hb=>(hwr b hb).1) (fun b hb=>(hwr b hb).2.1) (fun b hf hb=>absurd hf (hnf b hb)),F.ext (s':={s with heap:=h',toks:=tk}) (Ext.refl _ _) k (G.fw fun b hb=>.inl (hwr b hb).1) (fun q=>(hwr _ q).2.2.1 rfl) (fun p hp q=>(hwr _ q).2.2.2 p hp rfl),
  hA.keeps (s':={s with heap:=h',toks:=tk}) G (Ext.refl _ _) k (G.fw fun b hb=>.inl (hwr b hb).1) hD⟩
theorem iW {x:AV} {xs:List AV} {Q:Option Value->Shared->Prop} {K:Value->Shared->Prop} {E:Value->Shared->Prop} (h:iO C A N tg env μ s.heap I D wr (x :: xs)) (G:aT C lv A μ σ s) (F:aM A N env μ ρ s.heap) (hA:Acc C env μ s.heap D acc)
  (hq:∀ v s1,wpAny (model C.prog C.w) A (HE tg (.ref I) v) (fun zz s2=>K v s2) E s1->Q (some v) s1)
  (hQ:∀ v s',aL A (·∈wr) s s'->aT C lv A μ σ s'->aM A N env μ ρ s'.heap->Acc C env μ s'.heap D acc->af μ s'.heap x v->iO C A N tg env μ s'.heap I D wr xs->K v s'):wpAny (model C.prog C.w) A (pyNext (.ref I)) Q E s:=by
 obtain ⟨fp,P,St,all,i,w,st,hi,e,hfp,hwr,hP⟩:=h
 have hlt:i<all.length:=by
  rcases JH i all.length with q | q
  ·exact q
  ·rw [Fk q] at e;cases e
 rw [Gb hlt] at e
 obtain ⟨e1,e2⟩:=HU.inj e
 refine w.item i s _ _ _ hlt st hq fun v h' tk hv st' hk hl=>?_
 have' hD:D∉wr:=fun q=>(hfp D (w.sub D q)).2.2.1 rfl
 obtain ⟨k,g,f,ac⟩:=mX (tk:=tk) G F hA hwr hD (fun b hb=>(hfp b (w.sub b hb)).2.2.2) hl hk
 have mv:Mov μ μ s.heap h':=Mov.of (s':={s with heap:=h',toks:=tk}) (Ext.refl _ _) k (G.fw fun b hb=>.inl (hwr b hb).1)
 exact hQ v _ k g f ac (hP i v x _ _ _ (by rw [E8 hlt,e1]) hv G.lt mv) ⟨fp,P,St,all,i+1,w,st',hlt,e2,fun b hb=>⟨E5 (hfp b hb).1 hl,(hfp b hb).2⟩,hwr,fun j v a n h'' μ'' e p hn m=>hP j v a n h'' μ'' e p hn (mv.trans m)⟩
theorem rf {Q:Option Value->Shared->Prop} {E:Value->Shared->Prop} (h:iO C A N tg env μ s.heap I D wr []) (G:aT C lv A μ σ s) (F:aM A N env μ ρ s.heap) (hA:Acc C env μ s.heap D acc)
  (hQ:∀ s',aL A (·∈wr) s s'->aT C lv A μ σ s'->aM A N env μ ρ s'.heap->Acc C env μ s'.heap D acc->Q none s'):wpAny (model C.prog C.w) A (pyNext (.ref I)) Q E s:=by
 obtain ⟨fp,P,St,all,i,w,st,hi,e,hfp,hwr,hP⟩:=h
 have' hii:i=all.length:=by
  rcases JH i all.length with q | q
  ·rw [Gb q] at e;cases e
  ·omega
 subst hii
 refine ao (w.done s _ _ st fun h' tk hk hl=>?_)
 have' hD:D∉wr:=fun q=>(hfp D (w.sub D q)).2.2.1 rfl
 obtain ⟨k,g,f,ac⟩:=mX (tk:=tk) G F hA hwr hD (fun b hb=>(hfp b (w.sub b hb)).2.2.2) hl hk
 exact hQ _ k g f ac
theorem jT.mid {base:Nat} (G:aT C lv A μ σ s) (h:jT C A N tg env μ [] base s.heap I items) (hA:Acc C env μ s.heap D acc) (hD:D<base) (hL:env.locals<base) (hc:∀ p∈env.cells,p.2<base):∃ wr,iO C A N tg env μ s.heap I D wr items/\∀ b∈wr,base<=b:=by
 obtain ⟨fp,wr,P,St,w,st,h1,h2,h3,h4,h5⟩:=h
 refine ⟨wr,⟨fp,P,St,items,0,w,st,Ek _,rfl,fun b hb=>⟨h1 b hb,(h2 b hb).1,?_,(h2 b hb).2⟩,fun b hb=>⟨(h3 b hb).1,(h3 b hb).2.1,?_,fun p hp=>?_⟩,h5⟩,fun b hb=>(h3 b hb).2.2⟩
 ·rintro rfl
  rcases h4 _ hb hA.hid with q | q
  ·exact absurd hD (E0.mpr (h3 _ q).2.2)
  ·exact hA.foot q
 ·rintro rfl;exact absurd hL (E0.mpr (h3 _ hb).2.2)
 ·rintro rfl;exact absurd (hc p hp) (E0.mpr (h3 _ hb).2.2)
theorem qo {v:Value} {d:PyData} {Q:Value->Shared->Prop} {E:Value->Shared->Prop} (G:aT C lv A μ σ s) (F:aM A N env μ ρ s.heap) (hA:Acc C env μ s.heap D acc) (r:af μ s.heap (.dat d) v) (hz:acc.length<=FG)
  (hQ:∀ x s',aL A (· = D) s s'->aT C lv A μ σ s'->aM A N env μ ρ s'.heap->Acc C env μ s'.heap D (acc++[d])->Q x s'):wpAny (model C.prog C.w) A (call (.builtin "list.append") [.ref D,v]) Q E s:=by
 obtain ⟨ys,bs,hp,ra⟩:=hA.rd
 have' hys:ys.size=acc.length:=a9 ra
 refine Ju (hsz:=by rw [hys];exact hz) hp fun h' l sb=>?_
 have k:aL A (· = D) s {s with heap:=h'}:=⟨h',_,_,rfl,⟨E9 sb.1.symm,id⟩,fun b o hb e=>.inl (sb.extBut b o hb e)⟩
 have hW:∀ b,b=D\/FA A b->b∈μ.hid\/s.heap.objs.size<=b:=G.fw fun b hb=>hb▸.inl hA.hid
 refine hQ _ _ k (G.turn k (fun b hb=>hb▸hA.hid) (fun b hb=>hb▸hA.foot) (fun b hf hb=>by
  subst hb;obtain ⟨_,_,o,es,n,e,d⟩:=G.frs.fa hf;obtain ⟨n',e'⟩:=hp
  rw [e] at e';cases e';cases d)) (F.ext (s':={s with heap:=h'}) (Ext.refl _ _) k hW (fun q=>hA.loc q.symm) (fun p hp q=>hA.cel p hp q)) ?_
 obtain ⟨as,rv⟩:=r
 have up:=lE (μ:=μ) (s':={s with heap:=h'}) (Ext.refl _ _) k hW
 obtain ⟨cs,z⟩:=lh (PyProof.Rows.Reads.keeps up rv) (PyProof.Rows.ReadsAll.keeps up ra)
 refine ⟨hA.hid,hA.foot,hA.loc,hA.cel,ys.push v,cs,l,?_⟩
 rw [Ja]
 exact z
theorem fJ {α:Type} {l gs:List α} {g:α} {d:Nat} (h:l.drop d=g :: gs):l[d]? = some g/\l.drop (d+1)=gs:=by
 have hlt:d<l.length:=by
  rcases JH d l.length with q | q
  ·exact q
  ·rw [Fk q] at h;cases h
 rw [Gb hlt] at h
 obtain ⟨e1,e2⟩:=HU.inj h
 exact ⟨by rw [E8 hlt,e1],e2⟩
theorem Ext.le {μ μ':Mu} {n m:Nat} (z:Ext μ μ' m) (h:n<=m):Ext μ μ' n:=⟨z.grow.imp fun zz g=>⟨g.1,fun p hp b hb=>EE h (g.2 p hp b hb)⟩,z.sub,fun b hb=>(z.new b hb).imp id (EE h)⟩
theorem j4 {env:Env} {μ μ':Mu} {s s1 s2 s3:Shared} {D:Addr} {wr:List Addr} (k1:aL A (·∈wr) s s1) (k2:aL A (fun b=>WS μ N env b\/b=D) s1 s2) (x:Ext μ μ' s1.heap.objs.size) (hz:μ'.fz=μ.fz) (k3:aL A (fun b=>WS μ' N env b\/b=D\/b∈wr) s2 s3) :
  aL A (fun b=>WS μ N env b\/b=D\/b∈wr) s s3:=
 ((k1.mono fun b hb=>.inl (.inr (.inr hb))).trans k2 fun b hb=>.inl (hb.imp id .inl)).trans k3 fun b hb=>by
  rcases hb with q | q
  ·rcases bi x hz b q with q | q
   ·exact .inl (.inl q)
   ·exact .inr (EE k1.le q)
  ·exact .inl (.inr q)
theorem tv {elt:Expr} {gens:List Es} {scope:Scope} {pos:Pos} (haa:∀ g∈gens,g.is_async=0) (okC:C.Ok) {gs:List Es} {ds:List PyData} (h:Cl C lv N elt σ gs items ρ ds) :
  ∀ {depth:Nat} {A:Around} {env:Env} {μ:Mu} {s:Shared} {I:Addr} {wr:List Addr} {acc:List PyData} {R:Result->Shared->Prop},gens.drop depth=gs->(∃ g r,gs=g :: r/\iO C A N g.target env μ s.heap I D wr items)->aT C lv A μ σ s->aM A N env μ ρ s.heap->Acc C env μ s.heap D acc->
   acc.length+ds.length<=FG->
   (∀ μ' s',aT C lv A μ' σ s'->aM A N env μ' ρ s'.heap->Ext μ μ' s.heap.objs.size->aL A (fun b=>WS μ N env b\/b=D\/b∈wr) s s'->Acc C env μ' s'.heap D (acc++ds)->R (.ok .next) s')->
   GP (model C.prog C.w) A (.compLoop (.ListComp elt gens scope pos) depth (.ref I) (.ref D) env) R s:=by
 refine h (fun gs items ρ ds=>∀ {depth:Nat} {A:Around} {env:Env} {μ:Mu} {s:Shared} {I:Addr} {wr:List Addr} {acc:List PyData} {R:Result->Shared->Prop},gens.drop depth=gs->(∃ g r,gs=g :: r/\iO C A N g.target env μ s.heap I D wr items)->aT C lv A μ σ s->aM A N env μ ρ s.heap->Acc C env μ s.heap D acc->acc.length+ds.length<=FG->(∀ μ' s',aT C lv A μ' σ s'->aM A N env μ' ρ s'.heap->Ext μ μ' s.heap.objs.size->aL A (fun b=>WS μ N env b\/b=D\/b∈wr) s s'->Acc C env μ' s'.heap D (acc++ds)->R (.ok .next) s')->GP (model C.prog C.w) A (.compLoop (.ListComp elt gens scope pos) depth (.ref I) (.ref D) env) R s) ?nil ?skip ?one ?deep
 case nil=>
  intro gs ρ depth A env μ s I wr acc R hg qq1 G F hA hz hR;obtain ⟨g,gs,e0,hI⟩:=qq1;subst e0;obtain ⟨hg1,_⟩:=fJ hg;refine gz hg1 haa fun E hE=>?_
  refine rf hI G F hA fun s1 k g f ac=>?_
  exact hR μ s1 g f (Ext.refl _ _) (k.mono fun b hb=>.inl (.inr (.inr hb))) (by rw [FF];exact ac)
 case skip=>
  intro g gs x xs ρ ρ₁ ds ha ht hs ih depth A env μ s I wr acc R hg qq1 G F hA hz hR;obtain ⟨_,_,e0,hI⟩:=qq1
  cases e0
  obtain ⟨hg1,hg2⟩:=fJ hg;refine gz hg1 haa fun E hE=>?_
  have wrh:∀ b∈wr,b∈μ.hid:=by obtain ⟨_,_,_,_,_,_,_,_,_,_,q,_⟩:=hI;exact fun b hb=>(q b hb).1
  refine iW hI G F hA (fun v s1 h=>h) fun v s1 k1 g1 f1 ac1 rv it1=>?_
  refine ha A env μ s1 v _ _ okC g1 f1 rv fun μ2 s2 P2=>ht A env μ2 s2 _ _ okC P2.good P2.fr fun μ3 s3 P3=>?_
  have P:=P2.trans P3;have hid1:∀ b,WS μ N env b\/FA A b->b∈μ.hid\/s1.heap.objs.size<=b:=g1.fw fun b hb=>.inl (dE g1.sim f1 b hb)
  have' ac3:=ac1.keeps g1 P.ext P.kept hid1 (iD ac1);have' it3:=it1.keeps (P.good.frz.trans g1.frz.symm) P.ext P.kept hid1 fun b hb=>.inl hb
  show GP _ _ _ _ _
  refine ih hg ⟨_,_,rfl,it3⟩ P.good (P.fr.sub hs) ac3 hz fun μ4 s4 g4 f4 x4 k4 a4=>hR μ4 s4 g4 f4 ((P.ext.trans x4 P.kept.le).le k1.le) (j4 k1 (P.kept.mono fun b hb=>.inl (.inl hb)) P.ext (P.good.frz.trans g1.frz.symm) k4) a4
 case one=>
  intro g x xs ρ ρ₁ d ds ha ht he hs ih depth A env μ s I wr acc R hg qq1 G F hA hz hR;obtain ⟨_,_,e0,hI⟩:=qq1
  cases e0
  obtain ⟨hg1,hg2⟩:=fJ hg;have' hg3:gens[depth+1]? = none:=by
   rw [Ib]
   have:=congrArg Hn hg2
   simp at this;omega
  refine gz hg1 haa fun E hE=>?_
  refine iW hI G F hA (fun v s1 h=>h) fun v s1 k1 g1 f1 ac1 rv it1=>?_
  refine ha A env μ s1 v _ _ okC g1 f1 rv fun μ2 s2 P2=>ht A env μ2 s2 _ _ okC P2.good P2.fr fun μ3 s3 P3=>?_
  rw [if_pos rfl,hg3]
  refine he A env μ3 s3 _ _ okC P3.good P3.fr fun y μ4 s4 P4 ry=>?_
  have P:=P2.trans (P3.trans P4);have hid1:∀ b,WS μ N env b\/FA A b->b∈μ.hid\/s1.heap.objs.size<=b:=g1.fw fun b hb=>.inl (dE g1.sim f1 b hb)
  have ac4:=ac1.keeps g1 P.ext P.kept hid1 (iD ac1);have' it4:=it1.keeps (P.good.frz.trans g1.frz.symm) P.ext P.kept hid1 fun b hb=>.inl hb
  refine qo P.good P.fr ac4 ry (by simp at hz;omega) fun zz s5 k5 g5 f5 ac5=>?_
  have it5:=it4.keeps rfl (Ext.refl _ _) k5 (P.good.fw fun b hb=>hb▸.inl ac4.hid) fun b hb=>.inr (.inl hb)
  refine ih hg ⟨_,_,rfl,it5⟩ g5 (f5.sub hs) ac5 (by simp at hz ⊢;omega) fun μ6 s6 g6 f6 x6 k6 a6=>hR μ6 s6 g6 f6 ((P.ext.trans x6 (EE P.kept.le k5.le)).le k1.le) (j4 k1 ((P.kept.mono (W':=fun b=>WS μ N env b\/b=D) fun b hb=>.inl (.inl hb)).trans k5 fun b hb=>.inl (.inr hb)) P.ext (P.good.frz.trans g1.frz.symm) k6) (by simpa using a6)
 case deep=>
  intro g g' gs x xs ρ ρ₁ ys es ds ha ht hi hf ih1 hs ih2 depth A env μ s I wr acc R hg qq1 G F hA hz hR;obtain ⟨_,_,e0,hI⟩:=qq1
  cases e0
  obtain ⟨hg1,hg2⟩:=fJ hg;obtain ⟨hg3,hg4⟩:=fJ hg2;refine gz hg1 haa fun E hE=>?_
  refine iW hI G F hA (fun v s1 h=>h) fun v s1 k1 g1 f1 ac1 rv it1=>?_
  refine ha A env μ s1 v _ _ okC g1 f1 rv fun μ2 s2 P2=>ht A env μ2 s2 _ _ okC P2.good P2.fr fun μ3 s3 P3=>?_
  rw [if_pos rfl,hg3]
  dsimp only;refine Ep (hi A env μ3 s3 _ E okC P3.good P3.fr fun I' μ4 s4 P4 hIt=>?_) (fun y s4 hy=>GC (hf env y) hy) fun zz zz e=>e
  have P:=P2.trans (P3.trans P4);have hid1:∀ b,WS μ N env b\/FA A b->b∈μ.hid\/s1.heap.objs.size<=b:=g1.fw fun b hb=>.inl (dE g1.sim f1 b hb)
  have' ac3:=ac1.keeps g1 (P2.trans P3).ext (P2.trans P3).kept hid1 (iD ac1);have ac4:=ac1.keeps g1 P.ext P.kept hid1 (iD ac1);have it4:=it1.keeps (P.good.frz.trans g1.frz.symm) P.ext P.kept hid1 fun b hb=>.inl hb
  obtain ⟨wr',it',hwr'⟩:=hIt.mid P.good ac4 (P3.good.lt _ ac3.hid) (P3.good.lt _ P3.fr.hidL) fun p hp=>P3.good.lt _ (P3.fr.cells p hp).1
  have loop:GP (model C.prog C.w) A (.compLoop (.ListComp elt gens scope pos) (depth+1) (.ref I') (.ref D) env) (fun r s₇=>match r with
    | .ok _=>GP (model C.prog C.w) A (.compLoop (.ListComp elt gens scope pos) depth (.ref I) (.ref D) env) R s₇
    | .error e=>LA (model C.prog C.w) A env E e s₇) s4:=by
   refine ih1 hg2 ⟨_,_,rfl,it'⟩ P.good P.fr ac4 (by simp at hz ⊢;omega) fun μ5 s5 g5 f5 x5 k5 a5=>?_
   have' kk:∀ b,WS μ4 N env b\/b=D\/b∈wr'->WS μ N env b\/b=D\/s1.heap.objs.size<=b:=fun b hb=>by
    rcases hb with q | q | q
    ·exact (bi P.ext (P.good.frz.trans g1.frz.symm) b q).imp id .inr
    ·exact .inr (.inl q)
    ·exact .inr (.inr (EE (P2.trans P3).kept.le (hwr' b q)))
   have k15:aL A (fun b=>WS μ N env b\/b=D) s1 s5:=(P.kept.mono (W':=fun b=>WS μ N env b\/b=D) fun b hb=>.inl (.inl hb)).trans k5 fun b hb=>by
    rcases kk b hb with q | q | q
    ·exact .inl (.inl q)
    ·exact .inl (.inr q)
    ·exact .inr q
   have x15:=P.ext.trans x5 P.kept.le;have it5:=it1.keeps (g5.frz.trans g1.frz.symm) x15 k15 (g1.fw fun b hb=>hb.elim (fun q=>hid1 b (.inl q)) fun q=>q▸.inl ac1.hid) fun b hb=>hb.elim .inl fun q=>.inr (.inl q)
   refine ih2 hg ⟨_,_,rfl,it5⟩ g5 (f5.sub hs) a5 (by simp at hz ⊢;omega) fun μ6 s6 g6 f6 x6 k6 a6=>hR μ6 s6 g6 f6 ((x15.trans x6 k15.le).le k1.le) (j4 k1 k15 x15 (g5.frz.trans g1.frz.symm) k6) (by simpa using a6)
  refine kQ hg3 (haa g' (EK hg3)) loop ?_;obtain ⟨fp',P',St',all',i',w',st',_⟩:=it';exact w'.self _ s4 _ _ st' loop
end
theorem dU {k:Eb} {x:Str} {l:aE} (nd:(l.map (·.1)).Nodup) (h:(x,k)∈l):l.lookup x=some k:=by
 induction l with
 | nil=>exact absurd h Fb
 | cons p l ih=>
  obtain ⟨y,ky⟩:=p
  rw [E6,GF] at nd
  rw [GR,]
  rcases ES.mp h with e | h
  ·cases e;simp
  ·have:(x==y)=false:=beq_eq_false_iff_ne.mpr fun q=>nd.1 (EL.mpr ⟨(x,k),h,q⟩)
   rw [this,]
   exact ih nd.2 h
noncomputable def ip (env:Env):Str×Eb->Str×Eb:=fun (n,k)=>if (k==Eb.free && env.scope.kind==ScopeKind.function && env.kindOf n==some Eb.cell) then (n,Eb.cell) else (n,k)
set_option tactic.hygienic true in
theorem lU {scope:Scope} {env e':Env} (he:e'.scope=JJ scope env) (nd:(scope.names.map (·.1)).Nodup):∀ p∈scope.names,e'.kindOf p.1=some p.2\/(p.2=.free/\e'.kindOf p.1=some .cell):=by
 rintro ⟨x,k⟩ hp
 unfold Env.kindOf
 rw [he,]
 show List.lookup x (scope.names.map (ip env))=some k\/(k=.free/\List.lookup x (scope.names.map (ip env))=some .cell)
 generalize hf:ip env=f
 have f1:∀ p:Str×Eb,(f p).1=p.1:=by rintro ⟨n,k⟩;rw [<- hf,];unfold ip;dsimp only;split<;>rfl
 have' f2:(f (x,k)).2=k\/(k=.free/\(f (x,k)).2=.cell):=by
  rw [<- hf,];unfold ip;dsimp only
  split
  ·rename_i h
   simp only [E7,beq_iff_eq] at h
   exact .inr ⟨h.1.1,rfl⟩
  ·exact .inl rfl
 have' nd':((scope.names.map f).map (·.1)).Nodup:=by
  rw [EQ,]
  have:((fun x=>x.1) ∘ f:Str×Eb->Str)=fun p=>p.1:=funext f1
  rw [this,];exact nd
 have' hm:(x,(f (x,k)).2)∈scope.names.map f:=EL.mpr ⟨(x,k),hp,Prod.ext (f1 _) rfl⟩
 have:=dU nd' hm
 rcases f2 with e | ⟨e,e'⟩
 ·exact .inl (by rw [this,e,])
 ·exact .inr ⟨e,by rw [this,e',]⟩
theorem fk {env:Env}:∀ {names:aE} {acc:List (Str×Addr)},(∀ x,(x,Eb.free)∈names->∃ c,env.cells.lookup x=some c)->
  ∃ cl,(forIn names acc fun (x:Str×Eb) cs=>if (x.2==Eb.free)=true then do let a <- cellOf env x.1;pure (ForInStep.yield ((x.1,a) :: cs)) else pure (ForInStep.yield cs):Sem (List (Str×Addr)))=pure (cl++acc) /\
   (∀ p∈cl,env.cells.lookup p.1=some p.2/\(p.1,Eb.free)∈names)/\∀ x,(x,Eb.free)∈names->∃ c,(x,c)∈cl:=by
 intro names
 induction names with
 | nil=>intro acc _;exact ⟨[],by rw [IX,];rfl,(fun zz h=>ye h),fun zz h=>ye h⟩
 | cons p names fk=>
  obtain ⟨y,k⟩:=p;intro acc h
  rw [KP,]
  by_cases hk:k=.free
  ·subst hk
   obtain ⟨c,hc⟩:=h y (.head _);obtain ⟨cl,e,h1,h2⟩:=fk (acc:=(y,c) :: acc) fun x hx=>h x (.tail _ hx)
   refine ⟨cl++[(y,c)],?_,fun p hp=>?_,fun x hx=>?_⟩
   ·simp only [beq_self_eq_true,if_true]
    have e1:cellOf env y=pure c:=by unfold cellOf;rw [hc,]
    rw [e1,]
    refine Eq.trans ?_ (Eq.trans e ?_)
    ·rfl
    ·rw [FH,];rfl
   ·rcases ED.mp hp with q | q
    ·exact ⟨(h1 p q).1,.tail _ (h1 p q).2⟩
    ·rw [EG.mp q,];exact ⟨hc,.head _⟩
   ·rcases ES.mp hx with e | hx
    ·cases e;exact ⟨c,ED.mpr (.inr (.head _))⟩
    ·obtain ⟨d,hd⟩:=h2 x hx;exact ⟨d,ED.mpr (.inl hd)⟩
  ·obtain ⟨cl,e,h1,h2⟩:=fk (acc:=acc) fun x hx=>h x (.tail _ hx)
   refine ⟨cl,?_,fun p hp=>⟨(h1 p hp).1,.tail _ (h1 p hp).2⟩,fun x hx=>?_⟩
   ·have:(k==Eb.free)=false:=beq_eq_false_iff_ne.mpr hk
    simp only [this,F0,if_false]
    exact e
   ·rcases ES.mp hx with e | hx
    ·cases e;exact absurd rfl hk
    ·exact h2 x hx
theorem r6 {scope:Scope} {env:Env} (h:∀ x,(x,Eb.free)∈scope.names->∃ c,env.cells.lookup x=some c):∃ cl,LB scope env=pure cl/\(∀ p∈cl,env.cells.lookup p.1=some p.2/\(p.1,Eb.free)∈scope.names)/\∀ x,(x,Eb.free)∈scope.names->∃ c,(x,c)∈cl:=by
 obtain ⟨cl,e,h1,h2⟩:=fk (acc:=[]) h
 refine ⟨cl,?_,h1,h2⟩
 rw [FF] at e
 unfold LB
 have:=congrArg (fun t:Sem (List (Str×Addr))=>t >>= fun s=>pure s) e
 exact this
noncomputable def eA (N:aE) (ρ:aO) (x:Str) (a:AV):Prop:=∀ P:aE->aO->Prop,(∀ N ρ,P ((x,.cell) :: N) (some a :: ρ))->(∀ N ρ,P ((x,.free) :: N) (some a :: ρ))->(∀ p N o ρ,P N ρ->P (p :: N) (o :: ρ))->P N ρ
theorem eA.cell {x:Str} {N:aE} {a:AV} {ρ:aO}:eA ((x,.cell) :: N) (some a :: ρ) x a:=fun zz h zz zz=>h _ _
theorem eA.free {x:Str} {N:aE} {a:AV} {ρ:aO}:eA ((x,.free) :: N) (some a :: ρ) x a:=fun zz zz h zz=>h _ _
theorem eA.there {p:Str×Eb} {N:aE} {o:Option AV} {ρ:aO} {x:Str} {a:AV} (l:eA N ρ x a):eA (p :: N) (o :: ρ) x a:=fun P g h t=>t _ _ _ _ (l P g h t)
theorem eA.load {N:aE} {ρ:aO} {x:Str} {a:AV} (h:eA N ρ x a):bj N ρ x a/\((x,Eb.cell)∈N\/(x,Eb.free)∈N):=
 h (fun N ρ=>bj N ρ x a/\((x,Eb.cell)∈N\/(x,Eb.free)∈N)) (fun zz zz=>⟨.here,.inl (.head _)⟩) (fun zz zz=>⟨.here,.inr (.head _)⟩) fun zz zz zz zz ih=>⟨.there ih.1,ih.2.imp (.tail _) (.tail _)⟩
noncomputable def gN (N:aE) (ρ:aO) (N':aE) (ρ':aO):Prop:=∀ P:aE->aO->Prop,P [] []->(∀ x a N' ρ',eA N ρ x a->P N' ρ'->P ((x,.free) :: N') (some a :: ρ'))->(∀ p N' ρ',P N' ρ'->P (p :: N') (none :: ρ'))->P N' ρ'
theorem gN.nil {N:aE} {ρ:aO}:gN N ρ [] []:=fun zz h zz zz=>h
theorem gN.free {N:aE} {ρ:aO} {x:Str} {a:AV} {N':aE} {ρ':aO} (l:eA N ρ x a) (c:gN N ρ N' ρ'):gN N ρ ((x,.free) :: N') (some a :: ρ'):=fun P f g h=>g _ _ _ _ l (c P f g h)
theorem gN.other {N:aE} {ρ:aO} {p:Str×Eb} {N':aE} {ρ':aO} (c:gN N ρ N' ρ'):gN N ρ (p :: N') (none :: ρ'):=fun P f g h=>h _ _ _ (c P f g h)
noncomputable def dM (N:aE) (x:Str):Prop:=∀ P:aE->Prop,(∀ N,P ((x,.cell) :: N))->(∀ N,P ((x,.free) :: N))->(∀ p N,P N->P (p :: N))->P N
theorem dM.cell {x:Str} {N:aE}:dM ((x,.cell) :: N) x:=fun zz h zz zz=>h _
theorem dM.free {x:Str} {N:aE}:dM ((x,.free) :: N) x:=fun zz zz h zz=>h _
theorem dM.there {p:Str×Eb} {N:aE} {x:Str} (c:dM N x):dM (p :: N) x:=fun P f g h=>h _ _ (c P f g h)
theorem dM.mem {N:aE} {x:Str} (h:dM N x):(x,Eb.cell)∈N\/(x,Eb.free)∈N:=
 h (fun N=>(x,Eb.cell)∈N\/(x,Eb.free)∈N) (fun zz=>.inl (.head _)) (fun zz=>.inr (.head _)) fun zz zz ih=>ih.imp (.tail _) (.tail _)
noncomputable def cF (N:aE) (N':aE):Prop:=∀ P:aE->Prop,P []->(∀ x N',dM N x->P N'->P ((x,.free) :: N'))->(∀ x k N',k≠.free->P N'->P ((x,k) :: N'))->P N'
theorem cF.nil {N:aE}:cF N []:=fun zz h zz zz=>h
theorem cF.free {N:aE} {x:Str} {N':aE} (c:dM N x) (f:cF N N'):cF N ((x,.free) :: N'):=fun P a b d=>b _ _ c (f P a b d)
theorem cF.not {N:aE} {x:Str} {k:Eb} {N':aE} (hk:k≠.free) (f:cF N N'):cF N ((x,k) :: N'):=fun P a b d=>d _ _ _ hk (f P a b d)
theorem cF.loc {N:aE} {x:Str} {N':aE} (f:cF N N'):cF N ((x,.local) :: N'):=f.not nofun
theorem cF.cel {N:aE} {x:Str} {N':aE} (f:cF N N'):cF N ((x,.cell) :: N'):=f.not nofun
theorem cF.glo {N:aE} {x:Str} {N':aE} (f:cF N N'):cF N ((x,.globalImplicit) :: N'):=f.not nofun
theorem cF.mem {N N':aE} (h:cF N N'):∀ x,(x,Eb.free)∈N'->(x,Eb.cell)∈N\/(x,Eb.free)∈N:=by
 refine h (fun N'=>∀ x,(x,Eb.free)∈N'->(x,Eb.cell)∈N\/(x,Eb.free)∈N) (fun zz h=>ye h) (fun x N' hc ih y h=>?_) fun x k N' hk ih y h=>?_<;>rcases ES.mp h with e | h
 ·cases e;exact hc.mem
 ·exact ih y h
 ·cases e;exact absurd rfl hk
 ·exact ih y h
theorem gN.vars {N N':aE} {ρ ρ':aO} {env:Env} {m:Str->Option Value} {μ:Mu} {h:Heap} (cl:gN N ρ N' ρ'):(∀ x a,(x,Eb.free)∈N'->eA N ρ x a->dq env m μ h x a)->fB env m μ h N' ρ':=
 cl (fun N' ρ'=>(∀ x a,(x,Eb.free)∈N'->eA N ρ x a->dq env m μ h x a)->fB env m μ h N' ρ') (fun zz=>trivial) (fun zz zz zz zz l ih f=>⟨f _ _ (.head _) l,ih fun x a hx=>f x a (.tail _ hx)⟩) fun zz zz zz ih f=>ih fun x a hx=>f x a (.tail _ hx)
set_option tactic.hygienic true in
theorem ln:∀ {names:aE} {n:Nat} {x:Str},(names.map (·.1)).Nodup->(x,Eb.free)∈names->(GS n names []).lookup x=none:=by
 intro names n x nd hx
 have:∀ {names:aE} {n:Nat} {c:Addr},(x,c)∈GS n names []->(x,Eb.cell)∈names:=by
  intro names
  induction names with
  | nil=>intro n c h;cases h
  | cons p r ih=>
   obtain ⟨y,k⟩:=p;intro n c h;unfold GS at h
   split at h
   ·rename_i hk
    rw [bT] at h
    rcases ED.mp h with h | h
    ·exact .tail _ (ih h)
    ·rw [EG] at h
     cases h
     rw [beq_iff_eq.mp hk,];exact .head _
   ·exact .tail _ (ih h)
 cases e:(GS n names []).lookup x with
 | none=>rfl
 | some c=>
  have' h1:=dU nd (this (bG e));have h2:=dU nd hx
  rw [h1] at h2;cases h2
section
variable {C:Cx} {lv:Lv} {N:aE} {ρ ρ₁ ρ₂ ρ₃ ρ' ρ₀:aO} {σ σ₁ σ₂ σ₃ σ':aC} {o:Out} {a b:AV} {A:Around} {env:Env} {μ μ':Mu} {s s':Shared}
theorem jd {elt:Expr} {gens gs':List Es} {g:Es} {scope:Scope} {pos cpos:Pos} {ls:List Nat} {items:List AV} {ds:List PyData} (hgens:gens=g :: gs') (okn:dW scope.names) (hk:scope.kind=.function)
  (haa:∀ g∈gens,g.is_async=0) (hi:gK C lv N g.target g.iter ls ρ σ items ρ₁ σ₁) (hf:∀ env x,Fp g.iter env x=pure x)
  (hfr:cF N scope.names) (hcl:gN N ρ₁ scope.names ρ') (hbl:cL scope.names ρ₀) (hc:Cl C {lv with fz:=ls++lv.fz} scope.names elt σ₁ gens items ρ' ds) (hz:ds.length<=FG)
  {use:Option (Value->Sem Unit)} {Q:Value->Shared->Prop} {E:Value->Shared->Prop} (ok:C.Ok) (G:aT C lv A μ σ s) (F:aM A N env μ ρ s.heap)
  (hQ:∀ D μ' s' L,aS C lv A N env μ s ρ₁ σ₁ μ' s'->af μ' s'.heap (.dat (.list ds)) (.ref D)->L∈μ'.hid->L∉μ'.foot->L≠env.locals->(∀ p∈env.cells,p.2≠L)->(∃ m,s'.heap.Ns L m)->s.heap.objs.size<=L->L≠D->aS C lv A N env μ s ρ₁ (σ₁++[.list (ds.map .dat)]) (μ'.add D [D]) s'->af (μ'.add D [D]) s'.heap (.ref σ₁.length) (.ref D)->
   compPost (model C.prog C.w) A E use Q (.ref D) L (.ok .next) s') :
  wpAny (model C.prog C.w) A (Jl (.ListComp elt gens scope pos) scope env cpos (Lj []) false (eval g.iter env) use) Q E s:=by
 obtain ⟨cl,hclos,hc1,hc2⟩:=r6 (scope:=scope) (env:=env) fun x hx=>(hfr.mem x hx).elim (fun h=>F.cellsIn _ h (.inl rfl)) fun h=>F.cellsIn _ h (.inr rfl)
 refine wpAny_comprehension_free (g:=g) (gs:=gs') (by rw [hgens];rfl) (hf env) hclos hk (fun x hx hl=>by have:=dU (k:=x.2) (x:=x.1) okn.nodup hx;rw [hl] at this;exact this) ?_
 refine hi A env μ s _ _ ok G F fun I μ1 s1 P1 hIt=>?_
 refine GZ ?_
 have k12:aL A0 NoW s1 {s1 with heap:=s1.heap.push {cls:=.type "list",dict:=none,data:=.seq ([]:List Value).toArray}}:=bB _ _
 have P2:=aS.hide (l:=[s1.heap.objs.size]) P1.good P1.fr k12 fun b hb=>by rw [EG.mp hb];exact ⟨EH _,by show _<(HV _ _).objs.size;rw [ER];exact E3 _⟩
 generalize hs2:({s1 with heap:=s1.heap.push {cls:=.type "list",dict:=none,data:=.seq ([]:List Value).toArray}}:Shared)=s2 at P2 k12 ⊢
 have hz2:s2.heap.objs.size=s1.heap.objs.size+1:=by rw [<- hs2];exact ER ..
 have hD0:s2.heap.PlainList s1.heap.objs.size #[]:=by rw [<- hs2];exact ⟨_,EP _ rfl⟩
 generalize hDD:s1.heap.objs.size=D at P2 hD0
 refine eX fun cenv hcenv=>?_
 refine EA (EF (EF ?_))
 have e1:cenv.locals=s2.heap.objs.size:=by rw [hcenv];rfl
 have e2:cenv.cells=GS (s2.heap.objs.size+1) scope.names cl:=by rw [hcenv];rfl
 have hce:∀ p∈cl,p∈env.cells:=fun p hp=>bG (hc1 p hp).1
 have hclosed:oB scope.names cl (μ1.hide [D]) s2.heap:=⟨fun p hp=>let ⟨a,b,_,v,d⟩:=P2.fr.cells p (hce p hp);⟨a,b,v,d⟩,fun p hp q hq e=>P2.fr.apart p (hce p hp) q (hce q hq) e,fun x hx=>let ⟨c,h⟩:=hc2 x hx;dm h⟩
 obtain ⟨G3,F3,x3,k3⟩:=jR (cls := "dict") (env':={cenv with scope:=JJ scope env}) P2.good okn hclosed hbl e1 e2 (by rw [hcenv];exact F.glob) (by rw [hcenv];exact F.blt) hk (lU rfl okn.nodup) (by rw [hcenv];exact F.fe)
 generalize hs3:({s2 with heap:=bX s2.heap "dict" scope.names}:Shared)=s3 at G3 k3
 have' hh3:bX s2.heap "dict" scope.names=s3.heap:=by rw [<- hs3]
 rw [hh3] at F3
 rw [show (if (some env:Option Env).isSome=true then "dict" else "frame")="dict" from rfl,hs3]
 generalize hm3:(μ1.hide [D]).hide (dA s2.heap.objs.size scope.names)=μ3 at G3 F3 x3
 have k13:aL A0 NoW s1 s3:=k12.trans k3 fun zz h=>h.elim
 have x13:Ext μ1 μ3 s1.heap.objs.size:=P2.ext.trans x3 k12.le
 have' F3':aM A scope.names {cenv with scope:=JJ scope env} μ3 ρ' s3.heap:=by
  obtain ⟨m,hn,hv⟩:=F3.vals;refine ⟨F3.fn,F3.glob,F3.blt,F3.nodup,F3.plain,F3.kinds,F3.hidL,F3.freeL,F3.cellsIn,F3.cells,F3.apart,F3.fe,m,hn,hcl.vars fun x a hx l=>?_⟩
  obtain ⟨l1,l2⟩:=l.load;obtain ⟨m1,hn1,hv1⟩:=P1.fr.vals;obtain ⟨v,r,q⟩:=l1.var hv1;have' hcx:∃ c,env.cells.lookup x=some c/\s1.heap.IsCell c (some v):=by
   rcases q with ⟨q,_⟩ | ⟨_,q⟩
   ·rcases l2 with h | h
    ·rcases F.kinds _ h with e | e
     ·rw [q] at e;cases e
     ·cases e.1
    ·rcases F.kinds _ h with e | e
     ·rw [q] at e;cases e
     ·rw [q] at e;cases e.2
   ·exact q
  obtain ⟨c,hc,hcv⟩:=hcx;refine ⟨v,af.mono x13 k13 noW r,.inr ⟨?_,c,?_,hcv.keeps k13.up⟩⟩
  ·rcases F3.kinds _ hx with e | e
   ·exact .inr e
   ·exact .inl e.2
  ·show cenv.cells.lookup x=some c
   rw [e2,bT,List.lookup_append,ln okn.nodup hx]
   obtain ⟨c',hc'⟩:=hc2 x hx;obtain ⟨d,hd⟩:=dm hc';have:=(hc1 _ (bG hd)).1
   rw [hc] at this
   cases this
   exact hd
 obtain ⟨fp,wr,PP,St,W,st0,hlt,hfp,hwr,hfh,hP⟩:=hIt
 have hbase:∀ b∈wr,b<s1.heap.objs.size:=fun b hb=>hlt b (W.sub b hb)
 have hDs:D=s1.heap.objs.size:=hDD.symm
 have' WSn:∀ b,WS μ3 scope.names {cenv with scope:=JJ scope env} b->WC μ1 b\/s2.heap.objs.size<=b:=fun b hb=>by
  rw [<- hm3] at hb
  exact nG (env':={cenv with scope:=JJ scope env}) P2.good okn.nodup e1 e2 hb
 have hG4:=G3.fz (ls++lv.fz)
 have hF4:=F3'.fz (ls++lv.fz)
 have hfz1:μ1.fz=lv.fz:=P1.good.frz
 have hDlt:D<s3.heap.objs.size:=by
  have' l1:=leA k3.le;have:D<s2.heap.objs.size:=by rw [hz2,hDs];exact E3 _
  exact E5 this l1
 have WSn4:∀ b,WS {μ3 with fz:=ls++lv.fz} scope.names {cenv with scope:=JJ scope env} b->WC {μ1 with fz:=ls++μ1.fz} b\/s2.heap.objs.size<=b:=fun b hb=>by
  rcases hb with ⟨i,p,hp,hi',hb'⟩ | hb
  ·refine .inl ⟨i,p,?_,by rw [hfz1];exact hi',hb'⟩
   rw [<- hm3] at hp
   exact hp
  ·rcases WSn b (.inr hb) with h | h
   ·rcases hb with rfl | ⟨x,hx,hlx⟩
    ·exact .inr (by show s2.heap.objs.size<=cenv.locals;rw [e1];exact EH _)
    ·right
     rw [<- hm3] at hF4
     rcases nG (env':={cenv with scope:=JJ scope env}) (μ:={μ1.hide [D] with objs:=[]}) (σ:=[]) (l:=[]) (closure:=cl) (scope:=scope) (s:=s2) (b:=b) ⟨P2.good.quiet,P2.good.frz,P2.good.room,P2.good.units,P2.good.top,P2.good.base,P2.good.low,P2.good.lt,⟨rfl,fun i p o h=>by simp at h,fun b h=>by simp [Mu.foot] at h,.nil,fun p h=>nomatch h⟩,⟨let ⟨l,e,Hl⟩:=P2.good.frs.all;⟨l,e,fun e' hm=>let ⟨a,L,hL,b1,_,r⟩:=Hl e' hm;⟨a,L,hL,b1,by simp [Mu.foot],r⟩⟩⟩⟩ okn.nodup e1 e2 (.inr (.inr ⟨x,hx,hlx⟩)) with h | h
     ·obtain ⟨i,p,hp,_⟩:=h;simp at hp
     ·exact h
   ·exact .inr h
 have hIM:iO C A scope.names g.target {cenv with scope:=JJ scope env} {μ3 with fz:=ls++lv.fz} s3.heap I D wr items:=by
  refine ⟨fp,PP,St,items,0,W,W.frame 0 _ _ st0 fun b hb o e=>k13.up b o e,Ek _,rfl,fun b hb=>⟨E5 (hlt b hb) k13.le,fun q=>?_,fun q=>?_,(hfp b hb).2⟩,fun b hb=>⟨x13.sub _ (hwr b hb).1,fun q=>?_,fun q=>?_,fun p hp q=>?_⟩,fun j v a n h' μ'' e p hn m=>hP j v a n h' μ'' e p hn (((Mov.of x13 k13 noW).eqR (b':={μ3 with fz:=ls++lv.fz}) rfl rfl).trans m)⟩
  ·rcases WSn4 b q with q | q
   ·exact (hfp b hb).1 (.inl q)
   ·exact E2 _ (E5 (hlt b hb) (EE k12.le q))
  ·have:=ltA (hlt b hb);rw [q,hDs] at this;exact E2 _ this
  ·rcases x13.foot b q with q | q
   ·exact (hwr b hb).2.1 q
   ·exact absurd (hbase b hb) (E0.mpr q)
  ·have:b=s2.heap.objs.size:=q.trans e1
   exact E2 _ (E5 (this▸hbase b hb) k12.le)
  ·have hp':p∈GS (s2.heap.objs.size+1) scope.names cl:=e2▸hp
   rw [bT] at hp'
   rcases ED.mp hp' with h | h
   ·have okc:=JI scope.names (s2.heap.push {cls:=.type "dict",data:=.dict #[]}) (s2.heap.objs.size+1) [] ⟨fun zz zz hm=>(nomatch hm),HN.nil⟩ (by rw [ER];exact EH _)
    rw [ER] at okc
    have l1:=leA (okc.empty p.1 p.2 h).2;have:=ltA (hbase b hb);rw [q] at l1;omega
   ·obtain ⟨_,_,_,v,hv⟩:=F.cells p (hce p h)
    have l1:=ltA hv.lt;have l2:=leA (hwr b hb).2.2
    rw [q] at l1;omega
 have hAcc:Acc C {cenv with scope:=JJ scope env} {μ3 with fz:=ls++lv.fz} s3.heap D []:=by
  have' hDf:D∉μ3.foot:=fun q=>by
   have e:μ3.foot=μ1.foot:=by rw [<- hm3];rfl
   rw [e] at q
   exact absurd (P1.good.lt _ (P1.good.sim.foot _ q)) (E0.mpr (E9 hDs.symm))
  refine ⟨by rw [<- hm3];exact ED.mpr (.inr (.head _)),hDf,fun q=>?_,fun p hp q=>?_,#[],[],?_,.nil⟩
  ·have:D=s2.heap.objs.size:=q.trans e1
   rw [hz2,hDs] at this;exact absurd this (FE (E3 _))
  ·have hp':p∈GS (s2.heap.objs.size+1) scope.names cl:=e2▸hp
   rw [bT] at hp'
   rcases ED.mp hp' with h | h
   ·have okc:=JI scope.names (s2.heap.push {cls:=.type "dict",data:=.dict #[]}) (s2.heap.objs.size+1) [] ⟨fun zz zz hm=>(nomatch hm),HN.nil⟩ (by rw [ER];exact EH _)
    rw [ER] at okc
    have l1:=leA (okc.empty p.1 p.2 h).2
    rw [q] at l1;omega
   ·obtain ⟨_,_,_,v,hv⟩:=P1.fr.cells p (hce p h)
    have l1:=ltA hv.lt
    rw [q,hDs] at l1;exact E2 _ l1
  ·obtain ⟨n,e⟩:=hD0;exact ⟨n,k3.up _ _ e⟩
 let RR:Result->Shared->Prop:=compPost (model C.prog C.w) A E use Q (.ref D) cenv.locals
 have loop:GP (model C.prog C.w) A (.compLoop (.ListComp elt gens scope pos) 0 (.ref I) (.ref D) {cenv with scope:=JJ scope env}) RR s3:=by
  refine tv haa ok hc (depth:=0) rfl ⟨_,_,hgens,hIM⟩ hG4 hF4 hAcc (by simpa using hz) fun μ5 s5 g5 f5 x5 k5 a5=>?_
  have hfz5:μ5.fz=ls++lv.fz:=g5.frz;have x35:Ext μ3 μ5 s3.heap.objs.size:=⟨x5.grow,x5.sub,x5.new⟩;have x15:Ext μ1 μ5 s1.heap.objs.size:=x13.trans x35 k13.le
  let μt:Mu:=μ1.hide (dA s2.heap.objs.size scope.names)
  have hnew:∀ b∈dA s2.heap.objs.size scope.names,s2.heap.objs.size<=b:=fun b hb=>by
   rcases ES.mp hb with rfl | hb
   ·exact EH _
   ·obtain ⟨p,hp,rfl⟩:=EL.mp hb
    have okc:=JI scope.names (s2.heap.push {cls:=.type "dict",data:=.dict #[]}) (s2.heap.objs.size+1) [] ⟨fun zz zz hm=>(nomatch hm),HN.nil⟩ (by rw [ER];exact EH _)
    rw [ER] at okc
    exact GX (okc.empty p.1 p.2 hp).2
  have hle2:s1.heap.objs.size<=s2.heap.objs.size:=k12.le;have mid:Mid μ1 μt {μ5 with fz:=lv.fz}:=⟨rfl,rfl,fun b hb=>ED.mpr (.inr hb),fun b hb=>by
   rcases ED.mp hb with h | h
   ·refine x35.sub b ?_
    rw [<- hm3];exact ED.mpr (.inl h)
   ·exact x15.sub b h⟩
  let WW:Addr->Prop:=fun b=>WC μ1 b\/s1.heap.objs.size<=b\/b∈wr
  have k15:aL A WW s1 s5:=(k13.lift (W:=WW)).trans k5 fun b hb=>by
   rcases hb with q | rfl | q
   ·rcases WSn4 b q with q | q
    ·obtain ⟨i,p,hp,hi',hb'⟩:=q
     exact .inl (.inl ⟨i,p,hp,fun z=>hi' (ED.mpr (.inr z)),hb'⟩)
    ·exact .inr (EE hle2 q)
   ·exact .inr (E9 hDs.symm)
   ·exact .inl (.inr (.inr q))
  have WWh:∀ b,WW b\/FA A b->b∈μ1.hid\/s1.heap.objs.size<=b:=P1.good.fw fun b hb=>by
   rcases hb with q | q | q
   ·exact .inl (P1.good.sim.foot b (WC.foot q))
   ·exact .inr q
   ·exact .inl (hwr b q).1
  have xt:Ext μ1 μt s1.heap.objs.size:=fS fun b hb=>EE hle2 (hnew b hb)
  have Gt:aT C lv A μt σ₁ s5:=P1.good.forget (t:=[]) (μ':={μ5 with fz:=lv.fz}) ⟨x15.grow,x15.sub,x15.new⟩ mid k15 (by rw [FF];exact g5.fz lv.fz)
  have' Ft:aM A N env μt ρ₁ s5.heap:=P1.fr.ext xt k15 WWh (fun q=>by
    rcases q with q | q | q
    ·exact P1.fr.freeL (WC.foot q)
    ·exact absurd (P1.good.lt _ P1.fr.hidL) (E0.mpr q)
    ·exact absurd (G.lt _ F.hidL) (E0.mpr (hwr _ q).2.2)) fun p hp q=>by
    rcases q with q | q | q
    ·exact (P1.fr.cells p hp).2.1 (WC.foot q)
    ·exact absurd (P1.good.lt _ (P1.fr.cells p hp).1) (E0.mpr q)
    ·exact absurd (G.lt _ (F.cells p hp).1) (E0.mpr (hwr _ q).2.2)
  have Pt:aS C lv A N env μ s ρ₁ σ₁ μt s5:=⟨G.frz,Gt,Ft,P1.ext.trans xt P1.kept.le,P1.kept.trans k15 fun b hb=>by
   rcases hb with q | q | q
   ·rcases WC.ext P1.ext (hfz1.trans G.frz.symm) q with q | q
    ·exact .inl (.inl q)
    ·exact .inr q
   ·exact .inr (EE P1.kept.le q)
   ·exact .inr (hwr b q).2.2⟩
  have' hDt:D∉μt.hid:=fun q=>by
   rcases ED.mp q with q | q
   ·have l1:=leA (hnew _ q)
    have l2:D=s1.heap.objs.size:=hDs
    rw [hz2,<- hDs] at l1
    exact absurd l1 (Ih.mpr (E3 _))
   ·exact absurd (P1.good.lt _ q) (E0.mpr (E9 hDs.symm))
  obtain ⟨ys,bs,⟨n,hp5⟩,rd5⟩:=a5.rd;have' rv:af μt s5.heap (.dat (.list ds)) (.ref D):=⟨_,.list (F9 _ hp5 hDt) rfl rfl (PyProof.Rows.ReadsAll.keeps (hH mid.sub) rd5)⟩;obtain ⟨m5,hn5,_⟩:=f5.vals;refine hQ D μt s5 cenv.locals Pt rv (ED.mpr (.inl (by rw [e1];exact .head _))) (fun q=>?_) (fun q=>?_) (fun p hp q=>?_) ⟨m5,hn5⟩ (by rw [e1];exact EE P1.kept.le hle2) (fun q=>?_) ?_ ⟨_,by show (μ1.objs++[(D,[D])])[σ₁.length]? = _;rw [<- P1.good.sim.len];exact EV,rfl⟩
  ·have l1:=ltA (P1.good.lt _ (P1.good.sim.foot _ q))
   rw [e1,hz2] at l1;omega
  ·have l1:=ltA (P1.good.lt _ P1.fr.hidL)
   rw [<- q,e1,hz2] at l1;omega
  ·have l1:=ltA (P1.good.lt _ (P1.fr.cells p hp).1)
   rw [q,e1,hz2] at l1;omega
  ·have:s2.heap.objs.size=D:=e1.symm.trans q
   rw [hz2,hDs] at this;exact absurd this (Ie _)
  ·
   have midD:Mid μ1 (μt.hide [D]) {μ5 with fz:=lv.fz}:=⟨rfl,rfl,fun b hb=>ED.mpr (.inr (mid.sup b hb)),fun b hb=>by
    rcases ED.mp hb with h | h
    ·rw [EG.mp h];exact a5.hid
    ·exact mid.sub b h⟩
   have' hDf1:D∉μ1.foot:=fun q=>absurd (P1.good.lt _ (P1.good.sim.foot _ q)) (E0.mpr (E9 hDs.symm))
   have GD:aT C lv A (μt.hide [D]) σ₁ s5:=P1.good.forget (t:=[]) (μ':={μ5 with fz:=lv.fz}) ⟨x15.grow,x15.sub,x15.new⟩ midD k15 (by rw [FF];exact g5.fz lv.fz)
   have' hfaD:¬ FA A D:=fun q=>absurd (P1.good.lt _ (P1.good.frs.fa q).1) (E0.mpr (E9 hDs.symm))
   have xD:Ext μ1 (μt.add D [D]) s1.heap.objs.size:=⟨⟨[(D,[D])],rfl,fun p hp b hb=>by rw [EG.mp hp] at hb;rw [EG.mp hb];exact E9 hDs.symm⟩,fun b hb=>ED.mpr (.inr (mid.sup b hb)),fun b hb=>by
    rcases ED.mp hb with h | h
    ·rw [EG.mp h];exact .inr (E9 hDs.symm)
    ·exact xt.new b h⟩
   have' GD':aT C lv A (μt.add D [D]) (σ₁++[.list (ds.map .dat)]) s5:=GD.adopt (ED.mpr (.inl (.head _))) hDf1 hfaD ⟨rfl,ys,⟨n,hp5⟩,ic (PyProof.Rows.ReadsAll.keeps (hH midD.sub) rd5)⟩;have' FD:aM A N env (μt.add D [D]) ρ₁ s5.heap:=P1.fr.ext xD k15 WWh (fun q=>by
    rcases q with q | q | q
    ·exact P1.fr.freeL (WC.foot q)
    ·exact absurd (P1.good.lt _ P1.fr.hidL) (E0.mpr q)
    ·exact absurd (G.lt _ F.hidL) (E0.mpr (hwr _ q).2.2)) fun p hp q=>by
    rcases q with q | q | q
    ·exact (P1.fr.cells p hp).2.1 (WC.foot q)
    ·exact absurd (P1.good.lt _ (P1.fr.cells p hp).1) (E0.mpr q)
    ·exact absurd (G.lt _ (F.cells p hp).1) (E0.mpr (hwr _ q).2.2)
   exact ⟨G.frz,GD',FD,P1.ext.trans xD P1.kept.le,Pt.kept⟩
 have hg0:gens[0]? = some g:=by rw [hgens];rfl
 exact kQ hg0 (haa g (EK hg0)) loop (W.self 0 s3 _ _ (W.frame 0 _ _ st0 fun b hb o e=>k13.up b o e) loop)
end
structure jf (gens:List Es) (scope:Scope):Prop where
 names:dW scope.names
 kind:scope.kind=.function
 sync:∀ g∈gens,g.is_async=0
noncomputable def zF (gens:List Es):Bool:=gens.all fun g=>g.is_async==0
theorem jf.of {gens:List Es} {scope:Scope} (h1:dW scope.names) (h2:scope.kind=.function) (h3:zF gens=true):jf gens scope:=by
 have h:=Gf.mp h3
 exact ⟨h1,h2,fun g hg=>by simpa using h g hg⟩
section
variable {C:Cx} {lv:Lv} {N:aE} {ρ ρ₁ ρ₂ ρ₃ ρ' ρ₀:aO} {σ σ₁ σ₂ σ₃ σ':aC} {o:Out} {a b:AV} {A:Around} {env:Env} {μ μ':Mu} {s s':Shared}
theorem qw {L:Addr} {v:Value} {h':Heap} (P:aS C lv A N env μ s ρ σ' μ' s') (r:af μ' s'.heap a v) (h1:L∈μ'.hid) (h2:L∉μ'.foot) (h3:L≠env.locals) (h4:∀ p∈env.cells,p.2≠L) (hL:s.heap.objs.size<=L) (hfa:¬ FA A L) (sb:GY L s'.heap h') :
  aS C lv A N env μ s ρ σ' μ' {s' with heap:=h'}/\af μ' h' a v:=by
 have k:aL A (· = L) s' {s' with heap:=h'}:=⟨h',_,_,rfl,⟨E9 sb.1.symm,id⟩,fun b o hb e=>.inl ((sb.2 b hb).trans e)⟩
 have hW:∀ b,b=L\/FA A b->b∈μ'.hid\/s'.heap.objs.size<=b:=P.good.fw fun b hb=>hb▸.inl h1
 exact ⟨⟨P.fz0,P.good.turn k (fun b hb=>hb▸h1) (fun b hb=>hb▸h2) (fun b hf hb=>absurd (hb▸hf) hfa),P.fr.ext (s':={s' with heap:=h'}) (Ext.refl _ _) k hW (fun q=>h3 q.symm) (fun p hp q=>h4 p hp q),P.ext,P.kept.trans k fun b hb=>.inr (hb▸hL)⟩,
  af.mono (s':={s' with heap:=h'}) (Ext.refl _ _) k hW r⟩
theorem dO {elt:Expr} {gs':List Es} {g:Es} {scope:Scope} {pos:Pos} {ls:List Nat} {items:List AV} {ds:List PyData} (ck:jf (g :: gs') scope) (hi:gK C lv N g.target g.iter ls ρ σ items ρ₁ σ₁)
  (hfr:cF N scope.names) (hcl:gN N ρ₁ scope.names ρ') (hbl:cL scope.names ρ₀) (hc:Cl C {lv with fz:=ls++lv.fz} scope.names elt σ₁ (g :: gs') items ρ' ds) (hz:ds.length<=FG) (hf:autoParam (∀ env x,Fp g.iter env x=pure x) aJ) :
  aH C lv N (.ListComp elt (g :: gs') scope pos) ρ σ (.dat (.list ds)) ρ₁ σ₁:=by
 intro A env μ s Q E ok G F hQ
 have hz0:g.is_async=0:=ck.sync g (.head _)
 have' e:eval (.ListComp elt (g :: gs') scope pos) env=Jl (.ListComp elt (g :: gs') scope pos) scope env (LM (g :: gs') pos) (Lj []) (JS (g :: gs')) (Jv (g :: gs') env):=rfl
 have ha:JS (g :: gs')=false:=by obtain ⟨t,i,f,n⟩:=g;dsimp only at hz0;subst hz0;rfl
 have hi':Jv (g :: gs') env=eval g.iter env:=by obtain ⟨t,i,f,n⟩:=g;rfl
 rw [e,ha,hi']
 refine jd rfl ck.names ck.kind ck.sync hi hf hfr hcl hbl hc hz ok G F fun D μ1 s1 L P1 rv h1 h2 h3 h4 hn hL hLD PD rD=>?_
 obtain ⟨m,hn⟩:=hn
 refine ⟨m,hn,fun h' sb=>?_⟩
 obtain ⟨P2,r2⟩:=qw P1 rv h1 h2 h3 h4 hL (fun q=>absurd (G.lt _ (G.frs.fa q).1) (E0.mpr hL)) sb
 exact hQ _ _ _ P2 r2
theorem vC {elt:Expr} {gs':List Es} {g:Es} {scope:Scope} {pos:Pos} {ls:List Nat} {items:List AV} {ds:List PyData} (ck:jf (g :: gs') scope) (hi:gK C lv N g.target g.iter ls ρ σ items ρ₁ σ₁)
  (hfr:cF N scope.names) (hcl:gN N ρ₁ scope.names ρ') (hbl:cL scope.names ρ₀) (hc:Cl C {lv with fz:=ls++lv.fz} scope.names elt σ₁ (g :: gs') items ρ' ds) (hz:ds.length<=FG) (hf:autoParam (∀ env x,Fp g.iter env x=pure x) aJ) :
  aH C lv N (.ListComp elt (g :: gs') scope pos) ρ σ (.ref σ₁.length) ρ₁ (σ₁++[.list (ds.map .dat)]):=by
 intro A env μ s Q E ok G F hQ
 have hz0:g.is_async=0:=ck.sync g (.head _)
 have' e:eval (.ListComp elt (g :: gs') scope pos) env=Jl (.ListComp elt (g :: gs') scope pos) scope env (LM (g :: gs') pos) (Lj []) (JS (g :: gs')) (Jv (g :: gs') env):=rfl
 have ha:JS (g :: gs')=false:=by obtain ⟨t,i,f,n⟩:=g;dsimp only at hz0;subst hz0;rfl
 have hi':Jv (g :: gs') env=eval g.iter env:=by obtain ⟨t,i,f,n⟩:=g;rfl
 rw [e,ha,hi']
 refine jd rfl ck.names ck.kind ck.sync hi hf hfr hcl hbl hc hz ok G F fun D μ1 s1 L P1 rv h1 h2 h3 h4 hn hL hLD PD rD=>?_
 obtain ⟨m,hn⟩:=hn
 refine ⟨m,hn,fun h' sb=>?_⟩
 have' h2':L∉(μ1.add D [D]).foot:=fun q=>by
  have:L∈μ1.foot\/L=D:=by simpa [Mu.foot,Mu.add] using q
  exact this.elim h2 hLD
 obtain ⟨P2,r2⟩:=qw PD rD (ED.mpr (.inr h1)) h2' h3 h4 hL (fun q=>absurd (G.lt _ (G.frs.fa q).1) (E0.mpr hL)) sb
 exact hQ _ _ _ P2 r2
theorem dw {t:Expr} {elt:Expr} {gs':List Es} {g:Es} {scope:Scope} {pos spos:Pos} {ls:List Nat} {items:List AV} {ds:List PyData} (ck:jf (g :: gs') scope) (hi:gK C lv N g.target g.iter ls ρ σ items ρ₁ σ₁)
  (hfr:cF N scope.names) (hcl:gN N ρ₁ scope.names ρ') (hbl:cL scope.names ρ₀) (hc:Cl C {lv with fz:=ls++lv.fz} scope.names elt σ₁ (g :: gs') items ρ' ds) (hz:ds.length<=FG) (ht:c8 C lv N t (.dat (.list ds)) ρ₁ σ₁ ρ₂ σ₂)
  (hsw:∀ env,∃ b,Jk [t] (.ListComp elt (g :: gs') scope pos) spos.line env=pure b) (hf:autoParam (∀ env x,Fp g.iter env x=pure x) aJ)
  (he:autoParam (∀ env,(IF [t] env).map (·.2)=[assign t env]) aI) (hw:autoParam (∀ env,Ij [t] (.ListComp elt (g :: gs') scope pos) env=pure none) aI) :
  aq C lv N (.Assign [t] (.ListComp elt (g :: gs') scope pos) spos) ρ σ .nxt ρ₂ σ₂:=by
 intro A env μ s Q E ok G F hQ
 obtain ⟨b,hb⟩:=hsw env
 cases b with
 | false=>
  refine JF ?_ hb (hw env)
  rw [he]
  exact dO ck hi hfr hcl hbl hc hz hf A env μ s _ _ ok G F fun v μ1 s1 P1 r=>ht A env μ1 s1 v _ _ ok P1.good P1.fr r fun μ2 s2 P2=>hQ _ μ2 s2 (P1.trans P2) rfl
 | true=>
  rw [exec_Assign_arm]
  refine EA (FP ?_)
  rw [hb]
  refine EA (EF ?_)
  rw [if_pos rfl]
  have hz0:g.is_async=0:=ck.sync g (.head _);have ha:JS (g :: gs')=false:=by obtain ⟨t,i,f,n⟩:=g;dsimp only at hz0;subst hz0;rfl
  have hi':Jv (g :: gs') env=eval g.iter env:=by obtain ⟨t,i,f,n⟩:=g;rfl
  have e2:evalThenUse (.ListComp elt (g :: gs') scope pos) env (fun v=>assignAll v ((IF [t] env).map (·.2)))=(do
    let _ <- Jl (.ListComp elt (g :: gs') scope pos) scope env (LM (g :: gs') pos) (Lj []) (JS (g :: gs')) (Jv (g :: gs') env) (some fun v=>assignAll v ((IF [t] env).map (·.2)))):=rfl
  rw [e2]
  refine EA ?_
  rw [ha,hi',he]
  refine EA (jd rfl ck.names ck.kind ck.sync hi hf hfr hcl hbl hc hz ok G F fun D μ1 s1 L P1 rv h1 h2 h3 h4 hn hL hLD PD rD=>?_)
  obtain ⟨m,hn⟩:=hn
  show wpAny _ _ (assign t env (.ref D)) _ _ _
  refine ht A env μ1 s1 _ _ _ ok P1.good P1.fr rv fun μ2 s2 P2=>?_
  have' P12:=P1.trans P2;have' l2:¬ WS μ1 N env L:=by
   rintro (⟨i,p,hp,_,hb'⟩ | e | ⟨y,_,hl⟩)
   ·exact h2 (aj (EK hp) hb')
   ·exact h3 e
   ·exact h4 (y,L) (bG hl) rfl
  have hn2:s2.heap.Ns L m:=let ⟨o,es,ep,e,d,r⟩:=hn;let ⟨o',e',d'⟩:=P2.kept.like l2 e;⟨o',es,ep,e',d'.trans d,r⟩
  refine ⟨m,hn2,fun h' sb=>?_⟩
  have' h2':L∉μ2.foot:=fun q=>(P2.ext.foot L q).elim h2 fun z=>absurd (P1.good.lt L h1) (E0.mpr z)
  obtain ⟨P3,_⟩:=qw (a:=.con .none) P12 (rfl:af μ2 s2.heap (.con .none) .none) (P2.ext.sub L h1) h2' h3 h4 hL (fun q=>absurd (G.lt _ (G.frs.fa q).1) (E0.mpr hL)) sb
  exact EF (EF (hQ _ _ _ P3 rfl))
theorem cV {α:Type} {elt:Expr} {g:Es} {xs:List α} {v:α->AV} {p:α->Bool} {f:α->PyData} {r:α->aO} (ha:∀ x∈xs,c8 C lv N g.target (v x) ρ σ (r x) σ) (ht:∀ x∈xs,jO C lv N g.ifs (r x) σ (p x))
  (he:∀ x∈xs,p x=true->aH C lv N elt (r x) σ (.dat (f x)) (r x) σ) (hs:∀ x∈xs,Sub (r x) ρ):Cl C lv N elt σ [g] (xs.map v) ρ ((xs.filter p).map f):=by
 induction xs with
 | nil=>exact .nil
 | cons x xs ih=>
  have ih:=ih (fun y hy=>ha y (.tail _ hy)) (fun y hy=>ht y (.tail _ hy)) (fun y hy=>he y (.tail _ hy)) fun y hy=>hs y (.tail _ hy)
  have ht:=ht x (.head _)
  rw [E6,Eu]
  cases hp:p x with
  | true=>rw [hp] at ht;exact .one (ha x (.head _)) ht (he x (.head _) hp) (hs x (.head _)) ih
  | false=>rw [hp] at ht;exact .skip (ha x (.head _)) ht (hs x (.head _)) ih
theorem cM {α:Type} {elt:Expr} {g:Es} {xs:List α} {v:α->AV} {f:α->PyData} {r:α->aO} (hn:g.ifs=[]) (ha:∀ x∈xs,c8 C lv N g.target (v x) ρ σ (r x) σ)
  (he:∀ x∈xs,aH C lv N elt (r x) σ (.dat (f x)) (r x) σ) (hs:∀ x∈xs,Sub (r x) ρ):Cl C lv N elt σ [g] (xs.map v) ρ (xs.map f):=by
 have:=cV (C:=C) (lv:=lv) (N:=N) (ρ:=ρ) (σ:=σ) (elt:=elt) (g:=g) (v:=v) (p:=fun zz=>true) (f:=f) ha (fun zz zz=>by rw [hn];exact m3) (fun x hx zz=>he x hx) hs
 rwa [GN.mpr fun zz zz=>rfl] at this
end
section
variable {C:Cx} {lv:Lv} {N:aE} {ρ ρ₁ ρ₂ ρ₃ ρ' ρ₀:aO} {σ σ₁ σ₂ σ₃ σ':aC} {o:Out} {A:Around} {env:Env} {μ μ':Mu} {s s':Shared}
section
variable {a b:Int}
theorem zu:Op2 C (Iu .Add) (.int a) (.int b) (.int (a+b)):=fun zz zz zz zz zz zz zz zz zz zz ru rv zz hQ=>by cases ru using RI;cases rv using RI;exact PyProof.Rows.add_int (hQ _ _ _ (ae _) (.int _ _))
theorem AQ:Op2 C (Iu .Sub) (.int a) (.int b) (.int (a - b)):=fun zz zz zz zz zz zz zz zz zz zz ru rv zz hQ=>by cases ru using RI;cases rv using RI;exact PyProof.Rows.sub_int (hQ _ _ _ (ae _) (.int _ _))
theorem AC (hb:b≠0):Op2 C (Iu .Mod) (.int a) (.int b) (.int (a.fmod b)):=fun zz zz zz zz zz zz zz zz zz zz ru rv zz hQ=>by cases ru using RI;cases rv using RI;exact PyProof.Rows.mod_int hb (hQ _ _ _ (ae _) (.int _ _))
theorem A9 (hn:0<=b) (hsz:(En.Int.intBits a:Int) * b<=2 ^ 27):Op2 C (Iu .Pow) (.int a) (.int b) (.int (a ^ b.toNat)):=fun zz zz zz zz zz zz zz zz zz zz ru rv zz hQ=>by cases ru using RI;cases rv using RI;exact pow_int hn hsz (hQ _ _ _ (ae _) (.int _ _))
theorem zU (hb:b≠0) (hp:En.divisionGoesByPylong a b=false):Op2 C (Iu .FloorDiv) (.int a) (.int b) (.int (a.fdiv b)):=fun zz zz zz zz zz zz zz zz zz zz ru rv zz hQ=>by cases ru using RI;cases rv using RI;exact floordiv_int hb (hQ _ _ _ (ae _) (.int _ _)) (.inl hp)
theorem BF:Op2 C (Fc .Lt) (.int a) (.int b) (.bool (decide (a<b))):=fun zz zz zz zz zz zz zz zz zz zz ru rv zz hQ=>by cases ru using RI;cases rv using RI;exact PyProof.Rows.lt_int (hQ _ _ _ (aL.refl _ _ _) (.bool _))
theorem zj:Op2 C (Fc .Gt) (.int a) (.int b) (.bool (decide (b<a))):=fun zz zz zz zz zz zz zz zz zz zz ru rv zz hQ=>by cases ru using RI;cases rv using RI;exact PyProof.Rows.gt_int (hQ _ _ _ (aL.refl _ _ _) (.bool _))
theorem Bm:Op2 C (Fc .LtE) (.int a) (.int b) (.bool (decide (a<=b))):=fun zz zz zz zz zz zz zz zz zz zz ru rv zz hQ=>by cases ru using RI;cases rv using RI;exact PyProof.Rows.le_int (hQ _ _ _ (aL.refl _ _ _) (.bool _))
theorem si:Op2 C (Fc .GtE) (.int a) (.int b) (.bool (decide (b<=a))):=fun zz zz zz zz zz zz zz zz zz zz ru rv zz hQ=>by cases ru using RI;cases rv using RI;exact PyProof.Rows.ge_int (hQ _ _ _ (aL.refl _ _ _) (.bool _))
theorem qz:Op2 C (Fc .Eq) (.int a) (.int b) (.bool (a==b)):=fun zz zz zz zz zz zz zz zz zz zz ru rv zz hQ=>by cases ru using RI;cases rv using RI;exact PyProof.Rows.eq_int (hQ _ _ _ (aL.refl _ _ _) (.bool _))
theorem xQ:Op2 C (Fc .NotEq) (.int a) (.int b) (.bool (a != b)):=fun zz zz zz zz zz zz zz zz zz zz ru rv zz hQ=>by cases ru using RI;cases rv using RI;exact PyProof.Rows.ne_int (hQ _ _ _ (aL.refl _ _ _) (.bool _))
end
section
variable {a b:PyData}
theorem wg (ha:SeqAt.shaped a=true) (hb:SeqAt.shaped b=true):Op2 C (Fc .Eq) a b (.bool (FC a b)):=fun zz zz zz zz zz zz zz zz zz hu ru rv zz hQ=>
 PySem.SeqAt.compareEq_shaped (cP ru) (cP rv) ha hb (by omega) (hQ _ _ _ (aL.refl _ _ _) (.bool _))
theorem ia (ha:SeqAt.shaped a=true) (hb:SeqAt.shaped b=true):Op2 C (Fc .NotEq) a b (.bool (!FC a b)):=fun zz zz zz zz zz zz zz zz zz hu ru rv zz hQ=>
 PySem.SeqAt.compareNe_shaped (cP ru) (cP rv) ha hb (by omega) (hQ _ _ _ (aL.refl _ _ _) (.bool _))
theorem fg {d:PyData} (h:SeqAt.shaped d=true):d.depth<=64:=SeqAt.depth_of_shaped h
theorem re {xs:List PyData} (ha:SeqAt.shaped a=true) (hb:Fq xs=true):Op2 C (Fc .In) a (.list xs) (.bool (xs.any fun y=>FC y a)):=fun zz zz zz zz zz zz zz zz zz hu ru rv zz hQ=>
 SeqAt.in_list_reads (cP rv) (cP ru) hb (SeqAt.canLay_of_shaped ha) (by have:=fg ha;omega) (hQ _ _ _ (aL.refl _ _ _) (.bool _))
theorem fA {xs:List PyData} (ha:SeqAt.shaped a=true) (hb:Fq xs=true):Op2 C (Fc .NotIn) a (.list xs) (.bool (!xs.any fun y=>FC y a)):=fun zz zz zz zz zz zz zz zz zz hu ru rv zz hQ=>
 SeqAt.notIn_list_reads (cP rv) (cP ru) hb (SeqAt.canLay_of_shaped ha) (by have:=fg ha;omega) (hQ _ _ _ (aL.refl _ _ _) (.bool _))
theorem pP {xs:List PyData} (ha:SeqAt.shaped a=true) (hb:Fq xs=true):Op2 C (Fc .In) a (.tuple xs) (.bool (xs.any fun y=>FC y a)):=fun zz zz zz zz zz zz zz zz zz hu ru rv zz hQ=>
 SeqAt.in_tuple_reads (cP rv) (cP ru) hb (SeqAt.canLay_of_shaped ha) (by have:=fg ha;omega) (hQ _ _ _ (aL.refl _ _ _) (.bool _))
end
noncomputable def kX:PyData->Option Value
 | .none=>some .none
 | .bool b=>some (.bool b)
 | _=>none
theorem kK {b:PyData} {v w:Value} {h:Heap} {as:List Addr} (hb:kX b=some v) (rv:Reads h w b as):w=v:=by
 cases b with
 | none=>cases rv using RN;exact GB.inj hb
 | bool c=>cases rv using RB;exact GB.inj hb
 | _=>cases hb
theorem jD {b:PyData} {v:Value} (hb:kX b=some v):v=.none\/∃ c,v=.bool c:=by
 cases b with
 | none=>exact .inl (GB.inj hb).symm
 | bool c=>exact .inr ⟨c,(GB.inj hb).symm⟩
 | _=>cases hb
set_option tactic.hygienic true in
theorem sN {a:PyData} {u v:Value} {h:Heap} {as:List Addr} (hv:v=.none\/∃ c,v=.bool c) (ru:Reads h u a as):PySem.plainIs u v=true/\(u==v)=decide (kX a=some v):=by
 rcases hv with rfl | ⟨c,rfl⟩
 ·cases ru<;>simp [PySem.plainIs,kX]
 ·cases ru<;>simp [PySem.plainIs,kX]
  rename_i b
  revert b c;decide
theorem vb {a b:PyData} {v:Value} (hb:kX b=some v):Op2 C (Fc .Is) a b (.bool (decide (kX a=some v))):=by
 intro A hot u w s as bs Q E hu ru rv hh hQ
 obtain rfl:=kK hb rv
 have hp:=sN (jD hb) ru
 exact IY hp.1 (hQ _ _ [] (aL.refl _ _ _) (by rw [hp.2];exact .bool _))
theorem kt {a b:PyData} {v:Value} (hb:kX b=some v):Op2 C (Fc .IsNot) a b (.bool (!decide (kX a=some v))):=by
 intro A hot u w s as bs Q E hu ru rv hh hQ
 obtain rfl:=kK hb rv
 have hp:=sN (jD hb) ru
 exact Jb hp.1 (hQ _ _ [] (aL.refl _ _ _) (by rw [hp.2];exact .bool _))
theorem pZ {v:Value} {l:Addr} (hv:v=.none\/∃ c,v=.bool c):PySem.plainIs (.ref l) v=true/\(Fg l==v)=false:=by
 rcases hv with rfl | ⟨c,rfl⟩<;>simp [PySem.plainIs]
theorem ua {i:Nat} {b:PyData} {v:Value} (hb:kX b=some v):OpG C lv σ (Fc .Is) (.ref i) (.dat b) (.bool false):=by
 intro A μ u w s Q E _ G ru rv hQ
 obtain ⟨p,hp,rfl⟩:=ru
 obtain ⟨bs,rv⟩:=rv
 obtain rfl:=kK hb rv
 have hp:=pZ (l:=p.1) (jD hb)
 exact IY hp.1 (hQ _ _ [] (aL.refl _ _ _) (by rw [hp.2];exact .bool _))
theorem oU {i:Nat} {b:PyData} {v:Value} (hb:kX b=some v):OpG C lv σ (Fc .IsNot) (.ref i) (.dat b) (.bool true):=by
 intro A μ u w s Q E _ G ru rv hQ
 obtain ⟨p,hp,rfl⟩:=ru
 obtain ⟨bs,rv⟩:=rv
 obtain rfl:=kK hb rv
 have hp:=pZ (l:=p.1) (jD hb)
 exact Jb hp.1 (hQ _ _ [] (aL.refl _ _ _) (by rw [hp.2];exact .bool _))
theorem dT {b:Bool}:Tru C (.bool b) b:=fun zz zz zz zz zz zz zz r h=>by cases r using RB;exact HK (h _ (aL.refl _ _ _))
theorem ki:Tru C .none false:=fun zz zz zz zz zz zz zz r h=>by cases r using RN;exact truthy_none (h _ (aL.refl _ _ _))
theorem zJ {i:Int}:Tru C (.int i) (i != 0):=fun zz zz zz zz zz zz zz r h=>by cases r using RI;exact PyProof.Rows.truthy_int (h _ (aL.refl _ _ _))
theorem iq {x:Str} (hz:(x.length:Int)<2 ^ 63):Tru C (.str x) ((x.length:Int) != 0):=fun zz zz zz zz zz zz zz r h=>by cases r using RS;exact PySem.P.truthy_str (by omega) (h _ (ae _))
theorem fK {ds:List PyData} (hz:(ds.length:Int)<2 ^ 63):Tru C (.list ds) (!ds.isEmpty):=fun zz zz zz zz zz zz zz r h=>by
 cases r using RL with
 | @list a o vs n as ho hc hd hr=>
  have hlen:vs.size=ds.length:=a9 hr;have' he:vs.isEmpty=ds.isEmpty:=by
   rw [Array.isEmpty,hlen];cases ds<;>simp
  exact Jc ⟨o,Ex _ ho,hc,n,hd⟩ (by rw [hlen];exact hz) (by rw [he];exact h _ (ae _))
noncomputable def kf (as:List AV) (ds:List PyData):Prop:=as=ds.map .dat
theorem kf.nil:kf [] []:=rfl
theorem kf.cons {d:PyData} {as:List AV} {ds:List PyData} (h:kf as ds):kf (.dat d :: as) (d :: ds):=congrArg (AV.dat d :: ·) h
theorem kf.eq {as:List AV} {ds:List PyData} (h:kf as ds):as=ds.map .dat:=h
theorem ti {es:List Expr} {as:List AV} {ds:List PyData} {n:Nat} {pos:Pos} (h:jI C lv N es ρ σ as ρ₁ σ₁) (hd:kf as ds) (hsz:autoParam (ds.length<=FG) aD):aH C lv N (.Tuple es n pos) ρ σ (.dat (.tuple ds)) ρ₁ σ₁:=fun A env μ s Q E ok G F hQ=>
 wpAny_Tuple ((hd.eq▸h) A env μ s pos _ _ ok G F fun vs μ1 s1 P1 r=>⟨by rw [bN r,EC];exact hsz,by
  obtain ⟨bs,r⟩:=fL r;have P2:=aS.grow P1.good P1.fr (bB {cls:=.type "tuple",data:=.seq vs.toArray} s1.toks);exact hQ _ μ1 _ (P1.trans P2) ⟨_,.tuple (F9 _ (EP _ rfl) fun hm=>E2 _ (P1.good.lt _ hm)) rfl rfl (PyProof.Rows.ReadsAll.keeps (cS (bB _ s1.toks)) (by simpa using r))⟩⟩)
theorem fZ {es:List Expr} {as:List AV} {ds:List PyData} {pos:Pos} (h:jI C lv N es ρ σ as ρ₁ σ₁) (hd:kf as ds) (hsz:autoParam (ds.length<=FG) aD):aH C lv N (.List es pos) ρ σ (.dat (.list ds)) ρ₁ σ₁:=fun A env μ s Q E ok G F hQ=>
 wpAny_List ((hd.eq▸h) A env μ s pos _ _ ok G F fun vs μ1 s1 P1 r=>⟨by rw [bN r,EC];exact hsz,by
  obtain ⟨bs,r⟩:=fL r;have P2:=aS.grow P1.good P1.fr (bB {cls:=.type "list",data:=.seq vs.toArray} s1.toks);exact hQ _ μ1 _ (P1.trans P2) ⟨_,.list (F9 _ (EP _ rfl) fun hm=>E2 _ (P1.good.lt _ hm)) rfl rfl (PyProof.Rows.ReadsAll.keeps (cS (bB _ s1.toks)) (by simpa using r))⟩⟩)
theorem cI {es:List Expr} {as:List AV} {pos:Pos} (h:jI C lv N es ρ σ as ρ₁ σ₁) (hsz:autoParam (as.length<=FG) aD):aH C lv N (.List es pos) ρ σ (.ref σ₁.length) ρ₁ (σ₁++[.list as]):=fun A env μ s Q E ok G F hQ=>
 wpAny_List (h A env μ s pos _ _ ok G F fun vs μ1 s1 P1 r=>⟨by rw [bN r];exact hsz,by
  have k:aL A0 NoW s1 {s1 with heap:=s1.heap.push {cls:=.type "list",data:=.seq vs.toArray}}:=bB _ s1.toks;have' hl:(s1.heap.push ({cls:=.type "list",data:=.seq vs.toArray}:Obj)).objs.size=s1.heap.objs.size+1:=ER ..;have P2:=aS.alloc (a:=s1.heap.objs.size) (fp:=[s1.heap.objs.size]) (o:=.list as) P1.good P1.fr k (fun b hb=>by rw [EG.mp hb];exact ⟨EH _,by show _<(HV _ _).objs.size;rw [hl];exact E3 _⟩) (.head _)
   ⟨rfl,vs.toArray,⟨_,EP _ rfl⟩,aw.mono (s':={s1 with heap:=s1.heap.push {cls:=.type "list",data:=.seq vs.toArray}}) (⟨⟨_,rfl,fun p hp b hb=>by rw [EG.mp hp] at hb;rw [EG.mp hb];exact EH _⟩,fun zz h=>ED.mpr (.inr h),fun b h=>by
    rcases ED.mp h with q | q
    ·rw [EG.mp q];exact .inr (EH _)
    ·exact .inl q⟩:Ext μ1 (μ1.add s1.heap.objs.size [s1.heap.objs.size]) s1.heap.objs.size) k noW (by simpa using r)⟩
  refine hQ _ _ _ (P1.trans P2) ⟨(s1.heap.objs.size,[s1.heap.objs.size]),?_,rfl⟩
  show (μ1.objs++[_])[σ₁.length]? = _
  rw [<- P1.good.sim.len,EV]⟩)
theorem yE {value slice:Expr} {pos:Pos} {ds:List PyData} {i:Int} {d:PyData} (hv:aH C lv N value ρ σ (.dat (.list ds)) ρ₁ σ₁) (hi:aH C lv N slice ρ₁ σ₁ (.dat (.int i)) ρ₂ σ₂) (h0:0<=i) (hfit:i<2 ^ 63) (hd:ds[i.toNat]? = some d)
  (hs:autoParam (∀ o i,Jd slice false o i=LN [o,i] (Kf o i)) aW):aH C lv N (.Subscript value slice pos) ρ σ (.dat d) ρ₂ σ₂:=by
 intro A env μ s Q E ok G F hQ
 refine KE (hv A env μ s _ _ ok G F fun v μ1 s1 P1 r=>hi A env μ1 s1 _ _ ok P1.good P1.fr fun iv μ2 s2 P2 qq1=>?_)
 obtain ⟨bs,ri⟩:=qq1
 obtain ⟨as,r⟩:=P2.val P1.good P1.fr r
 cases ri using RI with
 | int t=>cases r using RL with
  | @list a o vs n as ho hc hdd hr=>
   have hl:s2.heap.IsList a vs:=⟨o,Ex _ ho,hc,n,hdd⟩;have hlen:=a9 hr;have hlt:i.toNat<ds.length:=(EI.mp hd).1;have' hx:vs[i.toNat]? = some (vs.toList[i.toNat]'(by omega)):=by simp
   obtain ⟨cs,rv⟩:=bg hr i.toNat (vs.toList[i.toNat]'(by omega)) d (by simp) hd
   exact LP hl.typeIs Je.lookup (wpAny_getItem_list hl h0 hfit hx (hQ _ μ2 s2 (P1.trans P2) ⟨cs,rv⟩)) (hs _ _)
theorem uD {value slice:Expr} {pos:Pos} {ds:List PyData} {i:Int} {d:PyData} (hv:aH C lv N value ρ σ (.dat (.tuple ds)) ρ₁ σ₁) (hi:aH C lv N slice ρ₁ σ₁ (.dat (.int i)) ρ₂ σ₂) (h0:0<=i) (hfit:i<2 ^ 63) (hd:ds[i.toNat]? = some d)
  (hs:autoParam (∀ o i,Jd slice false o i=LN [o,i] (Kf o i)) aW):aH C lv N (.Subscript value slice pos) ρ σ (.dat d) ρ₂ σ₂:=by
 intro A env μ s Q E ok G F hQ
 refine KE (hv A env μ s _ _ ok G F fun v μ1 s1 P1 r=>hi A env μ1 s1 _ _ ok P1.good P1.fr fun iv μ2 s2 P2 qq1=>?_)
 obtain ⟨bs,ri⟩:=qq1
 obtain ⟨as,r⟩:=P2.val P1.good P1.fr r
 cases ri using RI with
 | int t=>cases r using RT with
  | @tuple a o vs n as ho hc hdd hr=>
   have hlen:=a9 hr;have hlt:i.toNat<ds.length:=(EI.mp hd).1;have hx:vs[i.toNat]? = some (vs.toList[i.toNat]'(by omega)):=by simp
   obtain ⟨cs,rv⟩:=bg hr i.toNat (vs.toList[i.toNat]'(by omega)) d (by simp) hd
   have ht:IsTup s2.heap a vs:=⟨o,Ex _ ho,hc,n,hdd⟩;have hj:seqIndex? i vs.size=some i.toNat:=by
    have e:vs.size=ds.length:=by simpa using hlen
    have l1:¬ i<0:=by omega
    have l2:(decide (0<=i) && decide (i<(vs.size:Int)))=true:=by simp;omega
    simp only [seqIndex?,if_neg l1,l2,if_true]
   exact LP ht.typeIs slot_tuple_getitem.lookup (getItem_tuple ht (by omega) hfit hj hx (hQ _ μ2 s2 (P1.trans P2) ⟨cs,rv⟩)) (hs _ _)
end
section
variable {C:Cx} {lv:Lv} {N:aE} {ρ ρ₁ ρ₂ ρ₃ ρ' ρ₀:aO} {σ σ₁ σ₂ σ₃ σ':aC} {o:Out} {A:Around} {env:Env} {μ μ':Mu} {s s':Shared}
noncomputable def fO (C:Cx) (lv:Lv) (σ:aC) (f:Value) (as:List AV) (d:PyData):Prop:=
 ∀ (A:Around) (μ:Mu) (s:Shared) (vs:List Value) (Q:Value->Shared->Prop) (E:Value->Shared->Prop),C.Ok->aT C lv A μ σ s->aw μ s.heap as vs->
  (∀ x s' cs,aL A0 NoW s s'->Reads (cK μ.hid s'.heap) x d cs->Q x s')->wpAny (model C.prog C.w) A (call f vs) Q E s
theorem be {es:List Expr} {pos:Pos} (h:es.all bx=true):(backTo pos (Fv es env)).any (·.1)=false:=by
 induction es with
 | nil=>rfl
 | cons e es ih=>
  rw [GG,E7] at h
  rw [a7 h.1]
  show (false || _)=false
  rw [Ik];exact ih h.2
theorem cq {x:Str} {np pos:Pos} {e:Expr} {es:List Expr} {id:String} {as:List AV} {d:PyData} (hf:aH C lv N (.Name x np) ρ σ (.con (.builtin id)) ρ₁ σ₁) (ha:jI C lv N (e :: es) ρ₁ σ₁ as ρ₂ σ₂) (hc:fO C lv σ₂ (.builtin id) as d)
  (hn:autoParam ((e :: es).all bx=true) aR):aH C lv N (.Call (.Name x np) (e :: es) [] pos) ρ σ (.dat d) ρ₂ σ₂:=by
 intro A env μ s Q E ok G F hQ
 rw [GG,E7] at hn
 refine GI (hf A env μ s _ _ ok G F fun v μ1 s1 P1 hv=>?_)
 obtain rfl:=hv
 refine PyProof.Rows.callWith_builtin1 (ha A env μ1 s1 pos _ _ ok P1.good P1.fr fun vs μ2 s2 P2 r=>?_) (a7 hn.1) (be hn.2)
 exact hc A μ2 s2 vs _ _ ok P2.good r fun x s3 cs k rx=>hQ x μ2 s3 (P1.trans (P2.trans (aS.grow P2.good P2.fr k))) ⟨cs,rx⟩
theorem AN {ds:List PyData} (hz:(ds.length:Int)<2 ^ 63):fO C lv σ (.builtin "len") [.dat (.list ds)] (.int ds.length):=fun A μ s vs Q E ok G r hQ=>by
 obtain ⟨v,rfl,⟨as,r⟩⟩:=r.e1
 cases r using RL with
 | @list a o vs n as ho hc hd hr=>
  have hlen:vs.size=ds.length:=a9 hr;exact PyProof.Rows.len_list ⟨o,Ex _ ho,hc,n,hd⟩ (by rw [hlen];exact hz) (hQ _ _ [] (ae _) (by rw [hlen];exact .int _ _))
theorem yW {ds:List PyData} (hz:(ds.length:Int)<2 ^ 63):fO C lv σ (.builtin "len") [.dat (.tuple ds)] (.int ds.length):=fun A μ s vs Q E ok G r hQ=>by
 obtain ⟨v,rfl,⟨as,r⟩⟩:=r.e1
 cases r using RT with
 | @tuple a o vs n as ho hc hd hr=>
  have hlen:vs.size=ds.length:=a9 hr;exact PyProof.Rows.len_tuple ⟨o,Ex _ ho,hc,n,hd⟩ (by rw [hlen];exact hz) (hQ _ _ [] (ae _) (by rw [hlen];exact .int _ _))
theorem mx {i:Nat} {xs:List AV} (hx:σ[i]? = some (.list xs)) (hz:(xs.length:Int)<2 ^ 63):fO C lv σ (.builtin "len") [.ref i] (.int xs.length):=fun A μ s vs Q E ok G r hQ=>by
 obtain ⟨v,rfl,⟨p,hp,e⟩⟩:=r.e1
 subst e
 obtain ⟨e1,vs,hpl,hr⟩:=G.sim.rep i p _ hp hx
 have hlen:vs.size=xs.length:=bN hr
 exact PyProof.Rows.len_list hpl.isList (by rw [hlen];exact hz) (hQ _ _ [] (ae _) (by rw [hlen];exact .int _ _))
theorem AB {a b:Int} (hq:lv.q=true):fO C lv σ (.builtin "min") [.dat (.int a),.dat (.int b)] (.int (if b<a then b else a)):=fun A μ s vs Q E ok G r hQ=>by
 obtain ⟨u,v,rfl,⟨as,r⟩,⟨bs,r'⟩⟩:=r.e2
 cases r using RI;cases r' using RI
 refine ao (min_two_ints (G.quiet hq) fun h' tk hk hsz=>hQ _ _ [] (ab hsz hk) ?_)
 split<;>exact .int _ _
theorem AK {a:Int}:fO C lv σ (.builtin "abs") [.dat (.int a)] (.int (if a<0 then -a else a)):=fun A μ s vs Q E ok G r hQ=>by
 obtain ⟨u,rfl,⟨as,r⟩⟩:=r.e1
 cases r using RI
 exact call_abs_int fun u tk=>hQ _ _ [] (ae _) (.int _ _)
theorem nF {h:Heap} {vs ws:List Value} {ds es:List PyData} {as bs:List Addr} (q:FW h vs ds as) (r:FW h ws es bs):∃ cs,FW h (vs++ws) (ds++es) cs:=by
 induction ds generalizing vs as with
 | nil=>cases q using RA0;exact ⟨_,r⟩
 | cons d ds ih=>cases q using RA1 with
  | cons r' t=>exact let ⟨_,z⟩:=ih t;⟨_,.cons r' z⟩
theorem k8 {xs ys:List PyData} (hz:xs.length+ys.length<=FG):Op2 C (Iu .Add) (.list xs) (.list ys) (.list (xs++ys)):=fun A hot u v s as bs Q E hu ru rv hh hQ=>by
 cases ru using RL with
 | @list l o vs n as ho hc hd hr=>cases rv using RL with
  | @list b o2 ws n2 bs ho2 hc2 hd2 hr2=>
   have' e1:vs.size=xs.length:=a9 hr;have' e2:ws.size=ys.length:=a9 hr2;obtain ⟨cls,dd,data,sl⟩:=o;obtain ⟨cls2,dd2,data2,sl2⟩:=o2
   simp only at hc hd hc2 hd2
   subst hc hd hc2 hd2;have h1:=Ex _ ho;have h2:=Ex _ ho2;refine concat_meets ⟨_,h1,rfl⟩ ⟨_,h2,rfl⟩ noFill_list_add seq_list_add PySem.F.slot_list_add PySem.F.entry_list_add (PySem.F.args_list_add_2 _ _) (list_addW l b vs ws n n2 dd dd2 sl sl2 (by rw [e1,e2];exact hz)) ⟨h1,h2,?_⟩
   have k:aL A0 NoW s {s with heap:=s.heap.push {cls:=.type "list",data:=.seq (vs++ws)}}:=bB _ s.toks;obtain ⟨cs,z⟩:=nF (PyProof.Rows.ReadsAll.keeps (cS k) hr) (PyProof.Rows.ReadsAll.keeps (cS k) hr2);exact hQ _ _ _ k (.list (F9 _ (EP _ rfl) fun hm=>E2 _ (hh _ hm)) rfl rfl (by rw [Hz];exact z))
noncomputable def pI:Option Nat->Option Int
 | none=>none
 | some k=>some (k:Int)
noncomputable def lV (C:Cx) (lv:Lv) (N:aE) (e:Option Expr) (ρ:aO) (σ:aC) (i:Option Nat) (ρ':aO) (σ':aC):Prop:=
 (e=none/\i=none/\ρ'=ρ/\σ'=σ)\/∃ x,e=some x/\∃ j,i=some j/\aH C lv N x ρ σ (.dat (.int (j:Nat))) ρ' σ'
theorem vE:lV C lv N none ρ σ none ρ σ:=.inl ⟨rfl,rfl,rfl,rfl⟩
theorem vJ {e:Expr} {i:Int} {k:Nat} (h:aH C lv N e ρ σ (.dat (.int i)) ρ₁ σ₁) (hk:i=(k:Int)):lV C lv N (some e) ρ σ (some k) ρ₁ σ₁:=.inr ⟨_,rfl,_,rfl,hk▸h⟩
theorem pG {e:Option Expr} {i:Option Nat} {Q:Value->Shared->Prop} {E:Value->Shared->Prop} (h:lV C lv N e ρ σ i ρ₁ σ₁) (ok:C.Ok) (G:aT C lv A μ σ s) (F:aM A N env μ ρ s.heap)
  (hQ:∀ v μ' s',aS C lv A N env μ s ρ₁ σ₁ μ' s'->IsPart v (pI i)->Q v s'):wpAny (model C.prog C.w) A (evalPart e env) Q E s:=by
 rcases h with h | h
 ·obtain ⟨rfl,rfl,rfl,rfl⟩:=h
  rw [evalPart_none]
  exact EF (hQ _ μ s (aS.refl G F) .none)
 ·obtain ⟨_,rfl,_,rfl,h⟩:=h
  rw [evalPart_some]
  refine h A env μ s _ _ ok G F fun v μ1 s1 P1 qq1=>?_
  obtain ⟨_,r⟩:=qq1
  cases r using RI
  exact hQ _ μ1 s1 P1 (.int _ _)
noncomputable def df (ds:List PyData) (lo hi:Option Nat):List PyData:=match hi with
 | none=>ds.drop (lo.getD 0)
 | some b=>(ds.take b).drop (lo.getD 0)
set_option tactic.hygienic true in
theorem nh (vs:Array Value) (lo hi:Option Nat):(L6 vs (pI lo) (pI hi) none).toList=match hi with
  | none=>vs.toList.drop (lo.getD 0)
  | some b=>(vs.toList.take b).drop (lo.getD 0):=by
 rw [slicePick_plain]
 cases lo<;>cases hi<;>simp only [pI,Option.elim,Option.getD,clipAt_nat,List.drop_zero,Nat.sub_zero]
 ·rw [Fs (by simp)]
 ·rename_i b
  rcases IV b vs.size with h | h
  ·rw [Hb h]
  ·rw [Hw h,Fs (by simp),Fs (by simpa using h)]
 ·rename_i a
  rcases IV a vs.size with h | h
  ·rw [Hb h,Fs (by simp)]
  ·rw [Hw h,Fk (by simp),Fk (by simpa using h)];simp
 ·rename_i a b
  rw [List.drop_take]
  rcases IV a vs.size with h | h
  ·rw [Hb h]
   rcases IV b vs.size with h' | h'
   ·rw [Hb h']
   ·rw [Hw h',Fs (by simp),Fs (by simp;omega)]
  ·rw [Hw h,Fk (by simp),Fk (by simpa using h)];simp
theorem iK {h:Heap} (k:Nat) {vs:List Value} {ds:List PyData} {as:List Addr} (q:FW h vs ds as):∃ cs,FW h (vs.drop k) (ds.drop k) cs:=by
 induction k generalizing vs ds as with
 | zero=>exact ⟨_,q⟩
 | succ k ih=>cases ds with
  | nil=>cases q using RA0;exact ⟨_,.nil⟩
  | cons d ds=>cases q using RA1 with
   | cons r t=>exact ih t
theorem lq {h:Heap} (k:Nat) {vs:List Value} {ds:List PyData} {as:List Addr} (q:FW h vs ds as):∃ cs,FW h (vs.take k) (ds.take k) cs:=by
 induction k generalizing vs ds as with
 | zero=>exact ⟨_,by simp;exact .nil⟩
 | succ k ih=>cases ds with
  | nil=>cases q using RA0;exact ⟨_,.nil⟩
  | cons d ds=>cases q using RA1 with
   | cons r t=>exact let ⟨_,z⟩:=ih t;⟨_,.cons r z⟩
theorem jc {value:Expr} {lower upper:Option Expr} {p pos:Pos} {ds:List PyData} {lo hi:Option Nat} (hv:aH C lv N value ρ σ (.dat (.list ds)) ρ₁ σ₁) (hl:lV C lv N lower ρ₁ σ₁ lo ρ₂ σ₂) (hu:lV C lv N upper ρ₂ σ₂ hi ρ₃ σ₃) (hz:ds.length<=FG)
  (ht:autoParam (∀ o r,HY value o r=pure ()) aJ):aH C lv N (.Subscript value (.Slice lower upper none p) pos) ρ σ (.dat (.list (df ds lo hi))) ρ₃ σ₃:=by
 intro A env μ s Q E ok G F hQ
 refine wpAny_Subscript_list_slice (hv A env μ s _ _ ok G F fun v μ1 s1 P1 r=>pG hl ok P1.good P1.fr fun vl μ2 s2 P2 h2=>pG hu ok P2.good P2.fr fun vu μ3 s3 P3 h3=>?_) ht
 obtain ⟨as,r⟩:=P3.val P2.good P2.fr (P2.val P1.good P1.fr r)
 cases r using RL with
 | @list a o vs n as ho hc hd hr=>
  have' hlen:vs.size=ds.length:=a9 hr;refine ⟨a,vs,_,_,rfl,⟨o,Ex _ ho,hc,n,hd⟩,by rw [hlen];exact hz,h2,h3,?_⟩
  have k:aL A0 NoW s3 {s3 with heap:=(s3.heap.push {cls:=.type "slice",data:=.fields #[vl,vu,.none]}).push {cls:=.type "list",data:=.seq (L6 vs (pI lo) (pI hi) none)}}:=
   ab (by simp only [ER];exact Fi (Eg _)) fun zz zz e=>EJ _ (EJ _ e)
  have hr':=PyProof.Rows.ReadsAll.keeps (cS (hot:=μ3.hid) k) hr;have z:∃ cs,FW (cK μ3.hid ((s3.heap.push {cls:=.type "slice",data:=.fields #[vl,vu,.none]}).push {cls:=.type "list",data:=.seq (L6 vs (pI lo) (pI hi) none)})) (L6 vs (pI lo) (pI hi) none).toList (df ds lo hi) cs:=by
   rw [nh]
   unfold df
   cases hi with
   | none=>exact iK _ hr'
   | some b=>exact let ⟨_,q⟩:=lq b hr';iK _ q
  obtain ⟨cs,z⟩:=z;refine hQ _ _ _ (P1.trans (P2.trans (P3.trans (aS.grow P3.good P3.fr k)))) ⟨_,.list (F9 _ (by rw [<- ER];exact EP _ rfl) fun hm=>?_) rfl rfl z⟩
  exact absurd (P3.good.lt _ hm) (E0.mpr (Eg _))
theorem aF {st:Stmt} (h:aq C lv N st ρ σ o ρ₁ σ₁):ay C lv N [st] ρ σ o ρ₁ σ₁:=by
 by_cases ho:o=.nxt
 ·subst ho;exact aA h aG
 ·exact cA h ho
theorem jt {st:Stmt} {r:List Stmt} {rv:AV} {okk:Bool} (h:aq C lv N st ρ σ (if okk then .nxt else .ret rv) ρ₁ σ₁) (hr:okk=true->ay C lv N r ρ₁ σ₁ o ρ₁ σ₁) (ho:okk=false->o=.ret rv):ay C lv N (st :: r) ρ σ o ρ₁ σ₁:=by
 cases okk with
 | true=>exact aA h (hr rfl)
 | false=>rw [ho rfl];exact cA h (by intro q;cases q)
theorem gE {t e:Expr} {p pos:Pos} {r:List Stmt} {c:Bool} {rv:AV} (ht:aY C lv N t ρ σ c ρ σ) (he:c=true->aH C lv N e ρ σ rv ρ σ) (ho:c=true->o=.ret rv) (hr:c=false->ay C lv N r ρ σ o ρ σ) :
  ay C lv N (.If t [.Return (some e) p] [] pos :: r) ρ σ o ρ σ:=by
 cases c with
 | true=>rw [ho rfl];exact a8 (bL ht (a8 (aX (he rfl))))
 | false=>exact aA (aN ht aG) (hr rfl)
theorem em {α:Type} {t:Expr} {body:List Stmt} {xs:List α} {v:α->AV} {r:α->aO} {okk:α->Bool} {rv:AV} (ha:∀ x∈xs,c8 C lv N t (v x) ρ σ (r x) σ)
  (hb:∀ x∈xs,ay C lv N body (r x) σ (if okk x then .nxt else .ret rv) ρ σ):fQ C lv N t body [] (xs.map v) ρ σ (if xs.all okk then .nxt else .ret rv) ρ σ:=by
 induction xs with
 | nil=>exact .done aG
 | cons x xs ih=>
  have' ih:=ih (fun y hy=>ha y (.tail _ hy)) fun y hy=>hb y (.tail _ hy)
  have hb:=hb x (.head _)
  rw [E6,GG]
  cases hx:okk x with
  | true=>rw [hx] at hb;exact .turn (ha x (.head _)) hb (.inl rfl) Sub.refl ih
  | false=>rw [hx] at hb;exact .ret (ha x (.head _)) hb
theorem cU {α:Type} {t:Expr} {body:List Stmt} {xs:List α} {v:α->AV} {r:α->aO} {S:List α->aC} (ha:∀ pre x post,xs=pre++x :: post->c8 C lv N t (v x) ρ (S pre) (r x) (S pre))
  (hb:∀ pre x post,xs=pre++x :: post->ay C lv N body (r x) (S pre) .nxt ρ (S (pre++[x]))):fQ C lv N t body [] (xs.map v) ρ (S []) .nxt ρ (S xs):=by
 suffices h:∀ pre post,xs=pre++post->fQ C lv N t body [] (post.map v) ρ (S pre) .nxt ρ (S xs) from h [] xs rfl
 intro pre post
 induction post generalizing pre with
 | nil=>intro e;rw [FF] at e;rw [e];exact .done aG
 | cons x post ih=>
  intro e;exact .turn (ha pre x post e) (hb pre x post e) (.inl rfl) Sub.refl (ih (pre++[x]) (by rw [e,FH];rfl))
end
section
variable {C:Cx} {lv:Lv} {N:aE} {ρ ρ₁ ρ₂ ρ₃ ρ' ρ₀:aO} {σ σ₁ σ₂ σ₃ σ':aC} {o:Out} {A:Around} {env:Env} {μ μ':Mu} {s s':Shared} {a b:AV}
noncomputable def dS (C:Cx) (lv:Lv) (σ:aC) (f:Value) (as:List AV) (a:AV) (σ':aC):Prop:=
 ∀ (N:aE) (ρ:aO) (A:Around) (env:Env) (μ:Mu) (s:Shared) (vs:List Value) (Q:Value->Shared->Prop) (E:Value->Shared->Prop),C.Ok->aT C lv A μ σ s->aM A N env μ ρ s.heap->aw μ s.heap as vs->
  (∀ v μ' s',aS C lv A N env μ s ρ σ' μ' s'->af μ' s'.heap a v->Q v s')->wpAny (model C.prog C.w) A (call f vs) Q E s
theorem tU {x:Str} {np pos:Pos} {e:Expr} {es:List Expr} {id:String} {as:List AV} (hf:aH C lv N (.Name x np) ρ σ (.con (.builtin id)) ρ₁ σ₁) (ha:jI C lv N (e :: es) ρ₁ σ₁ as ρ₂ σ₂) (hc:dS C lv σ₂ (.builtin id) as a σ₃)
  (hn:autoParam ((e :: es).all bx=true) aR):aH C lv N (.Call (.Name x np) (e :: es) [] pos) ρ σ a ρ₂ σ₃:=by
 intro A env μ s Q E ok G F hQ
 rw [GG,E7] at hn
 refine GI (hf A env μ s _ _ ok G F fun v μ1 s1 P1 hv=>?_)
 obtain rfl:=hv
 refine PyProof.Rows.callWith_builtin1 (ha A env μ1 s1 pos _ _ ok P1.good P1.fr fun vs μ2 s2 P2 r=>?_) (a7 hn.1) (be hn.2)
 exact hc N ρ₂ A env μ2 s2 vs _ _ ok P2.good P2.fr r fun x μ3 s3 P3 rx=>hQ x μ3 s3 (P1.trans (P2.trans P3)) rx
theorem cj {x:Str} {np pos:Pos} {e:Expr} {es:List Expr} {id:String} {as:List AV} (hf:aH C lv N (.Name x np) ρ σ (.con (.type id)) ρ₁ σ₁) (ha:jI C lv N (e :: es) ρ₁ σ₁ as ρ₂ σ₂) (hc:dS C lv σ₂ (.type id) as a σ₃)
  (hn:autoParam ((e :: es).all bx=true) aR):aH C lv N (.Call (.Name x np) (e :: es) [] pos) ρ σ a ρ₂ σ₃:=by
 intro A env μ s Q E ok G F hQ
 have' hn0:=hn
 rw [GG,E7] at hn
 refine GI (hf A env μ s _ _ ok G F fun v μ1 s1 P1 hv=>?_)
 obtain rfl:=hv
 refine PySem.callWith_type (be hn0) ?_
 have h:=ha A env μ1 s1 pos (fun vs s₁=>wpAny (model C.prog C.w) A (call (.type id) vs) Q E s₁) E ok P1.good P1.fr fun vs μ2 s2 P2 r=>
  hc N ρ₂ A env μ2 s2 vs _ _ ok P2.good P2.fr r fun x μ3 s3 P3 rx=>hQ x μ3 s3 (P1.trans (P2.trans P3)) rx
 rw [a7 hn.1] at h ⊢
 exact FO h
noncomputable def ml (C:Cx) (σ:aC) (a:AV) (T:String):Prop:=∀ μ (s:Shared) v,Sim C μ σ s.heap->af μ s.heap a v->s.TypeIs v T/\∀ b,v=.ref b->∃ ob,s.heap.get? b=some ob/\ob.dict=none
theorem dI {i:Nat} {xs:List AV} (hx:σ[i]? = some (.list xs)):ml C σ (.ref i) "list" := by
 rintro μ s v S ⟨p,hp,rfl⟩
 obtain ⟨e1,vs,hpl,hr⟩:=S.rep i p _ hp hx
 exact ⟨hpl.isList.typeIs,fun b hb=>by cases hb;obtain ⟨n,ho⟩:=hpl;exact ⟨_,ho,rfl⟩⟩
theorem jU {ob:Expr} {name:Str} {apos pos:Pos} {T id:String} (ho:aH C lv N ob ρ σ a ρ₁ σ₁) (ty:ml C σ₁ a T) (pa:PlainAttrs T) (sl:Slot T name id)
  (hty:typeOf (.builtin id)=pure (.type "method_descriptor")) (hc:dS C lv σ₁ (.builtin id) [a] b σ₃) (hbase:autoParam (∀ env,HO ob name env (eval ob env)=eval ob env) aI)
  (hline:autoParam ((apos.endLine==pos.line)=true) aR):aH C lv N (.Call (.Attribute ob name apos) [] [] pos) ρ σ b ρ₁ σ₃:=by
 intro A env μ s Q E ok G F hQ
 refine IM (hbase env) hline (ho A env μ s _ _ ok G F fun v μ1 s1 P1 hv=>⟨T,id,pa,sl,hty,(ty μ1 s1 v P1.good.sim hv).1,(ty μ1 s1 v P1.good.sim hv).2,?_⟩)
 exact Fu rfl (PySem.evalArgs_none (hc N ρ₁ A env μ1 s1 [v] _ _ ok P1.good P1.fr ⟨hv,trivial⟩ fun x μ3 s3 P3 rx=>hQ x μ3 s3 (P1.trans P3) rx))
theorem eY {ob e:Expr} {es:List Expr} {name:Str} {apos pos:Pos} {T id:String} {as:List AV} (ho:aH C lv N ob ρ σ a ρ₁ σ₁) (ha:jI C lv N (e :: es) ρ₁ σ₁ as ρ₂ σ₂) (ty:ml C σ₁ a T) (pa:PlainAttrs T) (sl:Slot T name id)
  (hty:typeOf (.builtin id)=pure (.type "method_descriptor")) (hc:dS C lv σ₂ (.builtin id) (a :: as) b σ₃) (hbase:autoParam (∀ env,HO ob name env (eval ob env)=eval ob env) aI)
  (hfew:autoParam (∀ env,((backTo pos (Fv (e :: es) env)).all (fun x=>!x.1) && (HB pos (GE [] env)).all (fun x=>x.1.isSome)
   && decide ((e :: es).length+([]:List IE).length+(if ([]:List IE).isEmpty then 0 else 1)<30))=true) aI)
  (hline:autoParam ((apos.endLine==pos.line)=true) aR) (hn:autoParam ((e :: es).all bx=true) aR):aH C lv N (.Call (.Attribute ob name apos) (e :: es) [] pos) ρ σ b ρ₂ σ₃:=by
 intro A env μ s Q E ok G F hQ
 refine H9 (hbase env) (hfew env) hline rfl (ho A env μ s _ _ ok G F fun v μ1 s1 P1 hv=>⟨T,id,pa,sl,hty,(ty μ1 s1 v P1.good.sim hv).1,(ty μ1 s1 v P1.good.sim hv).2,?_⟩)
 have h:=ha A env μ1 s1 pos (fun vs s₁=>wpAny (model C.prog C.w) A (call (.builtin id) (v :: vs)) Q E s₁) E ok P1.good P1.fr fun vs μ2 s2 P2 r=>
  hc N ρ₂ A env μ2 s2 (v :: vs) _ _ ok P2.good P2.fr ⟨P2.val P1.good P1.fr hv,r⟩ fun x μ3 s3 P3 rx=>hQ x μ3 s3 (P1.trans (P2.trans P3)) rx
 refine Fu (be hn) ?_
 rw [GG,E7] at hn
 rw [a7 hn.1] at h ⊢
 exact FO h
theorem g9 {l:Addr} {fp:List Addr} {h':Heap} (hl:l∈fp) (hs:GY l s.heap h'):aL A (·∈fp) s {s with heap:=h'}:=⟨h',_,_,rfl,⟨E9 hs.1.symm,id⟩,fun b o hb e=>.inl ((hs.2 b fun q=>hb (q▸hl)).trans e)⟩
theorem w7 {h:Heap} {as bs:List AV} {vs ws:List Value} (r:aw μ h as vs) (q:aw μ h bs ws):aw μ h (as++bs) (vs++ws):=aw.ind r q fun zz zz zz zz hv zz ih=>⟨hv,ih⟩
theorem wN {h:Heap} {a:AV} {v:Value} (hv:af μ h a v) {as:List AV} {vs:List Value} (k:Nat) (r:aw μ h as vs):aw μ h (as.set k a) (vs.set k v):=by
 refine aw.ind (motive:=fun as vs=>∀ k,aw μ h (as.set k a) (vs.set k v)) r (fun zz=>trivial) (fun zz zz as vs h1 r ih k=>?_) k
 cases k with
 | zero=>exact ⟨hv,r⟩
 | succ k=>exact ⟨h1,ih k⟩
theorem uZ {i:Nat} {xs:List AV} (hx:σ[i]? = some (.list xs)) (hz:i∉lv.fz) (hsz:xs.length<=FG):dS C lv σ (.builtin "list.append") [.ref i,a] (.dat .none) (σ.set i (.list (xs++[a]))):=by
 intro N ρ A env μ s vs Q E ok G F r hQ
 obtain ⟨u,v,rfl,⟨p,hp,e⟩,rv⟩:=r.e2
 subst e
 obtain ⟨e1,ws,hpl,hr⟩:=G.sim.rep i p _ hp hx
 have hl:p.1∈p.2:=by rw [e1];exact .head _
 refine Ju hpl (fun h' hpl' hs=>?_) (by have:=bN hr;rw [<- FM,this];exact hsz)
 have k:=g9 (A:=A) hl hs
 have hW:∀ b,b∈p.2\/FA A b->b∈μ.hid\/s.heap.objs.size<=b:=G.fw fun b hb=>.inl (G.sim.foot b (aj (EK hp) hb))
 refine hQ _ μ _ (aS.write G F hp hz k ⟨e1,ws.push v,hpl',?_⟩) ⟨[],.none⟩
 rw [Ja]
 exact w7 (aw.mono (Ext.refl _ _) k hW hr) ⟨rv.mono (Ext.refl _ _) k hW,trivial⟩
theorem bc {ob e:Expr} {apos pos:Pos} {i:Nat} {xs:List AV} (ho:aH C lv N ob ρ σ (.ref i) ρ₁ σ₁) (ha:aH C lv N e ρ₁ σ₁ a ρ₂ σ₂) (hl:∃ ys,σ₁[i]? = some (.list ys)) (hx:σ₂[i]? = some (.list xs)) (hz:i∉lv.fz) (hsz:xs.length<=FG)
  (hbase:autoParam (∀ env,HO ob "append" env (eval ob env)=eval ob env) aI)
  (hfew:autoParam (∀ env,((backTo pos (Fv [e] env)).all (fun x=>!x.1) && (HB pos (GE [] env)).all (fun x=>x.1.isSome)
   && decide ([e].length+([]:List IE).length+(if ([]:List IE).isEmpty then 0 else 1)<30))=true) aI)
  (hline:autoParam ((apos.endLine==pos.line)=true) aR) (hn:autoParam (bx e=true) aR):aH C lv N (.Call (.Attribute ob "append" apos) [e] [] pos) ρ σ (.dat .none) ρ₂ (σ₂.set i (.list (xs++[a]))):=
 let ⟨_,hl⟩:=hl
 eY ho (bF ha bQ hn) (dI hl) PySem.F.plainAttrs_list slot_list_append type_list_append (uZ hx hz hsz) hbase hfew hline (by rw [GG,hn];rfl)
theorem mD {value slice:Expr} {pos:Pos} {l:Nat} {xs:List AV} {i:Int} (hv:aH C lv N value ρ σ (.ref l) ρ₁ σ₁) (hi:aH C lv N slice ρ₁ σ₁ (.dat (.int i)) ρ₂ σ₂) (hx:σ₂[l]? = some (.list xs)) (h0:0<=i) (hfit:i<2 ^ 63) (hd:xs[i.toNat]? = some a)
  (hs:autoParam (∀ o i,Jd slice false o i=LN [o,i] (Kf o i)) aW):aH C lv N (.Subscript value slice pos) ρ σ a ρ₂ σ₂:=by
 intro A env μ s Q E ok G F hQ
 refine KE (hv A env μ s _ _ ok G F fun v μ1 s1 P1 r=>hi A env μ1 s1 _ _ ok P1.good P1.fr fun iv μ2 s2 P2 qq1=>?_)
 obtain ⟨bs,ri⟩:=qq1
 obtain ⟨p,hp,rfl⟩:=P2.val P1.good P1.fr r
 obtain ⟨e1,ws,hpl,hr⟩:=P2.good.sim.rep l p _ hp hx
 cases ri using RI with
 | int t=>
  have hlt:i.toNat<xs.length:=(EI.mp hd).1;have hlen:=bN hr;have hx':ws[i.toNat]? = some (ws.toList[i.toNat]'(by omega)):=by simp
  exact LP hpl.isList.typeIs Je.lookup (wpAny_getItem_list hpl.isList h0 hfit hx' (hQ _ μ2 s2 (P1.trans P2) (ec hr i.toNat _ a (by simp) hd))) (hs _ _)
theorem Frz.see {h:Heap} {d:PyData} (S:Sim C μ σ h) (f:Frz σ 0 a d):∀ {v:Value},af μ h a v->∃ as,Reads h v d as:=by
 refine f (fun a d=>∀ {v:Value},af μ h a v->∃ as,Reads h v d as) ?c1 ?c2
 case c1=>intro d v r;obtain ⟨as,r⟩:=r;exact ⟨as,cP r⟩
 case c2=>
  intro i xs ds hk hx hl ih v r;obtain ⟨p,hp,rfl⟩:=r;obtain ⟨e1,vs,hpl,hr⟩:=S.rep i p _ hp hx;obtain ⟨m,ho⟩:=hpl;obtain ⟨bs,ra⟩:=gm (h:=h) (vs:=vs.toList) (ds:=ds) (by rw [bN hr,hl]) fun j v d hv hd=>by
   have hlt:j<xs.length:=by rw [hl];exact (EI.mp hd).1
   exact ih j xs[j] d (by simp [hlt]) hd (ec hr j v xs[j] hv (by simp [hlt]))
  exact ⟨_,.list ho rfl rfl ra⟩
theorem gh {h:Heap} {v:Value} {d:PyData} {as:List Addr} (r:Reads h v d as):Reads (cK [] h) v d as:=PyProof.Rows.Reads.keeps (fun b o e=>F9 _ e (by simp)) r
theorem OpG.see {t:Value->Value->Sem Value} {d e:PyData} {c:Bool} (h:Op2 C t d e (.bool c)) (fa:Frz σ 0 a d) (fb:Frz σ 0 b e):OpG C lv σ t a b (.bool c):=fun A μ u v s Q E ok G ru rv hQ=>by
 obtain ⟨as,ru⟩:=fa.see G.sim ru
 obtain ⟨bs,rv⟩:=fb.see G.sim rv
 exact h A [] u v s as bs Q E G.units' (gh ru) (gh rv) jP fun x s' cs k rx=>hQ x s' cs k (by cases rx using RB;exact .bool _)
theorem j5 (its:Array Value) (n j:Nat) (x:Value) :
  ∃ n',Ey (·.setIfInBounds j x) {cls:=.type "list",data:=.seq its n}={cls:=.type "list",data:=.seq (its.setIfInBounds j x) n'}:=by
 simp only [Ey]
 exact ⟨_,rfl⟩
theorem ly {l:Addr} {items:Array Value} {k:Int} {t:Tok} {v:Value} {Q:Unit->Shared->Prop} {E:Value->Shared->Prop} {prog:Fn} {w:World} (hl:s.heap.PlainList l items) (h0:0<=k) (hfit:k<2 ^ 63) (hn:k<items.size)
  (hQ:∀ h',h'.PlainList l (items.setIfInBounds k.toNat v)->GY l s.heap h'->Q () {s with heap:=h'}):wpAny (model prog w) A (setItem (.ref l) (.int k t) v) Q E s:=by
 obtain ⟨n,ho⟩:=id hl
 have hT:=hl.isList.typeIs
 unfold setItem
 refine EY ?_
 refine EA (wpAny_sequenceKey hT (by decide) ?_)
 refine EA (wpAny_callSpecial?_slot (name:=EB "__setitem__") hT slot_list_setitem (Jw slot_list_setitem hT entry_list_setitem ?_ (args_list_setitem _ _ _)))
 show wpAny _ _ (En.List.listSubscript? (.int k t) >>= _) _ _ s
 refine EA (wpAny_listSubscript_int (fitsIndex_of h0 hfit) ?_)
 obtain ⟨j,rfl⟩:=Int.eq_ofNat_of_zero_le h0
 have' hj:j<items.size:=by omega
 have' hx':items[j]? = some items[j]:=HC hj
 show wpAny _ _ ((seqItemAt l j >>= fun r=>pure (r.map (j,·))) >>= _) _ _ s
 refine EA (EA (wpAny_seqItemAt ho rfl (EF ?_)))
 rw [hx']
 show wpAny _ _ (setSeqItemAt l j v >>= _) _ _ s
 obtain ⟨n',e⟩:=j5 items n j v
 have hfin:(s.heap.update l (Ey (·.setIfInBounds j v))).PlainList l (items.setIfInBounds j v):=⟨n',by rw [FQ _ ho (by rw [e];rfl),e]⟩
 refine EA (wpAny_setSeqItemAt ho rfl ?_)
 first
  | exact EA (EF (EF ⟨.none,rfl,EF (hQ _ hfin (GY.update ..))⟩))
  | exact EF ⟨.none,rfl,EF (hQ _ hfin (GY.update ..))⟩
theorem ux {value slice:Expr} {pos:Pos} {l:Nat} {xs:List AV} {i:Int} (hv:aH C lv N value ρ σ (.ref l) ρ₁ σ₁) (hi:aH C lv N slice ρ₁ σ₁ (.dat (.int i)) ρ₂ σ₂) (hx:σ₂[l]? = some (.list xs)) (hz:l∉lv.fz) (h0:0<=i) (hfit:i<2 ^ 63) (hlt:i.toNat<xs.length)
  (hs:autoParam (∀ iv v ov:Value,(match slice with | .Slice _ _ none _=>[iv,v,ov] | _=>[v,ov,iv])=[v,ov,iv]) aK):c8 C lv N (.Subscript value slice pos) a ρ σ ρ₂ (σ₂.set l (.list (xs.set i.toNat a))):=by
 intro A env μ s v Q E ok G F r hQ
 rw [K3]
 refine EA (EY (hv A env μ s _ _ ok G F fun ov μ1 s1 P1 ro=>EA (EY (hi A env μ1 s1 _ _ ok P1.good P1.fr fun iv μ2 s2 P2 ⟨bs,ri⟩=>EA (FP ?_)))))
 obtain ⟨p,hp,rfl⟩:=P2.val P1.good P1.fr ro
 have' r2:=P2.val P1.good P1.fr (P1.val G F r)
 obtain ⟨e1,ws,hpl,hr⟩:=P2.good.sim.rep l p _ hp hx
 have hl:p.1∈p.2:=by rw [e1];exact .head _
 cases ri using RI with
 | int t=>
  have' hlen:=bN hr
  rw [FM] at hlen
  refine EA (EY (ly hpl h0 hfit (by omega) fun h' hpl' hsb=>Jm ?_))
  have k:=g9 (A:=A) hl hsb;have hW:∀ b,b∈p.2\/FA A b->b∈μ2.hid\/s2.heap.objs.size<=b:=P2.good.fw fun b hb=>.inl (P2.good.sim.foot b (aj (EK hp) hb))
  refine hQ μ2 _ (P1.trans (P2.trans (aS.write P2.good P2.fr hp hz k ⟨e1,_,hpl',?_⟩)))
  rw [JU]
  exact wN (r2.mono (Ext.refl _ _) k hW) _ (aw.mono (Ext.refl _ _) k hW hr)
theorem oP {x y:Expr} {pos:Pos} {p q:Bool} (hx:aH C lv N x ρ σ (.dat (.bool p)) ρ σ) (hy:p=false->aH C lv N y ρ σ (.dat (.bool q)) ρ σ):aH C lv N (.BoolOp .Or [x,y] pos) ρ σ (.dat (.bool (p || q))) ρ σ:=fun A env μ s Q E ok G F hQ=>
 BoolOp_or (hx A env μ s _ _ ok G F fun v μ1 s1 P1 ⟨_,r⟩=>by
  cases r using RB
  refine HK ?_
  cases p with
  | true=>exact hQ _ μ1 s1 P1 ⟨_,.bool _⟩
  | false=>exact BoolOp_one (hy rfl A env μ1 s1 _ _ ok P1.good P1.fr fun v μ2 s2 P2 r=>hQ v μ2 s2 (P1.trans P2) r))
theorem qZ {x y:Expr} {pos:Pos} {p q:Bool} (hx:aH C lv N x ρ σ (.dat (.bool p)) ρ σ) (hy:p=true->aH C lv N y ρ σ (.dat (.bool q)) ρ σ):aH C lv N (.BoolOp .And [x,y] pos) ρ σ (.dat (.bool (p && q))) ρ σ:=fun A env μ s Q E ok G F hQ=>
 BoolOp_and (hx A env μ s _ _ ok G F fun v μ1 s1 P1 ⟨_,r⟩=>by
  cases r using RB
  refine HK ?_
  cases p with
  | false=>exact hQ _ μ1 s1 P1 ⟨_,.bool _⟩
  | true=>exact BoolOp_one (hy rfl A env μ1 s1 _ _ ok P1.good P1.fr fun v μ2 s2 P2 r=>hQ v μ2 s2 (P1.trans P2) r))
theorem gX {α:Type} {l t:List α} {x y:α} {k:Nat} (hk:k=l.length):(l++x :: t).set k y=l++y :: t:=by subst hk;rw [Ee _ _ (EH _),Fx];rfl
theorem bo {α:Type} {l t:List α} {x:α} {k:Nat} (hk:k=l.length):(l++x :: t)[k]? = some x:=by subst hk;rw [EZ (EH _),Fx];rfl
theorem aH.st {e:Expr} (h:aH C lv N e ρ σ a ρ₁ σ₁) (e':σ₁=σ₂):aH C lv N e ρ σ a ρ₁ σ₂:=e'▸h
theorem aq.st {b:Stmt} (h:aq C lv N b ρ σ o ρ₁ σ₁) (e':σ₁=σ₂):aq C lv N b ρ σ o ρ₁ σ₂:=e'▸h
theorem ay.st {b:List Stmt} (h:ay C lv N b ρ σ o ρ₁ σ₁) (e':σ₁=σ₂):ay C lv N b ρ σ o ρ₁ σ₂:=e'▸h
theorem eJ {n x:Nat} {pre post:List Nat} (h:EN n=pre++x :: post):x=pre.length/\x<n:=by
 have h1:(EN n)[pre.length]? = some x:=by rw [h];exact bo rfl
 have hl:pre.length<n:=by
  have:=congrArg Hn h
  simp at this;omega
 rw [List.getElem?_range hl] at h1
 cases h1
 exact ⟨rfl,hl⟩
theorem p9 {α:Type} {l r:List α} {x y:α} {n:Nat} (hn:r.length=n):(l++x :: (r++[y]))[l.length+1+n]? = some y:=by
 subst hn
 rw [EZ (by omega),show l.length+1+r.length - l.length=r.length+1 by omega,Ev,EZ (EH _),Fx];rfl
theorem xe {α:Type} {l r:List α} {x y z:α} {n:Nat} (hn:r.length=n):(l++x :: (r++[y])).set (l.length+1+n) z=l++x :: (r++[z]):=by
 subst hn
 rw [Ee _ _ (by omega),show l.length+1+r.length - l.length=r.length+1 by omega,F4,Ee _ _ (EH _),Fx];rfl
end
section
variable {C:Cx} {lv:Lv} {N:aE} {ρ ρ₁ ρ₂ ρ₃ ρ' ρ₀:aO} {σ σ₁ σ₂ σ₃ σ':aC} {o:Out} {A:Around} {env:Env} {μ μ' μ₁:Mu} {s s' s₁:Shared} {a b:AV} {X:String} {e:Addr} {n:Nat}
structure Exc (C:Cx) (hp:Heap) (μ:Mu) (h:Heap) (e:Addr) (X:String) (vs:Array Value):Prop where
 new:hp.get? e=none
 old:C.h0.get? e=none
 foot:e∉μ.foot
 rc:∃ oe,h.get? e=some oe/\oe.cls=.type X/\oe.data=.fields vs
structure Tb (C:Cx) (hp:Heap) (μ:Mu) (h:Heap) (e T:Addr) (ts:Array Value):Prop where
 new:hp.get? T=none
 old:C.h0.get? T=none
 foot:T∉μ.foot
 ne:T≠e
 rc:∃ oT,h.get? T=some oT/\oT.data=.fields ts
noncomputable def lM (C:Cx) (hp:Heap) (μ:Mu) (h:Heap) (e:Addr) (X:String) (f:Value):Prop:=∃ vs T ts,Exc C hp μ h e X vs/\vs[1]? = some (.ref T)/\Tb C hp μ h e T ts/\ts[3]? = some f
noncomputable def Fly (C:Cx) (hp:Heap) (env:Env) (μ:Mu) (h:Heap) (e:Addr) (X:String):Prop:=(∃ vs,Exc C hp μ h e X vs/\vs[1]? = some .none)\/∃ L,env.frame=some L/\lM C hp μ h e X (rawInt L)
theorem aL.transN {W W':Addr->Prop} {a b c:Shared} (x:aL A W a b) (y:aL A W' b c) (h:∀ d,W' d->W d\/a.heap.get? d=none):aL A W a c:=by
 obtain ⟨h1,g1,t1,rfl,l1,k1⟩:=x
 obtain ⟨h2,g2,t2,rfl,l2,k2⟩:=y
 refine ⟨h2,g2,t2,rfl,⟨EE l1.1 l2.1,fun q=>l2.2 (l1.2 q)⟩,fun d o hd e=>?_⟩
 have hd':¬ W' d:=fun hm=>by
  rcases h d hm with q | q
  ·exact hd q
  ·rw [e] at q;cases q
 rcases k1 d o hd e with q | ⟨f,dd,o1,q,r⟩
 ·exact k2 d o hd' q
 ·rcases k2 d o1 hd' q with q2 | ⟨_,_,o2,q2,r2⟩
  ·exact .inr ⟨f,dd,o1,q2,r⟩
  ·exact .inr ⟨f,dd,o2,q2,r2.trans r⟩
theorem aM.turnR {W:Addr->Prop} (F:aM A N env μ ρ s.heap) (k:aL A W s s') (m:Mov μ μ s.heap s'.heap) (hL:¬ W env.locals) (hC:∀ p∈env.cells,¬ W p.2):aM A N env μ ρ s'.heap:=by
 obtain ⟨mm,⟨o,es,ep,e,d,r⟩,hv⟩:=F.vals
 obtain ⟨o',e',d'⟩:=k.like hL e
 refine ⟨F.fn,F.glob,F.blt,F.nodup,F.plain,F.kinds,F.hidL,F.freeL,F.cellsIn,fun p hp=>?_,F.apart,F.fe,mm,⟨o',es,ep,e',d'.trans d,r⟩,hv.map fun p zz a h=>?_⟩
 ·obtain ⟨a,b,c,v,o,ho,d⟩:=F.cells p hp
  obtain ⟨o',ho',d'⟩:=k.like (hC p hp) ho;exact ⟨a,b,c,v,o',ho',d'.trans d⟩
 ·obtain ⟨v,r,q⟩:=h
  refine ⟨v,r.move m,q.imp id fun qq1=>?_⟩
  obtain ⟨k1,c,hl,o,ho,hd⟩:=qq1;obtain ⟨o',ho',d'⟩:=k.like (hC (p.1,c) (bG hl)) ho;exact ⟨k1,c,hl,o',ho',d'.trans hd⟩
theorem aT.turnR {W:Addr->Prop} (G:aT C lv A μ σ s) (k:aL A W s s') (m:Mov μ μ s.heap s'.heap) (h1:∀ b,W b->C.h0.get? b=none) (h2:∀ b,W b->b∉μ.foot) (hr:∀ b,W b->∃ o vs,s.heap.get? b=some o/\o.data=.fields vs):aT C lv A μ σ s':=by
 refine ⟨G.quiet,G.frz,G.room,G.units,EE G.top k.le,fun b o e=>k.at (fun hb=>by rw [h1 b hb] at e;cases e) (G.notFA0 e) (G.base b o e),G.low,fun b hb=>E5 (G.lt b hb) k.le,
  ⟨G.sim.len,fun i p o hp ho=>(G.sim.rep i p o hp ho).move m fun b hb o e=>k.at (fun hw=>h2 b hw (aj (EK hp) hb)) (G.notFA (aj (EK hp) hb)) e,G.sim.foot,G.sim.apart,G.sim.self⟩,G.frs.mono (Ext.refl _ _) k G.lt fun b hf hb=>?_⟩
 obtain ⟨_,_,o,es,n,ho,hd⟩:=G.frs.fa hf
 obtain ⟨o',vs,ho',hd'⟩:=hr b hb
 rw [ho] at ho';cases ho';rw [hd] at hd';cases hd'
theorem aS.turnR {W:Addr->Prop} (P:aS C lv A N env μ s ρ σ μ₁ s₁) (k:aL A W s₁ s') (h0:∀ b,W b->s.heap.get? b=none) (h1:∀ b,W b->C.h0.get? b=none) (h2:∀ b,W b->b∉μ₁.foot)
  (hr:∀ b,W b->∃ o vs,s₁.heap.get? b=some o/\o.data=.fields vs):aS C lv A N env μ s ρ σ μ₁ s':=by
 have m:Mov μ₁ μ₁ s₁.heap s'.heap:=Mov.records k hr fun b hf=>(P.good.frs.fa hf).1
 refine ⟨P.fz0,P.good.turnR k m h1 h2 hr,P.fr.turnR k m (fun hb=>?_) (fun p hp hb=>?_),P.ext,P.kept.transN k fun b hb=>.inr (h0 b hb)⟩
 ·obtain ⟨m,⟨o,es,n,ho,hd,_⟩,_⟩:=P.fr.vals
  obtain ⟨o',vs,ho',hd'⟩:=hr _ hb
  rw [ho] at ho';cases ho';rw [hd] at hd';cases hd'
 ·obtain ⟨_,_,_,v,o,ho,hd⟩:=P.fr.cells p hp
  obtain ⟨o',vs,ho',hd'⟩:=hr _ hb
  rw [ho] at ho';cases ho';rw [hd] at hd';cases hd'
theorem jZ {lv':Lv} (F:aM A N env μ ρ s.heap) (G:aT C lv A μ σ s) (P:aS C lv' A N env μ s ρ' σ' μ' s') (h:s'.heap.get? e=none):s.heap.get? e=none:=by
 cases hq:s.heap.get? e with
 | none=>rfl
 | some o=>
  exfalso
  by_cases hw:WS μ N env e
  ·rcases hw with ⟨i,p,hp,_,hb⟩ | rfl | ⟨x,hx,hl⟩
   ·have hp':=P.ext.get hp
    have hi:i<σ'.length:=by rw [<- P.good.sim.len];exact (EI.mp hp').1
    obtain ⟨ob,hob⟩:=(P.good.sim.rep i p σ'[i] hp' (E8 hi)).there e hb
    rw [h] at hob;cases hob
   ·obtain ⟨m,⟨o,es,n,ho,_⟩,_⟩:=P.fr.vals
    rw [h] at ho;cases ho
   ·obtain ⟨_,_,_,v,o,ho,_⟩:=P.fr.cells (x,e) (bG hl)
    rw [h] at ho;cases ho
  ·obtain ⟨o',ho',_⟩:=P.kept.like hw hq
   rw [h] at ho';cases ho'
theorem oR {f:Option Addr} {g:Value} {Q:Unit->Shared->Prop} {E:Value->Shared->Prop} (P:aS C lv A N env μ s ρ σ μ₁ s₁) (f₁:lM C s.heap μ₁ s₁.heap e X g)
  (hQ:∀ s₂,aS C lv A N env μ s ρ σ μ₁ s₂->lM C s.heap μ₁ s₂.heap e X (f.elim FB fun x=>rawInt x)->Q () s₂):wpAny (model C.prog C.w) A (setFlight (.ref e) f) Q E s₁:=by
 obtain ⟨vs,T,ts,x,h1,t,h3⟩:=f₁
 obtain ⟨oe,he,hc,hd⟩:=x.rc
 obtain ⟨oT,hT,hdT⟩:=t.rc
 have hsz3:3<ts.size:=(FX.mp h3).1
 unfold setFlight
 refine EA (IN he hd h1 ?_)
 rw [if_pos (show (Fg T != FB)=true from by simp)]
 refine wpAny_setField hT hdT hsz3 ?_
 generalize hg:(f.elim FB fun x=>rawInt x)=g'
 have other:∀ b,b≠T->(s₁.heap.update T (Il (·.setIfInBounds 3 g'))).get? b=s₁.heap.get? b:=fun b hb=>GJ _ _ (Ne.symm hb)
 have' k:aL A (· = T) s₁ {s₁ with heap:=s₁.heap.update T (Il (·.setIfInBounds 3 g'))}:=⟨_,_,_,rfl,⟨E9 (GY.update ..).1.symm,id⟩,fun b o hb e=>.inl ((other b hb).trans e)⟩
 have P2:=P.turnR k (fun b hb=>hb▸t.new) (fun b hb=>hb▸t.old) (fun b hb=>hb▸t.foot) (fun b hb=>hb▸⟨_,_,hT,hdT⟩)
 refine hQ _ P2 ⟨vs,T,_,⟨x.new,x.old,x.foot,oe,(other e (Ne.symm t.ne)).trans he,hc,hd⟩,h1,⟨t.new,t.old,t.foot,t.ne,_,FQ _ hT (KX (JV hdT _)),JV hdT _⟩,by rw [hg];simp [hsz3]⟩
theorem to {l:List Env} {h:Heap} (H:∀ env∈l,env.scope.kind≠.module/\∃ L,env.frame=some L/\L∈μ.hid/\L∉μ.foot/\∃ o es n,h.get? L=some o/\o.data=.dict es n) (hlow:∀ b∈μ.hid,C.h0.get? b=none):h.FunFrames C.h0 l:=by
 induction l with
 | nil=>trivial
 | cons env l ih=>
  obtain ⟨a,L,hL,b1,_,o,es,n,ho,hd⟩:=H env (.head _);exact ⟨a,⟨L,o,hL,hlow _ b1,ho,fun vs q=>by rw [hd] at q;cases q⟩,ih fun e he=>H e (.tail _ he)⟩
theorem r7 {l:List Env} {L:Addr} (h:∃ e∈l,e.frame=some L) (hf:env.frame=some L):∃ e0 r,l.dropWhile (fun x=>x.frame != env.frame)=e0 :: r/\e0.frame=some L:=by
 induction l with
 | nil=>obtain ⟨_,hm,_⟩:=h;cases hm
 | cons e1 l ih=>
  rw [List.dropWhile_cons]
  by_cases q:e1.frame=some L
  ·rw [if_neg (by rw [q,hf];simp)]
   exact ⟨e1,l,rfl,q⟩
  ·rw [if_pos (by rw [hf];simpa using q)]
   refine ih ?_;obtain ⟨e,hm,he⟩:=h
   rcases ES.mp hm with rfl | hm
   ·exact absurd he q
   ·exact ⟨e,hm,he⟩
theorem Ag {Q:Unit->Shared->Prop} {E:Value->Shared->Prop} (P:aS C lv A N env μ s ρ σ μ₁ s₁) (f₁:Fly C s.heap env μ₁ s₁.heap e X)
  (hQ:∀ L μ₂ s₂,env.frame=some L->aS C lv A N env μ s ρ σ μ₂ s₂->lM C s.heap μ₂ s₂.heap e X (rawInt L)->Q () s₂):wpAny (model C.prog C.w) A (L5 (.ref e) env) Q E s₁:=by
 rcases f₁ with ⟨vs,x,h1⟩ | ⟨L,hf,N1⟩
 ·obtain ⟨L,hf,hFA⟩:=P.fr.fe
  obtain ⟨oe,he,hc,hd⟩:=x.rc;obtain ⟨l,hfr,Hl⟩:=P.good.frs.all;have hsz:1<vs.size:=(FX.mp h1).1;unfold L5
  simp only [hf]
  refine EA (IN he hd h1 ?_)
  rw [if_neg (by decide)]
  unfold PySem.frameOf;refine EA (EA (wpAny_frameEnvs hfr ?_));obtain ⟨e0,r,hdw,he0⟩:=r7 (l:=l) (env:=env) (by obtain ⟨l',e',env',hm,hf'⟩:=hFA;rw [hfr] at e';cases e';exact ⟨env',hm,hf'⟩) hf
  rw [hdw]
  unfold frameObject;have hsub:∀ e'∈e0 :: r,e'∈l:=fun e' hm=>(List.dropWhile_sublist _).subset (hdw▸hm)
  refine EA (EA (wpAny_readyFrames_fun (to (C:=C) (μ:=μ₁) (fun e' hm=>Hl e' (hsub e' hm)) P.good.low) fun h₁ hs₁=>EF ?_))
  rw [he0]
  refine EF ?_;refine EA (wpAny_entryPlaceOf fun pl hpl=>?_)
  unfold EntryCells.newEntry newFields;refine EA (GZ ?_ (hpl.sizeOk5 _ _ _ _ _));have inFA:∀ b,b∈(e0 :: r).filterMap (·.frame)->FA A b:=fun b hb=>by
   obtain ⟨e',hm,hf'⟩:=List.mem_filterMap.mp hb;exact ⟨l,hfr,e',hsub e' hm,hf'⟩
  have' notF:¬ FA A e:=fun q=>by
   obtain ⟨_,_,o,es,n,ho,hd'⟩:=P.good.frs.fa q
   rw [he] at ho;cases ho;rw [hd] at hd';cases hd'
  have he₁:h₁.get? e=some oe:=(hs₁.2.1 e fun hm=>notF (inFA e hm)).trans he
  generalize hO:({cls:=.type "traceback",dict:=none,data:=.fields ([FB,.ref L,.none,rawInt L,.none]++(if pl.isEmpty then FK 6 FB else pl)).toArray}:Obj)=O
  have he₂:=EJ (h:=h₁) O he₁;refine wpAny_setField he₂ hd hsz ?_;have hTe:h₁.objs.size≠e:=IW (Ea he₁);have hd₃:=JV hd (·.setIfInBounds 1 (Fg h₁.objs.size))
  have' hs2:((h₁.push O).update e (Il (·.setIfInBounds 1 (Fg h₁.objs.size)))).objs.size=h₁.objs.size+1:=by
   rw [(GY.update ..).1];exact ER ..
  have' k:aL A (· = e) s₁ {s₁ with heap:=(h₁.push O).update e (Il (·.setIfInBounds 1 (Fg h₁.objs.size)))}:=by
   refine ⟨_,_,_,rfl,⟨by rw [hs2,hs₁.1];exact Eg _,id⟩,fun b o hb hbo=>?_⟩
   have up:∀ o',h₁.get? b=some o'->((h₁.push O).update e (Il (·.setIfInBounds 1 (Fg h₁.objs.size)))).get? b=some o':=fun o' q=>by
    rw [GJ _ _ (Ne.symm hb)]
    exact EJ _ q
   by_cases hm:b∈(e0 :: r).filterMap (·.frame)
   ·obtain ⟨_,_,o',es,n,ho',hd'⟩:=P.good.frs.fa (inFA b hm)
    rw [hbo] at ho';cases ho'
    obtain ⟨sl,hsl⟩:=hs₁.2.2 b o hbo;exact .inr ⟨inFA b hm,⟨es,n,hd'⟩,_,up _ hsl,rfl⟩
   ·exact .inl (up _ ((hs₁.2.1 b hm).trans hbo))
  have P2:=P.turnR k (fun b hb=>hb▸x.new) (fun b hb=>hb▸x.old) (fun b hb=>hb▸x.foot) (fun b hb=>hb▸⟨_,_,he,hd⟩)
  have lle:s.heap.objs.size<=h₁.objs.size:=by rw [hs₁.1];exact P.kept.le
  have lle0:C.h0.objs.size<=h₁.objs.size:=by rw [hs₁.1];exact P.good.top
  refine hQ L _ _ hf P2 ⟨_,h₁.objs.size,_,⟨x.new,x.old,x.foot,_,FQ _ he₂ (KX hd₃),(Obj.cls_mapFields ..).trans hc,hd₃⟩,by simp [hsz],
   ⟨HJ lle,HJ lle0,fun q=>absurd (P.good.lt _ (P.good.sim.foot _ q)) (by rw [hs₁.1];exact E2 _),hTe,O,?_,by rw [<- hO]⟩,?_⟩
  ·rw [GJ _ _ (Ne.symm hTe)]
   exact EP h₁ (by rw [<- hO];rfl)
  ·simp
 ·obtain ⟨vs,T,ts,x,h1,t,h3⟩:=N1
  obtain ⟨oe,he,hc,hd⟩:=x.rc;obtain ⟨oT,hT,hdT⟩:=t.rc;exact wpAny_noteFrame_inFlight hf he hd h1 hT hdT h3 (hQ L _ _ hf P ⟨vs,T,ts,x,h1,t,h3⟩)
theorem Fly.le {lv':Lv} (F:aM A N env μ ρ s.heap) (G:aT C lv A μ σ s) (P:aS C lv' A N env μ s ρ' σ' μ' s') {μ₂:Mu} {h:Heap} (x:Fly C s'.heap env μ₂ h e X):Fly C s.heap env μ₂ h e X:=by
 rcases x with ⟨vs,a,b⟩ | ⟨L,hL,vs,T,ts,a,b,c,d⟩
 ·exact .inl ⟨vs,⟨jZ F G P a.new,a.old,a.foot,a.rc⟩,b⟩
 ·exact .inr ⟨L,hL,vs,T,ts,⟨jZ F G P a.new,a.old,a.foot,a.rc⟩,b,⟨jZ F G P c.new,c.old,c.foot,c.ne,c.rc⟩,d⟩
theorem kY {lv':Lv} {A':Around} {b:Addr} {ob:Obj} {vs:Array Value} (F:aM A' N env μ ρ s.heap) (P:aS C lv' A' N env μ s ρ' σ' μ' s') (hf:b∉μ.foot) (hb:s.heap.get? b=some ob) (hd:ob.data=.fields vs):s'.heap.get? b=some ob:=by
 refine P.kept.atD (fun hw=>?_) (fun es n q=>by rw [hd] at q;cases q) hb
 rcases hw with q | rfl | ⟨x,hx,hl⟩
 ·exact hf (WC.foot q)
 ·obtain ⟨m,⟨o,es,n,ho,hd',_⟩,_⟩:=F.vals
  rw [hb] at ho;cases ho;rw [hd] at hd';cases hd'
 ·obtain ⟨_,_,_,v,o,ho,hd'⟩:=F.cells (x,b) (bG hl)
  rw [hb] at ho;cases ho;rw [hd] at hd';cases hd'
theorem jl {b:Addr} {k:Nat} (x:Ext μ μ' k) (hb:b<k) (h:b∉μ.foot):b∉μ'.foot:=fun q=>(x.foot _ q).elim h fun z=>absurd hb (E0.mpr z)
theorem lM.stands {hp:Heap} {lv':Lv} {A':Around} {f:Value} (x:lM C hp μ s.heap e X f) (F:aM A' N env μ ρ s.heap) (P:aS C lv' A' N env μ s ρ' σ' μ' s'):lM C hp μ' s'.heap e X f:=by
 obtain ⟨vs,T,ts,a,h1,c,h3⟩:=x
 obtain ⟨oe,he,hc,hd⟩:=a.rc
 obtain ⟨oT,hT,hdT⟩:=c.rc
 exact ⟨vs,T,ts,⟨a.new,a.old,jl P.ext (Ea he) a.foot,oe,kY F P a.foot he hd,hc,hd⟩,h1,⟨c.new,c.old,jl P.ext (Ea hT) c.foot,c.ne,oT,kY F P c.foot hT hdT,hdT⟩,h3⟩
noncomputable def lQ (C:Cx) (lv:Lv) (A:Around) (N:aE) (env:Env) (μ:Mu) (s:Shared) (ρ':aO) (σ':aC) (X:String) (E:Value->Shared->Prop):Prop:=
 ∀ x μ' s',aS C lv A N env μ s ρ' σ' μ' s'->Fly C s.heap env μ' s'.heap x X->E (.ref x) s'
noncomputable def sM (C:Cx) (lv:Lv) (N:aE) (e:Expr) (ρ:aO) (σ:aC) (X:String) (ρ':aO) (σ':aC):Prop:=
 ∀ (A:Around) (env:Env) (μ:Mu) (s:Shared) (Q:Value->Shared->Prop) (E:Value->Shared->Prop),C.Ok->aT C lv A μ σ s->aM A N env μ ρ s.heap->lQ C lv A N env μ s ρ' σ' X E->wpAny (model C.prog C.w) A (eval e env) Q E s
noncomputable def iM (C:Cx) (lv:Lv) (N:aE) (st:Stmt) (ρ:aO) (σ:aC) (X:String) (ρ':aO) (σ':aC):Prop:=
 ∀ (A:Around) (env:Env) (μ:Mu) (s:Shared) (Q:Flow->Shared->Prop) (E:Value->Shared->Prop),C.Ok->aT C lv A μ σ s->aM A N env μ ρ s.heap->lQ C lv A N env μ s ρ' σ' X E->wpAny (model C.prog C.w) A (exec st env) Q E s
noncomputable def fY (C:Cx) (lv:Lv) (N:aE) (b:List Stmt) (ρ:aO) (σ:aC) (X:String) (ρ':aO) (σ':aC):Prop:=
 ∀ (A:Around) (env:Env) (μ:Mu) (s:Shared) (Q:Flow->Shared->Prop) (E:Value->Shared->Prop),C.Ok->aT C lv A μ σ s->aM A N env μ ρ s.heap->lQ C lv A N env μ s ρ' σ' X E->wpAny (model C.prog C.w) A (execs b env) Q E s
theorem lQ.behind {E:Value->Shared->Prop} (h:lQ C lv A N env μ s ρ' σ' X E) (G:aT C lv A μ σ s) (F:aM A N env μ ρ s.heap) (P:aS C lv A N env μ s ρ₁ σ₁ μ₁ s₁):lQ C lv A N env μ₁ s₁ ρ' σ' X E:=fun x μ' s' P' f=>h x μ' s' (P.trans P') (f.le F G P)
theorem qg {e:Expr} {pos:Pos} (h:sM C lv N e ρ σ X ρ₁ σ₁) (hs:autoParam (∀ env,swapsWith e none pos.line env=pure false) aI):iM C lv N (.Expr e pos) ρ σ X ρ₁ σ₁:=fun A env μ s Q E ok G F hE=>
 wpAny_Expr_any (h A env μ s _ _ ok G F hE) (by unfold interactive;rw [F.fn];rfl) (hs env)
theorem eR {st:Stmt} {r:List Stmt} (h:iM C lv N st ρ σ X ρ₁ σ₁):fY C lv N (st :: r) ρ σ X ρ₁ σ₁:=fun A env μ s Q E ok G F hE=>Hv (h A env μ s _ _ ok G F hE)
theorem qm {st:Stmt} {r:List Stmt} (h:aq C lv N st ρ σ .nxt ρ₁ σ₁) (hr:fY C lv N r ρ₁ σ₁ X ρ₂ σ₂):fY C lv N (st :: r) ρ σ X ρ₂ σ₂:=fun A env μ s Q E ok G F hE=>
 Hv (h A env μ s _ _ ok G F fun f μ1 s1 P1 e=>by
  obtain rfl:=e;exact hr A env μ1 s1 _ _ ok P1.good P1.fr (hE.behind G F P1))
theorem nH {t value:Expr} {pos:Pos} (hv:sM C lv N value ρ σ X ρ₁ σ₁) (he:autoParam (∀ env,(IF [t] env).map (·.2)=[assign t env]) aI)
  (hs:autoParam (∀ env,Jk [t] value pos.line env=pure false) aI) (hw:autoParam (∀ env,Ij [t] value env=pure none) aI):iM C lv N (.Assign [t] value pos) ρ σ X ρ₁ σ₁:=fun A env μ s Q E ok G F hE=>
 JF (by
  rw [he]
  exact hv A env μ s _ _ ok G F hE) (hs env) (hw env)
theorem aM.mark {h:Option Value} {hp:Heap} (F:aM A N env μ ρ hp):aM (A.mark h) N env μ ρ hp:=⟨F.fn,F.glob,F.blt,F.nodup,F.plain,F.kinds,F.hidL,F.freeL,F.cellsIn,F.cells,F.apart,F.fe,F.vals⟩
theorem aT.mark {h:Option Value} (G:aT C lv A μ σ s):aT C {lv with q:=false} (A.mark h) μ σ s:=⟨(fun q=>nomatch q),G.frz,G.room,G.units,G.top,G.base,G.low,G.lt,G.sim,⟨G.frs.all⟩⟩
theorem aS.unmark {h:Option Value} {μ₀:Mu} {σ₀:aC} {s₀:Shared} (G:aT C lv A μ₀ σ₀ s₀) (P:aS C {lv with q:=false} (A.mark h) N env μ s ρ σ μ' s'):aS C lv A N env μ s ρ σ μ' s':=
 ⟨P.fz0,⟨G.quiet,P.good.frz,P.good.room,P.good.units,P.good.top,P.good.base,P.good.low,P.good.lt,P.good.sim,⟨P.good.frs.all⟩⟩,⟨P.fr.fn,P.fr.glob,P.fr.blt,P.fr.nodup,P.fr.plain,P.fr.kinds,P.fr.hidL,P.fr.freeL,P.fr.cellsIn,P.fr.cells,P.fr.apart,P.fr.fe,P.fr.vals⟩,P.ext,P.kept⟩
theorem jm {body orelse suite:List Stmt} {b₀:Stmt} {t:Expr} {rest:List Im} {pos pos':Pos} {T:String} (hb:fY C lv N body ρ σ X ρ₁ σ₁) (ht:aH C {lv with q:=false} N t ρ₁ σ₁ (.con (.type T)) ρ₁ σ₁)
  (hexc:IP (.type T) (.type "BaseException")=pure true) (hnt:IP (.type ((Manifest.find? T).elim "type" fun x=>x.metatype)) (.type "tuple")=pure false) (hsub:IP (.type X) (.type T)=pure true)
  (hs:ay C {lv with q:=false} N (b₀ :: suite) ρ₁ σ₁ o ρ₂ σ₂):aq C lv N (.Try body (.ExceptHandler (some t) none (b₀ :: suite) pos :: rest) orelse [] pos') ρ σ o ρ₂ σ₂:=by
 intro A env μ s Q E ok G F hQ
 refine Jx (hb A env μ s _ _ ok G F fun x μ1 s1 P1 f1=>Ag P1 f1 fun L μ2 s2 hf P2 N2=>oR (f:=none) P2 N2 fun s3 P3 N3=>?_)
 refine wpAny_handleBy_builtin hexc hnt hsub (ht _ env μ2 s3 _ _ ok P3.good.mark P3.fr.mark fun v μ4 s4 P4 hv=>⟨hv,?_,?_⟩)
 ·have' N4:=N3.stands P3.fr.mark P4
  obtain ⟨vs,T',ts,a,_⟩:=N4;obtain ⟨oe,he,hc,_⟩:=a.rc;exact ⟨oe,he,hc⟩
 ·rw [if_pos rfl]
  have' N4:=N3.stands P3.fr.mark P4;have P34:=P3.trans (P4.unmark G);have' P34m:aS C {lv with q:=false} (A.mark (some (.ref x))) N env μ s ρ₁ σ₁ μ4 s4:=⟨P34.fz0,P34.good.mark,P34.fr.mark,P34.ext,P34.kept⟩;refine oR (f:=none) P34m N4 fun s5 P5 N5=>?_
  exact hs _ env μ4 s5 _ _ ok P5.good P5.fr fun f μ6 s6 P6 r=>hQ f μ6 s6 ((P5.unmark G).trans (P6.unmark G)) r
theorem qh {body orelse:List Stmt} {h₀:Im} {hs:List Im} {pos:Pos} (hb:ay C lv N body ρ σ .nxt ρ₁ σ₁) (ho:ay C lv N orelse ρ₁ σ₁ o ρ₂ σ₂):aq C lv N (.Try body (h₀ :: hs) orelse [] pos) ρ σ o ρ₂ σ₂:=fun A env μ s Q E ok G F hQ=>
 Jx (hb A env μ s _ _ ok G F fun f μ1 s1 P1 r=>by
  obtain rfl:=r;exact ho A env μ1 s1 _ _ ok P1.good P1.fr fun f μ2 s2 P2 r=>hQ f μ2 s2 (P1.trans P2) r)
theorem jw {body orelse:List Stmt} {h₀:Im} {hs:List Im} {pos:Pos} (hb:ay C lv N body ρ σ o ρ₁ σ₁) (ho:o≠.nxt):aq C lv N (.Try body (h₀ :: hs) orelse [] pos) ρ σ o ρ₁ σ₁:=fun A env μ s Q E ok G F hQ=>
 Jx (hb A env μ s _ _ ok G F fun f μ1 s1 P1 r=>by
  have z:=hQ f μ1 s1 P1 r
  cases o with
  | nxt=>exact absurd rfl ho
  | brk=>obtain rfl:=r;exact z
  | cnt=>obtain rfl:=r;exact z
  | ret a=>obtain ⟨v,rfl,_⟩:=r;exact z)
noncomputable def iQ (C:Cx) (lv:Lv) (N:aE) (tg:Expr) (body:List Stmt):List AV->aO->aC->String->aO->aC->Prop
 | [],_,_,_,_,_=>False
 | x :: xs,ρ,σ,X,ρ',σ'=>∀ P:Prop,(∀ ρ₁ σ₁ o ρ₂ σ₂ ρ₃,c8 C lv N tg x ρ σ ρ₁ σ₁->ay C lv N body ρ₁ σ₁ o ρ₂ σ₂->o=.nxt\/o=.cnt->Sub ρ₂ ρ₃->iQ C lv N tg body xs ρ₃ σ₂ X ρ' σ'->P)->(∀ ρ₁ σ₁,c8 C lv N tg x ρ σ ρ₁ σ₁->fY C lv N body ρ₁ σ₁ X ρ' σ'->P)->P
theorem iQ.turn {tg:Expr} {body:List Stmt} {x:AV} {xs:List AV} (a:c8 C lv N tg x ρ σ ρ₁ σ₁) (b:ay C lv N body ρ₁ σ₁ o ρ₂ σ₂) (c:o=.nxt\/o=.cnt) (d:Sub ρ₂ ρ₃) (e:iQ C lv N tg body xs ρ₃ σ₂ X ρ' σ'):iQ C lv N tg body (x :: xs) ρ σ X ρ' σ':=fun P k zz=>k _ _ _ _ _ _ a b c d e
theorem iQ.exc {tg:Expr} {body:List Stmt} {x:AV} {xs:List AV} (a:c8 C lv N tg x ρ σ ρ₁ σ₁) (b:fY C lv N body ρ₁ σ₁ X ρ₂ σ₂):iQ C lv N tg body (x :: xs) ρ σ X ρ₂ σ₂:=fun P zz k=>k _ _ a b
theorem xV {t iter:Expr} {body orelse:List Stmt} {pos:Pos} {ls:List Nat} {items:List AV} (hi:gK C lv N t iter ls ρ σ items ρ₁ σ₁) (hf:iQ C {lv with fz:=ls++lv.fz} N t body items ρ₁ σ₁ X ρ' σ')
  (hs:autoParam (∀ env x,Fp iter env x=pure x) aJ):iM C lv N (.For t iter body orelse pos) ρ σ X ρ' σ':=fun A env μ s Q E ok G F hE=>by
 refine wpAny_For (hi A env μ s _ _ ok G F fun I μ1 s1 P1 hIt=>?_) (hs env)
 obtain ⟨fp,wr,P,St,W,st0,hlt,hfp,hwr,-,hP⟩:=hIt
 have hz1:μ1.fz=lv.fz:=P1.good.frz
 rw [hz1] at hfp
 have hnf:∀ b∈fp,¬ FA A b:=fun b hb=>(hfp b hb).2
 have' hwL:∀ b∈wr,¬ env.locals=b:=fun b hb q=>by
  obtain ⟨m,hn,_⟩:=F.vals;have l1:=ltA hn.lt;have l2:=leA (hwr b hb).2.2
  rw [q] at l1;omega
 have' hwC:∀ b∈wr,∀ p∈env.cells,¬ p.2=b:=fun b hb p hp q=>by
  obtain ⟨_,_,_,v,hv⟩:=F.cells p hp;have l1:=ltA hv.lt;have l2:=leA (hwr b hb).2.2
  rw [q] at l1;omega
 have G1:=P1.good.fz (ls++lv.fz)
 have F1:=P1.fr.fz (ls++lv.fz)
 generalize hm:({μ1 with fz:=ls++lv.fz}:Mu)=m1 at G1 F1 hfp
 have hh1:m1.hid=μ1.hid:=by rw [<- hm]
 have ho1:m1.objs=μ1.objs:=by rw [<- hm]
 have hf1:m1.foot=μ1.foot:=by unfold Mu.foot;rw [ho1]
 have WWh:∀ b,(WS m1 N env b\/b∈wr)\/FA A b->b∈m1.hid\/s1.heap.objs.size<=b:=G1.fw fun b hb=>hb.elim (fun q=>.inl (dE G1.sim F1 b q)) fun q=>.inl (hh1▸(hwr b q).1)
 have fin0:∀ {ρ':aO} {σ':aC} μ3 s3,aT C {lv with fz:=ls++lv.fz} A μ3 σ' s3->aM A N env μ3 ρ' s3.heap->Ext m1 μ3 s1.heap.objs.size->aL A (fun b=>WS m1 N env b\/b∈wr) s1 s3->aS C lv A N env μ s ρ' σ' {μ3 with fz:=lv.fz} s3:=by
  intro ρ' σ' μ3 s3 g f x k;have x':Ext μ1 {μ3 with fz:=lv.fz} s1.heap.objs.size:=⟨by have:=x.grow;rw [ho1] at this;exact this,fun b hb=>x.sub b (hh1▸hb),fun b hb=>hh1▸x.new b hb⟩
  refine ⟨G.frz,g.fz lv.fz,f.fz lv.fz,P1.ext.trans x' P1.kept.le,P1.kept.trans k fun b hb=>?_⟩
  rcases hb with q | q
  ·rw [<- hm,<- hz1] at q
   exact bi P1.ext (hz1.trans G.frz.symm) b (WS.fz q)
  ·exact .inr (hwr b q).2.2
 refine Km (fun n s₂=>∃ i ρ₂ σ₂ μ₂,zc C {lv with fz:=ls++lv.fz} A N env (fun xs ρ₂ σ₂=>iQ C {lv with fz:=ls++lv.fz} N t body xs ρ₂ σ₂ X ρ' σ') items m1 s1 wr St n i ρ₂ σ₂ μ₂ s₂)
  (fun n s₂ hI=>?_) (items.length - 0) ⟨0,ρ₁,σ₁,m1,hf,G1,F1,Ext.refl _ _,aL.refl _ _ _,st0,rfl,Ek _⟩
 clear hf P1 hi hs
 obtain ⟨i,ρ₂,σ₂,μ₂,V⟩:=hI
 have G2:=V.good
 have x2:=V.ext
 have step:∀ h' tk,(∀ b o,b∉wr->s₂.heap.get? b=some o->h'.get? b=some o)->s₂.heap.objs.size<=h'.objs.size->
   aT C {lv with fz:=ls++lv.fz} A μ₂ σ₂ {s₂ with heap:=h',toks:=tk}/\aM A N env μ₂ ρ₂ h'/\aL A (fun b=>WS m1 N env b\/b∈wr) s1 {s₂ with heap:=h',toks:=tk}:=by
  intro h' tk hk hl;have k:aL A (·∈wr) s₂ {s₂ with heap:=h',toks:=tk}:=⟨h',_,_,rfl,⟨hl,id⟩,fun b o hb e=>.inl (hk b o hb e)⟩
  have w1:∀ b∈wr,b∈μ₂.hid:=fun b hb=>x2.sub b (hh1▸(hwr b hb).1)
  refine ⟨G2.turn k w1 (fun b hb q=>?_) (fun b hf hb=>absurd hf (hnf b (W.sub b hb))),V.fr.ext (s':={s₂ with heap:=h',toks:=tk}) (Ext.refl _ _) k (G2.fw fun b hb=>.inl (w1 b hb)) (fun q=>hwL _ q rfl) (fun p hp q=>hwC _ q p hp rfl),V.kept.trans k fun b hb=>.inl (.inr hb)⟩
  rcases x2.foot b q with q | q
  ·exact (hwr b hb).2.1 (hf1▸q)
  ·exact absurd (hlt b (W.sub b hb)) (E0.mpr q)
 have keepSt:∀ j (s₃ s₄:Shared) μ₃ σ₃ ρ₃,St j s₃.heap->Ext m1 μ₃ s1.heap.objs.size->aT C {lv with fz:=ls++lv.fz} A μ₃ σ₃ s₃->aM A N env μ₃ ρ₃ s₃.heap->aL A (WS μ₃ N env) s₃ s₄->St j s₄.heap:=by
  intro j s₃ s₄ μ₃ σ₃ ρ₃ st x g f k;refine W.frame j _ _ st fun b hb o e=>k.at (fun q=>?_) (hnf b hb) e
  rcases bi x (by rw [g.frz,<- hm]) b q with q | q
  ·exact (hfp b hb).1 q
  ·exact absurd (hlt b hb) (E0.mpr q)
 have hf:=V.run
 rcases JH i items.length with hi | hi
 case inr=>rw [Fk hi] at hf;exact hf.elim
 rw [Gb hi] at hf
 refine hf _ (fun ρa σa o ρb σb ρc ha hb ho hs hn=>?_) fun ρa σa ha hb=>?_<;>
  refine W.item i s₂ _ _ _ hi V.st (fun v s1 h=>h) fun v h' tk hv st' hk hl=>?_
 ·obtain ⟨g,f,k⟩:=step h' tk hk hl
  have r:af μ₂ h' _ v:=hP i v _ _ _ _ (E8 hi) hv G2.lt ((Mov.of (s':={s₂ with heap:=h',toks:=tk}) x2 k WWh).eqL hh1 ho1);refine ha A env μ₂ _ v _ _ ok g f r fun μ3 s3 P3=>hb A env μ3 s3 _ _ ok P3.good P3.fr fun fl μ4 s4 P4 r=>?_
  have k4:=(k.trans P3.kept fun b q=>(bi x2 (by rw [G2.frz,<- hm]) b q).imp .inl id)
  have x3:=x2.trans P3.ext k.le;have' k5:=(k4.trans P4.kept fun b q=>(bi x3 (by rw [P3.good.frz,<- hm]) b q).imp .inl id)
  have' st4:St (i+1) s4.heap:=keepSt _ s3 s4 μ3 _ _ (keepSt _ {s₂ with heap:=h',toks:=tk} s3 μ₂ _ _ st' x2 g f P3.kept) x3 P3.good P3.fr P4.kept;have z:=zc.mk (K:=fun xs ρ₂ σ₂=>iQ C {lv with fz:=ls++lv.fz} N t body xs ρ₂ σ₂ X ρ' σ') hn P4.good (P4.fr.sub hs) (x3.trans P4.ext k4.le) k5 st4 rfl hi
  rcases ho with rfl | rfl<;>obtain rfl:=r<;>exact ⟨_,V.left▸mR hi,_,_,_,_,z⟩
 ·obtain ⟨g,f,k⟩:=step h' tk hk hl
  have' r:af μ₂ h' _ v:=hP i v _ _ _ _ (E8 hi) hv G2.lt ((Mov.of (s':={s₂ with heap:=h',toks:=tk}) x2 k WWh).eqL hh1 ho1);refine ha A env μ₂ _ v _ _ ok g f r fun μ3 s3 P3=>hb A env μ3 s3 _ _ ok P3.good P3.fr fun x μ4 s4 P4 f4=>?_
  have k4:=(k.trans P3.kept fun b q=>(bi x2 (by rw [G2.frz,<- hm]) b q).imp .inl id)
  have x3:=x2.trans P3.ext k.le;have' k5:=(k4.trans P4.kept fun b q=>(bi x3 (by rw [P3.good.frz,<- hm]) b q).imp .inl id)
  have' P5:=fin0 μ4 s4 P4.good P4.fr (x3.trans P4.ext k4.le) k5;have' P3':=fin0 μ3 s3 P3.good P3.fr x3 k4;have' f5:Fly C s.heap env {μ4 with fz:=lv.fz} s4.heap x X:=by
   have' f4':Fly C s.heap env μ4 s4.heap x X:=Fly.le F G P3' f4
   rcases f4' with ⟨vs,a,b⟩ | ⟨L,hL,vs,T,ts,a,b,c,d⟩
   ·exact .inl ⟨vs,⟨a.new,a.old,a.foot,a.rc⟩,b⟩
   ·exact .inr ⟨L,hL,vs,T,ts,⟨a.new,a.old,a.foot,a.rc⟩,b,⟨c.new,c.old,c.foot,c.ne,c.rc⟩,d⟩
  refine Ag P5 f5 fun L μ6 s6 hL P6 N6=>?_
  show LA (model C.prog C.w) A env E (.ref x) s6
  have' N6':=N6;obtain ⟨vs,T,ts,a,b,c,d⟩:=N6';obtain ⟨oe,he,hc,hdd⟩:=a.rc;unfold LA;refine EA (IN he hdd b ?_)
  rw [if_neg (by simp),hL]
  exact oR (f:=some L) P6 N6 fun s7 P7 N7=>hE x μ6 s7 P7 (.inr ⟨L,hL,N7⟩)
end
section
variable {C:Cx} {lv:Lv} {N:aE} {ρ ρ₁ ρ₂ ρ₃ ρ' ρ₀:aO} {σ σ₁ σ₂ σ₃ σ':aC} {o:Out} {A:Around} {env:Env} {μ μ' μ₁:Mu} {s s' s₁:Shared} {a b:AV} {X:String} {e:Addr} {n:Nat}
noncomputable def zk (C:Cx) (lv:Lv) (σ:aC) (f:Value) (as:List AV) (X:String) (σ':aC):Prop:=
 ∀ (N:aE) (ρ:aO) (A:Around) (env:Env) (μ:Mu) (s:Shared) (vs:List Value) (Q:Value->Shared->Prop) (E:Value->Shared->Prop),C.Ok->aT C lv A μ σ s->aM A N env μ ρ s.heap->aw μ s.heap as vs->
  lQ C lv A N env μ s ρ σ' X E->wpAny (model C.prog C.w) A (call f vs) Q E s
theorem uq {ob e:Expr} {es:List Expr} {name:Str} {apos pos:Pos} {T id:String} {as:List AV} (ho:aH C lv N ob ρ σ a ρ₁ σ₁) (ha:jI C lv N (e :: es) ρ₁ σ₁ as ρ₂ σ₂) (ty:ml C σ₁ a T) (pa:PlainAttrs T) (sl:Slot T name id)
  (hty:typeOf (.builtin id)=pure (.type "method_descriptor")) (hc:zk C lv σ₂ (.builtin id) (a :: as) X σ₃) (hbase:autoParam (∀ env,HO ob name env (eval ob env)=eval ob env) aI)
  (hfew:autoParam (∀ env,((backTo pos (Fv (e :: es) env)).all (fun x=>!x.1) && (HB pos (GE [] env)).all (fun x=>x.1.isSome)
   && decide ((e :: es).length+([]:List IE).length+(if ([]:List IE).isEmpty then 0 else 1)<30))=true) aI)
  (hline:autoParam ((apos.endLine==pos.line)=true) aR) (hn:autoParam ((e :: es).all bx=true) aR):sM C lv N (.Call (.Attribute ob name apos) (e :: es) [] pos) ρ σ X ρ₂ σ₃:=by
 intro A env μ s Q E ok G F hE
 refine H9 (hbase env) (hfew env) hline rfl (ho A env μ s _ _ ok G F fun v μ1 s1 P1 hv=>⟨T,id,pa,sl,hty,(ty μ1 s1 v P1.good.sim hv).1,(ty μ1 s1 v P1.good.sim hv).2,?_⟩)
 have h:=ha A env μ1 s1 pos (fun vs s₁=>wpAny (model C.prog C.w) A (call (.builtin id) (v :: vs)) Q E s₁) E ok P1.good P1.fr fun vs μ2 s2 P2 r=>
  hc N ρ₂ A env μ2 s2 (v :: vs) _ _ ok P2.good P2.fr ⟨P2.val P1.good P1.fr hv,r⟩ (hE.behind G F (P1.trans P2))
 refine Fu (be hn) ?_
 rw [GG,E7] at hn
 rw [a7 hn.1] at h ⊢
 exact FO h
theorem nu {h':Heap} {tk:Nat} {x:Addr} (G:aT C lv A μ σ s) (F:aM A N env μ ρ s.heap) (hx:Lc s.heap h' x X) (hl:s.heap.objs.size<=h'.objs.size) :
  aS C lv A N env μ s ρ σ μ {s with heap:=h',toks:=tk}/\Fly C s.heap env μ h' x X:=by
 obtain ⟨hk,hn,oe,t,he,hc,hd⟩:=hx
 refine ⟨aS.grow G F (ab hl hk),.inl ⟨_,⟨hn,?_,fun q=>?_,oe,he,hc,hd⟩,rfl⟩⟩
 ·cases hq:C.h0.get? x with
  | none=>rfl
  | some o=>rw [G.base _ _ hq] at hn;cases hn
 ·obtain ⟨p,hp,hb⟩:=HW.mp q
  obtain ⟨i,hi⟩:=Iv hp;have hlt:i<σ.length:=by rw [<- G.sim.len];exact (EI.mp hi).1
  obtain ⟨ob,hob⟩:=(G.sim.rep i p σ[i] hi (E8 hlt)).there x hb
  rw [hn] at hob;cases hob
theorem AX {ws:List Str} {vs:List Value} {bs:List Addr} {h:Heap} (r:FW h vs (ws.map .str) bs) (w:Str) (t:Tok):(∀ y∈vs,MeetsSeq.EqGives y (.str w t) (match y with | .str z _=>z==w | _=>false))/\vs.map (fun y=>match y with | .str z _=>z==w | _=>false)=ws.map fun z=>z==w:=by
 induction ws generalizing vs bs with
 | nil=>cases r using RA0;exact ⟨(fun y hy=>nomatch hy),rfl⟩
 | cons z ws ih=>
  cases r using RA1 with
  | cons r1 r2=>
   obtain ⟨i1,i2⟩:=ih r2
   cases r1 using RS with
   | str u=>
    refine ⟨fun y hy=>?_,by rw [E6,E6,i2]⟩
    rcases ES.mp hy with rfl | hy
    ·exact eqGives_str z w u t
    ·exact i1 y hy
noncomputable def isW (w:Str):Value->Bool
 | .str z _=>z==w
 | _=>false
theorem k9 {h:Heap} {as:List AV} {vs:List Value} (k:Nat) (r:aw μ h as vs):aw μ h (as.eraseIdx k) (vs.eraseIdx k):=by
 refine aw.ind (motive:=fun as vs=>∀ k,aw μ h (as.eraseIdx k) (vs.eraseIdx k)) r (fun zz=>trivial) (fun zz zz as vs h1 r ih k=>?_) k
 cases k with
 | zero=>exact r
 | succ k=>exact ⟨h1,ih k⟩
theorem qR {ws:List Str} {vs:Array Value} {h:Heap} (r:aw μ h ((ws.map FY).map .dat) vs.toList) (w:Str) (t:Tok):vs.size=ws.length/\(∀ y,y∈vs->MeetsSeq.EqGives y (.str w t) (isW w y))/\∀ (k:Nat) (hk:k<vs.size) (hk':k<ws.length),isW w vs[k]=(ws[k]==w):=by
 obtain ⟨bs,ra⟩:=fL r
 obtain ⟨h1,h2⟩:=AX ra w t
 have hlen:vs.size=ws.length:=by have:=bN r;simpa using this
 refine ⟨hlen,fun y hy=>h1 y (by simpa using hy),fun k hk hk'=>?_⟩
 have:=congrArg (fun l=>l[k]?) h2
 simp [hk,hk'] at this
 exact this
theorem mM {α β:Type} (f:α->β):∀ (l:List α) (j:Nat),(l.eraseIdx j).map f=(l.map f).eraseIdx j:=by
 intro l
 induction l with
 | nil=>exact fun zz=>rfl
 | cons x l ih=>
  intro j
  cases j with
  | zero=>rfl
  | succ j=>rw [IQ,E6,ih j,E6,IQ]
theorem iV (its:Array Value) (n j:Nat):∃ n',Ey (·.eraseIdxIfInBounds j) {cls:=.type "list",data:=.seq its n}={cls:=.type "list",data:=.seq (its.eraseIdxIfInBounds j) n'}:=by
 simp only [Ey]
 exact ⟨_,rfl⟩
theorem mV {i j:Nat} {ws:List Str} {w:Str} (hx:σ[i]? = some (.list ((ws.map FY).map .dat))) (hz:i∉lv.fz) (hsz:ws.length<=FG) (hj:ws[j]? = some w) (hno:∀ m,m<j->ws[m]?≠some w) :
  dS C lv σ (.builtin "list.remove") [.ref i,.dat (.str w)] (.dat .none) (σ.set i (.list (((ws.eraseIdx j).map FY).map .dat))):=by
 intro N ρ A env μ s vs Q E ok G F r hQ
 obtain ⟨u,v,rfl,⟨p,hp,e⟩,⟨as,rv⟩⟩:=r.e2
 subst e
 cases rv using RS with
 | str t=>
  obtain ⟨e1,items,⟨n,ho⟩,hr⟩:=G.sim.rep i p _ hp hx;have hl:p.1∈p.2:=by rw [e1];exact .head _
  obtain ⟨hlen,heq,hat⟩:=qR hr w t;have hjl:j<ws.length:=(EI.mp hj).1;refine JW PySem.F.slot_list_remove ⟨_,ho,rfl⟩ PySem.F.entry_list_remove (PySem.F.args_list_remove_2 _ _) (MeetsSeq.list_remove p.1 items n (.str w t) (isW w) heq j (by omega) ?_ (fun m hm hlt=>?_) (by rw [hlen];exact hsz)) ⟨ho,?_⟩
  ·rw [hat j (by omega) hjl]
   have:=(EI.mp hj).2
   rw [this];exact beq_self_eq_true w
  ·rw [hat m hm (by omega)]
   refine beq_eq_false_iff_ne.mpr fun q=>hno m hlt ?_
   rw [E8 (by omega),q]
  ·obtain ⟨n',e'⟩:=iV items n j
   have hpl:(s.heap.update p.1 (Ey fun xs=>xs.eraseIdxIfInBounds j)).PlainList p.1 (items.eraseIdxIfInBounds j):=⟨n',by rw [FQ _ ho (by rw [e'];rfl),e']⟩
   have k:=g9 (A:=A) hl (GY.update (h:=s.heap) (a:=p.1) (f:=Ey fun xs=>xs.eraseIdxIfInBounds j))
   have' hW:∀ b,b∈p.2\/FA A b->b∈μ.hid\/s.heap.objs.size<=b:=G.fw fun b hb=>.inl (G.sim.foot b (aj (EK hp) hb))
   refine hQ _ μ _ (aS.write G F hp hz k ⟨e1,_,hpl,?_⟩) ⟨[],.none⟩;have' he:(items.eraseIdxIfInBounds j).toList=items.toList.eraseIdx j:=by simp
   have' he2:((ws.eraseIdx j).map FY).map AV.dat=((ws.map FY).map AV.dat).eraseIdx j:=by rw [mM,mM]
   rw [he,he2]
   exact k9 j (aw.mono (Ext.refl _ _) k hW hr)
theorem vP {i:Nat} {ws:List Str} {w:Str} (hx:σ[i]? = some (.list ((ws.map FY).map .dat))) (hno:w∉ws) (hq:lv.q=true):zk C lv σ (.builtin "list.remove") [.ref i,.dat (.str w)] "ValueError" σ:=by
 intro N ρ A env μ s vs Q E ok G F r hE
 obtain ⟨u,v,rfl,⟨p,hp,e⟩,⟨as,rv⟩⟩:=r.e2
 subst e
 cases rv using RS with
 | str t=>
  obtain ⟨e1,items,⟨n,ho⟩,hr⟩:=G.sim.rep i p _ hp hx;obtain ⟨hlen,heq,hat⟩:=qR hr w t;refine ao (JW PySem.F.slot_list_remove ⟨_,ho,rfl⟩ PySem.F.entry_list_remove (PySem.F.args_list_remove_2 _ _) (MeetsSeq.list_remove_none p.1 items n (.str w t) (isW w) heq (fun m hm=>?_)) ⟨ho,G.quiet hq,fun h' tk x hx hl=>?_⟩)
  ·rw [hat m hm (by omega)]
   exact beq_eq_false_iff_ne.mpr fun q=>hno (q▸Ge (by omega))
  ·obtain ⟨P,f⟩:=nu (tk:=tk) G F hx hl
   exact hE x μ _ P f
theorem sO {ds:List PyData} (hz:ds.length<=FG):dS C lv σ (.type "list") [.dat (.list ds)] (.ref σ.length) (σ++[.list (ds.map .dat)]):=by
 intro N ρ A env μ s vs Q E ok G F r hQ
 obtain ⟨v,rfl,⟨as,rv⟩⟩:=r.e1
 cases rv using RL with
 | @list l o items n as ho hc hd hr=>
  have' hlen:items.size=ds.length:=a9 hr;refine ao (call_list_seq l (.inl rfl) (Ex _ ho) hc hd (fun h' c' hk hnew hsz=>?_) (by rw [hlen];exact hz))
  have k:aL A0 NoW s {s with heap:=h'}:=ab (tk:=s.toks) hsz hk;have' hlt:s.heap.objs.size<h'.objs.size:=Ea hnew;have P2:=aS.alloc (a:=s.heap.objs.size) (fp:=[s.heap.objs.size]) (o:=.list (ds.map .dat)) (s':={s with heap:=h'}) G F k (fun b hb=>by rw [EG.mp hb];exact ⟨EH _,hlt⟩) (.head _)
   ⟨rfl,items,⟨_,hnew⟩,aw.mono (s':={s with heap:=h'}) (⟨⟨_,rfl,fun p hp b hb=>by rw [EG.mp hp] at hb;rw [EG.mp hb];exact EH _⟩,fun zz h=>ED.mpr (.inr h),fun b h=>by
    rcases ED.mp h with q | q
    ·rw [EG.mp q];exact .inr (EH _)
    ·exact .inl q⟩:Ext μ (μ.add s.heap.objs.size [s.heap.objs.size]) s.heap.objs.size) k noW (ic hr)⟩
  refine hQ _ _ _ P2 ⟨(s.heap.objs.size,[s.heap.objs.size]),?_,rfl⟩
  show (μ.objs++[_])[σ.length]? = _
  rw [<- G.sim.len,EV]
theorem fY.sub {b:List Stmt} (h:fY C lv N b ρ σ X ρ₁ σ₁) (hs:Sub ρ₁ ρ₂):fY C lv N b ρ σ X ρ₂ σ₁:=fun A env μ s Q E ok G F hE=>h A env μ s Q E ok G F fun x μ' s' P f=>hE x μ' s' (P.sub hs) f
end
section
variable {C:Cx} {lv:Lv} {N:aE} {ρ ρ₁ ρ₂ ρ₃ ρ' ρ₀:aO} {σ σ₁ σ₂ σ₃ σ':aC} {o:Out} {A:Around} {env:Env} {μ μ' μ₁:Mu} {s s' s₁:Shared} {a b:AV} {X:String} {e:Addr} {n:Nat}
theorem mL {t1 t2:Expr} {k:Nat} {pos:Pos} {d1 d2:PyData} (h1:c8 C lv N t1 (.dat d1) ρ σ ρ₁ σ₁) (h2:c8 C lv N t2 (.dat d2) ρ₁ σ₁ ρ₂ σ₂) (hq:autoParam (lv.q=true) aR)
  (he:autoParam (∀ env,IF [t1,t2] env=[(false,assign t1 env),(false,assign t2 env)]) aI):c8 C lv N (.Tuple [t1,t2] k pos) (.dat (.tuple [d1,d2])) ρ σ ρ₂ σ₂:=by
 intro A env μ s v Q E ok G F qq1 hQ
 obtain ⟨as,r⟩:=qq1
 cases r using RT with
 | @tuple t o items n _ ho hc hd hr=>
  have' ht:IsTup s.heap t items:=⟨o,Ex _ ho,hc,n,hd⟩;have hlen:items.size=2:=a9 hr
  rw [arm_assign_Tuple,he]
  refine EA (FP ?_);unfold unpack
  rw [show ([(false,assign t1 env),(false,assign t2 env)]:List (Bool×(Value->Sem Unit))).length=items.size by rw [hlen];rfl,show ([(false,assign t1 env),(false,assign t2 env)]:List (Bool×(Value->Sem Unit))).findIdx? (·.1)=none from rfl]
  refine EA (ao (EY (unpackItems_tuple (G.quiet hq) ht fun h' hx hsz=>?_)))
  have' k0:aL A0 NoW s {s with heap:=h'}:=ab (tk:=s.toks) hsz fun b o e=>hx b o (FE (Ea e)) e
  have P0:=aS.grow G F k0;obtain ⟨v1,v2,hv⟩:∃ v1 v2,items.toList=[v1,v2]:=by
   rcases h:items.toList with _ | ⟨v1,_ | ⟨v2,_ | ⟨v3,r⟩⟩⟩<;>rw [<- FM,h] at hlen<;>first | exact ⟨_,_,rfl⟩ | simp at hlen
  rw [hv] at hr ⊢
  cases hr with
  | cons r1 hr=>cases hr with
   | cons r2 hr=>
    have' r1':af μ h' (.dat d1) v1:=P0.val G F ⟨_,r1⟩;have' r2':af μ h' (.dat d2) v2:=P0.val G F ⟨_,r2⟩
    show wpAny _ _ (assignInOrder [assign t1 env,assign t2 env] [v1,v2]) _ _ _
    refine EA (EY (h1 A env μ _ v1 _ _ ok P0.good P0.fr r1' fun μ1 s1 P1=>?_))
    refine EA (EY (h2 A env μ1 s1 v2 _ _ ok P1.good P1.fr (P1.val P0.good P0.fr r2') fun μ2 s2 P2=>?_))
    exact EF (hQ μ2 s2 (P0.trans (P1.trans P2)))
theorem l4:∀ {a b:List Int},a.Perm b->a.Pairwise (·<=·)->b.Pairwise (·<=·)->a=b:=by
 intro a
 induction a with
 | nil=>intro b hp _ _;exact (Jn.mp hp).symm
 | cons x a ih=>
  intro b hp ha hb
  cases b with
  | nil=>exact absurd hp.length_eq (by simp)
  | cons y b=>
   rw [Fe] at ha hb
   have' h1:y<=x:=by
    rcases ES.mp (hp.mem_iff.mp (.head _)) with q | q
    ·exact Int.le_of_eq q.symm
    ·exact hb.1 x q
   have' h2:x<=y:=by
    rcases ES.mp (hp.mem_iff.mpr (.head _)) with q | q
    ·exact Int.le_of_eq q.symm
    ·exact ha.1 y q
   obtain rfl:x=y:=Int.le_antisymm h2 h1
   rw [ih hp.cons_inv ha.2 hb.2]
theorem wP {h:Heap} {ns:List Int} {vs:List Value} {as:List Addr} (q:FW h vs (ns.map Fw) as):IntsAre vs ns:=by
 induction ns generalizing vs as with
 | nil=>cases q using RA0;exact .nil
 | cons n ns ih=>cases q using RA1 with
  | cons r t=>cases r using RI;exact .cons _ _ (ih t)
theorem wJ {h:Heap} {vs:List Value} {ns:List Int} (q:IntsAre vs ns):∃ as,FW h vs (ns.map Fw) as:=by
 induction q with
 | nil=>exact ⟨_,.nil⟩
 | cons n t _ ih=>exact let ⟨_,z⟩:=ih;⟨_,.cons (.int n t) z⟩
noncomputable def xm (ns:List Int):List Int:=ns.mergeSort fun a b=>decide (a<=b)
theorem pK {ns ms:List Int} (hp:ms.Perm ns) (hs:ms.Pairwise (·<=·)):ms=xm ns:=by
 refine l4 (hp.trans (G8 ..).symm) hs ?_
 have:=IR (le:=fun (a b:Int)=>decide (a<=b)) (fun a b c h1 h2=>by simp at *;omega) (fun a b=>by simp;omega) ns
 exact this.imp fun h=>by simpa using h
theorem uW {ns:List Int} (hz:ns.length<64):fO C lv σ (.builtin "sorted") [.dat (.list (ns.map .int))] (.list ((xm ns).map .int)):=by
 intro A μ s vs Q E ok G r hQ
 obtain ⟨v,rfl,⟨as,rv⟩⟩:=r.e1
 cases rv using RL with
 | @list l o items n as ho hc hd hr=>
  have' hlen:items.size=ns.length:=(a9 hr).trans (EC ..);have' hl:s.heap.IsList l items.toList.toArray:=⟨o,Ex _ ho,hc,n,by simpa using hd⟩
  refine ao (sorted_ints hl (wP hr) (by rw [FM,hlen];exact hz) fun out ns' a1 a2 a3 hsz=>?_)
  obtain ⟨e,he⟩:=sortedAll_at s.heap items.toList out;have k:aL A0 NoW s {s with heap:=Kg s.heap items.toList out}:=ab (tk:=s.toks) hsz fun b o q=>sortedAll_old q
  rw [pK a2 a3] at a1
  obtain ⟨cs,z⟩:=wJ (h:=cK μ.hid (Kg s.heap items.toList out)) a1;exact hQ _ _ _ k (.list (F9 _ he fun hm=>absurd (G.lt _ hm) (E0.mpr (Eg _))) rfl rfl (by simpa using z))
theorem mh {v0:PyData} {Tx T:String} (hty:typeOf (.type T)=pure (.type "type")) (hsub:IP (.type Tx) (.type T)=pure true) (ht:∀ h v as (s:Shared),s.heap=h->Reads h v v0 as->s.TypeIs v Tx) :
  fO C lv σ (.builtin "isinstance") [.dat v0,.con (.type T)] (.bool true):=by
 intro A μ s vs Q E ok G r hQ
 obtain ⟨v,c,rfl,⟨as,rv⟩,hc⟩:=r.e2
 obtain rfl:c=.type T:=hc
 exact call_isinstance (isinstance_true hty hsub) ⟨ht _ _ _ s rfl (cP rv),hQ _ s [] (aL.refl _ _ _) (.bool _)⟩
theorem qj {ds:List PyData}:fO C lv σ (.builtin "isinstance") [.dat (.tuple ds),.con (.type "tuple")] (.bool true):=
 mh (Tx := "tuple") (by show pure (F7 ((Manifest.find? "tuple").elim "type" fun x=>x.metatype))=_;kernel_rfl) (by rw [Gl];kernel_rfl) fun h v as s e r=>by
  cases r with
  | tuple ho hc=>subst e;exact ⟨_,ho,hc⟩
theorem yN (v:Value):∀ (n:Nat) (acc:Array Value),(LC (fun x1 x2=>x1++x2) acc (FK n #[v])).toList=acc.toList++FK n v:=by
 intro n
 induction n with
 | zero=>
  intro acc
  simp
 | succ n ih=>
  intro acc
  rw [Kn,Fh,ih,Kn];simp
theorem nN {h:Heap} {v:Value} {d:PyData} {as:List Addr} (r:Reads h v d as):∀ n:Nat,∃ cs,FW h (FK n v) (FK n d) cs:=by
 intro n
 induction n with
 | zero=>exact ⟨_,.nil⟩
 | succ n ih=>exact ih.elim fun zz z=>⟨_,.cons r z⟩
theorem uO (l:Addr) (items:Array Value) (n:Nat) (d:Option Addr) (sl:Array (Option Value)) (x:Int) (u:Tok) (h0:0<=x) (h1:x<=1000) (hsz:items.size * x.toNat<=1000) :
  Meets (En.«list.__mul__» ⟨[.ref l,.int x u],[]⟩) (fun zz R s=>s.heap.get? l=some {cls:=.type "list",dict:=d,data:=.seq items n,slots:=sl}/\R (.ok (.ret (Fg s.heap.objs.size))) {s with heap:=s.heap.push {cls:=F7 "list",data:=Data.seq (LC (fun x1 x2=>x1++x2) #[] (FK (if items.isEmpty=true then 0 else x.toNat) items))},toks:=s.toks}):=
 lm_list_mul_any l items n d sl x u (by simp [En.List.listFitsIndex];omega) (by omega) (by simp [En.List.listTooLong,FG];omega)
theorem AI {α:Type} {l:List α} (h:l.length=1):∃ v,l=[v]:=List.length_eq_one_iff.mp h
theorem vt {d:PyData} {m:Int} (hm0:0<=m) (hm:m<=1000):Op2 C (Iu .Mult) (.list [d]) (.int m) (.list (FK m.toNat d)):=by
 intro A hot u v s as bs Q E hu ru rv hh hQ
 cases rv using RI with
 | int t=>cases ru using RL with
  | @list l o items k as ho hc hd hr=>
   obtain ⟨cls,dd,data,sl⟩:=o
   simp only at hc hd
   subst hc hd;obtain ⟨v,hv'⟩:=AI (by have h:=a9 hr;exact h)
   have' hv:items = #[v]:=Array.toList_inj.mp hv';subst hv;have ho':=Ex _ ho;have hsz':(#[v]:Array Value).size * m.toNat<=1000:=by rw [Gq];show 1 * m.toNat<=1000;omega
   have' L1:=uO l #[v] k dd sl m t hm0 hm hsz';refine wpAny_binaryOp_repeat_ref (T := "list") (U := "int") (by decide) ⟨_,ho',rfl⟩ (fun s'=>typeIs_int s' m t) noFill_list_mul PySem.F.fills_int_mul PySem.F.slot_int_rmul repeat_list PySem.F.slot_int_index.lookup
    (JW PySem.F.slot_int_rmul (typeIs_int s m t) PySem.F.entry_int_rmul (PySem.F.args_int_rmul_2 _ _) (lm_int_rmul_list_any m t l #[v] k dd sl)
     ⟨ho',rfl,⟨_,ho',rfl⟩,JW PySem.F.slot_list_mul ⟨_,ho',rfl⟩ PySem.F.entry_list_mul (PySem.F.args_list_mul_2 _ _)
      L1 ⟨ho',?_⟩⟩)
   have kk:aL A0 NoW s {s with heap:=s.heap.push {cls:=.type "list",data:=.seq (LC (fun x1 x2=>x1++x2) #[] (FK (if (#[v]:Array Value).isEmpty=true then 0 else m.toNat) #[v]))}}:=bB _ s.toks
   obtain ⟨bs1,r1⟩:∃ bs,Reads (cK hot s.heap) v d bs:=by cases hr with | cons r _=>exact ⟨_,r⟩
   obtain ⟨cs,z⟩:=nN (PyProof.Rows.Reads.keeps (cS (hot:=hot) kk) r1) m.toNat;have' e0:(LC (fun x1 x2=>x1++x2) #[] (FK (if (#[v]:Array Value).isEmpty=true then 0 else m.toNat) #[v])).toList=FK m.toNat v:=by
    rw [show (if (#[v]:Array Value).isEmpty=true then 0 else m.toNat)=m.toNat by simp,yN];rfl
   exact hQ _ _ _ kk (.list (as:=cs) (F9 _ (EP _ rfl) fun hm=>E2 _ (hh _ hm)) rfl rfl (by rw [e0];exact z))
end
theorem e8.ofT {prog:Fn} {w:World} {A:Around} {elts:List Expr} {k:Nat} {pos:Pos} {I:Addr} {fp wr:List Addr} {n:Nat} {Pt:Nat->Array Value->Prop} {St:Nat->Heap->Prop} {Md:Nat->Addr->Heap->Prop} (W:WalksT prog w A I fp wr n Pt St Md) :
  e8 prog w A (.Tuple elts k pos) I fp wr n (fun i v n h=>∃ T vals,v=.ref T/\Pt i vals/\n<=T/\h.IsTuple T vals) St where
 sub:=W.sub
 frame:=W.frame
 item:=fun i s Q K E hi st hQ hK=>ao (W.item i s _ _ hi st fun T vals h' tk hP hT htup hm hk hl=>hQ (.ref T) _ (ao (W.go elts k pos i T _ _ _ hm fun h2 st2 hk2 hl2=>
  hK (.ref T) h2 tk ⟨T,vals,rfl,hP,hT,htup.at fun o e=>hk2 T o (W.apart i T _ hm) e⟩ st2 (fun b o hb e=>hk2 b o hb (hk b o hb e)) (EE hl hl2))))
 done:=W.done
 self:=W.self
theorem uV (z l1 l2:Nat) (h1:l1<z) (h2:l2<z):ZipApart (z+4) (z+2) (z+3) z (z+1) l1 l2:=by
 constructor<;>first | exact FE (by omega) | exact IW (by omega)
theorem vr {z n b:Nat} (hn:n=z+5) (hb:b=z+4\/b=z+3\/b=z\/b=z+1):z<=b/\b<n:=by omega
theorem zO {z:Nat} (h:z+2=z+4\/z+2=z+3\/z+2=z\/z+2=z+1):False:=by omega
noncomputable def wm (p:PyData×PyData):AV:=.dat (.tuple [p.1,p.2])
section
variable {C:Cx} {lv:Lv} {N:aE} {ρ ρ₁ ρ₂ ρ₃ ρ' ρ₀:aO} {σ σ₁ σ₂ σ₃ σ':aC}
theorem xM {tg e f:Expr} {rp rpos:Pos} {xs ys:List PyData} (g:bw N "zip") (hm:C.mg "zip" = none) (hb:C.mb "zip" = some (.type "zip")) (he:aH C lv N e ρ σ (.dat (.list xs)) ρ₁ σ₁) (hf:aH C lv N f ρ₁ σ₁ (.dat (.list ys)) ρ₂ σ₂)
  (ht:autoParam (zm tg=true) aR) (hn:autoParam (bx e=true) aR) (hn':autoParam (bx f=true) aR) (hq:autoParam (lv.q=true) aR):gK C lv N tg (.Call (.Name "zip" rp) [e,f] [] rpos) [] ρ σ ((xs.zip ys).map wm) ρ₂ σ₂:=by
 intro A env μ s Q E ok G F hQ
 refine GI ?_
 refine kO (pos:=rp) g hm hb A env μ s _ _ ok G F fun v μ0 s0 P0 e0=>?_
 obtain rfl:=e0
 rw [show backTo rpos (Fv [e,f] env)=[(false,eval e env),(false,eval f env)] by rw [a7 hn,a7 hn'];rfl]
 refine PySem.callWith_type rfl (FO (FS (he A env μ0 s0 _ _ ok P0.good P0.fr fun nv μ1 s1 P1 r=>FS (hf A env μ1 s1 _ _ ok P1.good P1.fr fun nv' μ2 s2 P2 qq1=>Fo ?_))))
 obtain ⟨as',r'⟩:=qq1
 obtain ⟨as,r⟩:=P2.val P1.good P1.fr r
 cases r using RL with
 | @list l1 o1 vs n1 as ho1 hc1 hd1 hr1=>cases r' using RL with
 | @list l2 o2 ws n2 bs ho2 hc2 hd2 hr2=>
  have hl1:s2.heap.IsList l1 vs:=⟨o1,Ex _ ho1,hc1,n1,hd1⟩;have hl2:s2.heap.IsList l2 ws:=⟨o2,Ex _ ho2,hc2,n2,hd2⟩;have b1:l1<s2.heap.objs.size:=Ea (Ex _ ho1);have b2:l2<s2.heap.objs.size:=Ea (Ex _ ho2);have z1:vs.size=xs.length:=a9 hr1;have z2:ws.size=ys.length:=a9 hr2;have P02:=P0.trans (P1.trans P2)
  refine call_zip_2 hl1 hl2 fun h' i1 i2 i3 i4 i5 i6 i7=>?_
  refine wpAny_pyIter_zip i1 ?_;have k:aL A0 NoW s2 {s2 with heap:=h'}:=ab (tk:=s2.toks) (by rw [i6];exact EM _ _) i7
  generalize hz:s2.heap.objs.size=z at *
  have' D:ZipApart (z+4) (z+2) (z+3) z (z+1) l1 l2:=uV z l1 l2 b1 b2;have W:=WalksT.zip2 (prog:=C.prog) (w:=C.w) (A:=A) (P02.good.quiet hq) (z+4) (z+2) (z+3) z (z+1) l1 l2 D vs ws
  rw [show min vs.size ws.size=((xs.zip ys).map wm).length by simp [z1,z2]] at W
  cases tg<;>first | cases ht | skip
  refine (fun (hh:_/\_)=>hQ _ _ _ (P02.trans hh.1) hh.2) (jj (s':={s2 with heap:=h'}) (ls:=[]) (base:=s.heap.objs.size) (news:=[z+4,z+3,z,z+1]) P02.good P02.fr P02.kept.le (.ofT W) (fun b hb=>by
    rw [hz]
    simp only [ES,Fb,or_false] at hb
    exact vr i6 hb) (fun b hb=>hb) k ⟨i1,i2,⟨_,_,i3⟩,i4,i5,hl1.at fun o e=>i7 _ o e,hl2.at fun o e=>i7 _ o e⟩ (fun b hb=>?_) fun i v a n hp μ' e hh hlt m=>?_)
  ·simp only [ES,Fb,or_false] at hb
   rcases hb with rfl | rfl | rfl | rfl | rfl | rfl | rfl
   ·exact .inl (by simp)
   ·refine .inr (.inl ⟨by rw [hz];exact EM _ _,by show _<h'.objs.size;rw [i6];exact HP (by decide) z,fun q=>?_⟩)
    simp only [ES,Fb,or_false] at q
    exact zO q
   ·exact .inl (by simp)
   ·exact .inl (by simp)
   ·exact .inl (by simp)
   ·exact .inr (.inr ⟨hz▸b1,ng P02.good P02.fr ho1,fun q=>absurd q (kM ho1)⟩)
   ·exact .inr (.inr ⟨hz▸b2,ng P02.good P02.fr ho2,fun q=>absurd q (kM ho2)⟩)
  ·obtain ⟨T,vals,hv,⟨x,y,hx,hy,hvals⟩,hT,hTu⟩:=hh
   subst hv hvals
   rw [Ei] at e
   obtain ⟨p,hp',rfl⟩:=FL.mp e;obtain ⟨ex,ey⟩:=List.getElem?_zip_eq_some.mp hp';obtain ⟨cs1,r1⟩:=bg hr1 i x p.1 (by simpa using hx) ex
   obtain ⟨cs2,r2⟩:=bg hr2 i y p.2 (by simpa using hy) ey
   obtain ⟨o,ho,hc,nn,hd⟩:=hTu;exact ⟨_,.tuple (F9 _ ho fun q=>absurd (hlt _ q) (E0.mpr hT)) hc hd (.cons (m.rd r1) (.cons (m.rd r2) .nil))⟩
end
structure cB (K:Frag) (c:Addr):Prop where
 pg:K4 K c "" = true
 hd:hasDictIn K c=true
 sa:findIn K (.ref c) "__setattr__" = some (some (.builtin "object.__setattr__"))
 po:plainOver K c=true
theorem cB.ga {K:Frag} {c:Addr} (h:cB K c):findIn K (.ref c) "__getattribute__" = some (some (.builtin "object.__getattribute__")):=by
 have:=h.pg;unfold K4 at this;simp only [E7,beq_iff_eq] at this;exact this.1
theorem cB.ge {K:Frag} {c:Addr} (h:cB K c):findIn K (.ref c) "__getattr__" = some none:=by
 have:=h.pg;unfold K4 at this;simp only [E7,beq_iff_eq] at this;exact this.2
noncomputable def iE:AV->Bool
 | .con v=>handedIn v
 | _=>true
theorem j0 {μ:Mu} {h:Heap} {a:AV} {v:Value} (r:af μ h a v) (ha:iE a=true):handedIn v=true:=by
 cases a with
 | dat d=>obtain ⟨as,r⟩:=r;cases r<;>rfl
 | ref i=>obtain ⟨p,_,rfl⟩:=r;rfl
 | con c=>obtain rfl:=r;exact ha
theorem xw {P:Params} {μ:Mu} {h:Heap} {name:Str} {a:AV} {xs:List (Str×AV)} {es:List GQ} (r:cX P μ h xs es):xs.lookup name=some a->∃ e,es.find? (·.key.isStr name)=some e/\af μ h a e.val:=by
 refine cX.ind r (fun e=>by cases e) fun x b e xs es hv zz ih hl=>?_
 obtain ⟨_,⟨t,hk⟩,hv⟩:=hv
 rw [GR] at hl
 rw [JA,hk]
 show ∃ e',(match x==name with | true=>some e | false=>es.find? fun x=>x.key.isStr name)=some e'/\_
 by_cases q:x=name
 ·subst q
  rw [beq_self_eq_true] at hl ⊢
  cases hl
  exact ⟨e,rfl,hv⟩
 ·rw [beq_eq_false_iff_ne.mpr q]
  rw [beq_eq_false_iff_ne.mpr (Ne.symm q)] at hl
  exact ih hl
theorem te {P:Params} {μ:Mu} {h:Heap} {name:Str} {a:AV} {xs:List (Str×AV)} {es:List GQ} (r:cX P μ h xs es) (hl:xs.lookup name=some a):∃ v,getL name es=some (some v)/\af μ h a v:=by
 obtain ⟨e,he,hv⟩:=xw r hl
 exact ⟨e.val,by unfold getL;rw [he],hv⟩
theorem rT {P:Params} {μ:Mu} {h:Heap} {name:Str} {xs:List (Str×AV)} {es:List GQ} (r:cX P μ h xs es):xs.lookup name=none->es.find? (·.key.isStr name)=none/\es.any (·.refKey)=false:=by
 refine cX.ind r (fun zz=>⟨rfl,rfl⟩) fun x b e xs es hv zz ih hl=>?_
 obtain ⟨_,⟨t,hk⟩,hv⟩:=hv
 rw [GR] at hl
 have q:x≠name:=fun q=>by subst q;rw [beq_self_eq_true] at hl;cases hl
 rw [beq_eq_false_iff_ne.mpr (Ne.symm q)] at hl
 obtain ⟨h1,h2⟩:=ih hl
 refine ⟨?_,?_⟩
 ·rw [JA,hk]
  show (match x==name with | true=>some e | false=>es.find? fun x=>x.key.isStr name)=none
  rw [beq_eq_false_iff_ne.mpr q];exact h1
 ·rw [IB,h2];unfold GQ.refKey;rw [hk];rfl
theorem kR {P:Params} {μ:Mu} {h:Heap} {name:Str} {xs:List (Str×AV)} {es:List GQ} (r:cX P μ h xs es) (hl:xs.lookup name=none):getL name es=some none:=by
 obtain ⟨h1,h2⟩:=rT r hl
 unfold getL;rw [h1];simp only [h2];rfl
theorem ot {P:Params} {μ:Mu} {h:Heap} {xs:List (Str×AV)} {es:List GQ} (r:cX P μ h xs es):es.any (·.refKey)=false:=by
 refine cX.ind r rfl fun x b e xs es hv zz ih=>?_
 obtain ⟨_,⟨t,hk⟩,hv⟩:=hv
 rw [IB,ih];unfold GQ.refKey;rw [hk];rfl
noncomputable def lz (name:Str) (a:AV):List (Str×AV)->List (Str×AV)
 | []=>[(name,a)]
 | (x,b) :: r=>if x==name then (x,a) :: r else (x,b) :: lz name a r
theorem xj {P:Params} {μ:Mu} {h:Heap} {name:Str} {a:AV} {v:Value} {t:Tok} (rv:af μ h a v) {xs:List (Str×AV)} {es:List GQ} (r:cX P μ h xs es):cX P μ h (lz name a xs) (putL name (HX P name) (.str name t) v es):=by
 refine cX.ind r ⟨⟨rfl,⟨t,rfl⟩,rv⟩,trivial⟩ fun x b e xs es hv r ih=>?_
 obtain ⟨h1,⟨u,hk⟩,hv⟩:=hv
 unfold lz putL
 rw [hk]
 show cX P μ h _ (if (x==name)=true then _ else _)
 by_cases q:(x==name)=true
 ·rw [if_pos q,if_pos q];exact ⟨⟨h1,⟨u,rfl⟩,rv⟩,r⟩
 ·rw [if_neg q,if_neg q];exact ⟨⟨h1,⟨u,hk⟩,hv⟩,ih⟩
theorem wy (name:Str) (hs:Int) (k v:Value):∀ es:List GQ,(putL name hs k v es).length<=es.length+1:=by
 intro es
 induction es with
 | nil=>exact EH _
 | cons e r ih=>
  unfold putL
  split
  ·exact Eg _
  ·rw [EX,EX];exact GH ih
theorem yK {P:Params} {μ:Mu} {h:Heap} {xs:List (Str×AV)} {es:List GQ} (r:cX P μ h xs es):es.length=xs.length:=cX.ind r rfl fun zz zz zz zz zz zz zz ih=>congrArg (· + 1) ih
section
variable {C:Cx} {lv:Lv} {N:aE} {ρ ρ₁ ρ₂ ρ₃ ρ' ρ₀:aO} {σ σ₁ σ₂ σ₃ σ':aC} {o:Out} {A:Around} {env:Env} {μ μ':Mu} {s s':Shared} {a b:AV} {i:Nat} {c:Addr} {xs:List (Str×AV)} {name:Str} {pos apos:Pos}
theorem Sim.inst (S:Sim C μ σ s.heap) (hx:σ[i]? = some (.inst c xs)) {v:Value} (r:af μ s.heap (.ref i) v) :
  ∃ p dx es n,v=.ref p.1/\μ.objs[i]? = some p/\p.2=[p.1,dx]/\p.1≠dx/\s.heap.get? dx=some (dictOf es n)/\cX C.w.params μ s.heap xs es/\W.InstAt s.heap p.1 (Go c dx) c (some (dictOf es n)):=by
 obtain ⟨p,hp,rfl⟩:=r
 obtain ⟨dx,es,n,e,ne,h1,h2,h3⟩:=S.rep i p _ hp hx
 exact ⟨p,dx,es,n,rfl,hp,e,ne,h2,h3,⟨h1,rfl,rfl,h2⟩⟩
theorem xN {v:Value} {expr:Bool} {Q:Value->Shared->Prop} {E:Value->Shared->Prop} (ok:C.Ok) (G:aT C lv A μ σ s) (F:aM A N env μ ρ s.heap) (hx:σ[i]? = some (.inst c xs)) (hc:cB C.K c) (hf:findIn C.K (.ref c) name=some none) (hl:xs.lookup name=some a) (ha:iE a=true) (r:af μ s.heap (.ref i) v)
  (hQ:∀ u μ' s',aS C lv A N env μ s ρ σ μ' s'->af μ' s'.heap a u->Q u s'):wpAny (model C.prog C.w) A (JK v name expr) Q E s:=by
 obtain ⟨p,dx,es,n,rfl,hp,e,ne,hd,hr,I⟩:=G.sim.inst hx r
 obtain ⟨u,hu,ru⟩:=te hr hl
 exact get_value (G.inK ok) I hc.ga (findObj_own hc.hd hf rfl hu) (j0 ru ha) (hQ u μ _ (aS.grow G F (ae _)) ru)
theorem pz {dx:Addr} {es es':List GQ} {n n':Nat} {h:Heap} {f:Obj->Obj} (hd:h.get? dx=some (dictOf es n)) (hf:f (dictOf es n)=dictOf es' n'):(h.update dx f).get? dx=some (dictOf es' n'):=hf▸FQ _ hd (hf▸rfl)
theorem yO {v u:Value} {Q:Unit->Shared->Prop} {E:Value->Shared->Prop} (ok:C.Ok) (G:aT C lv A μ σ s) (F:aM A N env μ ρ s.heap) (hx:σ[i]? = some (.inst c xs)) (hz:i∉lv.fz) (hc:cB C.K c) (hf:findIn C.K (.ref c) name=some none) (hn:xs.length<1000)
  (r:af μ s.heap (.ref i) v) (ru:af μ s.heap a u) (hQ:∀ s',aS C lv A N env μ s ρ (σ.set i (.inst c (lz name a xs))) μ s'->Q () s'):wpAny (model C.prog C.w) A (setAttr v name u) Q E s:=by
 obtain ⟨p,dx,es,n,rfl,hp,e,ne,hd,hr,I⟩:=G.sim.inst hx r
 have X:=G.inK ok
 refine set_plain X I hc.sa ?_
 have' I':W.InstAt ({s with toks:=s.toks+1}:Shared).heap p.1 (Go c dx) c (some (dictOf es n)):=I
 refine osa_open (s:={s with toks:=s.toks+1}) X I' hc.po (r:=none) (by unfold takerIn;rw [hf];rfl) fun bb=>?_
 obtain ⟨cd,hcd,hdd⟩:=Lo hc.hd
 refine EA (EF (EA (EA (wpAny_loadPart I.at_ (EA (Looks.here (s:={s with toks:=s.toks+1}) (Ld X hcd) ?_))))))
 rw [hdd]
 refine EF (a:=some dx) (EA (EF (EA ?_)))
 unfold nsSet
 refine EA (EA (Ig (EF (EA (wpAny_mkText (EA (wpAny_loadPart hd ?_)))))))
 have' hrk:=ot hr
 have' cc:(!es.toArray.any (·.key.isStr name) && es.toArray.any (·.refKey))=false:=by
  rw [show es.toArray.any (·.refKey)=false by rw [<- Array.any_toList];exact hrk,Bool.and_false]
 dsimp only
 rw [aRefKeyMayBeTheName_at,cc]
 have' e1:Obj.putName name (HX C.w.params name) (.str name (s.toks+1)) u (dictOf es n)=dictOf (putL name (HX C.w.params name) (.str name (s.toks+1)) u es) (putN name es n):=putName_dict ..
 have hd':=pz hd e1
 refine wpAny_updatePart hd ?_
 refine EA (wpAny_lookBehind hd' (by
  have h1:=wy name (HX C.w.params name) (.str name (s.toks+1)) u es;have h2:=yK hr;exact pastItsLine_dict (by rw [Gq,EO];omega)) ?_)
 refine EF (hQ _ ?_)
 have' hmem:p∈μ.objs:=EK hp
 have k:aL A (·∈p.2) s {s with heap:=s.heap.update dx (Obj.putName name (HX C.w.params name) (.str name (s.toks+1)) u),toks:=s.toks+1+1}:=
  ⟨_,_,_,rfl,⟨E9 (Gg ..).symm,id⟩,fun b o hb eb=>.inl ((G9 _ _ _ _ (fun q=>hb (by rw [e,<- q];simp))).trans eb)⟩
 have hW:∀ b,b∈p.2\/FA A b->b∈μ.hid\/s.heap.objs.size<=b:=G.fw fun b hb=>.inl (G.sim.foot b (aj hmem hb))
 exact aS.write G F hp hz k ⟨dx,_,_,e,ne,(G9 _ _ _ _ ne).trans I.at_,hd',xj (af.mono (Ext.refl _ _) k hW ru) (cX.mono (Ext.refl _ _) k hW hr)⟩
end
section
variable (C:Cx) (lv:Lv) (N:aE)
noncomputable def pp (es:List Expr) (kws:List IE) (ρ:aO) (σ:aC) (as:List AV) (ks:List (Str×AV)) (ρ':aO) (σ':aC):Prop:=
 ∀ (A:Around) (env:Env) (μ:Mu) (s:Shared) (pos:Pos) (f:Value) (Q:Args->Shared->Prop) (E:Value->Shared->Prop),C.Ok->aT C lv A μ σ s->aM A N env μ ρ s.heap->
  (∀ vs kvs μ' s',aS C lv A N env μ s ρ' σ' μ' s'->aw μ' s'.heap as vs->dD μ' s'.heap ks kvs->Q ⟨vs,kvs⟩ s')->wpAny (model C.prog C.w) A (K5 f true (backTo pos (Fv es env)) (HB pos (GE kws env))) Q E s
noncomputable def bu (σ:aC) (o:AV) (name:Str) (a:AV):Prop:=
 ∀ (N:aE) (ρ:aO) (A:Around) (env:Env) (μ:Mu) (s:Shared) (v:Value) (expr:Bool) (Q:Value->Shared->Prop) (E:Value->Shared->Prop),C.Ok->aT C lv A μ σ s->aM A N env μ ρ s.heap->af μ s.heap o v->
  (∀ u μ' s',aS C lv A N env μ s ρ σ μ' s'->af μ' s'.heap a u->Q u s')->wpAny (model C.prog C.w) A (JK v name expr) Q E s
noncomputable def jC (σ:aC) (o:AV) (name:Str) (a:AV) (σ':aC):Prop:=
 ∀ (N:aE) (ρ:aO) (A:Around) (env:Env) (μ:Mu) (s:Shared) (v u:Value) (Q:Unit->Shared->Prop) (E:Value->Shared->Prop),C.Ok->aT C lv A μ σ s->aM A N env μ ρ s.heap->af μ s.heap o v->af μ s.heap a u->
  (∀ μ' s',aS C lv A N env μ s ρ σ' μ' s'->Q () s')->wpAny (model C.prog C.w) A (setAttr v name u) Q E s
end
section
variable {C:Cx} {lv:Lv} {N:aE} {ρ ρ₁ ρ₂ ρ₃ ρ' ρ₀:aO} {σ σ₁ σ₂ σ₃ σ₄ σ':aC} {o:Out} {A:Around} {env:Env} {μ μ':Mu} {s s':Shared} {a b:AV} {i:Nat} {c:Addr} {xs:List (Str×AV)} {name:Str} {pos apos:Pos} {e:Expr} {as:List AV} {ks:List (Str×AV)} {m:Nat}
theorem bZ:pp C lv N [] [] ρ σ [] [] ρ σ:=fun A env μ s pos f Q E ok G F hQ=>PySem.evalArgs_none (hQ [] [] μ s (aS.refl G F) trivial trivial)
theorem aZ {es:List Expr} (h:jI C lv N (e :: es) ρ σ as ρ₁ σ₁) (hn:autoParam (bx e=true) aR):pp C lv N (e :: es) [] ρ σ as [] ρ₁ σ₁:=by
 intro A env μ s pos f Q E ok G F hQ
 have h':=h A env μ s pos (fun vs s'=>Q ⟨vs,[]⟩ s') E ok G F fun vs μ1 s1 P1 r=>hQ vs [] μ1 s1 P1 r trivial
 rw [a7 hn] at h' ⊢
 exact FO h'
inductive vj:PyData->List PyData->Prop
 | list {ds}:vj (.list ds) ds
 | tuple {ds}:vj (.tuple ds) ds
theorem jL {d:PyData} {ds:List PyData} (sd:vj d ds) (hz:ds.length<=FG) {v:Value} {Q:List Value->Shared->Prop} {E:Value->Shared->Prop} (G:aT C lv A μ σ s) (F:aM A N env μ ρ s.heap) (r:af μ s.heap (.dat d) v)
  (hQ:∀ vs s',aS C lv A N env μ s ρ σ μ s'->aw μ s'.heap (ds.map .dat) vs->Q vs s'):wpAny (model C.prog C.w) A (notIterableAtAll v) (fun b s₁=>b=false/\wpAny (model C.prog C.w) A (Lk v) Q E s₁) E s:=by
 obtain ⟨as,r⟩:=r
 cases sd with
 | list=>cases r using RL with
  | @list l ob items n as ho hc hd hr=>
   have' hT:s.TypeIs (.ref l) "list" := ⟨_,Ex _ ho,hc⟩;have' hlen:items.size=ds.length:=a9 hr;refine EA (JB hT PySem.F.slot_list_iter.lookup (EF ⟨rfl,?_⟩));refine ao (Jf l (.inl rfl) (Ex _ ho) hc hd (fun h' hk hl=>?_) (by rw [hlen];exact hz))
   have k:aL A0 NoW s {s with heap:=h'}:=ab (tk:=s.toks) hl hk;exact hQ _ _ (aS.grow G F k) (ic (PyProof.Rows.ReadsAll.keeps (cS k) hr))
 | tuple=>cases r using RT with
  | @tuple l ob items n as ho hc hd hr=>
   have' hT:s.TypeIs (.ref l) "tuple" := ⟨_,Ex _ ho,hc⟩;have' hlen:items.size=ds.length:=a9 hr;refine EA (JB hT PySem.F.slot_tuple_iter.lookup (EF ⟨rfl,?_⟩));refine ao (Jf l (.inr rfl) (Ex _ ho) hc hd (fun h' hk hl=>?_) (by rw [hlen];exact hz))
   have k:aL A0 NoW s {s with heap:=h'}:=ab (tk:=s.toks) hl hk;exact hQ _ _ (aS.grow G F k) (ic (PyProof.Rows.ReadsAll.keeps (cS k) hr))
theorem vR {p:Pos} {d:PyData} {ds:List PyData} (h:aH C lv N e ρ σ (.dat d) ρ₁ σ₁) (sd:vj d ds) (hz:ds.length<=FG):pp C lv N [.Starred e p] [] ρ σ (ds.map .dat) [] ρ₁ σ₁:=by
 intro A env μ s pos f Q E ok G F hQ
 have' e1:backTo pos (Fv [.Starred e p] env)=[(true,do let v <- eval e env;HQ pos;pure v)]:=rfl
 rw [e1]
 unfold K5
 refine EA (EA (h A env μ s _ _ ok G F fun v μ1 s1 P1 r=>EA (FP (EF (EA (EF (EY ?_)))))))
 rw [if_pos (by rfl)]
 refine EA (EF (a:=[]) (EA (EA (Ep (jL sd hz P1.good P1.fr r (Q:=fun vs s'=>Q ⟨vs,[]⟩ s') fun vs s2 P2 rv=>hQ vs [] μ1 s2 (P1.trans P2) rv trivial) (fun bb s2 z=>?_) fun zz zz z=>z))))
 obtain ⟨rfl,z⟩:=z
 rw [if_neg (by decide)]
 exact EY (Ep z (fun vs s3 w=>EF w) fun zz zz z=>z)
theorem r9 {x:Expr} {p:Pos} {d:PyData} {ds:List PyData} (h0:aH C lv N x ρ σ a ρ₁ σ₁) (h:aH C lv N e ρ₁ σ₁ (.dat d) ρ₂ σ₂) (sd:vj d ds) (hz:ds.length<=FG) (hn:autoParam (bx x=true) aR):pp C lv N [x,.Starred e p] [] ρ σ (a :: ds.map .dat) [] ρ₂ σ₂:=by
 intro A env μ s pos f Q E ok G F hQ
 rw [a7 hn]
 have' e1:backTo pos ((false,eval x env) :: Fv [.Starred e p] env)=[(false,eval x env),(true,do let v <- eval e env;HQ pos;pure v)]:=rfl
 rw [e1]
 refine FO (FS (h0 A env μ s _ _ ok G F fun u μ1 s1 P1 ru=>?_))
 unfold spliced
 refine EA (EA (h A env μ1 s1 _ _ ok P1.good P1.fr fun v μ2 s2 P2 r=>EA (FP (EF ?_))))
 rw [if_pos rfl]
 refine EA (Ep (jL sd hz P2.good P2.fr r (Q:=fun vs s'=>Q ⟨u :: vs,[]⟩ s') fun vs s3 P3 rv=>hQ (u :: vs) [] μ2 s3 (P1.trans (P2.trans P3)) ⟨(P2.trans P3).val P1.good P1.fr ru,rv⟩ trivial) (fun bb s3 z=>?_) fun zz zz z=>z)
 obtain ⟨rfl,z⟩:=z
 rw [if_neg (by decide)]
 refine EA (Ep z (fun vs s4 w=>EA (EY (Fo (EF ?_)))) fun zz zz z=>z)
 rw [FF];exact w
theorem yT {x y:Expr} {k:Str} {p:Pos} (h0:aH C lv N x ρ σ a ρ₁ σ₁) (h:aH C lv N y ρ₁ σ₁ b ρ₂ σ₂) (hn:autoParam (bx x=true) aR):pp C lv N [x] [⟨some k,y,p⟩] ρ σ [a] [(k,b)] ρ₂ σ₂:=by
 intro A env μ s pos f Q E ok G F hQ
 rw [a7 hn]
 have' e1:backTo pos ((false,eval x env) :: Fv [] env)=[(false,eval x env)]:=rfl
 rw [e1]
 unfold K5
 refine EA (FS (h0 A env μ s _ _ ok G F fun u μ1 s1 P1 ru=>Fo ?_))
 refine EA (EF (EY ?_))
 rw [if_pos (by rfl)]
 refine EA ?_
 show wpAny _ _ (evalAll [do let v <- eval y env;HQ pos;pure v]) _ _ _
 unfold evalAll
 refine EA (EA (h A env μ1 s1 _ _ ok P1.good P1.fr fun v μ2 s2 P2 rv=>EA (FP (EF ?_))))
 refine EA (EY ?_)
 unfold evalAll
 refine EF (EF (EA (EF (EF ?_))))
 exact hQ [u] [(k,v)] μ2 s2 (P1.trans P2) ⟨P2.val P1.good P1.fr ru,trivial⟩ ⟨⟨rfl,rv⟩,trivial⟩
theorem ir {K:Frag} {f:Value} {first:List Value} {args:List (Bool×Sem Value)} {kws:List (Option Str×Sem Value)} {M:Model} {Q:Value->Shared->Prop} {E:Value->Shared->Prop} (hk:keepIn K f=true)
  (h:wpAny M A (K5 f true args kws) (fun a s₁=>K.In s₁.heap/\wpAny M A (call f (first++a.pos) a.kw) Q E s₁) E s):wpAny M A (HL pos f first args kws) Q E s:=by
 unfold HL
 refine EA (EY (Ep h (fun a s₁ h₁=>EA (FP ?_)) fun zz zz x=>x))
 obtain ⟨k,hk',L⟩:=looks_keep (M:=M) hk h₁.1
 refine EA (L.here ?_)
 have tail:∀ {t:Sem Value},wpAny M A t Q E s₁->wpAny M A (t >>= fun r=>Hu [r] point >>= fun zz=>pure r) Q E s₁:=
  fun ht=>EA (Ep ht (fun r s₂ hr=>EA (EY (Le (EF hr)))) fun zz zz x=>x)
 have marked (mk:Value):wpAny M A (callMarked mk f (first++a.pos) a.kw) Q E s₁:=by unfold callMarked;exact Calls.wpAny_keep h₁.2
 generalize (args.any (·.1) || kws.any (·.1.isNone))=star
 rcases hk' with rfl | rfl<;>cases star<;>dsimp only
 ·split<;>first | exact tail h₁.2 | exact tail (marked _)
 ·exact tail (marked _)
 ·exact tail h₁.2
 ·exact tail (KQ h₁.2)
structure wf (C:Cx) (σ:aC) (a:AV) (name:Str) (f:Addr):Prop where
 get:∀ (A:Around) (μ:Mu) (s:Shared) (v:Value) (pl:Sem Bool) (Q:Value×List Value->Shared->Prop) (E:Value->Shared->Prop),C.K.In s.heap->Sim C μ σ s.heap->af μ s.heap a v->Q (.ref f,[v]) s->wpAny (model C.prog C.w) A (IS v name pl) Q E s
theorem bC {f:Addr} (hx:σ[i]? = some (.inst c xs)) (hc:cB C.K c) (hf:findIn C.K (.ref c) name=some (some (.ref f))) (ht:typeIn C.K (.ref f)=some (.type "function")) (hl:xs.lookup name=none):wf C σ (.ref i) name f:=
 ⟨fun A μ s v pl Q E X S r h=>by
  obtain ⟨p,dx,es,n,rfl,hp,e,ne,hd,hr,I⟩:=S.inst hx r;exact method_fn X I hc.ga hc.ge hf ht (by show (lookIn name (dictOf es n)).map _=_;rw [lookIn_dict,kR hr hl];rfl) h⟩
theorem bD {ob:Expr} {es:List Expr} {kws:List IE} {f:Addr} (ho:aH C lv N ob ρ σ a ρ₁ σ₁) (hm:wf C σ₁ a name f) (hk:keepIn C.K (.ref f)=true) (hv:pp C lv N es kws ρ₁ σ₁ as ks ρ₂ σ₂) (hc:aP C m lv.fz (.ref f) (a :: as) ks σ₂ b σ') (hmn:autoParam (m<=lv.n) aD) (hq:autoParam (lv.q=true) aR)
  (hw:∀ env,∃ pl,eval (.Call (.Attribute ob name apos) es kws pos) env=(do
   let ov <- eval ob env
   HQ apos.atName
   let (f,first) <- Hu [ov] (IS ov name pl)
   HL pos f first (backTo pos (Fv es env)) (HB pos (GE kws env))):=by intro _;exact ⟨_,rfl⟩):aH C lv N (.Call (.Attribute ob name apos) es kws pos) ρ σ b ρ₂ σ':=by
 intro A env μ s Q E ok G F hQ
 obtain ⟨pl,hw⟩:=hw env
 refine Ku (ho A env μ s _ _ ok G F fun v μ1 s1 P1 r=>hm.get _ μ1 s1 v _ _ _ (P1.good.inK ok) P1.good.sim r ?_) hw
 dsimp only
 refine ir hk (hv A env μ1 s1 pos _ _ _ ok P1.good P1.fr fun vs kvs μ2 s2 P2 rv rk=>⟨P2.good.inK ok,?_⟩)
 exact i9 hc hmn hq ok P2.good P2.fr ⟨P2.val P1.good P1.fr r,rv⟩ rk fun v μ3 s3 P3 rv=>hQ v μ3 s3 (P1.trans (P2.trans P3)) rv
theorem ah {x:Str} {np pos:Pos} {es:List Expr} {kws:List IE} {f:Addr} (hf:aH C lv N (.Name x np) ρ σ (.con (.ref f)) ρ₁ σ₁) (hk:keepIn C.K (.ref f)=true) (hv:pp C lv N es kws ρ₁ σ₁ as ks ρ₂ σ₂) (hc:aP C m lv.fz (.ref f) as ks σ₂ a σ') (hm:autoParam (m<=lv.n) aD) (hq:autoParam (lv.q=true) aR)
  (hw:autoParam (∀ env,eval (.Call (.Name x np) es kws pos) env=(do
   let f <- eval (.Name x np) env
   HL pos f [] (backTo pos (Fv es env)) (HB pos (GE kws env)))) aV):aH C lv N (.Call (.Name x np) es kws pos) ρ σ a ρ₂ σ':=by
 intro A env μ s Q E ok G F hQ
 rw [hw]
 refine EA (hf A env μ s _ _ ok G F fun v μ1 s1 P1 hv1=>?_)
 obtain rfl:=hv1
 refine ir hk (hv A env μ1 s1 pos _ _ _ ok P1.good P1.fr fun vs kvs μ2 s2 P2 rv rk=>⟨P2.good.inK ok,?_⟩)
 exact i9 hc hm hq ok P2.good P2.fr rv rk fun v μ3 s3 P3 rv=>hQ v μ3 s3 (P1.trans (P2.trans P3)) rv
end
structure gC (K:Frag) (c:Addr):Prop where
 pg:K4 K c "" = true
 sa:findIn K (.ref c) "__setattr__" = some (some (.builtin "object.__setattr__"))
 po:plainOver K c=true
 cl:(clsIn K c).isSome=true
theorem gC.ga {K:Frag} {c:Addr} (h:gC K c):findIn K (.ref c) "__getattribute__" = some (some (.builtin "object.__getattribute__")):=by
 have:=h.pg;unfold K4 at this;simp only [E7,beq_iff_eq] at this;exact this.1
theorem gC.ge {K:Frag} {c:Addr} (h:gC K c):findIn K (.ref c) "__getattr__" = some none:=by
 have:=h.pg;unfold K4 at this;simp only [E7,beq_iff_eq] at this;exact this.2
structure kh (K:Frag) (c:Addr) (name:Str) (k:Nat):Prop where
 at_:∃ p:Addr,findIn K (.ref c) name=some (some (.ref p))/\JM K (.ref p) "__get__" = some (some (.builtin "member_descriptor.__get__"))/\Kh K (.ref p)=some true/\slotIn K p c=some k/\typeIn K (.ref p)=some (.type "member_descriptor")
noncomputable def kU (xs:List (Option AV)) (k:Nat) (a:AV):List (Option AV):=(xs++FK (k+1 - xs.length) none).set k (some a)
theorem v8 {μ:Mu} {h:Heap} {xs:List (Option AV)} {vs:List (Option Value)} {k:Nat} {a:AV} (r:cw μ h xs vs):xs[k]? = some (some a)->∃ v,vs[k]? = some (some v)/\af μ h a v:=by
 refine cw.ind (motive:=fun xs vs=>∀ k,xs[k]? = some (some a)->∃ v,vs[k]? = some (some v)/\af μ h a v) r (fun k e=>by cases e) (fun x v xs vs hv zz ih k e=>?_) k
 cases k with
 | zero=>
  cases e
  cases v with
  | none=>exact hv.elim
  | some v=>exact ⟨v,rfl,hv⟩
 | succ k=>exact ih k e
theorem yI {μ:Mu} {h:Heap} {xs:List (Option AV)} {vs:List (Option Value)} (r:cw μ h xs vs):vs.length=xs.length:=cw.ind r rfl fun zz zz zz zz zz zz ih=>congrArg (· + 1) ih
theorem wV {μ:Mu} {h:Heap} (n:Nat) {xs:List (Option AV)} {vs:List (Option Value)} (r:cw μ h xs vs):cw μ h (xs++FK n none) (vs++FK n none):=by
 refine cw.ind r ?_ fun zz zz zz zz hv zz ih=>⟨hv,ih⟩
 rw [EW,EW]
 induction n with
 | zero=>exact trivial
 | succ n ih=>exact ⟨trivial,ih⟩
theorem wU {μ:Mu} {h:Heap} {a:AV} {v:Value} (rv:af μ h a v) {xs:List (Option AV)} {vs:List (Option Value)} (k:Nat) (r:cw μ h xs vs):cw μ h (xs.set k (some a)) (vs.set k (some v)):=by
 refine cw.ind (motive:=fun xs vs=>∀ k,cw μ h (xs.set k (some a)) (vs.set k (some v))) r (fun zz=>trivial) (fun x u xs vs hv r ih k=>?_) k
 cases k with
 | zero=>exact ⟨rv,r⟩
 | succ k=>exact ⟨hv,ih k⟩
section
variable {C:Cx} {lv:Lv} {N:aE} {ρ ρ₁ ρ₂ ρ₃ ρ' ρ₀:aO} {σ σ₁ σ₂ σ₃ σ₄ σ':aC} {o:Out} {A:Around} {env:Env} {μ μ':Mu} {s s':Shared} {a b:AV} {i:Nat} {c:Addr} {xs:List (Str×AV)} {name:Str} {pos apos:Pos} {e:Expr} {as:List AV} {ks:List (Str×AV)} {m:Nat} {ys:List (Option AV)} {k:Nat}
theorem cJ (hx:σ[i]? = some (.inst c xs)) (hc:cB C.K c) (hf:findIn C.K (.ref c) name=some none) (hl:xs.lookup name=some a) (ha:autoParam (iE a=true) aR):bu C lv σ (.ref i) name a:=
 fun N ρ A env μ s v expr Q E ok G F r hQ=>xN ok G F hx hc hf hl ha r hQ
theorem bh (hx:σ[i]? = some (.inst c xs)) (hz:i∉lv.fz) (hc:cB C.K c) (hf:findIn C.K (.ref c) name=some none) (hn:xs.length<1000):jC C lv σ (.ref i) name a (σ.set i (.inst c (lz name a xs))):=
 fun N ρ A env μ s v u Q E ok G F r ru hQ=>yO ok G F hx hz hc hf hn r ru fun s' P=>hQ μ s' P
theorem Sim.slot (S:Sim C μ σ s.heap) (hx:σ[i]? = some (.slot c ys)) {v:Value} (r:af μ s.heap (.ref i) v) :
  ∃ p dx vs,v=.ref p.1/\μ.objs[i]? = some p/\p.2=[p.1,dx]/\p.1≠dx/\s.heap.get? dx=some emptyDict/\cw μ s.heap ys vs.toList/\W.InstAt s.heap p.1 {cls:=.ref c,dict:=some dx,data:=.plain,slots:=vs} c (some emptyDict):=by
 obtain ⟨p,hp,rfl⟩:=r
 obtain ⟨vs,dx,e,ne,h1,h2,h3⟩:=S.rep i p _ hp hx
 exact ⟨p,dx,vs,rfl,hp,e,ne,h2,h3,⟨h1,rfl,rfl,h2⟩⟩
theorem dB (hx:σ[i]? = some (.slot c ys)) (hc:gC C.K c) (hs:kh C.K c name k) (hl:ys[k]? = some (some a)) (ha:autoParam (iE a=true) aR):bu C lv σ (.ref i) name a:=by
 intro N ρ A env μ s v expr Q E ok G F r hQ
 obtain ⟨p,dx,vs,rfl,hp,e,ne,hd,hr,I⟩:=G.sim.slot hx r
 obtain ⟨u,hu,ru⟩:=v8 hr hl
 obtain ⟨q,h1,h2,h3,h4,_⟩:=hs.at_
 have X:=G.inK ok
 refine get_bind X I hc.ga (findObj_data hc.cl h1 h2 h3) hc.ge (Ff (slot_get (s:={s with toks:=s.toks+1}) X I h4 (v:=u) (by rw [<- Ic];show (vs.toList[k]?).join=_;rw [hu];rfl) ?_))
 show wpAny _ _ (L7 u) _ _ _
 rw [KG (j0 ru ha)]
 exact EF (hQ u μ _ (aS.grow G F (ae _)) ru)
theorem vo {f p:Addr} {rest:List Value} (hx:σ[i]? = some (.inst c xs)) (hc:cB C.K c) (h1:findIn C.K (.ref c) name=some (some (.ref p))) (h2:JM C.K (.ref p) "__get__" = some (some (.builtin "property.__get__"))) (h3:Kh C.K (.ref p)=some true)
  (h4:recIn C.K p "property" = some (.ref f :: rest)) (hcall:aP C m lv.fz (.ref f) [.ref i] [] σ a σ') (hm:m<lv.n) (hq:lv.q=true) (ha:autoParam (iE a=true) aR) :
  ∀ (N:aE) (ρ:aO) (A:Around) (env:Env) (μ:Mu) (s:Shared) (v:Value) (expr:Bool) (Q:Value->Shared->Prop) (E:Value->Shared->Prop),C.Ok->aT C lv A μ σ s->aM A N env μ ρ s.heap->af μ s.heap (.ref i) v->
  (∀ u μ' s',aS C lv A N env μ s ρ σ' μ' s'->af μ' s'.heap a u->Q u s')->wpAny (model C.prog C.w) A (JK v name expr) Q E s:=by
 intro N ρ A env μ s v expr Q E ok G F r hQ
 obtain ⟨q,dx,es,n,rfl,hp,e,ne,hd,hr,I⟩:=G.sim.inst hx r
 have X:=G.inK ok
 have hcd:(clsIn C.K c).isSome=true:=by obtain ⟨cd,h,_⟩:=Lo hc.hd;rw [h];rfl
 refine get_bind X I hc.ga (findObj_data hcd h1 h2 h3) hc.ge (Ff (prop_get (s:={s with toks:=s.toks+1}) X h4 ?_))
 have' k1:aL A0 NoW s {s with toks:=s.toks+1}:=ae _
 have P0:=aS.grow G F k1
 have G':aT C ⟨true,m,lv.fz⟩ A.in1 μ σ {s with toks:=s.toks+1}:=P0.good.around (fun zz=>G.quiet hq) rfl (by have:=G.room;dsimp only;omega) (by have:=G.units;dsimp only;omega) ⟨G.frs.all⟩
 refine hcall A.in1 μ _ [.ref q.1] [] _ ok G' ⟨r,trivial⟩ trivial fun u μ' s' G2 x2 k2 ru=>?_
 show wpAny _ _ (L7 u) _ _ _
 rw [KG (j0 ru ha)]
 refine EF (hQ u μ' s' (P0.trans ?_) ru)
 have G3:aT C ⟨true,m,lv.fz⟩ A μ' σ' s':=G2.around (fun zz=>G.quiet hq) rfl (by have:=G.room;dsimp only;omega) (by have:=G.units;dsimp only;omega) ⟨G2.frs.all⟩
 exact aS.call rfl P0.good P0.fr G3 x2 (k2.frames fun b hb=>.inl hb)
theorem gR (hx:σ[i]? = some (.slot c ys)) (hz:i∉lv.fz) (hc:gC C.K c) (hs:kh C.K c name k) (hk:k<1000):jC C lv σ (.ref i) name a (σ.set i (.slot c (kU ys k a))):=by
 intro N ρ A env μ s v u Q E ok G F r ru hQ
 obtain ⟨p,dx,vs,rfl,hp,e,ne,hd,hr,I⟩:=G.sim.slot hx r
 obtain ⟨q,h1,h2,h3,h4,h5⟩:=hs.at_
 have X:=G.inK ok
 refine set_plain X I hc.sa ?_
 have' X':C.K.In ({s with toks:=s.toks+1}:Shared).heap:=X
 refine osa_descr (s:={s with toks:=s.toks+1}) (T := "member_descriptor") (i := "member_descriptor.__set__") KF.slot_mset X' I hc.po (p:=q) (by unfold takerIn;rw [h1];show (Kh C.K (.ref q)).map _=_;rw [h3];rfl) h5 ?_
 obtain ⟨nn,tn,owner,behind,tb,d,sl,cd,ho,hcd,hm,hb,rfl⟩:=slot_of X h4
 obtain ⟨hh,g,dr,t,os⟩:=s
 have L0:=I.type (M:=model C.prog C.w)
 have L1:=looks_mroIn (M:=model C.prog C.w) X hm
 have L2:Looks (model C.prog C.w) hh (En.Slots.slotNamesOf (.ref c)) cd.slotNames:=(Ld X hcd).andThen .now
 have hxx:=I.at_
 dsimp only at ho hxx L0 L1
 have f0:=K6 (M:=model C.prog C.w) ho 0 (v:=.str nn tn) rfl
 have f1:=K6 (M:=model C.prog C.w) ho 1 (v:=owner) rfl
 have f3:=K6 (M:=model C.prog C.w) ho 3 (v:=.builtin "proto.slot#set") rfl
 have f4:=K6 (M:=model C.prog C.w) ho 4 (v:=.int behind tb) rfl
 refine GT KF.slot_mset.plain KF.entry_mset (KF.slot_mset.check _ _ _ _ _ _ _ _ ⟨_,ho,rfl⟩ (KF.args_mset _ _ _) ?_)
 unfold En.«member_descriptor.__set__» En.Getset_descriptor.descrSet En.Getset_descriptor.descrStoreThrough En.Getset_descriptor.descrCheckInstance En.Getset_descriptor.descrNameAndClass IH
 have f5:Looks (model C.prog C.w) hh (En.Getset_descriptor.descrItself (.ref q)) [.ref q]:=((IZ (part:=none) ho).andThen .now).andThen (Fa (by kernel_rfl))
 repeat lk
 refine ⟨Code.quiet_builtin _ (by decide +kernel),Fd KF.entry_slotset ?_⟩
 unfold En.«proto.slot#set» En.Slots.target
 repeat lk
 rw [if_neg hb]
 refine EF (EA ?_)
 unfold setSlotAt
 dsimp only
 rw [if_neg (by rw [EO];omega)]
 refine wpAny_updatePart hxx (EF (hQ μ _ ?_))
 generalize hkk:cd.slotNames.length - 1 - behind.toNat=kk at *
 have' hmem:p∈μ.objs:=EK hp
 generalize hf:(fun o:Obj=>{o with slots:=(o.slots++Array.replicate (kk+1 - o.slots.size) none).setIfInBounds kk (some u)})=ff
 have K1:aL A (·∈p.2) ⟨hh,g,dr,t,os⟩ ⟨hh.update p.1 ff,g,dr,t+1,os⟩:=
  ⟨_,_,_,rfl,⟨E9 (Gg ..).symm,id⟩,fun b o hb eb=>.inl ((G9 _ _ _ _ (fun q=>hb (by rw [e,<- q];simp))).trans eb)⟩
 have hW:∀ b,b∈p.2\/FA A b->b∈μ.hid\/hh.objs.size<=b:=G.fw fun b hb=>.inl (G.sim.foot b (aj hmem hb))
 have' hg:(hh.update p.1 ff).get? p.1=some {cls:=.ref c,dict:=some dx,data:=.plain,slots:=(vs++Array.replicate (kk+1 - vs.size) none).setIfInBounds kk (some u)}:=by
  subst hf;exact FQ _ hxx rfl
 refine aS.write G F hp hz K1 ⟨_,dx,e,ne,hg,(G9 _ _ _ _ (Ne.symm ne)).trans hd,?_⟩
 have hl:=yI hr
 rw [FM] at hl
 have' z:=wU (af.mono (Ext.refl _ _) K1 hW ru) kk (wV (kk+1 - ys.length) (cw.mono (Ext.refl _ _) K1 hW hr))
 unfold kU
 rw [JU,Hz,Array.toList_replicate,hl]
 exact z
theorem fM {ob value:Expr} {tpos:Pos} {op:Operator} {d:PyData} {as':AV} (ho:aH C lv N ob ρ σ a ρ₁ σ₁) (hg:bu C lv σ₁ a name b) (hv:aH C lv N value ρ₁ σ₁ as' ρ₂ σ₂) (hop:OpG C lv σ₂ (L8 op) b as' (d)) (hs:jC C lv σ₂ a name (.dat d) σ₃) :
  aq C lv N (.AugAssign (.Attribute ob name tpos) op value pos) ρ σ .nxt ρ₂ σ₃:=by
 intro A env μ s Q E ok G F hQ
 refine wpAny_AugAssign_AttributeAny (ho A env μ s _ _ ok G F fun v μ1 s1 P1 r=>hg N ρ₁ A env μ1 s1 v true _ _ ok P1.good P1.fr r fun u μ2 s2 P2 ru=>hv A env μ2 s2 _ _ ok P2.good P2.fr fun w μ3 s3 P3 rw'=>?_)
 refine hop A μ3 u w s3 _ _ ok P3.good (P3.val P2.good P2.fr ru) rw' fun x s4 cs k rx=>?_
 have P4:=aS.grow P3.good P3.fr k
 have P24:=P2.trans (P3.trans P4)
 refine hs N ρ₂ A env μ3 s4 v x _ _ ok P4.good P4.fr (P24.val P1.good P1.fr r) ⟨cs,rx⟩ fun μ5 s5 P5=>hQ _ μ5 s5 (P1.trans (P24.trans P5)) rfl
theorem bV {ob:Expr} (ho:aH C lv N ob ρ σ a ρ₁ σ₁) (hg:bu C lv σ₁ a name b)
  (hw:autoParam (∀ env,eval (.Attribute ob name pos) env=(do
   let o <- eval ob env
   HQ pos.atName
   let r <- Hu [o] (JK o name true)
   HY ob o r
   pure r)) aV):aH C lv N (.Attribute ob name pos) ρ σ b ρ₁ σ₁:=fun A env μ s Q E ok G F hQ=>
 Attribute_any_ (ho A env μ s _ _ ok G F fun v μ1 s1 P1 r=>hg N ρ₁ A env μ1 s1 v true _ _ ok P1.good P1.fr r fun u μ2 s2 P2 ru=>hQ u μ2 s2 (P1.trans P2) ru) (hw env)
theorem b9 {ob:Expr} (ho:aH C lv N ob ρ σ b ρ₁ σ₁) (hs:jC C lv σ₁ b name a σ₂):c8 C lv N (.Attribute ob name pos) a ρ σ ρ₁ σ₂:=by
 intro A env μ s u Q E ok G F ru hQ
 rw [assign_Attribute]
 refine EA (EY (ho A env μ s _ _ ok G F fun v μ1 s1 P1 r=>?_))
 refine EA (FP (EA (EY (hs N ρ₁ A env μ1 s1 v u _ _ ok P1.good P1.fr r (P1.val G F ru) fun μ2 s2 P2=>?_))))
 exact Jm (hQ μ2 s2 (P1.trans P2))
end
inductive pX (c:Addr):AO->Prop
 | inst:pX c (.inst c [])
 | slot:pX c (.slot c [])
theorem kG (a:Args):(Code.builtin "type.__call__" a).weight<=1:=by
 have' h1:(Code.builtin "type.__call__" a).frames=0:=by kernel_rfl
 have' h2:(Code.builtin "type.__call__" a).isGuard=false:=by kernel_rfl
 have' h3:(Code.builtin "type.__call__" a).isCaller=false:=by kernel_rfl
 unfold Code.weight
 rw [h1,h2,h3]
 cases (Code.builtin "type.__call__" a).isCreation<;>simp
theorem lT (a:Args):(Code.builtin "type.__call__" a).cUnits=1:=by kernel_rfl
theorem mB (a:Args):(Code.builtin "type.__call__" a).envs=[]:=by kernel_rfl
theorem gb (A:Around) (a:Args):(A.under (.builtin "type.__call__" a)).handled=A.handled/\(A.under (.builtin "type.__call__" a)).frames=A.frames/\(A.under (.builtin "type.__call__" a)).depth<=A.depth+1/\(A.under (.builtin "type.__call__" a)).units=A.units+1:=
 ⟨rfl,by unfold Around.under;dsimp only;rw [mB];rfl,Ew (kG a) _,by unfold Around.under;dsimp only;rw [lT]⟩
section
variable {C:Cx} {lv:Lv} {N:aE} {ρ ρ₁ ρ₂ ρ₃ ρ' ρ₀:aO} {σ σ₁ σ₂ σ₃ σ₄ σ':aC} {o:Out} {A:Around} {env:Env} {μ μ':Mu} {s s':Shared} {a b:AV} {i:Nat} {c:Addr} {name:Str} {e:Expr} {as:List AV} {ks:List (Str×AV)} {m:Nat} {fz:List Nat} {ob:AO}
theorem pX.rep (hf:pX c ob) {h:Heap} {x dx:Addr} (ne:x≠dx) (h1:h.get? x=some (Go c dx)) (h2:h.get? dx=some emptyDict):ef C μ h (x,[x,dx]) ob:=by
 cases hf with
 | inst=>exact ⟨dx,[],0,rfl,ne,h1,h2,trivial⟩
 | slot=>exact ⟨#[],dx,rfl,ne,h1,h2,trivial⟩
theorem jS {fI:Addr} (hm:makesIn C.K c=true) (hi:findIn C.K (.ref c) "__init__" = some (some (.ref fI))) (hf:typeIn C.K (.ref fI)=some (.type "function")) (hfr:pX c ob)
  (hc:aP C m fz (.ref fI) (.ref σ.length :: as) ks (σ++[ob]) (.dat .none) σ'):aP C (m+1) fz (.ref c) as ks σ (.ref σ.length) σ':=by
 intro A μ s vs kvs R ok G rv rk hR
 have X:=G.inK ok
 obtain ⟨hh,g,d,t,os⟩:=s
 refine make_core (makes_of X hm) (Hx X hi) (fun self=>bind_fn X self hf) (.inl rfl) ?_
 obtain ⟨u1,u2,u3,u4⟩:=gb A ⟨.ref c :: vs,kvs⟩
 generalize A.under (.builtin "type.__call__" ⟨.ref c :: vs,kvs⟩)=A2 at *
 have k:aL A0 NoW ⟨hh,g,d,t,os⟩ ⟨(hh.push emptyDict).push (Go c hh.objs.size),g,d,t,os⟩:=ab (s:=⟨hh,g,d,t,os⟩) (tk:=t) (by simp only [ER];exact Fi (Eg _)) fun b o e=>EJ _ (EJ _ e)
 have h1:((hh.push emptyDict).push (Go c hh.objs.size)).get? (hh.objs.size+1)=some (Go c hh.objs.size):=by
  have:=EP (hh.push emptyDict) (o:=Go c hh.objs.size) rfl
  rwa [ER] at this
 have h2:((hh.push emptyDict).push (Go c hh.objs.size)).get? hh.objs.size=some emptyDict:=EJ _ (EP _ rfl)
 have' hfp:∀ b∈[hh.objs.size+1,hh.objs.size],hh.objs.size<=b/\b<((hh.push emptyDict).push (Go c hh.objs.size)).objs.size:=by
  intro b hb
  rcases ES.mp hb with rfl | hb
  ·exact ⟨Eg _,Ea h1⟩
  ·rw [EG.mp hb];exact ⟨EH _,Ea h2⟩
 obtain ⟨G1,x1⟩:=G.alloc (s':=⟨(hh.push emptyDict).push (Go c hh.objs.size),g,d,t,os⟩) (a:=hh.objs.size+1) (o:=ob) k hfp (.head _) (hfr.rep (Ie _) h1 h2)
 have' hlen:=G.sim.len
 generalize hμ:μ.add (hh.objs.size+1) [hh.objs.size+1,hh.objs.size]=μ1 at *
 have ha:μ1.objs[σ.length]? = some (hh.objs.size+1,[hh.objs.size+1,hh.objs.size]):=by
  rw [<- hμ,<- hlen];exact EV
 have hroom:=G.room
 have hunits:=G.units
 dsimp only at hroom hunits
 have G2:aT C ⟨true,m,fz⟩ A2 μ1 (σ++[ob]) ⟨(hh.push emptyDict).push (Go c hh.objs.size),g,d,t,os⟩:=G1.around (fun zz=>u1.trans (G.quiet rfl)) rfl (by dsimp only;omega) (by dsimp only;omega) ⟨by rw [u2];exact G1.frs.all⟩
 refine hc A2 μ1 _ (.ref (hh.objs.size+1) :: vs) kvs _ ok G2 ⟨⟨_,ha,rfl⟩,aw.mono x1 k noW rv⟩ (dD.mono x1 k noW rk) fun v μ' s' G3 x3 k3 r3=>?_
 obtain ⟨as',r3⟩:=r3
 cases r3
 refine ⟨rfl,hR _ μ' s' (G3.around (fun zz=>G.quiet rfl) rfl (by show A.depth+_+_<_;dsimp only;omega) (by show A.units+_+_<_;dsimp only;omega) ⟨by rw [<- u2];exact G3.frs.all⟩) (x1.trans x3 k.le) ?_ ⟨_,x3.get ha,rfl⟩⟩
 have k3':aL A (WC μ1) _ s':=k3.frames fun b hb=>.inl (by unfold FA at *;rw [<- u2];exact hb)
 refine (k.lift (A:=A) (W:=WC μ)).trans k3' fun b hb=>?_
 exact WC.ext x1 (by rw [<- hμ];rfl) hb
end
noncomputable def er (xs:List (Int×AV)) (k:Int) (a:AV):List (Int×AV):=if xs.any (fun p=>p.1=k) then xs.map (fun p=>if p.1=k then (p.1,a) else p) else xs++[(k,a)]
noncomputable def gt (xs:List (Int×AV)) (k:Int):List (Int×AV):=xs.filter fun p=>decide (p.1≠k)
noncomputable def atA (xs:List (Int×AV)) (k:Int):Option AV:=(xs.find? fun p=>p.1=k).map (·.2)
section
variable {μ:Mu} {h:Heap}
section
variable {k:Int} {xs:List (Int×AV)} {kvs:List (Int×Value)}
theorem kN (r:cD μ h xs kvs):match atA xs k with | some a=>∃ v,valueAt kvs k=some v/\af μ h a v | none=>valueAt kvs k=none:=by
 refine cD.ind r rfl fun k' a v xs kvs hv ih=>?_
 unfold atA valueAt at *
 rw [JA,JA]
 by_cases q:k'=k
 ·simp only [q,decide_true];exact ⟨v,rfl,hv⟩
 ·simp only [q,decide_false];exact ih
theorem fV (r:cD μ h xs kvs):kvs.length=xs.length:=by
 refine cD.ind r rfl fun zz zz zz xs kvs zz ih=>?_
 rw [EX,EX,ih]
theorem wa (r:cD μ h xs kvs):kvs.any (fun p=>p.1=k)=xs.any (fun p=>p.1=k):=by
 refine cD.ind r rfl fun zz zz zz xs kvs zz ih=>?_
 rw [IB,IB,ih]
theorem vc {a:AV} {v:Value} (hv:af μ h a v) (r:cD μ h xs kvs):cD μ h (xs.map (fun p=>if p.1=k then (p.1,a) else p)) (kvs.map (fun p=>if p.1=k then (p.1,v) else p)):=by
 refine cD.ind r trivial fun k' zz zz xs kvs hb ih=>?_
 rw [E6,E6]
 by_cases q:k'=k
 ·simp only [q,if_true];exact ⟨⟨rfl,hv⟩,q▸ih⟩
 ·simp only [q,if_false];exact ⟨⟨rfl,hb⟩,ih⟩
theorem yL {ys:List (Int×AV)} {lws:List (Int×Value)} (r:cD μ h xs kvs) (r':cD μ h ys lws):cD μ h (xs++ys) (kvs++lws):=by
 refine cD.ind r r' fun k a v xs kvs hv ih=>?_
 exact ⟨⟨rfl,hv⟩,ih⟩
theorem na (r:cD μ h xs kvs):cD μ h (gt xs k) (without kvs k):=by
 refine cD.ind r trivial fun k' b u xs kvs hb ih=>?_
 unfold gt without at *
 rw [Eu,Eu]
 by_cases q:k'=k
 ·simp only [q,ne_eq,not_true_eq_false,decide_false];exact ih
 ·simp only [ne_eq,q,not_false_eq_true,decide_true,if_true];exact ⟨⟨rfl,hb⟩,ih⟩
end
theorem qW {k:Int} {a:AV} {v:Value} (hv:af μ h a v) {xs:List (Int×AV)} {kvs:List (Int×Value)} (r:cD μ h xs kvs):cD μ h (er xs k a) (stored kvs k v):=by
 unfold er stored
 rw [wa r]
 split
 ·exact vc hv r
 ·exact yL r ⟨⟨rfl,hv⟩,trivial⟩
end
section
variable {C:Cx} {lv:Lv} {N:aE} {ρ ρ₁ ρ₂ ρ₃ ρ' ρ₀:aO} {σ σ₁ σ₂ σ₃ σ₄ σ':aC} {o:Out} {A:Around} {env:Env} {μ μ':Mu} {s s':Shared} {a b:AV} {i l:Nat} {pos:Pos} {e:Expr} {xs:List (Int×AV)} {k:Int}
theorem aT.notSys (ok:C.Ok) (G:aT C lv A μ σ s) {b:Addr} (h:b∈μ.foot):(b==JR)=false:=by
 obtain ⟨o,ho⟩:=ok.sys
 refine beq_eq_false_iff_ne.mpr fun q=>?_
 have:=G.low b (G.sim.foot b h)
 rw [q,ho] at this;cases this
theorem aT.dict (ok:C.Ok) (G:aT C lv A μ σ s) (hx:σ[i]? = some (.dict xs)) {v:Value} (r:af μ s.heap (.ref i) v) :
  ∃ p kvs,v=.ref p.1/\μ.objs[i]? = some p/\p.2=[p.1]/\(p.1==JR)=false/\s.heap.DictOf (Gi C.prog C.w) p.1 kvs/\cD μ s.heap xs kvs:=by
 obtain ⟨p,hp,rfl⟩:=r
 obtain ⟨e,kvs,h1,h2⟩:=G.sim.rep i p _ hp hx
 exact ⟨p,kvs,rfl,hp,e,G.notSys ok (aj (EK hp) (by rw [e];exact .head _)),h1,h2⟩
theorem gD (hx:σ[i]? = some (.dict xs)):ml C σ (.ref i) "dict" := by
 rintro μ s v S ⟨p,hp,rfl⟩
 obtain ⟨e,kvs,h1,h2⟩:=S.rep i p _ hp hx
 refine ⟨h1.typeIs,fun b hb=>?_⟩
 cases hb
 obtain ⟨o,es,ep,ho,hc,_⟩:=h1
 exact ⟨o,ho,hc.2.1⟩
theorem fh {value slice:Expr} (hv:aH C lv N value ρ σ (.ref l) ρ₁ σ₁) (hi:aH C lv N slice ρ₁ σ₁ (.dat (.int k)) ρ₂ σ₂) (hx:σ₂[l]? = some (.dict xs)) (hd:atA xs k=some a)
  (hs:autoParam (∀ o i,Jd slice false o i=LN [o,i] (Kf o i)) aW):aH C lv N (.Subscript value slice pos) ρ σ a ρ₂ σ₂:=by
 intro A env μ s Q E ok G F hQ
 refine KE (hv A env μ s _ _ ok G F fun v μ1 s1 P1 r=>hi A env μ1 s1 _ _ ok P1.good P1.fr fun iv μ2 s2 P2 qq1=>?_)
 obtain ⟨bs,ri⟩:=qq1
 obtain ⟨p,kvs,rfl,hp,e,hsys,hdict,hr⟩:=P2.good.dict ok hx (P2.val P1.good P1.fr r)
 have h2:=kN (k:=k) hr
 rw [hd] at h2
 obtain ⟨u,hu,ru⟩:=h2
 cases ri using RI with
 | int t=>exact LP hdict.typeIs slot_dict_getitem.lookup (wpAny_getItem_of (knd:=Gi C.prog C.w) (k:=k) (by simp [Gi,IT]) hdict.mapOf hu (hQ u μ2 _ (P1.trans (P2.trans (aS.grow P2.good P2.fr (ae _)))) ru)) (hs _ _)
theorem iJ {value slice:Expr} (hv:aH C lv N value ρ σ (.ref l) ρ₁ σ₁) (hi:aH C lv N slice ρ₁ σ₁ (.dat (.int k)) ρ₂ σ₂) (hx:σ₂[l]? = some (.dict xs)) (hz:l∉lv.fz) (hlen:xs.length<=1000)
  (hs:autoParam (∀ iv v ov:Value,(match slice with | .Slice _ _ none _=>[iv,v,ov] | _=>[v,ov,iv])=[v,ov,iv]) aK):c8 C lv N (.Subscript value slice pos) a ρ σ ρ₂ (σ₂.set l (.dict (er xs k a))):=by
 intro A env μ s v Q E ok G F r hQ
 rw [K3]
 refine EA (EY (hv A env μ s _ _ ok G F fun ov μ1 s1 P1 ro=>EA (EY (hi A env μ1 s1 _ _ ok P1.good P1.fr fun iv μ2 s2 P2 ⟨bs,ri⟩=>EA (FP ?_)))))
 obtain ⟨p,kvs,rfl,hp,e1,hsys,hdict,hr⟩:=P2.good.dict ok hx (P2.val P1.good P1.fr ro)
 have' r2:=P2.val P1.good P1.fr (P1.val G F r)
 have hl:p.1∈p.2:=by rw [e1];exact .head _
 cases ri using RI with
 | int t=>
  refine EA (EY (wpAny_setItem_pairs (knd:=Gi C.prog C.w) (k:=k) (by simp [Gi,IT]) hdict (fun h' hd' hsb=>Jm ?_) (by rw [fV hr,EO];omega)))
  have k1:aL A (·∈p.2) s2 {s2 with heap:=h',toks:=s2.toks+1}:=⟨h',_,_,rfl,⟨E9 hsb.1.symm,id⟩,fun b o hb e=>.inl ((hsb.2 b fun q=>hb (q▸hl)).trans e)⟩
  have hW:∀ b,b∈p.2\/FA A b->b∈μ2.hid\/s2.heap.objs.size<=b:=P2.good.fw fun b hb=>.inl (P2.good.sim.foot b (aj (EK hp) hb))
  exact hQ μ2 _ (P1.trans (P2.trans (aS.write P2.good P2.fr hp hz k1 ⟨e1,_,hd',qW (r2.mono (Ext.refl _ _) k1 hW) (cD.mono (Ext.refl _ _) k1 hW hr)⟩)))
theorem qt (hx:σ[i]? = some (.dict xs)):dS C lv σ (.builtin "dict.get") [.ref i,.dat (.int k)] ((atA xs k).getD (.dat .none)) σ:=by
 intro N ρ A env μ s vs Q E ok G F r hQ
 obtain ⟨u,v,rfl,ru,⟨as,rv⟩⟩:=r.e2
 obtain ⟨p,kvs,rfl,hp,e,hsys,hdict,hr⟩:=G.dict ok hx ru
 cases rv using RI with
 | int t=>
  have h2:=kN (k:=k) hr;refine KH PySem.F.slot_dict_get hdict.typeIs PySem.F.entry_dict_get (PySem.F.args_dict_get_2 _ _) (meets_dict_get (Gi C.prog C.w) p.1 (k:=k) (by simp [Gi,IT]) hsys) ⟨_,hdict.mapOf,?_⟩
  have P:=aS.grow G F (ae (s:=s) (s.toks+1))
  cases ha:atA xs k with
  | some a=>
   rw [ha] at h2 hQ
   obtain ⟨u,hu,ru'⟩:=h2
   rw [hu]
   exact hQ u μ _ P ru'
  | none=>
   rw [ha] at h2 hQ
   rw [h2]
   exact hQ .none μ _ P ⟨[],.none⟩
theorem uL (hx:σ[i]? = some (.dict xs)):OpG C lv σ (Fc .In) (.dat (.int k)) (.ref i) (.bool (atA xs k).isSome):=by
 intro A μ u v s Q E ok G qq1 rv hQ
 obtain ⟨as,ru⟩:=qq1
 obtain ⟨p,kvs,rfl,hp,e,hsys,hdict,hr⟩:=G.dict ok hx rv
 cases ru using RI with
 | int t=>
  have h2:=kN (k:=k) hr;have' e1:(valueAt kvs k).isSome=(atA xs k).isSome:=by
   cases ha:atA xs k with
   | some a=>rw [ha] at h2;obtain ⟨u,hu,_⟩:=h2;rw [hu];rfl
   | none=>rw [ha] at h2;rw [h2];rfl
  refine wpAny_in_of (knd:=Gi C.prog C.w) (k:=k) (by simp [Gi,IT]) hsys hdict.mapOf (hQ _ _ [] (ae _) ?_)
  rw [e1];exact .bool _
theorem mJ:aH C lv N (.Dict [] [] pos) ρ σ (.ref σ.length) ρ (σ++[.dict []]):=by
 intro A env μ s Q E ok G F hQ
 refine wpAny_Dict_empty ?_
 have' k1:aL A0 NoW s {s with heap:=s.heap.push {cls:=.type "dict",data:=.dict #[]}}:=bB _ _
 have P:=aS.alloc (a:=s.heap.objs.size) (fp:=[s.heap.objs.size]) (o:=.dict []) G F k1 (fun b hb=>by rw [EG.mp hb];exact ⟨EH _,by show _<(HV _ _).objs.size;rw [ER];exact E3 _⟩) (.head _) ⟨rfl,[],Heap.DictOf.new _,trivial⟩
 exact hQ _ _ _ P ⟨_,by show (μ.objs++[_])[σ.length]? = _;rw [<- G.sim.len];exact EV,rfl⟩
end
theorem lc {prog:Fn} {w:World} {A:Around} {s:Shared} {E:Value->Shared->Prop} {Q:List Value->Shared->Prop} (it:Addr) {T:String} {o:Obj} {items:Array Value} {n:Nat} (hT:T="list" \/ T="tuple") (ho:s.heap.get? it=some o) (hc:o.cls=.type T) (hd:o.data=.seq items n)
  (hQ:∀ h',(∀ b o',s.heap.get? b=some o'->h'.get? b=some o')->s.heap.objs.size<=h'.objs.size->Q items.toList {s with heap:=h'}) (hsz:items.size<=FG):wpAny (model prog w) A (Lk (.ref it)) Q E s:=
 ao (Jf it hT ho hc hd (fun h' hk hl=>hQ h' hk hl) hsz)
theorem lm (l:Addr) (o:Obj) (items:Array Value) (n:Nat) (hc:o.cls=.type "list") (hd:o.data=.seq items n) (hsz:items.size<=FG) :
  Meets (En.«tuple.__new__» ⟨[.type "tuple",.ref l],[]⟩)
   (fun zz R s=>s.heap.get? l=some o/\∀ h':Heap,(∀ b o',s.heap.get? b=some o'->h'.get? b=some o')->s.heap.objs.size<=h'.objs.size->R (.ok (.ret (.ref h'.objs.size))) {s with heap:=h'.push {cls:=.type "tuple",data:=.seq items}}):=
 .of_wp fun prog w A R s h=>by
  obtain ⟨hp,g,d,tk,os⟩:=s;obtain ⟨ht,h⟩:=h;have hsub:=sub_tuple_self;have hinit:=init_tuple_lookup;have hmh:=madeHere_tuple;have' hT:Shared.TypeIs ⟨hp,g,d,tk,os⟩ (.ref l) "list" := ⟨o,ht,hc⟩
  wp_walk using AutoSeq1.wpAny_loadPart' ht,I4 hT,lc (hsz:=hsz) l (.inl rfl) ht hc hd
  intro h' hk hl
  show wpAny _ _ (En.Tuple.tupleExact items.toList.toArray >>= fun v=>ret v) _ _ _
  unfold En.Tuple.tupleExact;refine EA (GZ ?_ (by show items.toList.toArray.size<=FG;simpa using hsz))
  refine EF ⟨_,rfl,?_⟩;have' e:items.toList.toArray=items:=by simp
  rw [e]
  exact h h' hk hl
section
variable {C:Cx} {lv:Lv} {N:aE} {ρ ρ₁ ρ₂ ρ₃ ρ' ρ₀:aO} {σ σ₁ σ₂ σ₃ σ₄ σ':aC} {o:Out} {A:Around} {env:Env} {μ μ':Mu} {s s':Shared} {a b:AV} {i l:Nat} {pos np:Pos} {e:Expr} {xs:List AV} {k:Int}
theorem aT.list (G:aT C lv A μ σ s) (hx:σ[i]? = some (.list xs)) {v:Value} (r:af μ s.heap (.ref i) v):∃ p vs n,v=.ref p.1/\μ.objs[i]? = some p/\p.2=[p.1]/\s.heap.get? p.1=some {cls:=.type "list",dict:=none,data:=.seq vs n,slots:=#[]}/\aw μ s.heap xs vs.toList/\vs.size=xs.length:=by
 obtain ⟨p,hp,rfl⟩:=r
 obtain ⟨e,vs,⟨n,h1⟩,h2⟩:=G.sim.rep i p _ hp hx
 exact ⟨p,vs,n,rfl,hp,e,h1,h2,bN h2⟩
theorem nt (f:Array Value->Array Value) (its:Array Value) (n:Nat):∃ n',Ey f {cls:=.type "list",data:=.seq its n}={cls:=.type "list",data:=.seq (f its) n'}:=by
 simp only [Ey]
 exact ⟨_,rfl⟩
theorem jn {N:aE} {ρ:aO} {f:Array Value->Array Value} {ys:List AV} {p:Addr×List Addr} {vs:Array Value} {n:Nat} {tk:Nat} (G:aT C lv A μ σ s) (F:aM A N env μ ρ s.heap) (hp:μ.objs[i]? = some p) (e:p.2=[p.1]) (hz:i∉lv.fz) (h1:s.heap.get? p.1=some {cls:=.type "list",dict:=none,data:=.seq vs n,slots:=#[]}) (hr:aw μ s.heap xs vs.toList)
  (hy:∀ {h:Heap},aw μ h xs vs.toList->aw μ h ys (f vs).toList):aS C lv A N env μ s ρ (σ.set i (.list ys)) μ {s with heap:=s.heap.update p.1 (Ey f),toks:=tk}:=by
 have hl:p.1∈p.2:=by rw [e];exact .head _
 obtain ⟨n',e'⟩:=nt f vs n
 have hpl:(s.heap.update p.1 (Ey f)).PlainList p.1 (f vs):=⟨n',by rw [FQ _ h1 (by rw [e'];rfl),e']⟩
 have k:aL A (·∈p.2) s {s with heap:=s.heap.update p.1 (Ey f),toks:=tk}:=⟨_,_,_,rfl,⟨E9 (Gg ..).symm,id⟩,fun b o hb eb=>.inl ((G9 _ _ _ _ (fun q=>hb (by rw [e,<- q];simp))).trans eb)⟩
 have' hW:∀ b,b∈p.2\/FA A b->b∈μ.hid\/s.heap.objs.size<=b:=G.fw fun b hb=>.inl (G.sim.foot b (aj (EK hp) hb))
 exact aS.write G F hp hz k ⟨e,_,hpl,hy (aw.mono (Ext.refl _ _) k hW hr)⟩
theorem vW (hx:σ[i]? = some (.list (xs++[a]))) (hz:i∉lv.fz) (hsz:xs.length<FG):dS C lv σ (.builtin "list.pop") [.ref i] a (σ.set i (.list xs)):=by
 intro N ρ A env μ s vs Q E ok G F r hQ
 obtain ⟨u,rfl,ru⟩:=r.e1
 obtain ⟨p,ws,n,rfl,hp,e,h1,hr,hlen⟩:=G.list hx ru
 rw [EU,Ef] at hlen
 have hlast:ws[ws.size - 1]? = some (ws[xs.length]'(by omega)):=by rw [show ws.size - 1=xs.length by omega];simp [hlen]
 have' hv:af μ s.heap a (ws[xs.length]'(by omega)):=ec hr xs.length _ a (by simp [hlen]) (by simp)
 refine JW PySem.F.slot_list_pop ⟨_,h1,rfl⟩ PySem.F.entry_list_pop (PySem.F.args_list_pop_1 _) (MeetsSeq.list_pop_last p.1 ws n _ hlast (by rw [hlen];exact hsz)) ⟨h1,?_⟩
 have P:=jn (ys:=xs) (tk:=s.toks) G F hp e hz h1 hr (f:=fun xs=>xs.eraseIdxIfInBounds (ws.size - 1)) fun {h} r=>by
  have e1:(ws.eraseIdxIfInBounds (ws.size - 1)).toList=ws.toList.eraseIdx xs.length:=by rw [hlen];simp
  rw [e1]
  have:=k9 xs.length r
  rwa [List.eraseIdx_append_of_length_le (EH _),Fx,List.eraseIdx_zero,List.tail_cons,FF] at this
 exact hQ _ μ _ P (P.val G F hv)
theorem xX (hx:σ[i]? = some (.list xs)) (hz:i∉lv.fz) (hsz:xs.length<=FG):dS C lv σ (.builtin "list.clear") [.ref i] (.dat .none) (σ.set i (.list [])):=by
 intro N ρ A env μ s vs Q E ok G F r hQ
 obtain ⟨u,rfl,ru⟩:=r.e1
 obtain ⟨p,ws,n,rfl,hp,e,h1,hr,hlen⟩:=G.list hx ru
 refine JW PySem.F.slot_list_clear ⟨_,h1,rfl⟩ PySem.F.entry_list_clear (PySem.F.args_list_clear_1 _) (AutoSeq1.list_clear_list_0 p.1 ws n (by rw [hlen];exact hsz)) ⟨h1,?_⟩
 exact hQ _ μ _ (jn (ys:=[]) (tk:=s.toks) G F hp e hz h1 hr (f:=fun zz=>#[]) fun zz=>trivial) ⟨[],.none⟩
theorem vg {ds:List PyData} (hx:σ[i]? = some (.list (ds.map .dat))) (hsz:ds.length<=FG):dS C lv σ (.type "tuple") [.ref i] (.dat (.tuple ds)) σ:=by
 intro N ρ A env μ s vs Q E ok G F r hQ
 obtain ⟨u,rfl,ru⟩:=r.e1
 obtain ⟨p,ws,n,rfl,hp,e,h1,hr,hlen⟩:=G.list hx ru
 rw [EC] at hlen
 obtain ⟨bs,ra⟩:=fL hr
 refine callType_new PySem.F.called_tuple (by decide) (PySem.F.typeCall_tuple_1 _) (PySem.F.newCall_tuple_1 _) (fun obj=>PySem.F.args_object_init_2 obj _) PySem.F.entry_tuple_new (lm p.1 _ ws n rfl rfl (by rw [hlen];exact hsz)) ⟨h1,fun h' hk hl=>⟨⟨_,EP _ rfl,rfl⟩,?_⟩⟩
 have k:aL A0 NoW s {s with heap:=h'.push {cls:=.type "tuple",data:=.seq ws}}:=ab (tk:=s.toks) (by rw [ER];exact Fi hl) fun b o e=>EJ _ (hk b o e)
 exact hQ _ μ _ (aS.grow G F k) ⟨_,.tuple (F9 _ (EP _ rfl) fun hm=>absurd (G.lt _ hm) (E0.mpr hl)) rfl rfl (PyProof.Rows.ReadsAll.keeps (cS k) ra)⟩
theorem tQ {e:Expr} (h:aH C lv N e ρ σ (.ref i) ρ₁ σ₁) (hx:σ₁[i]? = some (.list xs)) (hz:xs.length<=1000) (he:autoParam (∀ env,isTrue e env (eval e env)=(do let v <- eval e env;HQ e.pos;Hu [v] (truthy v))) aI) :
  aY C lv N e ρ σ (!xs.isEmpty) ρ₁ σ₁:=fun A env μ s Q E ok G F hQ=>
 LL (h A env μ s _ _ ok G F fun v μ1 s1 P1 r=>by
  obtain ⟨p,ws,n,rfl,hp,e,h1,hr,hlen⟩:=P1.good.list hx r;refine Jc ⟨_,h1,rfl,n,rfl⟩ (by rw [hlen];omega) ?_
  have' e2:(!ws.isEmpty) = !xs.isEmpty:=by
   cases xs with
   | nil=>
    have:ws = #[]:=HZ hlen
    rw [this];rfl
   | cons x xs=>
    have:ws.isEmpty=false:=by
     rw [JX];intro q;rw [q] at hlen;simp at hlen
    rw [this];rfl
  rw [e2]
  exact hQ μ1 _ (P1.trans (aS.grow P1.good P1.fr (ae _)))) (he env)
theorem mf {value slice:Expr} (hv:aH C lv N value ρ σ (.ref l) ρ₁ σ₁) (hi:aH C lv N slice ρ₁ σ₁ (.dat (.int (-1))) ρ₂ σ₂) (hx:σ₂[l]? = some (.list (xs++[a]))) (hz:xs.length<1000)
  (hs:autoParam (∀ o i,Jd slice false o i=LN [o,i] (Kf o i)) aW):aH C lv N (.Subscript value slice pos) ρ σ a ρ₂ σ₂:=by
 intro A env μ s Q E ok G F hQ
 refine KE (hv A env μ s _ _ ok G F fun v μ1 s1 P1 r=>hi A env μ1 s1 _ _ ok P1.good P1.fr fun iv μ2 s2 P2 qq1=>?_)
 obtain ⟨bs,ri⟩:=qq1
 obtain ⟨p,ws,n,rfl,hp,e,h1,hr,hlen⟩:=P2.good.list hx (P2.val P1.good P1.fr r)
 rw [EU,Ef] at hlen
 cases ri using RI with
 | int t=>
  have hl:s2.heap.IsList p.1 ws:=⟨_,h1,rfl,n,rfl⟩;have hlast:ws[(((-1:Int)+ws.size)).toNat]? = some (ws[xs.length]'(by omega)):=by rw [show ((-1:Int)+ws.size).toNat=xs.length by omega];simp [hlen]
  have hv:af μ2 s2.heap a (ws[xs.length]'(by omega)):=ec hr xs.length _ a (by simp [hlen]) (by simp)
  exact LP hl.typeIs Je.lookup (wpAny_getItem_list_neg hl (by decide) (by omega) (by decide) hlast (hQ _ μ2 s2 (P1.trans P2) hv)) (hs _ _)
theorem aT.set (G:aT C lv A μ σ s) {ks:List Int} (hx:σ[i]? = some (.set ks)) {v:Value} (r:af μ s.heap (.ref i) v):∃ p,v=.ref p.1/\μ.objs[i]? = some p/\p.2=[p.1]/\s.heap.SetOf (Gi C.prog C.w) p.1 (fun k=>ks.contains k) ks.length:=by
 obtain ⟨p,hp,rfl⟩:=r
 obtain ⟨e,h1⟩:=G.sim.rep i p _ hp hx
 exact ⟨p,rfl,hp,e,h1⟩
theorem uT {ks:List Int} (hx:σ[i]? = some (.set ks)):ml C σ (.ref i) "set" := by
 rintro μ s v S ⟨p,hp,rfl⟩
 obtain ⟨e,h1⟩:=S.rep i p _ hp hx
 exact ⟨h1.typeIs,h1.noDict⟩
theorem ie {ks:List Int} (hx:σ[i]? = some (.set ks)):OpG C lv σ (Fc .In) (.dat (.int k)) (.ref i) (.bool (ks.contains k)):=by
 intro A μ u v s Q E ok G qq1 rv hQ
 obtain ⟨as,ru⟩:=qq1
 obtain ⟨p,rfl,hp,e,h1⟩:=G.set hx rv
 cases ru using RI with
 | int t=>exact wpAny_inSet_of (knd:=Gi C.prog C.w) (k:=k) (by simp [Gi,IT]) rfl h1 (hQ _ _ [] (ae _) (.bool _))
theorem AP {ks:List Int} (hx:σ[i]? = some (.set ks)) (hz:i∉lv.fz) (hno:ks.contains k=false) (hsz:ks.length<=1000):dS C lv σ (.builtin "set.add") [.ref i,.dat (.int k)] (.dat .none) (σ.set i (.set (ks++[k]))):=by
 intro N ρ A env μ s vs Q E ok G F r hQ
 obtain ⟨u,v,rfl,ru,⟨as,rv⟩⟩:=r.e2
 obtain ⟨p,rfl,hp,e,h1⟩:=G.set hx ru
 have hl:p.1∈p.2:=by rw [e];exact .head _
 cases rv using RI with
 | int t=>
  refine call_set_add (knd:=Gi C.prog C.w) (k:=k) (by simp [Gi,IT]) rfl h1 (by unfold scanBound;omega) fun h' hsb hS=>?_
  have' k1:aL A (·∈p.2) s {s with heap:=h',toks:=s.toks+1}:=⟨h',_,_,rfl,⟨E9 hsb.1.symm,id⟩,fun b o hb e=>.inl ((hsb.2 b fun q=>hb (q▸hl)).trans e)⟩
  refine hQ _ μ _ (aS.write G F hp hz k1 ⟨e,?_⟩) ⟨[],.none⟩
  rw [hno] at hS
  have' e1:(fun k'=>ks.contains k' || decide (k'=k))=fun k'=>(ks++[k]).contains k':=by
   funext k'
   rw [FU]
   simp
  rw [EU,Ef,<- e1]
  exact hS
theorem wq {x:Str} (hf:aH C lv N (.Name x np) ρ σ (.con (.type "set")) ρ σ):aH C lv N (.Call (.Name x np) [] [] pos) ρ σ (.ref σ.length) ρ (σ++[.set []]):=by
 intro A env μ s Q E ok G F hQ
 refine GI (hf A env μ s _ _ ok G F fun v μ1 s1 P1 hv=>?_)
 obtain rfl:=hv
 refine PySem.callWith_type rfl (PySem.evalArgs_none ?_)
 refine call_set_0 fun led=>?_
 have' k1:aL A0 NoW s1 {s1 with heap:=s1.heap.push {cls:=.type "set",dict:=none,data:=.set #[] 0 (.fresh 0 0 led)}}:=bB _ _
 have' hS:=(setObjOf_fresh (prog:=C.prog) (w:=C.w) (knd:=Gi C.prog C.w) led).setOf (h:=s1.heap.push {cls:=.type "set",dict:=none,data:=.set #[] 0 (.fresh 0 0 led)}) (a:=s1.heap.objs.size) (EP _ rfl) (by decide)
 have P:=aS.alloc (a:=s1.heap.objs.size) (fp:=[s1.heap.objs.size]) (o:=.set []) P1.good P1.fr k1 (fun b hb=>by rw [EG.mp hb];exact ⟨EH _,by show _<(HV _ _).objs.size;rw [ER];exact E3 _⟩) (.head _) ⟨rfl,hS⟩
 exact hQ _ _ _ (P1.trans P) ⟨_,by show (μ1.objs++[_])[σ.length]? = _;rw [<- P1.good.sim.len];exact EV,rfl⟩
end
theorem tI:Slot "list_iterator" "__getattribute__" "object.__getattribute__" :=
 Slot.of (owner := "object") (n := "__getattribute__") (by rw [Ga,builtinLookup_eq_fast,];kernel_rfl) (by decide +kernel) (by decide +kernel) (by decide +kernel) (.inl (by decide +kernel)) (by rw [Gl,];kernel_rfl)
theorem qM:Iw table "object.__getattribute__" = some En.«object.__getattribute__» := Gz (by kernel_rfl)
theorem qy (a b:Value):argsOk "object.__getattribute__" ⟨[a,b],[]⟩:=by unfold argsOk;kernel_rfl
theorem zA:II (.type "list_iterator") "__getattr__" = pure none:=by rw [Ga,builtinLookup_eq_fast,];kernel_rfl
theorem ft:typeOf (.builtin "list_iterator.__next__")=pure (.type "wrapper_descriptor"):=by show builtinType _=_;rw [Ko,];kernel_rfl
theorem oA:Slot "wrapper_descriptor" "__get__" "wrapper_descriptor.__get__" :=
 Slot.of (owner := "wrapper_descriptor") (n := "__get__") (by rw [Ga,builtinLookup_eq_fast,];kernel_rfl) (by decide +kernel) (by decide +kernel) (by decide +kernel) (.inl (by decide +kernel)) (by rw [Gl,];kernel_rfl)
theorem xg:II (.type "wrapper_descriptor") "__set__" = pure none:=by rw [Ga,builtinLookup_eq_fast,];kernel_rfl
theorem vz:II (.type "wrapper_descriptor") "__delete__" = pure none:=by rw [Ga,builtinLookup_eq_fast,];kernel_rfl
theorem vk:Iw table "wrapper_descriptor.__get__" = some En.«wrapper_descriptor.__get__» := Gz (by kernel_rfl)
theorem z3 (a b c:Value):argsOk "wrapper_descriptor.__get__" ⟨[a,b,c],[]⟩:=by unfold argsOk;kernel_rfl
noncomputable abbrev fj (it:Addr):Obj:={cls:=.type "method-wrapper",data:=.fields #[.builtin "list_iterator.__next__",.ref it]}
section
variable {prog:Fn} {w:World} {A:Around} {E:Value->Shared->Prop} {h:Heap} {g:Array K2} {d:Drawn} {t:Nat} {os:OsState} {it l:Addr} {i:Nat} {R:Result->Shared->Prop}
theorem o8 (hit:h.IsListIter it l i) (q:R (.ok (.ret (.ref h.objs.size))) ⟨h.push (fj it),g,d,t,os⟩) :
  GP (model prog w) A (.call (.builtin "wrapper_descriptor.__get__") ⟨[.builtin "list_iterator.__next__",.ref it,.type "list_iterator"],[]⟩) R ⟨h,g,d,t,os⟩:=by
 have hT:(⟨h,g,d,t,os⟩:Shared).TypeIs (.ref it) "list_iterator" := hit.typeIs
 refine GT oA.plain vk (oA.check _ _ _ _ _ _ _ _ (show (⟨h,g,d,t,os⟩:Shared).TypeIs (.builtin "list_iterator.__next__") "wrapper_descriptor" from ft) (z3 _ _ _) ?_)
 unfold En.«wrapper_descriptor.__get__»
 repeat (any_goals (first | assumption | wp_step))
 have' e1:(".".intercalate ("list_iterator.__next__".cutAt '.').dropLast)="list_iterator" := by decide +kernel
 have e2:IP (.type "list_iterator") (.type "list_iterator")=pure true:=by rw [Gl,];kernel_rfl
 rw [e1,e2,]
 refine EF ?_
 rw [if_neg (by decide),]
 refine EF (EA ?_)
 exact GZ (EF q)
theorem qx {M:Model} {sl:Array (Option Value)} {fs:Array Value} (ho:h.get? it=some {cls:=.type "list_iterator",dict:=none,data:=.fields fs,slots:=sl}) :
  Looks M h (En.ObjectAttr.find (.ref it) (.type "list_iterator") "__next__") (.bind (.builtin "wrapper_descriptor.__get__") (.builtin "list_iterator.__next__")):=by
 have L0:Looks M h (typeOf (.builtin "list_iterator.__next__")) (.type "wrapper_descriptor"):=Fa ft
 have' L1:Looks M h (II (.type "list_iterator") "__next__") (some (.builtin "list_iterator.__next__")):=Fa IJ.lookup
 have' L2:Looks M h (En.ObjectAttr.getOf (some (.builtin "list_iterator.__next__"))) (some (.builtin "wrapper_descriptor.__get__")):=L0.andThen (Fa oA.lookup)
 have' S1:Looks M h (Gh (.builtin "list_iterator.__next__") "__set__") none:=L0.andThen (Fa xg)
 have' S2:Looks M h (Gh (.builtin "list_iterator.__next__") "__delete__") none:=L0.andThen (Fa vz)
 have L3:Looks M h (En.ObjectAttr.takesStores (.builtin "list_iterator.__next__")) false:=S1.andThen (show Looks M h (do let r <- Gh (.builtin "list_iterator.__next__") "__delete__";pure r.isSome) false from S2.andThen .now)
 have' L4:Looks M h (En.ObjectAttr.inOwnDict "__next__" (.ref it)) none:=by
  intro A Q E s k q;have ho':=k _ _ ho;obtain ⟨hh,g,d,t,os⟩:=s;dsimp only at ho'
  unfold En.ObjectAttr.inOwnDict En.ObjectAttr.ownDict
  repeat (first | with_reducible refine EA ?_ | with_reducible refine nd_bind ?_ | k_node)
  exact q
 refine L1.andThen (L2.andThen ((show Looks M h (En.ObjectAttr.dataDescriptor? (some (.builtin "list_iterator.__next__")) (some (.builtin "wrapper_descriptor.__get__"))) none from L3.andThen .now).andThen ?_))
 refine L4.andThen ?_
 exact (show Looks M h (En.ObjectAttr.copiedAttributeGuard "__next__" (.ref it)) () from .now).andThen (Looks.tag .now)
theorem n8 {expr:Bool} {Q:Value->Shared->Prop} (hit:h.IsListIter it l i) (hd:∀ o,h.get? it=some o->o.dict=none) (q:Q (.ref h.objs.size) ⟨h.push (fj it),g,d,t+1,os⟩) :
  wpAny (model prog w) A (JK (.ref it) "__next__" expr) Q E ⟨h,g,d,t,os⟩:=by
 have hT:∀ tk',(⟨h,g,d,tk',os⟩:Shared).TypeIs (.ref it) "list_iterator" := fun zz=>hit.typeIs
 have f3:=tI.lookup
 have' f4:=tI.bind (.ref it)
 have f5:=zA
 have f6:=IJ.lookup
 have f7:=oA.lookup
 have f8:=xg
 have f9:=vz
 have hT5:∀ tk',(⟨h,g,d,tk',os⟩:Shared).TypeIs (.builtin "list_iterator.__next__") "wrapper_descriptor" := fun zz=>ft
 obtain ⟨o,ho,hc,hdat⟩:=id hit
 have hdn:=hd o ho
 obtain ⟨c,dct,dat,sl⟩:=o
 dsimp only at hc hdat hdn
 subst hc hdat hdn
 unfold JK getAttrBy
 repeat (any_goals (first | assumption | exact hT _ | exact hT5 _ | wp_step))
 rw [show (expr && onTheHeap (Value.builtin "object.__getattribute__"))=false by cases expr<;>rfl,if_neg (by decide),]
 unfold boundAndCalled
 rw [f4,]
 refine EA (EF (Ff ?_))
 refine GT tI.plain qM (tI.check _ _ _ _ _ _ _ _ (hT _) (qy _ _) ?_)
 have bk:Jg "list_iterator.__next__" = some .slot:=by decide +kernel
 have L:=qx (M:=model prog w) ho
 have L0:Looks (model prog w) h (typeOf (.ref it)) (.type "list_iterator"):=(IZ ho).andThen .now
 unfold En.«object.__getattribute__»
 repeat (first | with_reducible refine Ff ?_ | lk)
 refine o8 hit ?_
 dsimp only
 exact EF (EF q)
end
theorem kE (l:Addr) (items:Array Value):Meets (En.«iter» ⟨[.ref l],[]⟩) (fun zz R s=>s.heap.IsList l items/\R (.ok (.ret (.ref s.heap.objs.size))) {s with heap:=s.heap.push {cls:=.type "list_iterator",data:=.fields #[.ref l,.int 0 0]}}):=
 .of_wp fun prog w A R s h=>by
  obtain ⟨hp,g,d,tk,os⟩:=s;obtain ⟨hl,h⟩:=h;have' hL:Heap.IsList (Shared.heap ⟨hp,g,d,tk,os⟩) l items:=hl
  wp_walk using Hh hL
  exact ⟨_,rfl,h⟩
theorem pL:Iw table "iter" = some En.«iter» := entryFor_of_fast (by kernel_rfl)
theorem rt (a:Value):argsOk "iter" ⟨[a],[]⟩:=by unfold argsOk;kernel_rfl
section
variable {C:Cx} {lv:Lv} {N:aE} {ρ ρ₁ ρ₂ ρ₃ ρ' ρ₀:aO} {σ σ₁ σ₂ σ₃ σ₄ σ':aC} {o:Out} {A:Around} {env:Env} {μ μ':Mu} {s s':Shared} {a b:AV} {i j l k:Nat} {pos np:Pos} {e:Expr} {xs:List AV}
theorem aS.one {N:aE} {ρ:aO} {ob:Obj} {o:AO} (G:aT C lv A μ σ s) (F:aM A N env μ ρ s.heap) (tk:Nat) (h:ef C (μ.add s.heap.objs.size [s.heap.objs.size]) (s.heap.push ob) (s.heap.objs.size,[s.heap.objs.size]) o) :
  aS C lv A N env μ s ρ (σ++[o]) (μ.add s.heap.objs.size [s.heap.objs.size]) {s with heap:=s.heap.push ob,toks:=tk}/\af (μ.add s.heap.objs.size [s.heap.objs.size]) (s.heap.push ob) (.ref σ.length) (.ref s.heap.objs.size):=
 ⟨aS.alloc (s':={s with heap:=s.heap.push ob,toks:=tk}) G F (bB _ _) (fun b hb=>by rw [EG.mp hb,];exact ⟨EH _,by show _<(HV _ _).objs.size;rw [ER,];exact E3 _⟩) (.head _) h,
  ⟨_,by show (μ.objs++[_])[σ.length]? = _;rw [<- G.sim.len,];exact EV,rfl⟩⟩
theorem zN (hx:σ[l]? = some (.list xs)):dS C lv σ (.builtin "iter") [.ref l] (.ref σ.length) (σ++[.iter l 0]):=by
 intro N ρ A env μ s vs Q E ok G F r hQ
 obtain ⟨u,rfl,ru⟩:=r.e1
 obtain ⟨p,ws,n,rfl,hp,e,h1,hr,hlen⟩:=G.list hx ru
 refine call_function_meets (by decide +kernel) (by decide +kernel) pL (rt _) (kE p.1 ws) ⟨⟨_,h1,rfl,n,rfl⟩,?_⟩
 have' hl:l<μ.objs.length:=(EI.mp hp).1
 obtain ⟨P,v⟩:=aS.one (ob:={cls:=.type "list_iterator",data:=.fields #[.ref p.1,.int 0 0]}) (o:=.iter l 0) G F s.toks ⟨rfl,p,by show (μ.objs++[_])[l]? = _;rw [Ed hl,];exact hp,EP _ rfl⟩
 exact hQ _ _ _ P v
theorem uw (he:aH C lv N e ρ σ (.ref i) ρ₁ σ₁) (hx:σ₁[i]? = some (.iter l k))
  (hw:autoParam (∀ env,eval (.Attribute e "__next__" pos) env=(do
   let o <- eval e env
   HQ pos.atName
   let r <- Hu [o] (JK o "__next__" true)
   HY e o r
   pure r)) aV):aH C lv N (.Attribute e "__next__" pos) ρ σ (.ref σ₁.length) ρ₁ (σ₁++[.next i]):=fun A env μ s Q E ok G F hQ=>
 Attribute_any_ (he A env μ s _ _ ok G F fun v μ1 s1 P1 ⟨p,hp,e1⟩=>by
  subst e1;obtain ⟨e2,q,hq,ho⟩:=P1.good.sim.rep i p _ hp hx;obtain ⟨hh,g,d,t,os⟩:=s1;refine n8 (h:=hh) ⟨_,ho,rfl,rfl⟩ (fun o h=>by rw [ho] at h;cases h;rfl) ?_
  have' hl:i<μ1.objs.length:=(EI.mp hp).1;obtain ⟨P,v⟩:=aS.one (ob:=fj p.1) (o:=.next i) P1.good P1.fr (t+1) ⟨rfl,p,by show (μ1.objs++[_])[i]? = _;rw [Ed hl,];exact hp,EP _ rfl⟩
  exact hQ _ _ _ (P1.trans P) v) (hw env)
theorem gq {M:Model} {h:Heap} {x it:Addr} (ho:h.get? x=some (fj it)):Looks M h (LQ (.ref x)) .machine:=(IZ (part:=none) ho).andThen .now
theorem tO (it:Addr):I5 "list_iterator.__next__" ⟨[.ref it],[]⟩=pure ():=by kernel_rfl
theorem m2 {x it:Addr} {R:Result->Shared->Prop} {prog:Fn} {w:World} (ho:s.heap.get? x=some (fj it))
  (h:GP (model prog w) A (.builtin "list_iterator.__next__" ⟨[.ref it],[]⟩) R s):GP (model prog w) A (.call (.ref x) ⟨[],[]⟩) R s:=by
 obtain ⟨hh,g,d,t,os⟩:=s
 refine Gs ?_
 show wpAny _ _ (Ki (.ref x) _) _ _ _
 dsimp only at ho
 refine Ll ho (nd_bind (nd_pure ?_))
 show wpAny _ _ (I5 "list_iterator.__next__" ⟨[.ref it],[]⟩ >>= _) _ _ _
 rw [tO,]
 exact EA (EF (EF ⟨Code.quiet_builtin _ (by decide +kernel),h⟩))
theorem ue {it l:Addr} {k:Nat} {items:Array Value} {x:Value} {R:Result->Shared->Prop} {prog:Fn} {w:World} (ho:s.heap.get? it=some {cls:=.type "list_iterator",data:=.fields #[.ref l,.int k 0]}) (hl:s.heap.IsList l items) (hx:items[k]? = some x)
  (h:∀ h',h'.get? it=some {cls:=.type "list_iterator",data:=.fields #[.ref l,.int (k+1:Nat) 0]}->GY it s.heap h'->R (.ok (.ret x)) {s with heap:=h'}) :
  GP (model prog w) A (.builtin "list_iterator.__next__" ⟨[.ref it],[]⟩) R s:=by
 obtain ⟨ol,hol,_,nl,hdl⟩:=hl
 refine Fd Kp ?_
 rw [Around.under_plainId IJ.plain _,]
 show wpAny _ _ (field (.ref it) 0 >>= _) _ _ s
 refine EA (IN ho rfl (x:=.ref l) rfl ?_)
 show wpAny _ _ (if (Fg l==FB)=true then _ else _) _ _ s
 rw [if_neg (show ¬ ((Fg l==FB)=true) from Bool.false_ne_true),]
 show wpAny _ _ (field (.ref it) 1 >>= _) _ _ s
 refine EA (IN ho rfl (x:=.int k 0) rfl ?_)
 show wpAny _ _ (seqItems? (.ref l) >>= _) _ _ s
 refine EA (K7 hol hdl ?_)
 simp only [HM,hx]
 refine EA (JY ho (by simp) fun h' hz hs=>EF (h h' ?_ hs))
 simpa [rawInt] using hz
theorem wY {as:List Value}:ownMembersOf (.type "StopIteration") as = #[]:=by kernel_rfl
theorem qk {α:Type} {M:Model} {E:Value->Shared->Prop} {Q:α->Shared->Prop} (hh:A.handled=none) (h:∀ h' e,Lc s.heap h' e "StopIteration" -> E (.ref e) {s with heap:=h'}) :
  wpAny M A (do raiseNew (<- newExc (.type "StopIteration") []):Sem α) Q E s:=by
 refine EA ?_
 unfold newExc newTuple
 refine EA (GZ ?_ (by size_fits))
 refine EA (m:=firstArgMember _ _) (GC (a:=FB) (by first | rfl | (simp only [firstArgMember];rfl)) ?_)
 refine GZ ?_ (by size_fits)
 unfold raiseNew
 refine EA (wpAny_handled ?_)
 rw [hh,]
 first
  | refine wpAny_throw ?_
  | refine EA (EF (wpAny_throw ?_))
 exact h _ _ ⟨fun b o hb=>EJ _ (EJ _ hb),HJ (by simp),_,.ref s.heap.objs.size,EP _ rfl,rfl,by simp [wY]⟩
theorem vq {it l:Addr} {k:Nat} {items:Array Value} {R:Result->Shared->Prop} {prog:Fn} {w:World} (hh:A.handled=none) (ho:s.heap.get? it=some {cls:=.type "list_iterator",data:=.fields #[.ref l,.int k 0]}) (hl:s.heap.IsList l items) (hx:items[k]? = none)
  (h:∀ h' h2 x,(∃ o,h'.get? it=some o)->GY it s.heap h'->Lc h' h2 x "StopIteration" -> h'.objs.size<=h2.objs.size->R (.error (.ref x)) {s with heap:=h2}) :
  GP (model prog w) A (.builtin "list_iterator.__next__" ⟨[.ref it],[]⟩) R s:=by
 obtain ⟨ol,hol,_,nl,hdl⟩:=hl
 refine Fd Kp ?_
 rw [Around.under_plainId IJ.plain _,]
 show wpAny _ _ (field (.ref it) 0 >>= _) _ _ s
 refine EA (IN ho rfl (x:=.ref l) rfl ?_)
 show wpAny _ _ (if (Fg l==FB)=true then _ else _) _ _ s
 rw [if_neg (show ¬ ((Fg l==FB)=true) from Bool.false_ne_true),]
 show wpAny _ _ (field (.ref it) 1 >>= _) _ _ s
 refine EA (IN ho rfl (x:=.int k 0) rfl ?_)
 show wpAny _ _ (seqItems? (.ref l) >>= _) _ _ s
 refine EA (K7 hol hdl ?_)
 simp only [HM,hx]
 refine EA (IG (EA (JY ho (by simp) fun h' hz hs=>?_)))
 have' z:wpAny (model prog w) A.in1 (do raiseNew (<- newExc (.type "StopIteration") []):Sem PySem.Fin) (fun fin s'=>match fin with | .done f=>R (.ok f) s' | .again c'=>c'.quiet=true/\GP (model prog w) A c' R s') (fun e s'=>R (.error e) s') {s with heap:=h'}:=
  ao (qk hh fun h2 e hn hl2=>h h' h2 e ⟨_,hz⟩ hs hn hl2)
 exact z
theorem nw {f:Expr} {n:Nat} (hf:aH C lv N f ρ σ (.ref n) ρ₁ σ₁) (hn:σ₁[n]? = some (.next i)) (hi:σ₁[i]? = some (.iter l k)) (hl:σ₁[l]? = some (.list xs)) (hx:xs[k]? = some a) (hz:i∉lv.fz)
  (hw:autoParam (∀ env,eval (.Call f [] [] pos) env=(do
   let f <- eval f env
   HL pos f [] (backTo pos (Fv [] env)) (HB pos (GE [] env)))) aV):aH C lv N (.Call f [] [] pos) ρ σ a ρ₁ (σ₁.set i (.iter l (k+1))):=by
 intro A env μ s Q E ok G F hQ
 rw [hw,]
 refine EA (hf A env μ s _ _ ok G F fun v μ1 s1 P1 qq1=>?_)
 obtain ⟨p,hp,e⟩:=qq1
 subst e
 obtain ⟨e1,q,hq,ho⟩:=P1.good.sim.rep n p _ hp hn
 obtain ⟨e2,q2,hq2,ho2⟩:=P1.good.sim.rep i q _ hq hi
 obtain ⟨e3,vs,⟨nn,h3⟩,hr⟩:=P1.good.sim.rep l q2 _ hq2 hl
 refine Lf (P:=fun h=>h.get? p.1=some (fj q.1)) rfl (fun h h0=>⟨_,.inr (.inl rfl),gq h0⟩) (PySem.evalArgs_none ⟨ho,Ff (m2 ho ?_)⟩)
 have hlen:=bN hr
 have hxl:k<xs.length:=(EI.mp hx).1
 have' hv:vs[k]? = some (vs.toList[k]'(by omega)):=by simp
 refine ue ho2 ⟨_,h3,rfl,nn,rfl⟩ hv fun h' hz' hs=>?_
 have hqm:q.1∈q.2:=by rw [e2,];exact .head _
 have' k1:=g9 (A:=A) hqm hs
 have P2:=aS.write P1.good P1.fr hq hz k1 (o':=.iter l (k+1)) ⟨e2,q2,hq2,hz'⟩
 exact hQ _ μ1 _ (P1.trans P2) (P2.val P1.good P1.fr (ec hr k _ a (by simp) hx))
theorem qP {f:Expr} {n:Nat} (hf:aH C lv N f ρ σ (.ref n) ρ₁ σ₁) (hn:σ₁[n]? = some (.next i)) (hi:σ₁[i]? = some (.iter l k)) (hl:σ₁[l]? = some (.list xs)) (hx:xs[k]? = none) (hz:i∉lv.fz) (hq':autoParam (lv.q=true) aR)
  (hw:autoParam (∀ env,eval (.Call f [] [] pos) env=(do
   let f <- eval f env
   HL pos f [] (backTo pos (Fv [] env)) (HB pos (GE [] env)))) aV):sM C lv N (.Call f [] [] pos) ρ σ "StopIteration" ρ₁ (σ₁.set i .deq):=by
 intro A env μ s Q E ok G F hE
 rw [hw,]
 refine EA (hf A env μ s _ _ ok G F fun v μ1 s1 P1 qq1=>?_)
 obtain ⟨p,hp,e⟩:=qq1
 subst e
 obtain ⟨e1,q,hq,ho⟩:=P1.good.sim.rep n p _ hp hn
 obtain ⟨e2,q2,hq2,ho2⟩:=P1.good.sim.rep i q _ hq hi
 obtain ⟨e3,vs,⟨nn,h3⟩,hr⟩:=P1.good.sim.rep l q2 _ hq2 hl
 refine Lf (P:=fun h=>h.get? p.1=some (fj q.1)) rfl (fun h h0=>⟨_,.inr (.inl rfl),gq h0⟩) (PySem.evalArgs_none ⟨ho,Ff (m2 ho ?_)⟩)
 have hlen:=bN hr
 have' hv:vs[k]? = none:=by
  rw [List.getElem?_eq_none_iff] at hx
  exact Array.getElem?_eq_none (by rw [<- FM,];omega)
 refine vq (P1.good.quiet hq') ho2 ⟨_,h3,rfl,nn,rfl⟩ hv fun h' h2 x hob hs hne hl2=>?_
 have hqm:q.1∈q.2:=by rw [e2,];exact .head _
 have' k1:=g9 (A:=A) hqm hs
 have P2:=aS.write P1.good P1.fr hq hz k1 (o':=.deq) ⟨e2,hob⟩
 obtain ⟨P3,fl⟩:=nu (tk:=s1.toks) (s:={s1 with heap:=h'}) P2.good P2.fr hne hl2
 exact (hE.behind G F (P1.trans P2)) x μ1 _ P3 fl
end
section
variable {C:Cx} {lv:Lv} {N:aE} {ρ ρ₁ ρ₂ ρ₃ ρ' ρ₀:aO} {σ σ₁ σ₂ σ₃ σ₄ σ':aC} {o:Out} {A:Around} {env:Env} {μ μ':Mu} {s s':Shared} {a b:AV} {i l:Nat} {pos spos apos:Pos} {e t:Expr} {xs:List (Int×AV)} {k:Int}
theorem i0 (hv:aH C lv N e ρ σ a ρ₁ σ₁) (ht:c8 C lv N t a ρ₁ σ₁ ρ₂ σ₂):aH C lv N (.NamedExpr t e pos) ρ σ a ρ₂ σ₂:=fun A env μ s Q E ok G F hQ=>
 wpAny_NamedExpr (hv A env μ s _ _ ok G F fun v μ1 s1 P1 r=>ht A env μ1 s1 v _ _ ok P1.good P1.fr r fun μ2 s2 P2=>hQ v μ2 s2 (P1.trans P2) (P2.val P1.good P1.fr r))
theorem q8 {value slice:Expr} (hv:aH C lv N value ρ σ (.ref l) ρ₁ σ₁) (hi:aH C lv N slice ρ₁ σ₁ (.dat (.int k)) ρ₂ σ₂) (hx:σ₂[l]? = some (.dict xs)) (hz:l∉lv.fz) (hd:atA xs k=some a) (hlen:xs.length<=1000) :
  aq C lv N (.Delete [.Subscript value slice spos] pos) ρ σ .nxt ρ₂ (σ₂.set l (.dict (gt xs k))):=by
 intro A env μ s Q E ok G F hQ
 refine wpAny_Delete (wpAny_deleteEach_cons ?_)
 rw [arm_delete_Subscript]
 refine EA (hv A env μ s _ _ ok G F fun ov μ1 s1 P1 ro=>EA (EY (hi A env μ1 s1 _ _ ok P1.good P1.fr fun iv μ2 s2 P2 ⟨bs,ri⟩=>EA (FP ?_))))
 obtain ⟨p,kvs,rfl,hp,e1,hsys,hdict,hr⟩:=P2.good.dict ok hx (P2.val P1.good P1.fr ro)
 have hl:p.1∈p.2:=by rw [e1];exact .head _
 have h2:=kN (k:=k) hr
 rw [hd] at h2
 obtain ⟨u,hu,ru⟩:=h2
 cases ri using RI with
 | int tt=>
  refine EA (EY ?_);refine wpAny_delItem_slot hdict.typeIs (by decide) PySem.F.slot_dict_delitem (KH PySem.F.slot_dict_delitem hdict.typeIs PySem.F.entry_dict_delitem (PySem.F.args_dict_delitem_2 _ _) (meets_dict_delitem_pairs (knd:=Gi C.prog C.w) (d:=p.1) (k:=k) (by simp [Gi,IT])) ⟨kvs,hdict,by rw [fV hr,EO];omega,by rw [hu];rfl,fun h' hd' hsb=>Jm (wpAny_deleteEach_nil ?_)⟩)
  have k1:aL A (·∈p.2) s2 {s2 with heap:=h',toks:=s2.toks+1}:=⟨h',_,_,rfl,⟨E9 hsb.1.symm,id⟩,fun b o hb e=>.inl ((hsb.2 b fun q=>hb (q▸hl)).trans e)⟩
  have' hW:∀ b,b∈p.2\/FA A b->b∈μ2.hid\/s2.heap.objs.size<=b:=P2.good.fw fun b hb=>.inl (P2.good.sim.foot b (aj (EK hp) hb))
  exact hQ _ μ2 _ (P1.trans (P2.trans (aS.write P2.good P2.fr hp hz k1 ⟨e1,_,hd',na (cD.mono (Ext.refl _ _) k1 hW hr)⟩))) rfl
theorem p6 {h:Heap} {xs:List (Int×AV)} {kvs:List (Int×Value)} (r:cD μ h xs kvs):∀ (i:Nat) (k k':Int) (a:AV) (v:Value),xs[i]? = some (k,a)->kvs[i]? = some (k',v)->k=k'/\af μ h a v:=by
 refine cD.ind r (fun i zz zz zz zz e zz=>by cases e) fun k0 a0 v0 xs kvs hv ih i k k' a v e e'=>?_
 cases i with
 | zero=>cases e;cases e';exact ⟨rfl,hv⟩
 | succ i=>exact ih i k k' a v (by simpa using e) (by simpa using e')
theorem uB {tg:Expr} (h:aH C lv N e ρ σ (.ref i) ρ₁ σ₁) (hx:σ₁[i]? = some (.dict xs)) (hq:autoParam (lv.q=true) aR) (hnm:autoParam (nS tg=true) aR):gK C lv N tg e [i] ρ σ (xs.map fun p=>.dat (.int p.1)) ρ₁ σ₁:=by
 intro A env μ s Q E ok G F hQ
 refine h A env μ s _ _ ok G F fun v μ1 s1 P1 r=>?_
 obtain ⟨p,kvs,rfl,hp,e1,hsys,hdict,hr⟩:=P1.good.dict ok hx r
 obtain ⟨ep,hat⟩:=hdict.dictAt
 have hlt:p.1<s1.heap.objs.size:=P1.good.lt _ (P1.good.sim.foot _ (aj (EK hp) (by rw [e1];exact .head _)))
 refine wpAny_pyIter_dict hsys hat ?_
 have W:=Walks.dictKeys (prog:=C.prog) (w:=C.w) (knd:=Gi C.prog C.w) (P1.good.quiet hq) s1.heap.objs.size p.1 (FE hlt) kvs ep
 rw [show kvs.length=(xs.map fun p=>AV.dat (.int p.1)).length by simp [fV hr]] at W
 obtain ⟨P2,it⟩:=dh (tg:=tg) (s':={s1 with heap:=s1.heap.push {cls:=.type "dict_keyiterator",data:=.fields #[.ref p.1,.int 0 0,.int kvs.length 0,.int ep 0]}}) (ls:=[i]) (base:=s.heap.objs.size) P1.good P1.fr P1.kept.le (.name W (hY hnm)) (by show _<(HV _ _).objs.size;rw [ER];exact E3 _) (EH _) (bB _ _)
  ⟨⟨_,EP _ rfl,rfl,by simp [fV hr]⟩,hat.at' fun o e=>EJ _ e⟩ (fun b hb=>by
   rcases ES.mp hb with rfl | hb
   ·exact .inl rfl
   ·rw [EG.mp hb];exact .inr ⟨hlt,jQ P1.good P1.fr hp (by rw [e1];exact .head _),fun zz=>aj (EK hp) (by rw [e1];exact .head _)⟩) fun j v a e ⟨k,x,hk,hkey⟩=>by
    rw [Ei] at e
    obtain ⟨q,hq',rfl⟩:=FL.mp e;obtain ⟨t,rfl⟩:=Value.isInt_shape hkey;obtain ⟨rfl,_⟩:=p6 hr j q.1 k q.2 x hq' hk;exact ⟨[],.int _ t⟩
 exact hQ _ _ _ (P1.trans P2) it
theorem qL {tg:Expr} (h:aH C lv N e ρ σ (.ref i) ρ₁ σ₁) (hx:σ₁[i]? = some (.dict xs)) (hbase:autoParam (∀ env,HO e "values" env (eval e env)=eval e env) aI) (hline:autoParam ((apos.endLine==pos.line)=true) aR) (hq:autoParam (lv.q=true) aR) (hnm:autoParam (nS tg=true) aR) :
  gK C lv N tg (.Call (.Attribute e "values" apos) [] [] pos) [i] ρ σ (xs.map (·.2)) ρ₁ σ₁:=by
 intro A env μ s Q E ok G F hQ
 refine IM (hbase env) hline (h A env μ s _ _ ok G F fun v μ1 s1 P1 r=>⟨"dict", "dict.values",PySem.F.plainAttrs_dict,PySem.F.slot_dict_values,PySem.F.type_dict_values,?_⟩)
 have ty:=gD hx μ1 s1 v P1.good.sim r
 refine ⟨ty.1,ty.2,?_⟩
 obtain ⟨p,kvs,rfl,hp,e1,hsys,hdict,hr⟩:=P1.good.dict ok hx r
 obtain ⟨ep,hat⟩:=hdict.dictAt
 have hlt:p.1<s1.heap.objs.size:=P1.good.lt _ (P1.good.sim.foot _ (aj (EK hp) (by rw [e1];exact .head _)))
 refine Fu rfl (PySem.evalArgs_none (KH PySem.F.slot_dict_values hdict.typeIs PySem.F.entry_dict_values (PySem.F.args_dict_values_1 _) (meets_dict_values (Gi C.prog C.w) p.1 hsys) ⟨⟨kvs,hdict⟩,?_⟩))
 have hat2:=hat.at' (h':=s1.heap.push {cls:=.type "dict_values",data:=.fields #[.ref p.1]}) fun o e=>EJ _ e
 refine wpAny_pyIter_values (s:={s1 with heap:=s1.heap.push {cls:=.type "dict_values",data:=.fields #[.ref p.1]}}) ⟨_,EP _ rfl,rfl,rfl⟩ hat2 ?_
 generalize hvw:({cls:=.type "dict_values",data:=.fields #[.ref p.1]}:Obj)=vw at *
 have hsz:(s1.heap.push vw).objs.size=s1.heap.objs.size+1:=ER ..
 have W:=Walks.dictValues (prog:=C.prog) (w:=C.w) (knd:=Gi C.prog C.w) (P1.good.quiet hq) (s1.heap.push vw).objs.size p.1 (FE (by rw [hsz];exact HG hlt)) kvs ep
 rw [show kvs.length=(xs.map (·.2)).length by simp [fV hr]] at W
 obtain ⟨P2,it⟩:=dh (tg:=tg) (s':={s1 with heap:=(s1.heap.push vw).push {cls:=.type "dict_valueiterator",data:=.fields #[.ref p.1,.int 0 0,.int kvs.length 0,.int ep 0]}}) (ls:=[i]) (base:=s.heap.objs.size) P1.good P1.fr P1.kept.le (.name W (hY hnm)) (by show (s1.heap.push vw).objs.size<(HV _ _).objs.size;rw [ER (s1.heap.push vw)];exact E3 _) (by rw [hsz];exact Eg _) (ab (tk:=s1.toks) (by simp only [ER];exact Fi (Eg _)) fun b o e=>EJ _ (EJ _ e))
  ⟨⟨_,EP _ rfl,rfl,by simp [fV hr]⟩,hat2.at' fun o e=>EJ _ e⟩ (fun b hb=>by
   rcases ES.mp hb with rfl | hb
   ·exact .inl rfl
   ·rw [EG.mp hb];exact .inr ⟨hlt,jQ P1.good P1.fr hp (by rw [e1];exact .head _),fun zz=>aj (EK hp) (by rw [e1];exact .head _)⟩) fun j v a e ⟨k,hk⟩=>by
    rw [Ei] at e
    obtain ⟨q,hq',rfl⟩:=FL.mp e;exact (p6 hr j q.1 k q.2 v hq' hk).2
 exact hQ _ _ _ (P1.trans P2) it
end
set_option tactic.hygienic true in
theorem il {α:Type} {K:Frag} {M:Model} {A:Around} {E:Value->Shared->Prop} {Q:α->Shared->Prop} {s:Shared} {o:Obj} {r:Addr->α} (X:K.In s.heap) (q:Q (r s.heap.objs.size) {s with heap:=s.heap.push o}) (X2:K.In (s.heap.push o)) :
  ∀ (t:Sem α) (g:Addr->Option α),peek1 K ⟨M.prog,M.w.params⟩ t=some (o,g)->(∀ D,g D=some (r D))->wpAny M A t Q E s:=by
 intro t
 induction t with
 | rule _ k ih=>intro g e h;exact ih () g e h
 | point _ k ih=>intro g e h;exact ih () g e h
 | ask k ih=>intro g e h;exact nd_ask (ih _ g e h)
 | load a _ k ih=>
  intro g e h;unfold peek1 at e
  split at e
  ·rename_i o' ho
   exact Ll (X _ _ ho) (ih _ g e h)
  ·cases e
 | alloc o' k ih=>
  intro g e h;unfold peek1 at e
  cases e
  refine nd_alloc ?_;exact (Io (M:=M) X2 (h _)).here q
 | _=>intro g e;cases e
section
variable {C:Cx}
theorem bP.var {fd:Hm} {as:List AV} (names:List Str) (v:Str) (n:Nat) (ds:List PyData) (hds:as.drop n=ds.map .dat)
  (hp:∀ vs:List Value,vs.length=as.length->∀ S,∃ g,peek1 C.K S (Jt fd ⟨vs,[]⟩)=some (({cls:=.type "tuple",data:=.seq (vs.drop n).toArray}:Obj),g)/\∀ D,g D=some (names.zip vs++[(v,.ref D)])):bP C fd as [] (names.zip as++[(v,.dat (.tuple ds))]):=by
 intro A μ s vs kvs Q E X hlt r rk hQ
 cases kvs with
 | cons _ _=>exact rk.elim
 | nil=>
  obtain ⟨g,h1,h2⟩:=hp vs (bN r) ⟨C.prog,C.w.params⟩;have k:aL A0 NoW s {s with heap:=s.heap.push {cls:=.type "tuple",data:=.seq (vs.drop n).toArray}}:=bB _ _;refine il (M:=model C.prog C.w) (r:=fun D=>names.zip vs++[(v,.ref D)]) X (hQ _ _ k ?_) (fun a o e=>k.up _ _ (X a o e)) _ g h1 h2
  have r':aw μ (s.heap.push {cls:=.type "tuple",data:=.seq (vs.drop n).toArray}) as vs:=r.mono (Ext.refl _ _) k noW;have hd:aw μ (s.heap.push {cls:=.type "tuple",data:=.seq (vs.drop n).toArray}) (as.drop n) (vs.drop n):=by
   have:∀ (n:Nat) (as:List AV) (vs:List Value),aw μ (s.heap.push {cls:=.type "tuple",data:=.seq (List.drop n (vs:List Value)).toArray}) as vs->True:=fun zz zz zz zz=>trivial
   generalize s.heap.push {cls:=.type "tuple",data:=.seq (vs.drop n).toArray}=hh at r'
   clear this hQ h1 h2 g k r hp hds;revert as vs
   induction n with
   | zero=>intro as vs r';exact r'
   | succ n ih=>
    intro as vs r'
    cases as with
    | nil=>cases vs with
     | nil=>trivial
     | cons _ _=>exact r'.elim
    | cons _ _=>cases vs with
     | nil=>exact r'.elim
     | cons _ _=>exact ih _ r'.2
  rw [hds] at hd
  obtain ⟨bs,ra⟩:=fL hd;refine kS (lN r') ⟨⟨rfl,_,.tuple (F9 _ (EP _ rfl) fun q=>absurd (hlt _ q) (E2 _)) rfl rfl (by simpa using ra)⟩,trivial⟩
end
section
variable {C:Cx} {lv:Lv} {σ:aC}
theorem oG {a b:Int}:Op2 C (L8 .Add) (.int a) (.int b) (.int (a+b)):=fun zz zz zz zz zz zz zz zz zz zz ru rv zz hQ=>by cases ru using RI;cases rv using RI;exact AutoIntOps.iadd_0 (hQ _ _ _ (ae _) (.int _ _))
theorem y9 {a b:Int}:Op2 C (L8 .Sub) (.int a) (.int b) (.int (a - b)):=fun zz zz zz zz zz zz zz zz zz zz ru rv zz hQ=>by cases ru using RI;cases rv using RI;exact AutoIntOps.isub_0 (hQ _ _ _ (ae _) (.int _ _))
end
noncomputable def c9 (j np:Int) (l:Nat):AO:=.slot 63 [some (.dat (.int j)),some (.dat (.int np)),some (.ref l)]
structure Nd where
 np:Int
 sc:List Nat
noncomputable def bW (n:Nat):AV:=.dat (.int (n:Int))
noncomputable def ce (k:Nat):Nat->List Nd->List AO
 | _,[]=>[]
 | j,x :: xs=>c9 j x.np (k+3+2 * j) :: .list (x.sc.map bW) :: ce k (j+1) xs
noncomputable def gY (k n:Nat):List (Int×AV):=(EN n).map fun (j:Nat)=>((j:Int),AV.ref (k+2+2 * j))
noncomputable def mH (k:Nat) (rd:AV) (po nf:Int):List (Str×AV):=[("_node2info",.ref (k+1)),("_ready_nodes",rd),("_npassedout",.dat (.int po)),("_nfinished",.dat (.int nf))]
noncomputable def bd (k:Nat) (rd:AV) (po nf:Int) (nds:List Nd):List AO:=.inst 160 (mH k rd po nf) :: .dict (gY k nds.length) :: ce k 0 nds
theorem mY (k:Nat):∀ (j:Nat) (xs:List Nd),(ce k j xs).length=2 * xs.length:=by
 intro j xs
 induction xs generalizing j with
 | nil=>rfl
 | cons _ xs ih=>
  rw [ce,EX,EX,ih (j+1),EX];omega
theorem cR (k:Nat) (rd:AV) (po nf:Int) (nds:List Nd):(bd k rd po nf nds).length=2+2 * nds.length:=by
 unfold bd;rw [EX,EX,mY];omega
theorem kZ (k:Nat):∀ (i:Nat) (xs:List Nd) (j:Nat) (x:Nd),xs[j]? = some x->(ce k i xs)[2 * j]? = some (c9 (i+j:Nat) x.np (k+3+2 * (i+j)))/\(ce k i xs)[2 * j+1]? = some (.list (x.sc.map bW)):=by
 intro i xs
 induction xs generalizing i with
 | nil=>intro j x e;cases e
 | cons y xs ih0=>
  intro j x e
  cases j with
  | zero=>cases e;exact ⟨rfl,rfl⟩
  | succ j=>
   have h:=ih0 (i+1) j x (by simpa using e)
   have' e1:i+1+j=i+(j+1):=by omega
   rw [e1] at h
   refine ⟨?_,?_⟩
   ·rw [show 2 * (j+1)=2 * j+1+1 by omega,ce,Ev,Ev];exact h.1
   ·rw [show 2 * (j+1)+1=2 * j+1+1+1 by omega,ce,Ev,Ev];exact h.2
theorem mQ (k:Nat):∀ (i:Nat) (xs:List Nd) (j:Nat) (x:Nd),xs[j]? = some x->∀ (np:Int) (sc:List Nat),
  (ce k i xs).set (2 * j) (c9 (i+j:Nat) np (k+3+2 * (i+j)))=ce k i (xs.set j ⟨np,x.sc⟩)/\(ce k i xs).set (2 * j+1) (.list (sc.map bW))=ce k i (xs.set j ⟨x.np,sc⟩):=by
 intro i xs
 induction xs generalizing i with
 | nil=>intro j x e;cases e
 | cons y xs ih0=>
  intro j x e np sc
  cases j with
  | zero=>cases e;exact ⟨rfl,rfl⟩
  | succ j=>
   have h:=ih0 (i+1) j x (by simpa using e) np sc
   have' e1:i+1+j=i+(j+1):=by omega
   rw [e1] at h
   refine ⟨?_,?_⟩
   ·rw [show 2 * (j+1)=2 * j+1+1 by omega,ce,F4,F4,h.1,F4,ce]
   ·rw [show 2 * (j+1)+1=2 * j+1+1+1 by omega,ce,F4,F4,h.2,F4,ce]
theorem tT (k:Nat) (x:Nd):∀ (i:Nat) (xs:List Nd),ce k i (xs++[x])=ce k i xs++[c9 (i+xs.length:Nat) x.np (k+3+2 * (i+xs.length)),.list (x.sc.map bW)]:=by
 intro i xs
 induction xs generalizing i with
 | nil=>rfl
 | cons y xs ih=>
  rw [El,ce,ih (i+1),ce,EX,show i+1+xs.length=i+(xs.length+1) by omega];rfl
section
variable {σ post:aC} {rd:AV} {po nf:Int} {nds:List Nd} {j:Nat} {x:Nd}
theorem dH:(σ++(bd σ.length rd po nf nds++post))[σ.length]? = some (.inst 160 (mH σ.length rd po nf)):=by rw [EZ (EH _),Fx];rfl
theorem fm:(σ++(bd σ.length rd po nf nds++post))[σ.length+1]? = some (.dict (gY σ.length nds.length)):=by rw [EZ (EM _ _),E1];rfl
theorem ze {i:Nat} {o:AO} (h:(ce σ.length 0 nds)[i]? = some o):(σ++(bd σ.length rd po nf nds++post))[σ.length+2+i]? = some o:=by
 rw [Ez,EZ (EM _ _),E1,show 2+i=i+1+1 by omega,bd,El,El,Ev,Ev,Ed (EI.mp h).1]
 exact h
theorem eh (h:nds[j]? = some x):(σ++(bd σ.length rd po nf nds++post))[σ.length+2+2 * j]? = some (c9 j x.np (σ.length+3+2 * j)):=by
 have:=(kZ σ.length 0 nds j x h).1
 rw [HH] at this
 exact ze this
theorem iu (h:nds[j]? = some x):(σ++(bd σ.length rd po nf nds++post))[σ.length+3+2 * j]? = some (.list (x.sc.map bW)):=by
 have:=ze (σ:=σ) (post:=post) (rd:=rd) (po:=po) (nf:=nf) (kZ σ.length 0 nds j x h).2
 rwa [show σ.length+2+(2 * j+1)=σ.length+3+2 * j by omega] at this
theorem wD {i:Nat} {o:AO} {nds':List Nd} (hi:i<2 * nds.length) (hl:nds'.length=nds.length) (h:(ce σ.length 0 nds).set i o=ce σ.length 0 nds') :
  (σ++(bd σ.length rd po nf nds++post)).set (σ.length+2+i) o=σ++(bd σ.length rd po nf nds'++post):=by
 rw [Ez,Ee _ _ (EM _ _),E1,show 2+i=i+1+1 by omega,bd,El,El,F4,F4,K8 _ _ (by rw [mY];exact hi),h,bd,hl]
 rfl
theorem qJ (h:nds[j]? = some x) (np:Int):(σ++(bd σ.length rd po nf nds++post)).set (σ.length+2+2 * j) (c9 j np (σ.length+3+2 * j))=σ++(bd σ.length rd po nf (nds.set j ⟨np,x.sc⟩)++post):=by
 have:=(mQ σ.length 0 nds j x h np []).1
 rw [HH] at this
 exact wD (by have:=(EI.mp h).1;omega) (by simp) this
theorem ve (h:nds[j]? = some x) (sc:List Nat):(σ++(bd σ.length rd po nf nds++post)).set (σ.length+3+2 * j) (.list (sc.map bW))=σ++(bd σ.length rd po nf (nds.set j ⟨x.np,sc⟩)++post):=by
 have:=wD (σ:=σ) (post:=post) (rd:=rd) (po:=po) (nf:=nf) (by have:=(EI.mp h).1;omega) (by simp) (mQ σ.length 0 nds j x h 0 sc).2
 rwa [show σ.length+2+(2 * j+1)=σ.length+3+2 * j by omega] at this
theorem lF {rd':AV} {po' nf':Int}:(σ++(bd σ.length rd po nf nds++post)).set σ.length (.inst 160 (mH σ.length rd' po' nf'))=σ++(bd σ.length rd' po' nf' nds++post):=by
 rw [Ee _ _ (EH _),Fx];rfl
theorem jK {k n:Nat} (h:j<n):atA (gY k n) (j:Int)=some (.ref (k+2+2 * j)):=by
 unfold atA gY
 rw [List.find?_map]
 have:(EN n).find? ((fun p:Int×AV=>decide (p.1=(j:Int))) ∘ fun (j:Nat)=>((j:Int),AV.ref (k+2+2 * j)))=some j:=by
  rw [List.find?_range_eq_some]
  refine ⟨by simp,by simpa using h,fun i hi=>?_⟩
  simp;omega
 rw [this];rfl
theorem uc {k n:Nat}:atA (gY k n) (n:Int)=none:=by
 unfold atA
 rw [KI,JZ]
 intro p hp
 obtain ⟨i,hi,rfl⟩:=EL.mp hp
 have:=Ec.mp hi
 simp;omega
theorem wh {k n:Nat}:er (gY k n) (n:Int) (.ref (k+2+2 * n))=gY k (n+1):=by
 unfold er
 have:(gY k n).any (fun p=>decide (p.1=(n:Int)))=false:=by
  rw [List.any_eq_false]
  intro p hp;obtain ⟨i,hi,rfl⟩:=EL.mp hp;have:=Ec.mp hi
  simp;omega
 rw [this]
 unfold gY
 rw [if_neg (by decide),HF,Eh];rfl
theorem Ar:(σ++(bd σ.length rd po nf nds++[])).set (σ.length+1) (.dict (gY σ.length (nds.length+1)))++[c9 nds.length 0 (σ.length+2+2 * nds.length+1),.list []]=σ++(bd σ.length rd po nf (nds++[⟨0,[]⟩])++[]):=by
 rw [Ee _ _ (EM _ _),E1]
 unfold bd
 rw [tT]
 simp
 congr 1;omega
end
theorem rB {K:Frag} {c:Addr} {od:Obj} {name:Str} {f:Addr} (hh:hasDictIn K c=true) (ha:findIn K (.ref c) name=some (some (.ref f))) (hg:JM K (.ref f) "__get__" = some (some (.builtin "function.__get__"))) (ht:Kh K (.ref f)=some false) (hc:copiedNames.contains name=false) (hl:lookIn name od=some none) :
  findObj K c (some od) name=some (.bind (.builtin "function.__get__") (.ref f)):=by
 obtain ⟨cd,hc',hd⟩:=Lo hh
 unfold findObj
 have ho:W.ownOf cd (some od) name=some none:=by unfold W.ownOf;rw [if_pos hd];exact hl
 rw [hc',H0,ha,H0]
 dsimp only
 rewrite [hg,H0]
 dsimp only
 rewrite [ht,H0]
 dsimp only
 rewrite [ho,H0]
 dsimp only
 rewrite [hc]
 rfl
section
variable {C:Cx} {lv:Lv} {N:aE} {ρ ρ₁ ρ₂ ρ₃ ρ' ρ₀:aO} {σ σ₁ σ₂ σ₃ σ₄ σ':aC} {o:Out} {A:Around} {env:Env} {μ μ':Mu} {s s':Shared} {a b:AV} {i:Nat} {c:Addr} {xs:List (Str×AV)} {name:Str} {pos apos:Pos} {e:Expr} {as:List AV} {ks:List (Str×AV)} {m:Nat}
theorem kT {M:Model} {q f:Addr} {self:Value} {args:List (Bool×Sem Value)} {kws:List (Option Str×Sem Value)} {Q:Value->Shared->Prop} {E:Value->Shared->Prop} (hf:fnIn C.K f=true) (hstar:(args.any (·.1) || kws.any (·.1.isNone))=true)
  (h:wpAny M A (K5 (.ref q) true args kws) (fun a s₁=>MethP C.K q f self s₁.heap/\wpAny M A (call (.ref q) a.pos a.kw) Q E s₁) E s):wpAny M A (HL pos (.ref q) [] args kws) Q E s:=by
 unfold HL
 refine EA (EY (Ep h (fun a s₁ h₁=>EA (FP ?_)) fun zz zz x=>x))
 have' L:Looks M s₁.heap (LQ (.ref q)) .boundFrame:=by
  cases e:C.K.lookup f with
  | none=>unfold fnIn at hf;rewrite [e] at hf;cases hf
  | some o=>
   obtain ⟨c,d,dt,sl⟩:=o
   cases dt with
   | func x=>
    refine (IZ (part:=none) h₁.1.1).andThen ?_;exact (IZ (part:=none) (h₁.1.2 _ _ e)).andThen .now
   | _=>unfold fnIn at hf;rewrite [e] at hf;cases hf
 refine EA (L.here ?_)
 rw [hstar]
 exact EA (Ep (KQ h₁.2) (fun r s₂ hr=>EA (EY (Le (EF hr)))) fun zz zz x=>x)
theorem mq {ob:Expr} {es:List Expr} {f:Addr} (ho:aH C lv N ob ρ σ (.ref i) ρ₁ σ₁) (hx:σ₁[i]? = some (.inst c xs)) (hc:cB C.K c) (hf:findIn C.K (.ref c) name=some (some (.ref f))) (hg:JM C.K (.ref f) "__get__" = some (some (.builtin "function.__get__"))) (ht:Kh C.K (.ref f)=some false)
  (hcn:copiedNames.contains name=false) (hl:xs.lookup name=none) (hfn:fnIn C.K f=true) (hty:typeIn C.K (.ref f)=some (.type "function")) (hstar:∀ env,((backTo pos (Fv es env)).any (·.1) || (HB pos (GE [] env)).any (·.1.isNone))=true) (hv:pp C lv N es [] ρ₁ σ₁ as ks ρ₂ σ₂) (hcall:aP C m lv.fz (.ref f) (.ref i :: as) ks σ₂ b σ') (hmn:m<lv.n) (hq:autoParam (lv.q=true) aR)
  (hw:autoParam (∀ env,eval (.Call (.Attribute ob name apos) es [] pos) env=(do
   let ov <- eval ob env
   HQ apos.atName
   let m <- Hu [ov] (do pure (<- JK ov name true,([]:List Value)))
   let p <- pure pos
   HL p m.1 m.2 (backTo pos (Fv es env)) (HB pos (GE [] env)))) aV):aH C lv N (.Call (.Attribute ob name apos) es [] pos) ρ σ b ρ₂ σ':=by
 intro A env μ s Q E ok G F hQ
 rw [hw]
 refine EA (ho A env μ s _ _ ok G F fun v μ1 s1 P1 r=>EA (FP (EA (EY (EA ?_)))))
 obtain ⟨p,dx,es',n,rfl,hp,e,ne,hd,hr,I⟩:=P1.good.sim.inst hx r
 have X:=P1.good.inK ok
 refine get_bind X I hc.ga (rB hc.hd hf hg ht hcn (by rw [lookIn_dict,kR hr hl])) hc.ge (Ff (fn_get (s:={s1 with toks:=s1.toks+1}) X hty ?_))
 show wpAny _ _ (L7 (.ref s1.heap.objs.size)) _ _ _
 rw [KG rfl]
 refine EF (EF (EA (EF ?_)))
 dsimp only
 have' k1:aL A0 NoW s1 {s1 with heap:=s1.heap.push (L9 (.ref f) (.ref p.1)),toks:=s1.toks+1}:=bB _ _
 have P2:=aS.grow P1.good P1.fr k1
 have' hq0:(s1.heap.push (L9 (.ref f) (.ref p.1))).get? s1.heap.objs.size=some (L9 (.ref f) (.ref p.1)):=EP _ rfl
 refine kT (self:=.ref p.1) hfn (hstar env) (hv A env μ1 _ pos _ _ _ ok P2.good P2.fr fun vs kvs μ3 s3 P3 rv rk=>?_)
 have hq3:s3.heap.get? s1.heap.objs.size=some (L9 (.ref f) (.ref p.1)):=P3.kept.atD (fun hw=>absurd (P1.good.lt _ (dE P2.good.sim P2.fr _ hw)) (E2 _)) (fun zz zz q=>by cases q) hq0
 refine ⟨⟨hq3,P3.good.inK ok⟩,?_⟩
 refine Ff (method_call hq3 ?_)
 have r3:=(P2.trans P3).val P1.good P1.fr r
 refine hcall A μ3 s3 (.ref p.1 :: vs) kvs _ ok (P3.good.around (fun zz=>P1.good.quiet hq) rfl (by have:=P3.good.room;dsimp only;omega) (by have:=P3.good.units;dsimp only;omega) P3.good.frs) ⟨r3,rv⟩ rk fun v μ4 s4 G4 x4 k4 r4=>?_
 exact hQ v μ4 s4 (P1.trans (P2.trans (P3.trans (aS.call rfl P3.good P3.fr G4 x4 k4)))) r4
end
noncomputable def itO (k n:Nat):Option Nat->AO
 | some p=>.iter (k+3+2 * n) p
 | none=>.deq
noncomputable def dZ (a k:Nat):Nat->List (Nat×Option Nat)->List AO
 | _,[]=>[]
 | i,x :: r=>itO k x.1 x.2 :: .next (a+4+2 * i) :: dZ a k (i+1) r
theorem vp (a k:Nat):∀ i (ex:List (Nat×Option Nat)),(dZ a k i ex).length=2 * ex.length:=by
 intro i ex
 induction ex generalizing i with
 | nil=>rfl
 | cons x r ih=>
  rw [dZ,EX,EX,ih (i+1),EX];omega
theorem pV (a k:Nat):∀ i (ex:List (Nat×Option Nat)) q x,ex[q]? = some x->(dZ a k i ex)[2 * q]? = some (itO k x.1 x.2)/\(dZ a k i ex)[2 * q+1]? = some (.next (a+4+2 * (i+q))):=by
 intro i ex
 induction ex generalizing i with
 | nil=>intro j x e;cases e
 | cons y r ih0=>
  intro q x e
  cases q with
  | zero=>cases e;exact ⟨rfl,rfl⟩
  | succ q=>
   have h:=ih0 (i+1) q x (by simpa using e)
   rw [show i+1+q=i+(q+1) by omega] at h
   refine ⟨?_,?_⟩
   ·rw [show 2 * (q+1)=2 * q+1+1 by omega,dZ,Ev,Ev];exact h.1
   ·rw [show 2 * (q+1)+1=2 * q+1+1+1 by omega,dZ,Ev,Ev];exact h.2
theorem pj (a k:Nat) (p:Option Nat):∀ i (ex:List (Nat×Option Nat)) q x,ex[q]? = some x->(dZ a k i ex).set (2 * q) (itO k x.1 p)=dZ a k i (ex.set q (x.1,p)):=by
 intro i ex
 induction ex generalizing i with
 | nil=>intro j x e;cases e
 | cons y r ih0=>
  intro q x e
  cases q with
  | zero=>cases e;rfl
  | succ q=>
   have h:=ih0 (i+1) q x (by simpa using e)
   rw [show 2 * (q+1)=2 * q+1+1 by omega,dZ,F4,F4,h,F4,dZ]
theorem xA (a k:Nat) (x:Nat×Option Nat):∀ i (ex:List (Nat×Option Nat)),dZ a k i (ex++[x])=dZ a k i ex++[itO k x.1 x.2,.next (a+4+2 * (i+ex.length))]:=by
 intro i ex
 induction ex generalizing i with
 | nil=>rfl
 | cons y r ih=>rw [El,dZ,ih (i+1),dZ,EX,show i+1+r.length=i+(r.length+1) by omega];rfl
noncomputable def dL (st:List (Nat×Nat)):List (Int×AV):=st.zipIdx.map fun x=>((x.1.1:Int),bW x.2)
noncomputable def dfG (Z:aC) (s1 s2 s3 s4:AO) (e:List AO):aC:=Z++(s1 :: s2 :: s3 :: s4 :: e)
noncomputable abbrev dfS (Z:aC) (k:Nat) (ex:List (Nat×Option Nat)) (st:List (Nat×Nat)):aC:=
 dfG Z (.list (st.map fun x=>bW x.1)) (.list (st.map fun x=>.ref (Z.length+5+2 * x.2))) (.set (ex.map fun x=>(x.1:Int))) (.dict (dL st)) (dZ Z.length k 0 ex)
section
variable {Z:aC} {s1 s2 s3 s4 y:AO} {e:List AO} {k q:Nat} {ex:List (Nat×Option Nat)} {st:List (Nat×Nat)} {x:Nat×Option Nat}
theorem xq:(dfG Z s1 s2 s3 s4 e)[Z.length]? = some s1:=at_0'
where at_0':(Z++(s1 :: s2 :: s3 :: s4 :: e))[Z.length]? = some s1:=by rw [EZ (EH _),Fx];rfl
theorem vh:(dfG Z s1 s2 s3 s4 e)[Z.length+1]? = some s2:=by unfold dfG;rw [EZ (EM _ _),E1];rfl
theorem tq:(dfG Z s1 s2 s3 s4 e)[Z.length+2]? = some s3:=by unfold dfG;rw [EZ (EM _ _),E1];rfl
theorem zt:(dfG Z s1 s2 s3 s4 e)[Z.length+3]? = some s4:=by unfold dfG;rw [EZ (EM _ _),E1];rfl
theorem wI {i:Nat}:(dfG Z s1 s2 s3 s4 e)[Z.length+4+i]? = e[i]?:=by
 unfold dfG;rw [Ez,EZ (EM _ _),E1,show 4+i=i+1+1+1+1 by omega];rfl
theorem gU {i:Nat} {o:AO} (h:Z[i]? = some o):(dfG Z s1 s2 s3 s4 e)[i]? = some o:=by unfold dfG;rw [Ed (EI.mp h).1];exact h
theorem tH:(dfG Z s1 s2 s3 s4 e).set Z.length y=dfG Z y s2 s3 s4 e:=by unfold dfG;rw [Ee _ _ (EH _),Fx];rfl
theorem so:(dfG Z s1 s2 s3 s4 e).set (Z.length+1) y=dfG Z s1 y s3 s4 e:=by unfold dfG;rw [Ee _ _ (EM _ _),E1];rfl
theorem ym:(dfG Z s1 s2 s3 s4 e).set (Z.length+2) y=dfG Z s1 s2 y s4 e:=by unfold dfG;rw [Ee _ _ (EM _ _),E1];rfl
theorem tC:(dfG Z s1 s2 s3 s4 e).set (Z.length+3) y=dfG Z s1 s2 s3 y e:=by unfold dfG;rw [Ee _ _ (EM _ _),E1];rfl
theorem sf {i:Nat}:(dfG Z s1 s2 s3 s4 e).set (Z.length+4+i) y=dfG Z s1 s2 s3 s4 (e.set i y):=by
 unfold dfG;rw [Ez,Ee _ _ (EM _ _),E1,show 4+i=i+1+1+1+1 by omega];rfl
theorem wj {t:List AO}:dfG Z s1 s2 s3 s4 e++t=dfG Z s1 s2 s3 s4 (e++t):=by unfold dfG;simp
theorem wx:(dfG Z s1 s2 s3 s4 e).length=Z.length+4+e.length:=by unfold dfG;simp;omega
theorem ow {v q:Nat}:dL (st++[(v,q)])=dL st++[((v:Int),bW st.length)]:=by unfold dL;rw [List.zipIdx_append];simp
theorem qD {p:Int×AV} (h:p∈dL st):∃ y∈st,p.1=(y.1:Int):=by
 unfold dL at h
 obtain ⟨z,hz,rfl⟩:=EL.mp h
 refine ⟨z.1,?_,rfl⟩
 have:=List.mem_zipIdx hz
 exact (List.mem_iff_getElem.mpr ⟨z.2 - 0,by omega,by have:=this.2.2;simpa using this.symm⟩)
theorem sm {v:Nat} (h:∀ y∈st,y.1≠v):atA (dL st) (v:Int)=none/\(dL st).any (fun p=>decide (p.1=(v:Int)))=false:=by
 have:∀ p∈dL st,p.1≠(v:Int):=fun p hp=>by
  obtain ⟨y,hy,e⟩:=qD hp
  rw [e];intro q;exact h y hy (by omega)
 refine ⟨?_,?_⟩
 ·unfold atA;rw [KI,JZ];intro p hp;simpa using this p hp
 ·rw [List.any_eq_false];intro p hp;simpa using this p hp
theorem vm {v q:Nat} (h:∀ y∈st,y.1≠v):er (dL st) (v:Int) (bW st.length)=dL (st++[(v,q)]):=by
 unfold er;rw [(sm h).2,if_neg (by decide),ow]
theorem vv {v q:Nat} (h:∀ y∈st,y.1≠v):gt (dL (st++[(v,q)])) (v:Int)=dL st/\atA (dL (st++[(v,q)])) (v:Int)=some (bW st.length):=by
 have:∀ p∈dL st,p.1≠(v:Int):=fun p hp=>by
  obtain ⟨y,hy,e⟩:=qD hp
  rw [e];intro q;exact h y hy (by omega)
 rw [ow]
 refine ⟨?_,?_⟩
 ·unfold gt
  rw [IK,GN.mpr (fun p hp=>by simpa using this p hp)]
  simp
 ·unfold atA
  rw [List.find?_append,JZ.mpr (fun p hp=>by simpa using this p hp)]
  simp
theorem qK:(dL st).length=st.length:=by unfold dL;simp
end
theorem kF (l:Addr) (items:Array Value) (hfit:(items.size:Int)<2 ^ 63) :
  Meets (En.«bool.__new__» ⟨[.type "bool",.ref l],[]⟩) (fun zz R s=>s.heap.IsList l items/\R (.ok (.ret (.bool (!items.isEmpty)))) {s with toks:=s.toks+1+1}):=
 .of_wp fun prog w A R s h=>by
  obtain ⟨hp,g,d,tk,os⟩:=s;obtain ⟨hl,hs⟩:=h;have hL:Heap.IsList (Shared.heap ⟨hp,g,d,tk,os⟩) l items:=hl;have f1:=PySem.F.conv_sub_bool
  repeat (any_goals (first | assumption | (with_reducible refine Jc hL hfit ?_) | wp_step))
  all_goals first | exact ⟨_,rfl,hs⟩ | exact hs | skip
section
variable {C:Cx} {lv:Lv} {N:aE} {ρ ρ₁ ρ₂:aO} {σ σ₁ σ₂:aC} {i:Nat} {xs:List AV} {e:Expr}
theorem zI (hx:σ[i]? = some (.list xs)) (hz:xs.length<=1000):dS C lv σ (.type "bool") [.ref i] (.dat (.bool (!xs.isEmpty))) σ:=by
 intro N ρ A env μ s vs Q E ok G F r hQ
 obtain ⟨u,rfl,ru⟩:=r.e1
 obtain ⟨p,ws,n,rfl,hp,e,h1,hr,hlen⟩:=G.list hx ru
 have' e2:(!ws.isEmpty) = !xs.isEmpty:=by
  cases xs with
  | nil=>
   have:ws = #[]:=HZ hlen
   rw [this];rfl
  | cons x xs=>
   have:ws.isEmpty=false:=by
    rw [JX];intro q;rw [q] at hlen;simp at hlen
   rw [this];rfl
 refine call_bool_1 (kF p.1 ws (by rw [hlen];omega)) (show s.heap.IsList p.1 ws/\wants (fun obj s₁=>s₁.TypeIs obj "bool" /\ Q obj s₁) E _ _ from ⟨⟨_,h1,rfl,n,rfl⟩,rfl,?_⟩)
 rw [e2]
 exact hQ _ μ _ (aS.grow G F (ae _)) ⟨[],.bool _⟩
theorem aH.int {k:Int} {t:Tok} (h:aH C lv N e ρ σ (.con (.int k t)) ρ₁ σ₁):aH C lv N e ρ σ (.dat (.int k)) ρ₁ σ₁:=fun A env μ s Q E ok G F hQ=>h A env μ s Q E ok G F fun v μ' s' P r=>hQ v μ' s' P (by
 obtain rfl:=r;exact ⟨[],.int k t⟩)
end
noncomputable def so5 (Z:aC) (rd:List Nat) (po nf:Int) (nds:List Nd) (post:aC):aC:=Z++(bd Z.length (.ref (Z.length+2+2 * nds.length)) po nf nds++(.list (rd.map bW) :: post))
section
variable {Z post:aC} {rd:List Nat} {po nf:Int} {nds:List Nd} {j:Nat} {x:Nd}
theorem cN:(so5 Z rd po nf nds post)[Z.length]? = some (.inst 160 (mH Z.length (.ref (Z.length+2+2 * nds.length)) po nf)):=dH
theorem im:(so5 Z rd po nf nds post)[Z.length+1]? = some (.dict (gY Z.length nds.length)):=fm
theorem en (h:nds[j]? = some x):(so5 Z rd po nf nds post)[Z.length+2+2 * j]? = some (c9 j x.np (Z.length+3+2 * j)):=eh h
theorem sZ (h:nds[j]? = some x):(so5 Z rd po nf nds post)[Z.length+3+2 * j]? = some (.list (x.sc.map bW)):=iu h
theorem qA:(so5 Z rd po nf nds post)[Z.length+2+2 * nds.length]? = some (.list (rd.map bW)):=by
 unfold so5
 rw [Ez,EZ (EM _ _),E1,EZ (by rw [cR];exact EH _),cR,Fx];rfl
theorem kW (h:nds[j]? = some x) (np:Int):(so5 Z rd po nf nds post).set (Z.length+2+2 * j) (c9 j np (Z.length+3+2 * j))=so5 Z rd po nf (nds.set j ⟨np,x.sc⟩) post:=by
 unfold so5;rw [qJ h np,Hc]
theorem pn {rd':List Nat}:(so5 Z rd po nf nds post).set (Z.length+2+2 * nds.length) (.list (rd'.map bW))=so5 Z rd' po nf nds post:=by
 unfold so5
 rw [Ez,Ee _ _ (EM _ _),E1,Ee _ _ (by rw [cR];exact EH _),cR,Fx];rfl
theorem kl {po' nf':Int}:(so5 Z rd po nf nds post).set Z.length (.inst 160 (mH Z.length (.ref (Z.length+2+2 * nds.length)) po' nf'))=so5 Z rd po' nf' nds post:=lF
end
theorem zd (rd:List Nat):rd.map bW=(rd.map fun (n:Nat)=>Fw (n:Int)).map .dat:=by rw [EQ];rfl
noncomputable def bO (v:Int) (l:List Nd) (p:Nat):List Nd:=match l[p]? with
 | some x=>l.set p ⟨v,x.sc⟩
 | none=>l
theorem vS (v:Int) (l:List Nd) (p:Nat):(bO v l p).length=l.length:=by unfold bO;split<;>simp
theorem eK (v:Int):∀ (ps:List Nat) (l:List Nd),(ps.foldl (bO v) l).length=l.length:=by
 intro ps
 induction ps with
 | nil=>exact fun zz=>rfl
 | cons p ps ih=>
  intro l
  rw [Fh,ih,vS]
noncomputable def unv (n:Nat) (ex:List (Nat×Option Nat)):Nat:=((EN n).filter fun i=>!(ex.map (·.1)).contains i).length
structure e6 (n:Nat) (sc:Nat->List Nat) (ex:List (Nat×Option Nat)) (st:List (Nat×Nat)):Prop where
 inc:(st.map (·.1)).Pairwise (· < ·)
 live:∀ x∈st,∃ p,ex[x.2]? = some (x.1,some p)/\p<=(sc x.1).length
 lt:∀ x∈ex,x.1<n
 nod:(ex.map (·.1)).Nodup
 cnt:ex.length+unv n ex<=n
noncomputable def iz (ex:List (Nat×Option Nat)) (q:Nat):Nat:=match ex[q]? with
 | some (_,some p)=>p
 | _=>0
noncomputable def rest (sc:Nat->List Nat) (ex:List (Nat×Option Nat)):List (Nat×Nat)->Nat
 | []=>0
 | x :: st=>((sc x.1).length - iz ex x.2)+rest sc ex st
theorem kA {P:Nat->Bool} {v:Nat} (hv:P v=true):∀ (l:List Nat),v∈l->(l.filter fun i=>P i && !(i==v)).length<(l.filter P).length:=by
 intro l
 induction l with
 | nil=>intro h;exact absurd h Fb
 | cons x l ih0=>
  intro h;have' le:∀ l:List Nat,(l.filter fun i=>P i && !(i==v)).length<=(l.filter P).length:=fun l=>by
   induction l with
   | nil=>exact EH _
   | cons y l ih=>
    rw [Eu,Eu]
    cases hp:P y<;>cases hy:(y==v)<;>simp<;>omega
  rw [Eu,Eu]
  by_cases q:x=v
  ·subst q
   have:=le l
   simp [hv];omega
  ·have' h':v∈l:=(ES.mp h).resolve_left (Ne.symm q)
   have ih:=ih0 h';have hq:(x==v)=false:=by simpa using q
   cases hp:P x<;>simp [hq]<;>omega
theorem vi {n v:Nat} {ex:List (Nat×Option Nat)} {y:Option Nat} (hv:v<n) (hno:v∉ex.map (·.1)):unv n (ex++[(v,y)])<unv n ex:=by
 unfold unv
 have:=kA (P:=fun i=>!(ex.map (·.1)).contains i) (v:=v) (by simpa using hno) (EN n) (Ec.mpr hv)
 refine Eo (E9 ?_) this
 congr 1
 refine G0 fun i zz=>?_
 rw [Eh,FU]
 simp
theorem eu {ex:List (Nat×Option Nat)} {q m:Nat} {y z:Option Nat} (h:ex[q]? = some (m,y)):(ex.set q (m,z)).map (·.1)=ex.map (·.1):=by
 rw [LR]
 refine I6 fun i=>?_
 by_cases hi:i=q
 ·subst hi
  have' hl:=(EI.mp h).1
  rw [F6 (by rw [EC];exact hl),Ei,h];rfl
 ·rw [Fj (Ne.symm hi)]
theorem kP {n q m:Nat} {ex:List (Nat×Option Nat)} {y z:Option Nat} (h:ex[q]? = some (m,y)):unv n (ex.set q (m,z))=unv n ex:=by unfold unv;rw [eu h]
theorem qX {sc:Nat->List Nat} {ex:List (Nat×Option Nat)} {q:Nat} {z:Nat×Option Nat}:∀ {st:List (Nat×Nat)},(∀ x∈st,x.2≠q)->rest sc (ex.set q z) st=rest sc ex st:=by
 intro st
 induction st with
 | nil=>exact fun zz=>rfl
 | cons x st ih=>
  intro h;have e:iz (ex.set q z) x.2=iz ex x.2:=by unfold iz;rw [Fj (Ne.symm (h x (.head _)))]
  rw [rest,rest,e,ih fun y hy=>h y (.tail _ hy)]
theorem lK {sc:Nat->List Nat} {ex:List (Nat×Option Nat)} {x:Nat×Nat}:∀ {st:List (Nat×Nat)},rest sc ex (st++[x])=rest sc ex st+((sc x.1).length - iz ex x.2):=by
 intro st
 induction st with
 | nil=>simp [rest]
 | cons y st ih=>rw [El,rest,ih,rest];omega
theorem p8 {st:List (Nat×Nat)} {m q:Nat} (h:((st++[(m,q)]).map (·.1)).Pairwise (· < ·)):(st.map (·.1)).Pairwise (· < ·)/\∀ x∈st,x.1<m:=by
 rw [Eh,Hj] at h
 exact ⟨h.1,fun x hx=>h.2.2 x.1 (EL.mpr ⟨x,hx,rfl⟩) m (by simp)⟩
theorem xf {n:Nat}:∀ {l:List Nat} {m:Nat},l.Pairwise (· < ·)->(∀ x∈l,m<=x/\x<n)->l.length<=n - m:=by
 intro l
 induction l with
 | nil=>exact fun zz zz=>Ek _
 | cons x l ih=>
  intro m h hb
  rw [Fe] at h
  have h1:=hb x (.head _);have:=ih (m:=x+1) h.2 fun y hy=>⟨h.1 y hy,(hb y (.tail _ hy)).2⟩
  rw [EX];omega
theorem e6.stl {n:Nat} {sc:Nat->List Nat} {ex:List (Nat×Option Nat)} {st:List (Nat×Nat)} (I:e6 n sc ex st):st.length<=n:=by
 have:=xf (n:=n) (m:=0) I.inc fun x hx=>⟨Ek _,by
  obtain ⟨y,hy,rfl⟩:=EL.mp hx;obtain ⟨p,hp,_⟩:=I.live y hy;exact I.lt _ (EK hp)⟩
 simpa using this
section
variable {C:Cx} {lv:Lv} {N:aE} {D:List (Nat×Option Nat)->List (Nat×Nat)->aC} {R:Nat->aO} {ρ0:aO} {sc:Nat->List Nat} {n:Nat} {t1 tt tg:Expr} {body els els2:List Stmt} {ifS ifC:Stmt} {p1 p2:Pos}
theorem zv (hsc:∀ i,i<n->∀ j∈sc i,i<j/\j<n) (v:Nat)
  (h_top:∀ v ex st,e6 n sc ex st->aY C lv N t1 (R v) (D ex st) (!st.isEmpty) (R v) (D ex st))
  (h_next:∀ v ex st m q p v',e6 n sc ex (st++[(m,q)])->ex[q]? = some (m,some p)->(sc m)[p]? = some v'->ay C lv N body (R v) (D ex (st++[(m,q)])) .brk (R v') (D (ex.set q (m,some (p+1))) (st++[(m,q)])))
  (h_pop:∀ v ex st m q p,e6 n sc ex (st++[(m,q)])->ex[q]? = some (m,some p)->(sc m)[p]? = none->ay C lv N body (R v) (D ex (st++[(m,q)])) .nxt (R v) (D (ex.set q (m,none)) st))
  (h_els:∀ v ex,ay C lv N els (R v) (D ex []) .brk (R v) (D ex [])):∀ (k:Nat) (ex:List (Nat×Option Nat)) (st:List (Nat×Nat)),st.length=k->e6 n sc ex st->
  (∃ k' v' ex' st',eZ C lv N t1 body els k' (R v) (D ex st) .nxt (R v') (D ex' st')/\e6 n sc ex' st'/\v'<n/\(∀ x∈st',x.1<v')/\unv n ex'=unv n ex/\rest sc ex' st'<rest sc ex st) \/
   ∃ k' ex',eZ C lv N t1 body els k' (R v) (D ex st) .brk (R v) (D ex' [])/\e6 n sc ex' []:=by
 intro k
 induction k with
 | zero=>
  intro ex st hk I;obtain rfl:=Gr.mp hk;exact .inr ⟨0,ex,.done (h_top v ex [] I) (h_els v ex),I⟩
 | succ k ih=>
  intro ex st hk I;obtain ⟨st,⟨m,q⟩,rfl⟩:∃ st0 x,st=st0++[x]:=by
   rcases List.eq_nil_or_concat st with h | ⟨l,x,h⟩
   ·rw [h] at hk;cases hk
   ·exact ⟨l,x,by rw [h,List.concat_eq_append]⟩
  rw [EU,Ef] at hk
  obtain ⟨p,hp,hple⟩:=I.live (m,q) (by simp)
  dsimp only at hp hple
  obtain ⟨i1,i2⟩:=p8 I.inc;have hqs:∀ x∈st,x.2≠q:=fun x hx e=>by
   obtain ⟨p',hp',_⟩:=I.live x (ED.mpr (.inl hx))
   rw [e,hp] at hp'
   have:=i2 x hx;have:m=x.1:=(Li.inj (GB.inj hp')).1
   omega
  have hm:m<n:=I.lt _ (EK hp);have' hql:=(EI.mp hp).1;have ht:=h_top v ex (st++[(m,q)]) I
  rw [show (!(st++[(m,q)]).isEmpty)=true by cases st<;>rfl] at ht
  have lts:∀ z,∀ x∈ex.set q (m,z),x.1<n:=fun z x hx=>by
   rcases J7 hx with hx | rfl
   ·exact I.lt x hx
   ·exact hm
  have keep:∀ z,∀ x∈st,∃ p,(ex.set q (m,z))[x.2]? = some (x.1,some p)/\p<=(sc x.1).length:=fun z x hx=>by
   rw [Fj (Ne.symm (hqs x hx))]
   exact I.live x (ED.mpr (.inl hx))
  cases hv:(sc m)[p]? with
  | some v'=>
   obtain ⟨j1,j2⟩:=hsc m hm v' (EK hv);have' hpl:=(EI.mp hv).1;have hq2:(ex.set q (m,some (p+1)))[q]? = some (m,some (p+1)):=F6 hql;refine .inl ⟨0,v',ex.set q (m,some (p+1)),st++[(m,q)],.brk ht (h_next v ex st m q p v' I hp hv),⟨I.inc,fun x hx=>?_,lts _,by rw [eu hp];exact I.nod,by rw [Hc,kP hp];exact I.cnt⟩,j2,fun x hx=>?_,kP hp,?_⟩
   ·rcases ED.mp hx with hx | hx
    ·exact keep _ x hx
    ·rw [EG.mp hx];exact ⟨p+1,hq2,hpl⟩
   ·rcases ED.mp hx with hx | hx
    ·exact Hp (i2 x hx) j1
    ·rw [EG.mp hx];exact j1
   ·rw [lK,lK,qX hqs]
    have e1:iz (ex.set q (m,some (p+1))) q=p+1:=by unfold iz;rw [hq2]
    have e2:iz ex q=p:=by unfold iz;rw [hp]
    rw [e1,e2];dsimp only;omega
  | none=>
   have I':e6 n sc (ex.set q (m,none)) st:=⟨i1,keep _,lts _,by rw [eu hp];exact I.nod,by rw [Hc,kP hp];exact I.cnt⟩
   have hb:=h_pop v ex st m q p I hp hv
   rcases ih (ex.set q (m,none)) st (by omega) I' with ⟨k',v',ex',st',h1,h2,h3,h4,h5,h6⟩ | ⟨k',ex',h1,h2⟩
   ·refine .inl ⟨k'+1,v',ex',st',.turn ht hb (.inl rfl) Sub.refl h1,h2,h3,h4,h5.trans (kP hp),?_⟩
    rw [qX hqs] at h6
    rw [lK];omega
   ·exact .inr ⟨k'+1,ex',.turn ht hb (.inl rfl) Sub.refl h1,h2⟩
theorem yt (hsc:∀ i,i<n->∀ j∈sc i,i<j/\j<n)
  (h_true:∀ v ex st,aY C lv N tt (R v) (D ex st) true (R v) (D ex st))
  (h_old:∀ v ex st,e6 n sc ex st->v∈ex.map (·.1)->(∀ x∈st,x.1<v)->aq C lv N ifS (R v) (D ex st) .nxt (R v) (D ex st))
  (h_new:∀ v ex st,e6 n sc ex st->v<n->v∉ex.map (·.1)->(∀ x∈st,x.1<v)->aq C lv N ifS (R v) (D ex st) .nxt (R v) (D (ex++[(v,some 0)]) (st++[(v,ex.length)])))
  (h_in:∀ (v:Nat) (ex:List (Nat×Option Nat)) (st:List (Nat×Nat)),e6 n sc ex st->(∃ k' v' ex' st',eZ C lv N t1 body els k' (R v) (D ex st) .nxt (R v') (D ex' st')/\e6 n sc ex' st'/\v'<n/\(∀ x∈st',x.1<v')/\unv n ex'=unv n ex/\rest sc ex' st'<rest sc ex st) \/
   ∃ k' ex',eZ C lv N t1 body els k' (R v) (D ex st) .brk (R v) (D ex' [])/\e6 n sc ex' []) :
  ∀ (u r:Nat) (v:Nat) (ex:List (Nat×Option Nat)) (st:List (Nat×Nat)),unv n ex=u->rest sc ex st=r->e6 n sc ex st->v<n->(∀ x∈st,x.1<v)->
  ∃ k v' ex',eZ C lv N tt [ifS,.While t1 body els p1] els2 k (R v) (D ex st) .nxt (R v') (D ex' [])/\e6 n sc ex' []:=by
 intro u
 induction u using JC with
 | ind u ihu=>
  intro r
  induction r using JC with
  | ind r ihr=>
   intro v ex st hu hr I hv hst
   by_cases hm:v∈ex.map (·.1)
   ·have s1:=h_old v ex st I hm hst
    rcases h_in v ex st I with ⟨k',v',ex',st',h1,h2,h3,h4,h5,h6⟩ | ⟨k',ex',h1,h2⟩
    ·obtain ⟨k,v2,ex2,w,I2⟩:=ihr _ (hr▸h6) v' ex' st' (h5.trans hu) rfl h2 h3 h4
     exact ⟨k+1,v2,ex2,.turn (h_true v ex st) (aA s1 (aF (dJ h1))) (.inl rfl) Sub.refl w,I2⟩
    ·exact ⟨0,v,ex',.brk (h_true v ex st) (aA s1 (aF (dJ h1))),h2⟩
   ·have s1:=h_new v ex st I hv hm hst
    have' hnv:=vi (y:=some 0) hv hm;have' I1:e6 n sc (ex++[(v,some 0)]) (st++[(v,ex.length)]):=by
     refine ⟨?_,fun x hx=>?_,fun x hx=>?_,?_,by rw [EU,Ef];have:=I.cnt;omega⟩
     ·rw [Eh,Hj]
      refine ⟨I.inc,Gp _ _,fun a ha b hb=>?_⟩
      obtain ⟨x,hx,rfl⟩:=EL.mp ha
      rw [show b=v by simpa using hb];exact hst x hx
     ·rcases ED.mp hx with hx | hx
      ·obtain ⟨p,h1,h2⟩:=I.live x hx
       exact ⟨p,by rw [Ed (EI.mp h1).1];exact h1,h2⟩
      ·rw [EG.mp hx];exact ⟨0,EV,Ek _⟩
     ·rcases ED.mp hx with hx | hx
      ·exact I.lt x hx
      ·rw [EG.mp hx];exact hv
     ·rw [Eh,Fy]
      refine ⟨I.nod,by simp,fun a ha b hb e=>?_⟩
      rw [show b=v by simpa using hb] at e
      exact hm (e▸ha)
    rcases h_in v _ _ I1 with ⟨k',v',ex',st',h1,h2,h3,h4,h5,h6⟩ | ⟨k',ex',h1,h2⟩
    ·obtain ⟨k,v2,ex2,w,I2⟩:=ihu (unv n ex') (by rw [h5,<- hu];exact hnv) _ v' ex' st' rfl rfl h2 h3 h4
     exact ⟨k+1,v2,ex2,.turn (h_true v ex st) (aA s1 (aF (dJ h1))) (.inl rfl) Sub.refl w,I2⟩
    ·exact ⟨0,v,ex',.brk (h_true v ex st) (aA s1 (aF (dJ h1))),h2⟩
theorem yh (h_sub:∀ v,Sub (R v) ρ0) (h_tg:∀ v ex,c8 C lv N tg (bW v) ρ0 (D ex []) (R v) (D ex [])) (h_seen:∀ v ex,e6 n sc ex []->v∈ex.map (·.1)->aq C lv N ifC (R v) (D ex []) .cnt (R v) (D ex []))
  (h_uns:∀ v ex,e6 n sc ex []->v∉ex.map (·.1)->aq C lv N ifC (R v) (D ex []) .nxt (R v) (D ex []))
  (h_out:∀ (v:Nat) (ex:List (Nat×Option Nat)),e6 n sc ex []->v<n->∃ k v' ex',eZ C lv N tt [ifS,.While t1 body els p1] els2 k (R v) (D ex []) .nxt (R v') (D ex' [])/\e6 n sc ex' []) :
  ∀ (l:List Nat),(∀ v∈l,v<n)->∀ ex,e6 n sc ex []->∃ ex',fQ C lv N tg [ifC,.While tt [ifS,.While t1 body els p1] els2 p2] [] (l.map bW) ρ0 (D ex []) .nxt ρ0 (D ex' []):=by
 intro l
 induction l with
 | nil=>intro _ ex I;exact ⟨ex,.done aG⟩
 | cons v l ih=>
  intro hl ex I
  by_cases hm:v∈ex.map (·.1)
  ·obtain ⟨ex',h⟩:=ih (fun x hx=>hl x (.tail _ hx)) ex I
   exact ⟨ex',.turn (h_tg v ex) (cA (h_seen v ex I hm) (by intro q;cases q)) (.inr rfl) (h_sub v) h⟩
  ·obtain ⟨k,v',ex1,w,I1⟩:=h_out v ex I (hl v (.head _))
   obtain ⟨ex',h⟩:=ih (fun x hx=>hl x (.tail _ hx)) ex1 I1
   exact ⟨ex',.turn (h_tg v ex) (aA (h_uns v ex I hm) (aF (dJ w))) (.inl rfl) (h_sub v') h⟩
theorem gQ {st:Stmt} {r:List Stmt} {ρ ρ₁:aO} {σ σ₁ σ0:aC} {o:Out} (h:aq C lv N st ρ σ .nxt ρ₁ σ₁) (hr:∃ ρ₂ t,ay C lv N r ρ₁ σ₁ o ρ₂ (σ0++t)):∃ ρ₂ t,ay C lv N (st :: r) ρ σ o ρ₂ (σ0++t):=
 let ⟨ρ₂,t,w⟩:=hr;⟨ρ₂,t,aA h w⟩
theorem wu {α:Type} {E:α->aC} {st:Stmt} {r:List Stmt} {ρ ρ₁:aO} {σ σ0:aC} {o:Out} (h:∃ x,aq C lv N st ρ σ .nxt ρ₁ (E x)) (hr:∀ x,∃ ρ₂ t,ay C lv N r ρ₁ (E x) o ρ₂ (σ0++t)):∃ ρ₂ t,ay C lv N (st :: r) ρ σ o ρ₂ (σ0++t):=
 let ⟨x,h⟩:=h;let ⟨ρ₂,t,w⟩:=hr x;⟨ρ₂,t,aA h w⟩
theorem vV {α:Type} {E:α->aC} {t iter:Expr} {body orelse:List Stmt} {pos:Pos} {ls:List Nat} {items:List AV} {ρ ρ₁ ρ':aO} {σ σ₁:aC} (hi:gK C lv N t iter ls ρ σ items ρ₁ σ₁) (hf:∃ x,fQ C {lv with fz:=ls++lv.fz} N t body orelse items ρ₁ σ₁ .nxt ρ' (E x))
  (hs:autoParam (∀ env x,Fp iter env x=pure x) aJ):∃ x,aq C lv N (.For t iter body orelse pos) ρ σ .nxt ρ' (E x):=hf.imp fun zz w=>bq hi w hs
theorem uh {m:Nat} {fz:List Nat} {f:Addr} {of:Obj} {fd:Hm} {body:List Stmt} {as:List AV} {ks bs:List (Str×AV)} {ρ ρ₁:aO} {σ:aC} {d:PyData} (hK:C.K.lookup f=some of) (hd:of.data=.func fd) (hbody:fd.body=.stmts body) (hcd:codeIn C.K fd.code fd.qualname=true)
  (hcl:fd.closure=[]) (hg:fd.globals=Gk) (hbl:fd.builtins=H5) (hco:fd.scope.isCoroutine=false) (hgen:fd.scope.isGenerator=false) (hkd:fd.scope.kind=.function) (ok:dW fd.scope.names) (hfree:∀ p∈fd.scope.names,p.2≠.free)
  (hb:bP C fd as ks bs) (bl:cL fd.scope.names ρ) (st:cO fd.scope.names ρ bs ρ₁) (h:∃ ρ₂ t,ay C ⟨true,m,fz⟩ fd.scope.names body ρ₁ σ (.ret (.dat d)) ρ₂ (σ++t)):aP C (m+1) fz (.ref f) as ks σ (.dat d) σ:=
 let ⟨_,_,w⟩:=h;aP.drop (pH hK hd hbody hcd hcl hg hbl hco hgen hkd ok hfree hb bl st w .ret)
end
section
open Sem (wp)
noncomputable abbrev lg (elt iter:Expr) (x:Str) (px:Pos) (scope:Scope) (pos:Pos):Expr:=.GeneratorExp elt [⟨.Name x px,iter,[],0⟩] scope pos
noncomputable abbrev gL (elt iter:Expr) (x:Str) (px:Pos) (scope:Scope) (pos:Pos) (I:Addr) (cenv:Env):Code:=.compLoop (lg elt iter x px scope pos) 0 (.ref I) .none cenv
noncomputable abbrev xi (elt iter:Expr) (x:Str) (px:Pos) (scope:Scope) (pos:Pos) (I:Addr) (cenv:Env):Code:=.compStart (lg elt iter x px scope pos) 0 (.ref I) .none cenv
theorem rL {B:Around} {elt iter:Expr} {x:Str} {px:Pos} {scope:Scope} {pos:Pos} {I:Addr} {cenv:Env} :
  (B.over (gL elt iter x px scope pos I cenv) []).handled=B.handled/\(B.over (gL elt iter x px scope pos I cenv) []).frames=B.frames.map (cenv :: ·)/\(B.over (gL elt iter x px scope pos I cenv) []).depth=B.depth+1/\(B.over (gL elt iter x px scope pos I cenv) []).units=B.units+3:=
 ⟨rfl,rfl,rfl,rfl⟩
structure xK (C:Cx) (σ:aC) (N:aE) (cenv:Env) (m:Nat) (x:Str) (elt:Expr) (I ax:Addr) (items:Array Value) (ys:List Str) (f:Str->Str) (ρ0:aO) (ρ1:Str->aO):Prop where
 ok:C.Ok
 co:cenv.scope.isCoroutine=false
 frame:cenv.frame=some cenv.locals
 neI:I≠cenv.locals
 neA:ax≠I
 size:items.size=ys.length
 item:∀ (j:Nat) (v:Value),items[j]? = some v->∃ t:Tok,v=JN (ys.getD j "") t
 st:∀ y,bS N ρ0 x .local (.dat (.str y)) (ρ1 y)
 sub:∀ y,Sub (ρ1 y) ρ0
 elt:∀ y∈ys,aH C ⟨true,m,EN σ.length⟩ N elt (ρ1 y) σ (.dat (.str (f y))) (ρ1 y) σ
 nocell:∀ y,(y,Eb.cell)∉N
 blank:cL N ρ0
section
variable {C:Cx} {σ:aC} {N:aE} {cenv:Env} {B:Around} {m:Nat} {x:Str} {px:Pos} {elt iter:Expr} {scope:Scope} {pos:Pos} {I ax:Addr} {items:Array Value} {ys:List Str} {f:Str->Str} {ρ0:aO} {ρ1:Str->aO}
noncomputable def wA (C:Cx) (σ:aC) (N:aE) (cenv:Env) (Bi:Around) (m:Nat) (I ax:Addr) (items:Array Value) (ρ0:aO) (j:Nat) (s:Shared):Prop:=
 ∃ μ,aT C ⟨true,m,EN σ.length⟩ Bi μ σ s/\aM Bi N cenv μ ρ0 s.heap/\I∈μ.hid/\I∉μ.foot/\s.heap.IsListIter I ax j/\s.heap.IsList ax items
noncomputable def ou (Bi:Around) (cenv:Env) (I:Addr) (s₀ s₁:Shared):Prop:=aL Bi (fun b=>b=cenv.locals\/b=I) s₀ s₁
noncomputable def AA (C:Cx) (σ:aC) (N:aE) (cenv:Env) (Bi:Around) (m:Nat) (I ax:Addr) (items:Array Value) (ys:List Str) (f:Str->Str) (ρ0:aO):Protocol:=fun k s₀ v s₁ kap=>
 ∃ (j:Nat) (t:Tok),j+k+1=ys.length/\s₀.heap.IsListIter I ax j/\v=JN (f (ys.getD j "")) t/\ou Bi cenv I s₀ s₁/\s₁.heap.IsListIter I ax (j+1)/\(∃ mm,s₁.heap.Ns cenv.locals mm)/\∀ s'',wA C σ N cenv Bi m I ax items ρ0 (j+1) s''->kap (.send .none) s''
theorem zT {μ:Mu} {lv:Lv} {A:Around} {s:Shared} (G:aT C lv A μ σ s) (hf:lv.fz=EN σ.length) {b:Addr}:¬ WC μ b:=by
 rintro ⟨i,p,hp,hi,_⟩
 rw [G.frz,hf] at hi
 have:=(EI.mp hp).1
 rw [G.sim.len] at this
 exact hi (Ec.mpr this)
theorem gd {h:Heap} {j:Nat} (it:h.IsListIter I ax j):∃ o vs,h.get? I=some o/\o.data=.fields vs:=let ⟨o,ho,_,hd⟩:=it;⟨o,_,ho,hd⟩
theorem wv (X:xK C σ N cenv m x elt I ax items ys f ρ0 ρ1) (hq:B.handled=none):∀ (k j:Nat) (s:Shared),ys.length - j=k->j<=ys.length->wA C σ N cenv (B.over (gL elt iter x px scope pos I cenv) []) m I ax items ρ0 j s->
  Seg (model C.prog C.w) B (fun n s₀ r s₁=>r=.ok .next/\(n=0/\ou (B.over (gL elt iter x px scope pos I cenv) []) cenv I s₀ s₁)) (AA C σ N cenv (B.over (gL elt iter x px scope pos I cenv) []) m I ax items ys f ρ0) k s
   (gL elt iter x px scope pos I cenv) ((model C.prog C.w).den (gL elt iter x px scope pos I cenv)) [] s:=by
 have' hqi:(B.over (gL elt iter x px scope pos I cenv) []).handled=none:=hq
 have W:=Walks.list (prog:=C.prog) (w:=C.w) hqi I ax X.neA items
 intro k
 induction k with
 | zero=>
  intro j s hk hj qq1;obtain ⟨μ,G,F,hI,hIf,it,hl⟩:=qq1;have hin:j=items.size:=by rw [X.size];omega
  subst hin
  show Seg _ B _ _ _ s _ ((Ln (lg elt iter x px scope pos) 0 (.ref I) .none cenv).onRaise (leaving cenv)) [] s
  rw [compTurn_gen,JG]
  refine GV (FP ?_);refine GV (ao (W.done s _ _ ⟨it,hl⟩ fun h' tk hk' hsz=>?_))
  exact seg_end (.ok .next) ⟨rfl,rfl,⟨h',_,tk,rfl,⟨hsz,id⟩,fun b o hb e=>.inl (hk' b o (fun q=>hb (.inr (EG.mp q))) e)⟩⟩
 | succ k ih=>
  intro j s hk hj qq1;obtain ⟨μ,G,F,hI,hIf,it,hl⟩:=qq1;have hlt:j<items.size:=by rw [X.size];omega
  show Seg _ B _ _ _ s _ ((Ln (lg elt iter x px scope pos) 0 (.ref I) .none cenv).onRaise (leaving cenv)) [] s
  rw [compTurn_gen,JG]
  refine GV (FP ?_);refine GV (ao (W.item j s _ _ hlt ⟨it,hl⟩ fun v h₁ tk₁ hPv hst₁ hk₁ hsz=>?_))
  have k1:aL (B.over (gL elt iter x px scope pos I cenv) []) (· = I) s {s with heap:=h₁,toks:=tk₁}:=⟨h₁,_,tk₁,rfl,⟨hsz,id⟩,fun b o hb e=>.inl (hk₁ b o (fun q=>hb (EG.mp q)) e)⟩
  obtain ⟨oI,vI,hoI,hdI⟩:=gd it;have' hIfa:¬ FA (B.over (gL elt iter x px scope pos I cenv) []) I:=fun q=>by
   obtain ⟨_,_,o,es,n,ho,hd⟩:=G.frs.fa q
   rw [hoI] at ho;cases ho;rw [hdI] at hd;cases hd
  have G1:=G.turn k1 (fun b hb=>hb▸hI) (fun b hb=>hb▸hIf) fun b hf hb=>absurd (hb▸hf) hIfa
  have' F1:=F.ext (Ext.refl μ _) k1 (G.fw fun b hb=>.inl (hb▸hI)) (fun q=>X.neI q.symm) (fun p hp q=>by
   obtain ⟨_,_,_,v,o,ho,hd⟩:=F.cells p hp
   rw [q,hoI] at ho;cases ho;rw [hdI] at hd;cases hd)
  obtain ⟨t,rfl⟩:=X.item j v hPv;refine GV (GC (rfl:HE (.Name x px) (.ref I) _=pure ()) ?_);refine GV (J9 (gA G1 F1 (X.st (ys.getD j "")) (.inl rfl) ⟨[],.str _ t⟩ fun s2 P2=>?_))
  simp only [IX]
  refine GV (EF ?_)
  simp only [if_true]
  have hy:∀ v,yieldOut cenv v=yieldValue v:=fun v=>by simp only [yieldOut,X.co,F0,if_false]
  simp only [hy]
  rw [Sem.bind_eq_wrap',Sem.bind_eq_wrap',Sem.wrap_wrap,Sem.wrap_wrap]
  have' hyin:ys.getD j "" ∈ ys:=by
   have:j<ys.length:=by rw [<- X.size];exact hlt
   rw [GK,E8 this];exact Ge this
  refine seg_wrap (X.elt _ hyin _ cenv μ s2 _ _ X.ok P2.good P2.fr fun v μ3 s3 P3 r=>?_)
  obtain ⟨as,r⟩:=r
  cases r using RS with
  | str t'=>
   have' P23:=P2.trans P3;have' hws:∀ b,WS μ N cenv b->b=cenv.locals:=fun b hb=>by
    rcases hb with q | q | ⟨y,hy,_⟩
    ·exact absurd q (zT G1 rfl)
    ·exact q
    ·exact absurd hy (X.nocell y)
   have k23:aL (B.over (gL elt iter x px scope pos I cenv) []) (· = cenv.locals) {s with heap:=h₁,toks:=tk₁} s3:=P23.kept.mono fun b hb=>.inl (hws b hb)
   have k3:ou (B.over (gL elt iter x px scope pos I cenv) []) cenv I s s3:=aL.trans (k1.mono fun b hb=>.inl (.inr hb)) k23 fun b hb=>.inl (.inl hb)
   have itI:s3.heap.IsListIter I ax (j+1):=by
    obtain ⟨o,ho,hc,hd⟩:=hst₁.1;exact ⟨o,k23.atD X.neI (fun es n q=>by rw [hd] at q;cases q) ho,hc,hd⟩
   obtain ⟨mm,hmm,_⟩:=P3.fr.vals;refine seg_at (seg_yield rfl rfl rfl ⟨j,t',by omega,it,rfl,k3,itI,⟨mm,hmm⟩,fun s'' hR=>?_⟩)
   exact seg_again rfl (ih (j+1) s'' (by omega) (by omega) hR)
theorem ui (X:xK C σ N cenv m x elt I ax items ys f ρ0 ρ1) (hq:B.handled=none) (s:Shared) (hR:wA C σ N cenv (B.over (gL elt iter x px scope pos I cenv) []) m I ax items ρ0 0 s) :
  Seg (model C.prog C.w) B (fun n s₀ r s₁=>r=.ok .next/\(n=0/\ou (B.over (gL elt iter x px scope pos I cenv) []) cenv I s₀ s₁)) (AA C σ N cenv (B.over (gL elt iter x px scope pos I cenv) []) m I ax items ys f ρ0) ys.length s
   (xi elt iter x px scope pos I cenv) ((model C.prog C.w).den (xi elt iter x px scope pos I cenv)) [] s:=by
 have loop:=wv (px:=px) (iter:=iter) (scope:=scope) (pos:=pos) X hq ys.length 0 s (Nat.sub_zero _) (Ek _) hR
 obtain ⟨μ,G,F,hI,hIf,it,hl⟩:=hR
 have' W:=Walks.list (prog:=C.prog) (w:=C.w) (A:=B.over (xi elt iter x px scope pos I cenv) []) hq I ax X.neA items
 show Seg _ B _ _ _ s _ ((LZ (lg elt iter x px scope pos) 0 (.ref I) .none cenv).onRaise (leaving cenv)) [] s
 unfold LZ
 rw [JG]
 show Seg _ B _ _ _ s _ ((ask >>= _).wrap _ _ _ _) [] s
 refine GV (Ig ?_)
 split
 ·exact seg_again rfl loop
 ·refine GV (IG ?_)
  show Seg _ B _ _ _ s _ ((HQ iter.pos >>= _).wrap _ _ _ _) [] s
  exact GV (FP (GV (W.self 0 s _ _ ⟨it,hl⟩ (seg_again rfl loop))))
end
end
section
open Sem (wp)
noncomputable abbrev du (acc:Array Value) (c:Nat):Obj:={cls:=.type "list",dict:=none,data:=.seq acc c,slots:=#[]}
section
variable {prog:Fn} {w:World} {A:Around} {R:Result->Shared->Prop} {I S:Addr} {n:Nat} {Inv:Nat->Shared->Prop} {Mid:Nat->Value->Shared->Prop} {Fin:Shared->Prop} {res:Value}
theorem lH (hs:∀ i v s,Mid i v s->∃ acc c,s.heap.get? S=some (du acc c)/\acc.size<=1000)
  (hitem:∀ i s (Q:Option Value->Shared->Prop) (E:Value->Shared->Prop),i<n->Inv i s->(∀ v s',Mid i v s'->Q (some v) s')->wpAny (model prog w) A.in1 (pyNext (.ref I)) Q E s)
  (hmid:∀ i v s,Mid i v s->Inv (i+1) {s with heap:=s.heap.update S (Ey (·.push v))})
  (hdone:∀ s (Q:Option Value->Shared->Prop) (E:Value->Shared->Prop),Inv n s->(∀ s',Fin s'->Q none s')->wpAny (model prog w) A.in1 (pyNext (.ref I)) Q E s)
  (hfin:∀ s',Fin s'->R (.ok (.ret res)) s'):∀ (k i:Nat) (s:Shared),n - i=k->i<=n->Inv i s->GP (model prog w) A (.builtin "list.extend.loop" ⟨[.ref S,.ref I,res],[]⟩) R s:=by
 intro k
 induction k with
 | zero=>
  intro i s hk hi hv;obtain rfl:i=n:=by omega
  refine Fd PySem.F.entry_extend_loop ?_
  rw [Around.under_plainId PySem.F.plain_extend_loop _]
  show wpAny _ A.in1 (pyNext (.ref I) >>= _) _ _ s
  exact EA (hdone s _ _ hv fun s' hf=>EF (hfin s' hf))
 | succ k ih=>
  intro i s hk hi hv;refine Fd PySem.F.entry_extend_loop ?_
  rw [Around.under_plainId PySem.F.plain_extend_loop _]
  show wpAny _ A.in1 (pyNext (.ref I) >>= _) _ _ s
  refine EA (hitem i s _ _ (by omega) hv fun v s' hm=>?_)
  obtain ⟨acc,c,hS,hz⟩:=hs i v s' hm
  show wpAny _ A.in1 (Jy S (·.push v) >>= _) _ _ _
  refine EA (Hd hS rfl (EF ⟨Hf PySem.F.plain_extend_loop _,ih (i+1) _ (by omega) (by omega) (hmid i v s' hm)⟩) (by rw [EO];omega) (by show (acc.push v).size<=FG+1;rw [KO,EO];omega))
end
section
variable {prog:Fn} {w:World} {A:Around} {E:Value->Shared->Prop} {s:Shared} {I J:Addr} {n:Nat}
theorem or {ty:Value} {Inv:Nat->Shared->Prop} {Mid:Nat->Value->Shared->Prop} {Fin:Shared->Prop} {Q:List Value->Shared->Prop} (hI:I<s.heap.objs.size) (hJ:J<s.heap.objs.size)
  (hty:Looks (model prog w) s.heap (typeOf (.ref I)) ty) (h2:(ty==F7 "list")=false) (h3:(ty==F7 "tuple")=false)
  (hself:∀ (s0:Shared) (Q:Value->Shared->Prop) (E:Value->Shared->Prop),s0={s with heap:=s.heap.push (du #[] 0)}->(∀ s1:Shared,(∃ tk,s1={s0 with toks:=tk})->Q (.ref J) s1)->wpAny (model prog w) A.in1 (pyIter (.ref I)) Q E s0)
  (hn1:∀ h',(∀ b o,s.heap.get? b=some o->h'.get? b=some o)->Looks (model prog w) h' (Gh (.ref I) "__len__") none) (hn2:∀ h',(∀ b o,s.heap.get? b=some o->h'.get? b=some o)->Looks (model prog w) h' (Gh (.ref I) "__length_hint__") none)
  (hinv:∀ tk h',h'.get? s.heap.objs.size=some (du #[] 2)->h'.objs.size=s.heap.objs.size+1->(∀ b o,s.heap.get? b=some o->h'.get? b=some o)->Inv 0 {s with heap:=h',toks:=tk})
  (hs:∀ i v s',Mid i v s'->∃ acc c,s'.heap.get? s.heap.objs.size=some (du acc c)/\acc.size<=1000)
  (hitem:∀ i s' (Q:Option Value->Shared->Prop) (E:Value->Shared->Prop),i<n->Inv i s'->(∀ v s',Mid i v s'->Q (some v) s')->wpAny (model prog w) A.in1 (pyNext (.ref J)) Q E s')
  (hmid:∀ i v s',Mid i v s'->Inv (i+1) {s' with heap:=s'.heap.update s.heap.objs.size (Ey (·.push v))})
  (hdone:∀ s' (Q:Option Value->Shared->Prop) (E:Value->Shared->Prop),Inv n s'->(∀ s'',Fin s''->Q none s'')->wpAny (model prog w) A.in1 (pyNext (.ref J)) Q E s')
  (hfin:∀ s',Fin s'->∃ acc c,s'.heap.get? s.heap.objs.size=some (du acc c)/\Q acc.toList s'):wpAny (model prog w) A (Lk (.ref I)) Q E s:=by
 unfold Lk
 refine EA (wpAny_runValue (Fd PySem.F.entry_proto_collect ?_))
 rw [Around.under_plainId PySem.F.plain_proto_collect _]
 show wpAny _ A.in1 (Lj [] >>= fun l=>again (.builtin "list.__iadd__" ⟨[l,.ref I],[]⟩)) _ _ s
 refine EA (GZ ?_)
 refine EF ⟨Hf PySem.F.plain_list_iadd _,Fd PySem.F.entry_list_iadd ?_⟩
 rw [Around.under_plainId PySem.F.plain_list_iadd _]
 have keep0:∀ b o,s.heap.get? b=some o->(s.heap.push (du #[] 0)).get? b=some o:=fun b o e=>EJ _ e
 show wpAny _ A.in1 (En.List.listExtendWith (.ref s.heap.objs.size) (.ref I) (.ref s.heap.objs.size)) _ _ {s with heap:=s.heap.push (du #[] 0)}
 unfold En.List.listExtendWith
 refine EA ((hty.keeps keep0).here ?_)
 have hSI:s.heap.objs.size≠I:=IW hI
 have h1:En.List.listSameRef (.ref s.heap.objs.size) (.ref I)=false:=by simp [En.List.listSameRef,hSI]
 simp only [h1,h2,h3,Kv,F0,if_false]
 refine EA (hself _ _ _ rfl fun s1 hs1=>?_)
 obtain ⟨tk,rfl⟩:=hs1
 refine EA (EY ?_)
 unfold En.List.listLengthHint
 refine EA ((hn1 _ keep0).here ?_)
 show wpAny _ A.in1 (Gh (Fg I) (EB "__length_hint__") >>= _) _ _ _
 refine EA ((hn2 _ keep0).here ?_)
 refine EF ?_
 show wpAny _ A.in1 (rule "list.extend.makes-room" >>= fun zz=>En.List.listTouch (.ref s.heap.objs.size) >>= fun zz=>
  again (.builtin "list.extend.loop" ⟨[.ref s.heap.objs.size,.ref J,.ref s.heap.objs.size],[]⟩)) _ _ _
 refine EA (IG ?_)
 have hS₁:(s.heap.push (du #[] 0)).get? s.heap.objs.size=some (du #[] 0):=EP _ rfl
 refine EA ?_
 show wpAny _ A.in1 (Jy s.heap.objs.size (·.push .none) >>= fun zz=>Jy s.heap.objs.size (·.pop)) _ _ _
 refine EA (Hd hS₁ rfl ?_)
 have hS₂:=FQ (Ey (·.push FB)) hS₁ rfl
 refine Hd hS₂ rfl ?_
 have' hS₃:=FQ (Ey (·.pop)) hS₂ rfl
 refine EF ⟨Hf PySem.F.plain_extend_loop _,lH (n:=n) (Inv:=Inv) (Mid:=Mid) (Fin:=Fin) hs hitem hmid hdone (fun s' hf=>?_) n 0 _ rfl (Ek _) (hinv tk _ hS₃ (by rw [Gg,Gg,ER]) fun b o e=>?_)⟩
 ·obtain ⟨acc,c,hS,hQ⟩:=hfin s' hf
  show wpAny _ A (load s.heap.objs.size >>= _) _ _ s'
  exact EA (KJ hS (EF hQ))
 ·have hne:s.heap.objs.size≠b:=IW (Ea e)
  rw [GJ _ _ hne,GJ _ _ hne]
  exact keep0 b o e
end
end
section
open Sem (wp)
section
variable {C:Cx} {lv:Lv} {σ:aC} {N:aE} {cenv:Env} {P:Around} {m:Nat} {x:Str} {px:Pos} {elt iter:Expr} {scope:Scope} {pos:Pos} {I ax a S:Addr} {g:Nat} {items:Array Value} {ys:List Str} {f:Str->Str} {ρ0:aO} {ρ1:Str->aO} {μ0:Mu} {s0:Shared}
noncomputable abbrev pA (P:Around) (elt iter:Expr) (x:Str) (px:Pos) (scope:Scope) (pos:Pos) (I:Addr) (cenv:Env):Around:=P.in1.over (gL elt iter x px scope pos I cenv) []
noncomputable abbrev Af (Bi:Around) (cenv:Env) (I:Addr):GenEnd:=fun n s₀ r s₁=>r=.ok .next/\(n=0/\ou Bi cenv I s₀ s₁)
noncomputable def pE (h:Heap) (S:Addr) (ys:List Str) (f:Str->Str) (j:Nat):Prop:=∃ acc c,h.get? S=some (du acc c)/\acc.size=j/\∀ i v,acc[i]? = some v->∃ t:Tok,v=JN (f (ys.getD i "")) t
structure iF (C:Cx) (lv:Lv) (P Bi:Around) (σ:aC) (N:aE) (cenv:Env) (m:Nat) (I ax a S:Addr) (g:Nat) (items:Array Value) (ys:List Str) (f:Str->Str) (ρ0:aO) (μ0:Mu) (s0:Shared) (j ja:Nat) (μ:Mu) (s:Shared):Prop where
 good:aT C lv P μ σ s
 ext:Ext μ0 μ s0.heap.objs.size
 kept:aL P (fun b=>(b=I\/b=cenv.locals)\/s0.heap.objs.size<=b) s0 s
 fr:aM Bi N cenv μ ρ0 s.heap
 frn:cenv.frame=some cenv.locals
 nocells:cenv.cells=[]
 nfa:¬ FA P cenv.locals
 hI:I∈μ.hid/\I∉μ.foot
 hS:S∈μ.hid/\S∉μ.foot
 new:ax<s0.heap.objs.size/\s0.heap.objs.size<=S
 neI:I≠cenv.locals
 it:s.heap.IsListIter I ax j
 hl:s.heap.IsList ax items
 gen:s.heap.IsGen a g
 acc:pE s.heap S ys f ja
 gs:∃ gs,s.gens[g]? = some gs/\∀ s'',wA C σ N cenv Bi m I ax items ρ0 j s''->gs.Goes (model C.prog C.w) P.in1 (Af Bi cenv I) (AA C σ N cenv Bi m I ax items ys f ρ0) (ys.length - j) (.send .none) s''
theorem aM.reblank {A:Around} {env:Env} {μ μ':Mu} {ρ:aO} {h h':Heap} {mm:Str->Option Value} (F:aM A N env μ ρ h) (hc:env.cells=[]) (hb:cL N ρ0) (h1:env.locals∈μ'.hid) (h2:env.locals∉μ'.foot) (hn:h'.Ns env.locals mm):aM A N env μ' ρ0 h':=
 ⟨F.fn,F.glob,F.blt,F.nodup,F.plain,F.kinds,h1,h2,F.cellsIn,(fun p hp=>by rw [hc] at hp;cases hp),F.apart,F.fe,mm,hn,hb.vars⟩
theorem kz {s:Shared} {g:Nat} {x:K2} (hx:x.bare=true) (h:Ke s.gens):Ke (s.setGen g x).gens:=fun y hy=>by
 unfold Shared.setGen at hy
 rcases Array.mem_or_eq_of_mem_setIfInBounds hy with q | q
 ·exact h y q
 ·rw [q];exact hx
theorem iF.ready {Bi:Around} {j ja:Nat} {μ:Mu} {s:Shared} (V:iF C lv P Bi σ N cenv m I ax a S g items ys f ρ0 μ0 s0 j ja μ s) (hq:lv.q=true) (hm:m<lv.n) (e1:Bi.handled=P.handled) (e2:Bi.frames=P.frames.map (cenv :: ·)) (e3:Bi.depth=P.depth+1) (e4:Bi.units=P.units+4) :
  wA C σ N cenv Bi m I ax items ρ0 j (s.setGen g .running):=by
 have' k:aL A0 NoW s (s.setGen g .running):=⟨s.heap,_,s.toks,rfl,⟨EH _,kz rfl⟩,fun b o zz e=>.inl e⟩
 have G1:=V.good.grow k
 have hr:=G1.room
 have hu:=G1.units
 have G2:aT C ⟨true,m,lv.fz⟩ Bi μ σ (s.setGen g .running):=G1.around (fun zz=>e1.trans (G1.quiet hq)) rfl (by rw [e3];dsimp only;omega) (by rw [e4];dsimp only;omega) (by
  obtain ⟨l,e,H⟩:=G1.frs.all;refine ⟨cenv :: l,by rw [e2,e];rfl,fun e' hm=>?_⟩
  rcases ES.mp hm with rfl | hm
  ·obtain ⟨mm,⟨o,es,n,ho,hd,_⟩,_⟩:=V.fr.vals
   exact ⟨by rw [V.fr.fn];decide,_,V.frn,V.fr.hidL,V.fr.freeL,o,es,n,ho,hd⟩
  ·exact H e' hm)
 exact ⟨{μ with fz:=EN σ.length},G2.fz _,V.fr.fz _,V.hI.1,V.hI.2,V.it,V.hl⟩
theorem vy {Bi:Around} (e2:Bi.frames=P.frames.map (cenv :: ·)) (hf:cenv.frame=some cenv.locals) {b:Addr} (h:FA Bi b):FA P b\/b=cenv.locals:=by
 obtain ⟨l,e,e',hm,hb⟩:=h
 rw [e2] at e
 cases hA:P.frames with
 | none=>rw [hA] at e;cases e
 | some l0=>
  rw [hA] at e
  cases e
  rcases ES.mp hm with rfl | hm
  ·rw [hf] at hb;cases hb;exact .inr rfl
  ·exact .inl ⟨l0,hA,e',hm,hb⟩
theorem iF.after {Bi:Around} {j ja:Nat} {μ:Mu} {s s₁:Shared} {h':Heap} {gs':K2} (hgb:gs'.bare=true) (V:iF C lv P Bi σ N cenv m I ax a S g items ys f ρ0 μ0 s0 j ja μ s) (e2:Bi.frames=P.frames.map (cenv :: ·)) (hK:ou Bi cenv I (s.setGen g .running) s₁)
  (hk:∀ b o,s₁.heap.get? b=some o->h'.get? b=some o) (hz:s.heap.objs.size<=h'.objs.size) :
  aT C lv P μ σ {s₁.setGen g gs' with heap:=h'}/\aL P (fun b=>(b=I\/b=cenv.locals)\/s0.heap.objs.size<=b) s0 {s₁.setGen g gs' with heap:=h'}/\h'.IsList ax items/\h'.IsGen a g/\pE h' S ys f ja:=by
 obtain ⟨oI,vI,hoI,hdI⟩:=gd V.it
 obtain ⟨mm0,⟨oL,esL,nL,hoL,hdL,_⟩,_⟩:=V.fr.vals
 have' hIfa:¬ FA P I:=fun q=>by
  obtain ⟨_,_,o,es,n,ho,hd⟩:=V.good.frs.fa q
  rw [hoI] at ho;cases ho;rw [hdI] at hd;cases hd
 have k:aL P (fun b=>b=cenv.locals\/b=I) s {s₁.setGen g gs' with heap:=h'}:=by
  have' k0:=hK.frames (A':=P) fun b hb=>(vy e2 V.frn hb).imp id fun q=>.inl (.inl q)
  obtain ⟨h1,g1,t1,rfl,l1,x1⟩:=k0;refine ⟨h',_,t1,rfl,⟨hz,fun q=>kz hgb (l1.2 (kz rfl q))⟩,fun b o hb e=>?_⟩
  rcases x1 b o hb e with q | ⟨q1,q2,o',q3,q4⟩
  ·exact .inl (hk b o q)
  ·exact .inr ⟨q1,q2,o',hk b o' q3,q4⟩
 have hne:∀ {b:Addr} {o:Obj},s.heap.get? b=some o->(∀ es n,o.data≠.dict es n)->b≠I->h'.get? b=some o:=fun {b o} e hd hb=>
  k.atD (fun q=>by
   rcases q with rfl | q
   ·rw [e] at hoL;cases hoL;exact hd _ _ hdL
   ·exact hb q) hd e
 refine ⟨V.good.turn k (fun b hb=>?_) (fun b hb=>?_) (fun b hf hb=>?_),V.kept.trans k (fun d hd=>.inl (.inl ?_)),?_,?_,?_⟩
 ·rcases hb with rfl | rfl
  ·exact V.fr.hidL
  ·exact V.hI.1
 ·rcases hb with rfl | rfl
  ·exact V.fr.freeL
  ·exact V.hI.2
 ·rcases hb with rfl | rfl
  ·exact absurd hf V.nfa
  ·exact absurd hf hIfa
 ·exact hd.symm
 ·obtain ⟨o,ho,hc,n,hd⟩:=V.hl
  refine ⟨o,hne ho (fun es n q=>by rw [hd] at q;cases q) (fun q=>?_),hc,n,hd⟩
  rw [q,hoI] at ho;cases ho;rw [hdI] at hd;cases hd
 ·obtain ⟨o,nm,qn,ho,hc,hd,hsl⟩:=V.gen
  refine ⟨o,nm,qn,hne ho (fun es n q=>by rw [hd] at q;cases q) (fun q=>?_),hc,hd,hsl⟩
  obtain ⟨o',ho',hc',_⟩:=V.it
  rw [q,ho'] at ho;cases ho;rw [hc] at hc';exact absurd hc' (by decide)
 ·obtain ⟨acc,c,ho,r⟩:=V.acc
  refine ⟨acc,c,hne ho (fun es n q=>by cases q) (fun q=>?_),r⟩
  rw [q,hoI] at ho;cases ho
  exact absurd hdI (by intro z;cases z)
theorem iF.item {j ja:Nat} {μ:Mu} {s:Shared} {Q:Option Value->Shared->Prop} {E:Value->Shared->Prop} (ok:C.Ok) (hb0:cL N ρ0) (hq:lv.q=true) (hm:m<lv.n) (V:iF C lv P (pA P elt iter x px scope pos I cenv) σ N cenv m I ax a S g items ys f ρ0 μ0 s0 j ja μ s) (hj:j<ys.length)
  (hQ:∀ t s',iF C lv P (pA P elt iter x px scope pos I cenv) σ N cenv m I ax a S g items ys f ρ0 μ0 s0 (j+1) ja μ s'->Q (some (.str (f (ys.getD j "")) t)) s'):wpAny (model C.prog C.w) P (pyNext (.ref a)) Q E s:=by
 obtain ⟨o1,o2,o3,o4⟩:=rL (B:=P.in1) (elt:=elt) (iter:=iter) (x:=x) (px:=px) (scope:=scope) (pos:=pos) (I:=I) (cenv:=cenv)
 have hR:=V.ready hq hm o1 o2 o3 (by rw [o4])
 obtain ⟨gs,hgs,hgo⟩:=V.gs
 obtain ⟨k,hk⟩:∃ k,ys.length - j=k+1:=⟨ys.length - j - 1,by omega⟩
 rw [hk] at hgo
 have hr:=V.good.room
 refine rF (wpAny_pyNext_genexpQ (P:=fun n s₀ s₁=>n=0/\ou (pA P elt iter x px scope pos I cenv) cenv I s₀ s₁) (V.good.quiet hq) (ok.lim.keeps V.good.base) (by omega) V.gen hgs (hgo _ hR) (fun v s₁ gs' hgb hv=>?_) fun s₁ hp h' hk'=>absurd hp.1 (HT k))
 intro hgz
 obtain ⟨j',t,ej,it',rfl,hK,itI,⟨mm,hmm⟩,hkap⟩:=hv
 have' ejj:j'=j:=by
  obtain ⟨o,ho,_,hd⟩:=it';obtain ⟨o2,ho2,_,hd2⟩:=V.it;have' ho3:(s.setGen g .running).heap.get? I=some o2:=ho2
  rw [ho3] at ho;cases ho
  rw [hd2] at hd
  have:=congrArg (fun d:Data=>match d with | .fields vs=>vs.toList | _=>[]) hd
  simp at this
  omega
 subst ejj
 obtain ⟨a1,a2,a3,a4,a5⟩:=iF.after (gs':=gs') (h':=s₁.heap) hgb V o2 hK (fun zz zz e=>e) hK.le
 refine hQ t _ ⟨a1,V.ext,a2,V.fr.reblank V.nocells hb0 V.fr.hidL V.fr.freeL hmm,V.frn,V.nocells,V.nfa,V.hI,V.hS,V.new,V.neI,itI,a3,a4,a5,gs',?_,fun s'' hs''=>?_⟩
 ·have h1:g<s.gens.size:=(FX.mp hgs).1
  have h2:s.gens.size<=s₁.gens.size:=by rw [jo] at hgz;exact hgz
  show (s₁.setGen g gs').gens[g]? = some gs'
  unfold Shared.setGen
  simp [E5 h1 h2]
 ·have:=hkap s'' hs''
  rw [show ys.length - (j'+1)=k by omega]
  exact this
theorem iF.done {ja:Nat} {μ:Mu} {s:Shared} {Q:Option Value->Shared->Prop} {E:Value->Shared->Prop} (ok:C.Ok) (hq:lv.q=true) (hm:m<lv.n) (V:iF C lv P (pA P elt iter x px scope pos I cenv) σ N cenv m I ax a S g items ys f ρ0 μ0 s0 ys.length ja μ s)
  (hQ:∀ s',aT C lv P μ σ s'->aL P (fun b=>(b=I\/b=cenv.locals)\/s0.heap.objs.size<=b) s0 s'->pE s'.heap S ys f ja->Q none s'):wpAny (model C.prog C.w) P (pyNext (.ref a)) Q E s:=by
 obtain ⟨o1,o2,o3,o4⟩:=rL (B:=P.in1) (elt:=elt) (iter:=iter) (x:=x) (px:=px) (scope:=scope) (pos:=pos) (I:=I) (cenv:=cenv)
 have hR:=V.ready hq hm o1 o2 o3 (by rw [o4])
 obtain ⟨gs,hgs,hgo⟩:=V.gs
 rw [Fx] at hgo
 have hr:=V.good.room
 refine ao (wpAny_pyNext_genexp (P:=fun n s₀ s₁=>n=0/\ou (pA P elt iter x px scope pos I cenv) cenv I s₀ s₁) (V.good.quiet hq) (ok.lim.keeps V.good.base) (by omega) V.gen hgs (hgo _ hR) (fun v s₁ gs' hv=>?_) fun s₁ hp h' hk'=>?_)
 ·exfalso
  obtain ⟨j',t,ej,it',_⟩:=hv;obtain ⟨o,ho,_,hd⟩:=it';obtain ⟨o2,ho2,_,hd2⟩:=V.it;have' ho3:(s.setGen g .running).heap.get? I=some o2:=ho2
  rw [ho3] at ho;cases ho
  rw [hd2] at hd
  have:=congrArg (fun d:Data=>match d with | .fields vs=>vs.toList | _=>[]) hd
  simp at this<;>omega
 ·intro hsz
  obtain ⟨a1,a2,a3,a4,a5⟩:=iF.after (gs':=.finished) rfl V o2 hp.2 hk' hsz;exact hQ _ a1 a2 a5
set_option tactic.hygienic true in
theorem iF.push {Bi:Around} {j:Nat} {μ:Mu} {s:Shared} {t:Tok} (hb0:cL N ρ0) (V:iF C lv P Bi σ N cenv m I ax a S g items ys f ρ0 μ0 s0 (j+1) j μ s):iF C lv P Bi σ N cenv m I ax a S g items ys f ρ0 μ0 s0 (j+1) (j+1) μ {s with heap:=s.heap.update S (Ey (·.push (.str (f (ys.getD j "")) t)))}:=by
 obtain ⟨acc,c,hS,hz,hacc⟩:=V.acc
 have other:∀ b,b≠S->(s.heap.update S (Ey (·.push (.str (f (ys.getD j "")) t)))).get? b=s.heap.get? b:=fun b hb=>GJ _ _ (Ne.symm hb)
 have k:aL P (· = S) s {s with heap:=s.heap.update S (Ey (·.push (.str (f (ys.getD j "")) t)))}:=⟨_,_,_,rfl,⟨E9 (Gg ..).symm,id⟩,fun b o hb e=>.inl ((other b hb).trans e)⟩
 have' hSfa:¬ FA P S:=fun q=>by
  obtain ⟨_,_,o,es,n,ho,hd⟩:=V.good.frs.fa q
  rw [hS] at ho;cases ho;cases hd
 obtain ⟨mm,hn,_⟩:=V.fr.vals
 have' hSL:cenv.locals≠S:=fun q=>by
  obtain ⟨o,es,n,ho,hd,_⟩:=hn
  rw [q,hS] at ho;cases ho;cases hd
 have' hSI:I≠S:=fun q=>by
  obtain ⟨o,vs,ho,hd⟩:=gd V.it
  rw [q,hS] at ho;cases ho;cases hd
 have' hSa:a≠S:=fun q=>by
  obtain ⟨o,nm,qn,ho,hc,hd,hsl⟩:=V.gen
  rw [q,hS] at ho;cases ho;cases hd
 have' hSx:ax≠S:=FE (E5 V.new.1 V.new.2)
 refine ⟨V.good.turn k (fun b hb=>hb▸V.hS.1) (fun b hb=>hb▸V.hS.2) fun b hf hb=>absurd (hb▸hf) hSfa,V.ext,V.kept.trans k fun d hd=>.inl (.inr (hd▸V.new.2)),V.fr.reblank V.nocells hb0 V.fr.hidL V.fr.freeL (hn.at' fun o e=>(other _ hSL).trans e),V.frn,V.nocells,V.nfa,V.hI,V.hS,V.new,V.neI,V.it.at fun o e=>(other _ hSI).trans e,V.hl.at fun o e=>(other _ hSx).trans e,?_,?_,V.gs⟩
 ·obtain ⟨o,nm,qn,ho,r⟩:=V.gen
  exact ⟨o,nm,qn,(other _ hSa).trans ho,r⟩
 ·refine ⟨_,_,FQ _ hS rfl,by rw [KO,hz],fun i v hv=>?_⟩
  rw [Array.getElem?_push] at hv
  split at hv
  ·rename_i e;rw [hz] at e;subst e;cases hv;exact ⟨t,rfl⟩
  ·exact hacc i v hv
end
end
section
open Sem (wp)
noncomputable def ke (K:Frag) (c P:Addr):Prop:=c≠P/\∃ (o:Obj) (vs:Array Value) (file:Str) (tf:Tok) (flags:Int) (tg:Tok) (inF:Bool) (text:Int) (tt:Tok),K.lookup c=some o/\o.cls=.type "code" /\ vs[11]? = some (.ref P)/\o.data=.fields vs/\vs.getD 11 .none=.ref P/\vs.getD 18 .none=.str file tf /\
  vs.getD 7 .none=.int flags tg/\vs.getD 9 .none=.bool inF/\vs.getD 10 .none=.int text tt
section
variable {C:Cx} {lv:Lv} {σ:aC} {N:aE} {env:Env} {A:Around} {μ:Mu} {s:Shared} {ρ:aO} {x:Str} {px:Pos} {elt iter:Expr} {scope:Scope} {pos:Pos} {c P:Addr} {jp:Nat} {ys:List Str}
structure BN (C:Cx) (lv:Lv) (A:Around) (σ:aC) (N:aE) (env:Env) (ρ:aO) (μ:Mu) (s:Shared) (elt iter:Expr) (x:Str) (px:Pos) (scope:Scope) (pos:Pos) (ys:List Str) (I ax a g:Nat) (cenv:Env) (items:Array Value) (μ':Mu) (s':Shared):Prop where
 post:aS C lv A N env μ s ρ σ μ' s'
 sc:cenv.scope=scope
 glob:cenv.globals=Gk
 blt:cenv.builtins=H5
 cells:cenv.cells=[]
 frame:cenv.frame=some cenv.locals
 hI:I∈μ'.hid/\I∉μ'.foot
 hL:cenv.locals∈μ'.hid/\cenv.locals∉μ'.foot
 new:s.heap.objs.size<=I/\s.heap.objs.size<=cenv.locals/\s.heap.objs.size<=a
 neI:I≠cenv.locals
 neA:ax≠I
 ns:∃ mm,s'.heap.Ns cenv.locals mm
 it:s'.heap.IsListIter I ax 0
 hl:s'.heap.IsList ax items
 gen:s'.heap.IsGen a g
 gs:s'.gens[g]? = some (.fresh (xi elt iter x px scope pos I cenv))
 size:items.size=ys.length
 item:∀ (j:Nat) (v:Value),items[j]? = some v->∃ t:Tok,v=JN (ys.getD j "") t
theorem yQ {α:Type} {l:List α} {i:Nat} {v:α} (h:l[i]? = some v):l.set i v=l:=by
 refine I6 fun j=>?_
 by_cases e:i=j
 ·subst e;rw [F6 (EI.mp h).1,h]
 ·rw [Fj e]
theorem iU {M:Model} {c P:Addr} {ps:Array Value} {qn:Str} {Q:Value->Shared->Prop} {E:Value->Shared->Prop} (hc:env.code=.ref c) (hok:s.heap.IsCode c P ps) (ht:s.heap.TableAt c P ps) (htr:TriplesOk ps.toList)
  (hQ:∀ code h' tk ps',Heap.ExtBut P s.heap h'->h'.TableAt c P ps'->TriplesOk ps'.toList->Q code {s with heap:=h',toks:=tk}):wpAny M A (genexprCode env pos qn scope) Q E s:=by
 cases hnf:codeAmong pos ps.toList with
 | some cv=>exact wpAny_genexprCode_hit hc hok hnf (hQ cv s.heap s.toks ps (Heap.ExtBut.refl _ _) ht htr)
 | none=>exact wpAny_genexprCodeX hc hok ht hnf fun c' h' tk hx zz zz hi zz hT zz=>hQ _ _ _ _ hx hT (by obtain ⟨_,_,_,_,_,_,_,_,_,_,_,_,_,_,_,_,_,_,_,h,_⟩:=hi;exact h)
theorem xb {Q:Value->Shared->Prop} {E:Value->Shared->Prop} (ok:C.Ok) (G:aT C lv A μ σ s) (F:aM A N env μ ρ s.heap) (hcode:env.code=.ref c) (hst:ke C.K c P) (hjp:σ[jp]? = some (.code P)) (hjz:jp∉lv.fz)
  (hi:aH C lv N iter ρ σ (.dat (.list (ys.map .str))) ρ σ) (hclos:∀ env,LB scope env=pure []) (hco:scope.isCoroutine=false) (hkind:scope.kind=.function) (hcell:∀ y∈scope.names,y.2≠.cell)
  (h0:scope.names.lookup (".0" : Str)=some Eb.local) (hs:∀ x,genFold iter env x=pure x)
  (hQ:∀ I ax a g cenv items μ' s',BN C lv A σ N env ρ μ s elt iter x px scope pos ys I ax a g cenv items μ' s'->Q (.ref a) s'):wpAny (model C.prog C.w) A (eval (lg elt iter x px scope pos) env) Q E s:=by
 have hroom:=G.room
 refine wpAny_GeneratorExp_make hco (hclos env) hcell h0 hkind (by omega) ?_ hs
 refine hi A env μ s _ _ ok G F fun v μ1 s1 P1 hv=>?_
 obtain ⟨as,r⟩:=hv
 cases r using RL with
 | @list ax o vs n _ ho hc hd hr=>
  have ho':=Ex _ ho;have hl1:s1.heap.IsList ax vs:=⟨o,ho',hc,n,hd⟩;have' hax:ax<s1.heap.objs.size:=Ea ho';have hlen:vs.size=ys.length:=(a9 hr).trans (EC ..);refine Hh hl1 ?_;have' k12:aL A0 NoW s1 {s1 with heap:=s1.heap.push {cls:=.type "list_iterator",data:=.fields #[.ref ax,.int 0 0]}}:=bB _ s1.toks
  have P2:=aS.hide (l:=[s1.heap.objs.size]) P1.good P1.fr k12 fun b hb=>by rw [EG.mp hb];exact ⟨EH _,by show _<(HV _ _).objs.size;rw [ER];exact E3 _⟩
  have it2:(s1.heap.push {cls:=.type "list_iterator",data:=.fields #[.ref ax,.int 0 0]}).IsListIter s1.heap.objs.size ax 0:=⟨_,EP _ rfl,rfl,rfl⟩;have hl2:(s1.heap.push {cls:=.type "list_iterator",data:=.fields #[.ref ax,.int 0 0]}).IsList ax vs:=hl1.at fun o e=>EJ _ e
  have' hz2:(s1.heap.push {cls:=.type "list_iterator",data:=.fields #[.ref ax,.int 0 0]}).objs.size=s1.heap.objs.size+1:=ER ..;have hI:s1.heap.objs.size∈(μ1.hide [s1.heap.objs.size]).hid/\s1.heap.objs.size∉(μ1.hide [s1.heap.objs.size]).foot:=⟨ED.mpr (.inl (.head _)),fun q=>absurd (P1.good.lt _ (P1.good.sim.foot _ q)) (E2 _)⟩
  have' hnI:s.heap.objs.size<=s1.heap.objs.size:=P1.kept.le;have' P12:=P1.trans P2;generalize hII:s1.heap.objs.size=I at *
  generalize hs2:({s1 with heap:=s1.heap.push {cls:=.type "list_iterator",data:=.fields #[.ref ax,.int 0 0]}}:Shared)=s2 at *
  have' hs2h:s1.heap.push {cls:=.type "list_iterator",data:=.fields #[.ref ax,.int 0 0]}=s2.heap:=by rw [<- hs2]
  rw [hs2h] at it2 hl2 hz2
  generalize hμ2:μ1.hide [I]=μ2 at *
  have X2:=P2.good.inK ok;refine ⟨ok.lim.keeps P2.good.base,?_⟩;obtain ⟨hcP,oc,cvs,file,tf,flags,tg,inF,text,tt,c1,cc,cv,c2,c3,c4,c5,c6,c7⟩:=hst;have hjl:jp<μ2.objs.length:=by rw [P2.good.sim.len];exact (EI.mp hjp).1
  obtain ⟨p,hp⟩:∃ p,μ2.objs[jp]? = some p:=⟨_,E8 hjl⟩;obtain ⟨e1,e2,ps,hop,htr⟩:=P2.good.sim.rep jp p _ hp hjp;obtain ⟨op,hopd,hope⟩:∃ op:Obj,op.data=.fields ps/\op={cls:=.none,data:=.fields ps}:=⟨_,rfl,rfl⟩
  rw [<- hope] at hop
  have' hcodeok:s2.heap.IsCode c P ps:=⟨oc,cvs,file,tf,flags,tg,inF,text,tt,op,X2 _ _ c1,c2,c3,c4,c5,c6,c7,e2▸hop,hopd,htr,hcP⟩;refine ao (iU hcode hcodeok ⟨⟨oc,cvs,X2 _ _ c1,cc,c2,cv⟩,by rw [<- hope,<- e2];exact hop⟩ htr fun code h3 tk3 ps3 hext hcd3 htr3 hsz3=>?_)
  have k23:aL A (·∈p.2) s2 {s2 with heap:=h3,toks:=tk3}:=⟨h3,_,tk3,rfl,⟨hsz3,id⟩,fun b o hb e=>.inl (hext b o (fun q=>hb (by rw [e1,e2,q];exact .head _)) e)⟩
  have P3:aS C lv A N env μ2 s2 ρ σ μ2 {s2 with heap:=h3,toks:=tk3}:=by
   have' w:=aS.write P2.good P2.fr hp hjz k23 (o':=.code P) ⟨e1,e2,ps3,e2▸hcd3.2,htr3⟩
   rwa [yQ hjp] at w
  have' hPI:P≠I:=fun q=>by
   obtain ⟨o',ho',_,hd'⟩:=it2;have hPf:P∈μ2.foot:=aj (EK hp) (by rw [e1,e2];exact .head _)
   exact hI.2 (q▸hPf)
  have it3:h3.IsListIter I ax 0:=it2.at fun o e=>hext I o (Ne.symm hPI) e
  have' hop':s2.heap.get? P=some op:=e2▸hop;have' haxP:ax≠P:=fun q=>by
   obtain ⟨o',ho',_,n',hd'⟩:=hl2
   rw [q,hop'] at ho';cases ho';rw [hopd] at hd';cases hd'
  have hl3:h3.IsList ax vs:=hl2.at fun o e=>hext ax o haxP e
  have P13:=P12.trans P3;have hI3:I<h3.objs.size:=by obtain ⟨_,h,_⟩:=it3;exact Ea h
  generalize hs3:({s2 with heap:=h3,toks:=tk3}:Shared)=s3 at *
  have' hs3h:h3=s3.heap:=by rw [<- hs3]
  rw [hs3h] at it3 hl3 hI3
  have X3:=P3.good.inK ok
  rw [F.glob,F.blt]
  obtain ⟨bm,ob,BM⟩:=ok.bmod;refine wpAny_builtinsFor (BM.ns.keeps P3.good.base) BM.name BM.ne (P3.good.base _ _ BM.obj) BM.cls BM.dict BM.data fun h' hn hsb=>?_
  have hz':h'.objs.size=s3.heap.objs.size+1:=by rw [hsb.1,ER]
  have keep':∀ b o,s3.heap.get? b=some o->h'.get? b=some o:=fun b o e=>hsb.extBut b o (FE (Ea e)) (EJ _ e)
  generalize hs5:({s3 with gens:=_,toks:=_,heap:=_}:Shared)=s5;have hs5h:s5.heap=h'.push {cls:=.type "generator",data:=.fields #[.int s3.gens.size 0,.str "<genexpr>" (s3.toks+1),.str (env.qual ++ "<genexpr>") (s3.toks+1+1)]}:=by rw [<- hs5]
  have' hs5g:s5.gens=s3.gens.push (.fresh (xi elt iter x px scope pos I (genEnv scope [] s3.heap.objs.size code H5 env))):=by rw [<- hs5]
  have keep5:∀ b o,s3.heap.get? b=some o->s5.heap.get? b=some o:=fun b o e=>by rw [hs5h];exact EJ _ (keep' b o e)
  have hz5:s5.heap.objs.size=s3.heap.objs.size+2:=by rw [hs5h,ER,hz']
  have' k35:aL A0 NoW s3 s5:=by
   rw [<- hs5]
   exact ⟨_,_,_,rfl,⟨by rw [ER,hz'];omega,fun q=>q.push rfl⟩,fun b o zz e=>.inl (EJ _ (keep' b o e))⟩
  have' P5:=aS.hide (l:=[s3.heap.objs.size,h'.objs.size]) P3.good P3.fr k35 fun b hb=>by
   rcases ES.mp hb with rfl | hb
   ·exact ⟨EH _,by rw [hz5];exact Js (by decide)⟩
   ·rw [EG.mp hb,hz',hz5];exact ⟨Eg _,E3 _⟩
  have hsz13:s.heap.objs.size<=s3.heap.objs.size:=P13.kept.le;refine hQ I ax h'.objs.size s3.gens.size (genEnv scope [] s3.heap.objs.size code H5 env) vs _ s5 ⟨P13.trans P5,rfl,F.glob,rfl,rfl,rfl,⟨ED.mpr (.inr hI.1),hI.2⟩,⟨ED.mpr (.inl (.head _)),fun q=>?_⟩,⟨hnI,hsz13,by rw [hz'];exact Fi hsz13⟩,FE hI3,FE hax,?_,it3.at fun o e=>keep5 _ o e,hl3.at fun o e=>keep5 _ o e,?_,?_,hlen,fun j v hv=>?_⟩
  ·exact absurd (P3.good.lt _ (P3.good.sim.foot _ q)) (E2 _)
  ·refine ⟨fun y=>if y=".0" then some (.ref I) else none,?_⟩
   rw [hs5h]
   exact hn.push _
  ·rw [hs5h]
   exact ⟨_,_,_,EP _ rfl,rfl,rfl,rfl⟩
  ·rw [hs5g];exact Array.getElem?_push_size ..
  ·have hj:j<ys.length:=by rw [<- hlen];exact (FX.mp hv).1
   obtain ⟨bs,rv⟩:=bg hr j v (.str (ys.getD j "")) (by simpa using hv) (by simp [GK,hj])
   cases rv using RS with
   | str t=>exact ⟨t,rfl⟩
end
end
section
open Sem (wp)
open PySem.Builtin PySem.Builtin.Str
theorem xu {M:Model} {h:Heap} {a:Addr} {o:Obj} {T:Value} (ho:h.get? a=some o) (hc:o.cls=T):Looks M h (typeOf (.ref a)) T:=hc▸(IZ (part:=none) ho).andThen .now
theorem vf {h:Heap} {S:Addr} {ys:List Str} {f:Str->Str} (x:pE h S ys f ys.length):∃ (l:List (Str×Tok)) (c:Nat),h.get? S=some (du (Kj l).toArray c)/\l.map (·.1)=ys.map f:=by
 obtain ⟨acc,c,ho,hz,hv⟩:=x
 obtain ⟨l,hl⟩:=exists_strValues acc.toList fun v hm=>by
  obtain ⟨j,hj,rfl⟩:=Array.mem_iff_getElem.mp (Array.mem_toList_iff.mp hm);obtain ⟨t,e⟩:=hv j _ (HC hj);exact ⟨_,t,e⟩
 refine ⟨l,c,?_,?_⟩
 ·rw [hl,Array.toArray_toList];exact ho
 ·refine I6 fun i=>?_
  have hlen:l.length=ys.length:=by
   have h1:(Kj l).length=l.length:=by unfold Kj;exact EC ..
   have' h2:acc.toList.length=acc.size:=FM
   rw [<- h1,hl,h2,hz]
  by_cases hi:i<ys.length
  ·have h1:l[i]? = some (l[i]'(by omega)):=by simp
   have' h2:acc[i]? = some (.str (l[i]'(by omega)).1 (l[i]'(by omega)).2):=by
    rw [<- Ic,<- hl]
    unfold Kj
    rw [Ei,h1];rfl
   obtain ⟨t,e⟩:=hv i _ h2
   rw [Ei,h1,Ei]
   have:(l[i]'(by omega)).1=f (ys.getD i ""):=by injection e
   simp [this,GK,hi]
  ·rw [Ib (by simp;omega),Ib (by simp;omega)]
section
variable {C:Cx} {lv:Lv} {σ:aC} {N:aE} {env:Env} {A:Around} {μ μ1:Mu} {s s1:Shared} {ρ:aO} {x:Str} {px:Pos} {elt iter:Expr} {scope:Scope} {pos:Pos} {ys:List Str} {f:Str->Str} {I ax a g:Nat} {cenv:Env} {items:Array Value} {ρ0:aO} {ρ1:Str->aO} {m:Nat}
theorem wM {sep:Str} {t:Tok} {Q:Value->Shared->Prop} {E:Value->Shared->Prop} (ok:C.Ok) (hq:lv.q=true) (hm:m+2<=lv.n) (G:aT C lv A μ σ s) (F:aM A N env μ ρ s.heap) (V:BN C lv A σ N env ρ μ s elt iter x px scope pos ys I ax a g cenv items μ1 s1) (okn:dW scope.names) (hkind:scope.kind=.function) (hco:scope.isCoroutine=false)
  (hplain:∀ p∈scope.names,p.2≠.cell/\p.2≠.free) (hbl:cL scope.names ρ0) (hst:∀ y,bS scope.names ρ0 x .local (.dat (.str y)) (ρ1 y)) (hsub:∀ y,Sub (ρ1 y) ρ0)
  (helt:∀ y∈ys,aH C ⟨true,m,EN σ.length⟩ scope.names elt (ρ1 y) σ (.dat (.str (f y))) (ρ1 y) σ) (hys:ys.length<=1000) (hjoin:JoinOk sep (ys.map f)=true)
  (hQ:∀ v μ' s',aS C lv A N env μ s ρ σ μ' s'->af μ' s'.heap (.dat (.str (I7 sep (ys.map f)))) v->Q v s'):wpAny (model C.prog C.w) A (call (.builtin "str.join") [.str sep t,.ref a]) Q E s1:=by
 have' hroom:=V.post.good.room
 have' hunits:=V.post.good.units
 have hP:(A.in1.in1:Around).frames=A.frames:=rfl
 have X:xK C σ scope.names cenv m x elt I ax items ys f ρ0 ρ1:=⟨ok,by rw [V.sc];exact hco,V.frame,V.neI,V.neA,V.size,V.item,hst,hsub,helt,fun y hy=>(hplain _ hy).1 rfl,hbl⟩
 have k0:=V.post.kept
 have szA:s.heap.objs.size<=s1.heap.objs.size:=k0.le
 obtain ⟨oa,nm,qn,hoa,hca,hda,hsla⟩:=V.gen
 have ha:a<s1.heap.objs.size:=Ea hoa
 refine Ff (GT PySem.F.slot_str_join.plain PySem.F.entry_str_join (PySem.F.slot_str_join.check _ _ _ _ _ _ _ _ (LD _ _ _) (PySem.F.args_str_join_2 _ _) ?_))
 rw [join_tree_other]
 refine EA (I4 (V.gen.typeIs) ?_)
 show wpAny _ A.in1 ((pyIter (.ref a)).tryCatch _ >>= fun it=>Lk it >>= fun items=>joinTail sep items) _ _ s1
 refine EA (wpAny_tryCatch (wpAny_pyIter_gen V.gen ?_))
 have G1:aT C ⟨true,m+1,lv.fz⟩ A.in1.in1 μ1 σ s1:=V.post.good.around (fun zz=>V.post.good.quiet hq) rfl (by show A.depth+_+_<_;dsimp only;omega) (by show A.units+1+1+_+_<_;dsimp only;omega) ⟨V.post.good.frs.all⟩
 have' hLs:∃ mm,s1.heap.Ns cenv.locals mm:=V.ns
 have hLlt:cenv.locals<s1.heap.objs.size:=let ⟨_,h⟩:=hLs;h.lt
 have nfa:¬ FA A.in1.in1 cenv.locals:=fun q=>by
  have' h1:=(G.frs.fa (b:=cenv.locals) q).1;exact absurd (G.lt _ h1) (E0.mpr V.new.2.1)
 have hkinds:∀ p∈scope.names,cenv.kindOf p.1=some p.2:=fun p hp=>by
  show cenv.scope.names.lookup p.1=some p.2
  rw [V.sc];exact dU okn.nodup hp
 have hfe:∀ elt iter:Expr,∃ L,cenv.frame=some L/\FA (pA A.in1.in1 elt iter x px scope pos I cenv) L:=fun elt iter=>by
  obtain ⟨l,e,_⟩:=G1.frs.all;exact ⟨_,V.frame,cenv :: l,by
   obtain ⟨_,o2,_,_⟩:=rL (B:=A.in1.in1.in1) (elt:=elt) (iter:=iter) (x:=x) (px:=px) (scope:=scope) (pos:=pos) (I:=I) (cenv:=cenv)
   rw [o2,show A.in1.in1.in1.frames=A.in1.in1.frames from rfl,e];rfl,cenv,.head _,V.frame⟩
 have hnl:∀ h',(∀ b o,s1.heap.get? b=some o->h'.get? b=some o)->Looks (model C.prog C.w) h' (typeOf (.ref a)) (.type "generator"):=fun h' hk=>xu (hk a oa hoa) hca
 refine EA (or (J:=a) (n:=ys.length) (ty:=.type "generator")
  (Inv:=fun i s'=>∃ μi,iF C ⟨true,m+1,lv.fz⟩ A.in1.in1 (pA A.in1.in1 elt iter x px scope pos I cenv) σ scope.names cenv m I ax a s1.heap.objs.size g items ys f ρ0 μ1 s1 i i μi s')
  (Mid:=fun i v s'=>∃ t,v=JN (f (ys.getD i "")) t/\i<ys.length/\∃ μi,iF C ⟨true,m+1,lv.fz⟩ A.in1.in1 (pA A.in1.in1 elt iter x px scope pos I cenv) σ scope.names cenv m I ax a s1.heap.objs.size g items ys f ρ0 μ1 s1 (i+1) i μi s')
  (Fin:=fun s'=>∃ μi,aT C ⟨true,m+1,lv.fz⟩ A.in1.in1 μi σ s'/\Ext μ1 μi s1.heap.objs.size/\aL A.in1.in1 (fun b=>(b=I\/b=cenv.locals)\/s1.heap.objs.size<=b) s1 s'/\pE s'.heap s1.heap.objs.size ys f ys.length)
  ha ha (hnl _ fun zz zz e=>e) (by decide) (by decide) ?hself ?hn1 ?hn2 ?hinv ?hs ?hitem ?hmid ?hdone ?hfin)
 case hself=>
  rintro s0 Q E rfl h
  exact wpAny_pyIter_gen (V.gen.push _) (h _ ⟨s1.toks,rfl⟩)
 case hn1=>intro h' hk;exact (hnl h' hk).andThen (Fa PySem.F.gen_no_len)
 case hn2=>intro h' hk;exact (hnl h' hk).andThen (Fa PySem.F.gen_no_hint)
 case hinv=>
  intro tk h' hS hz hk;have k1:aL A0 NoW s1 {s1 with heap:=h',toks:=tk}:=ab (by rw [hz];exact Eg _) hk
  have G2:=G1.hide (l:=[s1.heap.objs.size]) k1 fun b hb=>by rw [EG.mp hb];exact ⟨EH _,by show _<h'.objs.size;rw [hz];exact E3 _⟩
  obtain ⟨mm,hmm⟩:=V.ns;have hgs:s1.gens[g]? = _:=V.gs;refine ⟨_,⟨G2,fS fun b hb=>by rw [EG.mp hb];exact EH _,k1.lift,⟨by rw [V.sc];exact hkind,V.glob,V.blt,okn.nodup,okn.plain,fun p hp=>.inl (hkinds p hp),ED.mpr (.inr V.hL.1),V.hL.2,fun p hp hc=>?_,(fun p hp=>by rw [V.cells] at hp;cases hp),(fun p hp=>by rw [V.cells] at hp;cases hp),hfe elt iter,mm,hmm.keeps hk,hbl.vars⟩,V.frame,V.cells,nfa,⟨ED.mpr (.inr V.hI.1),V.hI.2⟩,⟨ED.mpr (.inl (.head _)),fun q=>absurd (G1.lt _ (G1.sim.foot _ q)) (E2 _)⟩,⟨?_,EH _⟩,V.neI,V.it.at fun o e=>hk _ o e,V.hl.at fun o e=>hk _ o e,V.gen.keeps hk,⟨_,_,hS,rfl,fun i v hv=>by simp at hv⟩,_,hgs,fun s'' hR=>⟨rfl,ui (B:=A.in1.in1.in1) (iter:=iter) (px:=px) (scope:=scope) (pos:=pos) X (G1.quiet rfl) s'' hR⟩⟩⟩
  ·rcases hc with hc | hc
   ·exact absurd hc (hplain p hp).1
   ·exact absurd hc (hplain p hp).2
  ·obtain ⟨o,ho,_⟩:=V.hl
   exact Ea ho
 case hs=>
  rintro i v s' ⟨t,rfl,hi,μi,W⟩
  obtain ⟨acc,c,hS,hz,_⟩:=W.acc;exact ⟨acc,c,hS,by omega⟩
 case hitem=>
  rintro i s' Q E hi ⟨μi,W⟩ h
  exact W.item ok hbl rfl (E3 _) hi fun t s'' W'=>h _ s'' ⟨t,rfl,hi,μi,W'⟩
 case hmid=>
  rintro i v s' ⟨t,rfl,hi,μi,W⟩
  exact ⟨μi,W.push hbl⟩
 case hdone=>
  rintro s' Q E ⟨μi,W⟩ h
  exact W.done ok rfl (E3 _) fun s'' G' k' a'=>h s'' ⟨μi,G',W.ext,k',a'⟩
 case hfin=>
  rintro s' ⟨μi,G',x',k',a'⟩
  obtain ⟨l,c,hS,hl⟩:=vf a';refine ⟨_,c,hS,?_⟩;have hok:=hjoin
  rw [<- hl] at hok
  have hok':=hok;unfold JoinOk at hok'
  rw [Fz] at hok'
  have' g0:Gives (joinTail sep (Kj l)) (joinMade sep l):=by
   have g0:=gives_joinTail sep l hok'
   cases l with
   | nil=>exact g0
   | cons p r=>cases r with
    | nil=>exact g0
    | cons q r'=>exact g0
  refine g0 C.prog C.w A (wants Q E) s' (post_join l ⟨joinFit_length hok',fun t' tk=>?_⟩)
  have' G2:aT C lv A μi σ s':=G'.around (fun h=>V.post.good.quiet h) rfl hroom hunits ⟨G'.frs.all⟩
  have k2:aL A (fun b=>(b=I\/b=cenv.locals)\/s1.heap.objs.size<=b) s1 s':=k'.frames fun b hb=>.inl hb
  have' F2:aM A N env μi ρ s'.heap:=V.post.fr.ext x' k2 (fun b hb=>?_) (fun q=>?_) (fun p hp q=>?_)
  ·have P2:aS C lv A N env μ s ρ σ μi s':=⟨V.post.fz0,G2,F2,V.post.ext.trans x' szA,k0.trans k2 fun d hd=>.inr ?_⟩
   ·exact hQ _ μi _ (P2.trans (aS.grow P2.good P2.fr (ae tk))) ⟨[],hl▸.str _ t'⟩
   ·rcases hd with (rfl | rfl) | hd
    ·exact V.new.1
    ·exact V.new.2.1
    ·exact EE szA hd
  ·rcases hb with ((rfl | rfl) | hb) | hb
   ·exact .inl V.hI.1
   ·exact .inl V.hL.1
   ·exact .inr hb
   ·exact .inl (V.post.good.frs.fa hb).1
  ·have hlt:env.locals<s.heap.objs.size:=let ⟨_,h,_⟩:=F.vals;h.lt
   rcases q with (q | q) | q
   ·exact absurd (q▸V.new.1) (Ih.mpr hlt)
   ·exact absurd (q▸V.new.2.1) (Ih.mpr hlt)
   ·exact absurd (EE szA q) (Ih.mpr hlt)
  ·obtain ⟨_,_,_,v,o,ho,_⟩:=F.cells p hp
   have hlt:p.2<s.heap.objs.size:=Ea ho
   rcases q with (q | q) | q
   ·exact absurd (q▸V.new.1) (Ih.mpr hlt)
   ·exact absurd (q▸V.new.2.1) (Ih.mpr hlt)
   ·exact absurd (EE szA q) (Ih.mpr hlt)
end
end
section
variable {C:Cx} {lv:Lv} {σ:aC} {N:aE} {env:Env} {A:Around} {μ:Mu} {s:Shared} {ρ:aO} {x:Str} {px:Pos} {elt iter:Expr} {scope:Scope} {gpos:Pos} {ys:List Str} {f:Str->Str} {ρ0:aO} {ρ1:Str->aO} {m:Nat} {c P:Addr} {jp:Nat}
structure BG (scope:Scope) (x:Str) (iter:Expr) (ρ0:aO) (ρ1:Str->aO):Prop where
 okn:dW scope.names
 clos:∀ env,LB scope env=pure []
 co:scope.isCoroutine=false
 kind:scope.kind=.function
 plain:∀ p∈scope.names,p.2≠.cell/\p.2≠.free
 h0:scope.names.lookup (".0" : Str)=some Eb.local
 fold:∀ env x,genFold iter env x=pure x
 bl:cL scope.names ρ0
 st:∀ y,bS scope.names ρ0 x .local (.dat (.str y)) (ρ1 y)
 sub:∀ y,Sub (ρ1 y) ρ0
theorem uj {sep:Str} {k0:Nat} {p0 apos pos:Pos} {Q:Value->Shared->Prop} {E:Value->Shared->Prop} (ok:C.Ok) (hq:lv.q=true) (hm:m+2<=lv.n) (G:aT C lv A μ σ s) (F:aM A N env μ ρ s.heap) (hcode:env.code=.ref c) (hst:ke C.K c P) (hjp:σ[jp]? = some (.code P)) (hjz:jp∉lv.fz)
  (hi:aH C lv N iter ρ σ (.dat (.list (ys.map .str))) ρ σ) (gs:BG scope x iter ρ0 ρ1)
  (helt:∀ y∈ys,aH C ⟨true,m,EN σ.length⟩ scope.names elt (ρ1 y) σ (.dat (.str (f y))) (ρ1 y) σ) (hys:ys.length<=1000) (hjoin:JoinOk sep (ys.map f)=true)
  (hbase:HO (.Constant (.str sep) k0 p0) "join" env (eval (.Constant (.str sep) k0 p0) env)=eval (.Constant (.str sep) k0 p0) env)
  (hfew:((backTo pos (Fv [lg elt iter x px scope gpos] env)).all (fun x=>!x.1) && (HB pos (GE [] env)).all (fun x=>x.1.isSome)
   && decide ([lg elt iter x px scope gpos].length+([]:List IE).length+(if ([]:List IE).isEmpty then 0 else 1)<30))=true) (hline:(apos.endLine==pos.line)=true)
  (hQ:∀ v μ' s',aS C lv A N env μ s ρ σ μ' s'->af μ' s'.heap (.dat (.str (I7 sep (ys.map f)))) v->Q v s') :
  wpAny (model C.prog C.w) A (eval (.Call (.Attribute (.Constant (.str sep) k0 p0) "join" apos) [lg elt iter x px scope gpos] [] pos) env) Q E s:=by
 refine H9 hbase hfew hline rfl (H7 ?_)
 have P0:=aS.grow G F (ae (s:=s) (s.toks+1))
 refine ⟨"str", "str.join",PySem.F.plainAttrs_str,PySem.F.slot_str_join,PySem.F.type_str_join,rfl,(fun b hb=>by cases hb),?_⟩
 refine Fu (be (es:=[lg elt iter x px scope gpos]) rfl) ?_
 rw [a7 (by rfl)]
 refine FO (FS (xb ok P0.good P0.fr hcode hst hjp hjz hi gs.clos gs.co gs.kind (fun y hy=>(gs.plain y hy).1) gs.h0 (gs.fold env) fun I ax a g cenv items μ' s' V=>?_))
 refine Fo ?_
 exact wM ok hq hm P0.good P0.fr V gs.okn gs.kind gs.co gs.plain gs.bl gs.st gs.sub helt hys hjoin fun v μ2 s2 P2 r=>hQ v μ2 s2 (P0.trans P2) r
end
theorem Bg {n:Nat}:(n:Int)+1=((n+1:Nat):Int):=rfl
theorem BD {n:Nat}:(OfNat.ofNat n:Int)=((OfNat.ofNat n:Nat):Int):=rfl
theorem BI {n:Nat}:(n:Int)+2=((n+2:Nat):Int):=rfl
noncomputable def Kw (P:Params):Frag:=hd.heap_1 P
structure bH (C:Cx):Prop where
 ok:C.Ok
 prog:C.prog=Et.prog
 K:C.K=Kw C.w.params
noncomputable def zi (P:Params):Array GQ:=match (Kw P).lookup 3 with
 | some ⟨_,_,.dict es _,_⟩=>es
 | _=>#[]
noncomputable def xl (P:Params) (x:Str):Option Value:=nsFind (zi P) x
theorem yH (P:Params):∃ c d n sl,(Kw P).lookup 3=some ⟨c,d,.dict (zi P) n,sl⟩:=⟨_,_,_,_,rfl⟩
theorem bH.look {C:Cx} (H:bH C) {a:Addr} {o:Obj} (e:(Kw C.w.params).lookup a=some o):C.K.lookup a=some o:=by rw [H.K];exact e
theorem bH.code {C:Cx} (H:bH C) {v:Value} {q:Str} (e:codeIn (Kw C.w.params) v q=true):codeIn C.K v q=true:=by rw [H.K];exact e
theorem bH.glob {C:Cx} (H:bH C) (x:Str):C.mg x=xl C.w.params x:=by
 obtain ⟨c,d,n,sl,e⟩:=yH C.w.params
 obtain ⟨o,es,ep,ho,hd,_,hf⟩:=H.ok.g
 have h3:=H.ok.K 3 _ (by rw [H.K];exact e)
 have' hm:Gk=3:=rfl
 rw [hm,h3] at ho
 cases ho
 cases hd
 exact (hf x).symm
theorem gl {P:Params}:([EB "_wall",EB "_NodeInfo",EB "CycleError",EB "TopologicalSorter",EB "_whence",EB "_index",EB "UnsupportedOperation",EB "BytesIO",EB "StringIO",EB "shlex",EB "split",EB "join_shlex",EB "_find_unsafe",EB "quote",EB "_deduplicate",EB "_deduplicate_unhashable",EB "_compare_args_orderless",EB "_law_cells",EB "_law_words",EB "_law_bonds",EB "_law_sorter",EB "_law_rounds",EB "_law_one_by_one",EB "_law_runs",EB "_law_is_stepped",EB "_law_is_least",EB "_law_changed",EB "_law_alike",EB "_law_text",EB "_law_read",EB "_law_holds",EB "_NODE_OUT",EB "_NODE_DONE",EB "deque",EB "range",EB "len",EB "min",EB "abs",EB "sorted",EB "zip",EB "isinstance",EB "iter",EB "tuple",EB "list",EB "set",EB "dict",EB "bool",EB "int",EB "str",EB "type",EB "bytes",EB "object",EB "StopIteration",EB "ValueError",EB "TypeError"]:List Str).map (xl P)=[some (.ref 44),some (.ref 63),some (.ref 78),some (.ref 160),some (.ref 176),some (.ref 183),some (.ref 193),some (.ref 470),some (.ref 717),some (.ref 852),some (.ref 864),some (.ref 871),some (.ref 872),some (.ref 879),some (.ref 887),some (.ref 894),some (.ref 901),some (.ref 908),some (.ref 913),some (.ref 920),some (.ref 925),some (.ref 930),some (.ref 935),some (.ref 940),some (.ref 945),some (.ref 950),some (.ref 957),some (.ref 962),some (.ref 967),some (.ref 972),some (.ref 977),some (.int (-1) 334),some (.int (-2) 337),some (.type "collections.deque"),none,none,none,none,none,none,none,none,none,none,none,none,none,none,none,none,none,none,none,none,none]:=by kernel_rfl
theorem bl:([EB "range",EB "len",EB "min",EB "abs",EB "sorted",EB "zip",EB "isinstance",EB "iter",EB "tuple",EB "list",EB "set",EB "dict",EB "bool",EB "int",EB "str",EB "type",EB "bytes",EB "object",EB "StopIteration",EB "ValueError",EB "TypeError"]:List Str).map bootBuiltins=[some (.type "range"),some (.builtin "len"),some (.builtin "min"),some (.builtin "abs"),some (.builtin "sorted"),some (.type "zip"),some (.builtin "isinstance"),some (.builtin "iter"),some (.type "tuple"),some (.type "list"),some (.type "set"),some (.type "dict"),some (.type "bool"),some (.type "int"),some (.type "str"),some (.type "type"),some (.type "bytes"),some (.type "object"),some (.type "StopIteration"),some (.type "ValueError"),some (.type "TypeError")]:=by kernel_rfl
theorem bn:([EB "range",EB "len",EB "min",EB "abs",EB "sorted",EB "zip",EB "isinstance",EB "iter",EB "tuple",EB "list",EB "set",EB "dict",EB "bool",EB "int",EB "str",EB "type",EB "bytes",EB "object",EB "StopIteration",EB "ValueError",EB "TypeError"]:List Str).map (fun x=>x==EB "__name__")=[false,false,false,false,false,false,false,false,false,false,false,false,false,false,false,false,false,false,false,false,false]:=by kernel_rfl
theorem aQ {α β:Type} {f:α->β} {l:List α} {r:List β} (e:l.map f=r) {i:Nat} {x:α} {y:β} (h1:l[i]? = some x) (h2:r[i]? = some y):f x=y:=by
 rw [<- e,Ei,h1] at h2
 exact GB.inj h2
section
variable {C:Cx} (H:bH C)
include H
theorem rj:C.mg (EB "_NodeInfo")=some (.ref 63):=(H.glob _).trans (aQ gl (i:=1) rfl rfl)
theorem iH:C.mg (EB "TopologicalSorter")=some (.ref 160):=(H.glob _).trans (aQ gl (i:=3) rfl rfl)
theorem zM:C.mg (EB "_index")=some (.ref 183):=(H.glob _).trans (aQ gl (i:=5) rfl rfl)
theorem us:C.mg (EB "BytesIO")=some (.ref 470):=(H.glob _).trans (aQ gl (i:=7) rfl rfl)
theorem rG:C.mg (EB "StringIO")=some (.ref 717):=(H.glob _).trans (aQ gl (i:=8) rfl rfl)
theorem yb:C.mg (EB "shlex")=some (.ref 852):=(H.glob _).trans (aQ gl (i:=9) rfl rfl)
theorem z9:C.mg (EB "split")=some (.ref 864):=(H.glob _).trans (aQ gl (i:=10) rfl rfl)
theorem nq:C.mg (EB "join_shlex")=some (.ref 871):=(H.glob _).trans (aQ gl (i:=11) rfl rfl)
theorem l9:C.mg (EB "_find_unsafe")=some (.ref 872):=(H.glob _).trans (aQ gl (i:=12) rfl rfl)
theorem yq:C.mg (EB "quote")=some (.ref 879):=(H.glob _).trans (aQ gl (i:=13) rfl rfl)
theorem lZ:C.mg (EB "_deduplicate")=some (.ref 887):=(H.glob _).trans (aQ gl (i:=14) rfl rfl)
theorem fC:C.mg (EB "_deduplicate_unhashable")=some (.ref 894):=(H.glob _).trans (aQ gl (i:=15) rfl rfl)
theorem ez:C.mg (EB "_compare_args_orderless")=some (.ref 901):=(H.glob _).trans (aQ gl (i:=16) rfl rfl)
theorem oj:C.mg (EB "_law_cells")=some (.ref 908):=(H.glob _).trans (aQ gl (i:=17) rfl rfl)
theorem pq:C.mg (EB "_law_words")=some (.ref 913):=(H.glob _).trans (aQ gl (i:=18) rfl rfl)
theorem pN:C.mg (EB "_law_bonds")=some (.ref 920):=(H.glob _).trans (aQ gl (i:=19) rfl rfl)
theorem oK:C.mg (EB "_law_sorter")=some (.ref 925):=(H.glob _).trans (aQ gl (i:=20) rfl rfl)
theorem oC:C.mg (EB "_law_rounds")=some (.ref 930):=(H.glob _).trans (aQ gl (i:=21) rfl rfl)
theorem j9:C.mg (EB "_law_one_by_one")=some (.ref 935):=(H.glob _).trans (aQ gl (i:=22) rfl rfl)
theorem rS:C.mg (EB "_law_runs")=some (.ref 940):=(H.glob _).trans (aQ gl (i:=23) rfl rfl)
theorem je:C.mg (EB "_law_is_stepped")=some (.ref 945):=(H.glob _).trans (aQ gl (i:=24) rfl rfl)
theorem lB:C.mg (EB "_law_is_least")=some (.ref 950):=(H.glob _).trans (aQ gl (i:=25) rfl rfl)
theorem lp:C.mg (EB "_law_changed")=some (.ref 957):=(H.glob _).trans (aQ gl (i:=26) rfl rfl)
theorem qO:C.mg (EB "_law_alike")=some (.ref 962):=(H.glob _).trans (aQ gl (i:=27) rfl rfl)
theorem rA:C.mg (EB "_law_text")=some (.ref 967):=(H.glob _).trans (aQ gl (i:=28) rfl rfl)
theorem rm:C.mg (EB "_law_read")=some (.ref 972):=(H.glob _).trans (aQ gl (i:=29) rfl rfl)
theorem qV:C.mg (EB "_law_holds")=some (.ref 977):=(H.glob _).trans (aQ gl (i:=30) rfl rfl)
theorem rl:C.mg (EB "_NODE_OUT")=some (.int (-1) 334):=(H.glob _).trans (aQ gl (i:=31) rfl rfl)
theorem oY:C.mg (EB "_NODE_DONE")=some (.int (-2) 337):=(H.glob _).trans (aQ gl (i:=32) rfl rfl)
theorem zR:C.mg (EB "deque")=some (.type "collections.deque"):=(H.glob _).trans (aQ gl (i:=33) rfl rfl)
theorem yy:C.mg (EB "range")=none:=(H.glob _).trans (aQ gl (i:=34) rfl rfl)
theorem zY:C.mb (EB "range")=some (.type "range"):=(H.ok.blt _ (by have:=aQ bn (i:=0) rfl rfl;exact beq_eq_false_iff_ne.mp this)).trans (aQ bl (i:=0) rfl rfl)
theorem BA:C.mg (EB "len")=none:=(H.glob _).trans (aQ gl (i:=35) rfl rfl)
theorem Ba:C.mb (EB "len")=some (.builtin "len"):=(H.ok.blt _ (by have:=aQ bn (i:=1) rfl rfl;exact beq_eq_false_iff_ne.mp this)).trans (aQ bl (i:=1) rfl rfl)
theorem BQ:C.mg (EB "min")=none:=(H.glob _).trans (aQ gl (i:=36) rfl rfl)
theorem Bc:C.mb (EB "min")=some (.builtin "min"):=(H.ok.blt _ (by have:=aQ bn (i:=2) rfl rfl;exact beq_eq_false_iff_ne.mp this)).trans (aQ bl (i:=2) rfl rfl)
theorem BC:C.mg (EB "abs")=none:=(H.glob _).trans (aQ gl (i:=37) rfl rfl)
theorem BK:C.mb (EB "abs")=some (.builtin "abs"):=(H.ok.blt _ (by have:=aQ bn (i:=3) rfl rfl;exact beq_eq_false_iff_ne.mp this)).trans (aQ bl (i:=3) rfl rfl)
theorem yP:C.mg (EB "sorted")=none:=(H.glob _).trans (aQ gl (i:=38) rfl rfl)
theorem yF:C.mb (EB "sorted")=some (.builtin "sorted"):=(H.ok.blt _ (by have:=aQ bn (i:=4) rfl rfl;exact beq_eq_false_iff_ne.mp this)).trans (aQ bl (i:=4) rfl rfl)
theorem BP:C.mg (EB "zip")=none:=(H.glob _).trans (aQ gl (i:=39) rfl rfl)
theorem BX:C.mb (EB "zip")=some (.type "zip"):=(H.ok.blt _ (by have:=aQ bn (i:=5) rfl rfl;exact beq_eq_false_iff_ne.mp this)).trans (aQ bl (i:=5) rfl rfl)
theorem n0:C.mg (EB "isinstance")=none:=(H.glob _).trans (aQ gl (i:=40) rfl rfl)
theorem oO:C.mb (EB "isinstance")=some (.builtin "isinstance"):=(H.ok.blt _ (by have:=aQ bn (i:=6) rfl rfl;exact beq_eq_false_iff_ne.mp this)).trans (aQ bl (i:=6) rfl rfl)
theorem zx:C.mg (EB "iter")=none:=(H.glob _).trans (aQ gl (i:=41) rfl rfl)
theorem AS:C.mb (EB "iter")=some (.builtin "iter"):=(H.ok.blt _ (by have:=aQ bn (i:=7) rfl rfl;exact beq_eq_false_iff_ne.mp this)).trans (aQ bl (i:=7) rfl rfl)
theorem y8:C.mg (EB "tuple")=none:=(H.glob _).trans (aQ gl (i:=42) rfl rfl)
theorem zX:C.mb (EB "tuple")=some (.type "tuple"):=(H.ok.blt _ (by have:=aQ bn (i:=8) rfl rfl;exact beq_eq_false_iff_ne.mp this)).trans (aQ bl (i:=8) rfl rfl)
theorem zw:C.mg (EB "list")=none:=(H.glob _).trans (aQ gl (i:=43) rfl rfl)
theorem AF:C.mb (EB "list")=some (.type "list"):=(H.ok.blt _ (by have:=aQ bn (i:=9) rfl rfl;exact beq_eq_false_iff_ne.mp this)).trans (aQ bl (i:=9) rfl rfl)
theorem Bb:C.mg (EB "set")=none:=(H.glob _).trans (aQ gl (i:=44) rfl rfl)
theorem BV:C.mb (EB "set")=some (.type "set"):=(H.ok.blt _ (by have:=aQ bn (i:=10) rfl rfl;exact beq_eq_false_iff_ne.mp this)).trans (aQ bl (i:=10) rfl rfl)
theorem As:C.mg (EB "dict")=none:=(H.glob _).trans (aQ gl (i:=45) rfl rfl)
theorem AU:C.mb (EB "dict")=some (.type "dict"):=(H.ok.blt _ (by have:=aQ bn (i:=11) rfl rfl;exact beq_eq_false_iff_ne.mp this)).trans (aQ bl (i:=11) rfl rfl)
theorem AT:C.mg (EB "bool")=none:=(H.glob _).trans (aQ gl (i:=46) rfl rfl)
theorem AY:C.mb (EB "bool")=some (.type "bool"):=(H.ok.blt _ (by have:=aQ bn (i:=12) rfl rfl;exact beq_eq_false_iff_ne.mp this)).trans (aQ bl (i:=12) rfl rfl)
theorem Bl:C.mg (EB "int")=none:=(H.glob _).trans (aQ gl (i:=47) rfl rfl)
theorem B5:C.mb (EB "int")=some (.type "int"):=(H.ok.blt _ (by have:=aQ bn (i:=13) rfl rfl;exact beq_eq_false_iff_ne.mp this)).trans (aQ bl (i:=13) rfl rfl)
theorem BR:C.mg (EB "str")=none:=(H.glob _).trans (aQ gl (i:=48) rfl rfl)
theorem BY:C.mb (EB "str")=some (.type "str"):=(H.ok.blt _ (by have:=aQ bn (i:=14) rfl rfl;exact beq_eq_false_iff_ne.mp this)).trans (aQ bl (i:=14) rfl rfl)
theorem zy:C.mg (EB "type")=none:=(H.glob _).trans (aQ gl (i:=49) rfl rfl)
theorem Au:C.mb (EB "type")=some (.type "type"):=(H.ok.blt _ (by have:=aQ bn (i:=15) rfl rfl;exact beq_eq_false_iff_ne.mp this)).trans (aQ bl (i:=15) rfl rfl)
theorem xx:C.mg (EB "object")=none:=(H.glob _).trans (aQ gl (i:=51) rfl rfl)
theorem xE:C.mb (EB "object")=some (.type "object"):=(H.ok.blt _ (by have:=aQ bn (i:=17) rfl rfl;exact beq_eq_false_iff_ne.mp this)).trans (aQ bl (i:=17) rfl rfl)
theorem gH:C.mg (EB "StopIteration")=none:=(H.glob _).trans (aQ gl (i:=52) rfl rfl)
theorem gI:C.mb (EB "StopIteration")=some (.type "StopIteration"):=(H.ok.blt _ (by have:=aQ bn (i:=18) rfl rfl;exact beq_eq_false_iff_ne.mp this)).trans (aQ bl (i:=18) rfl rfl)
theorem mz:C.mg (EB "ValueError")=none:=(H.glob _).trans (aQ gl (i:=53) rfl rfl)
theorem oE:C.mb (EB "ValueError")=some (.type "ValueError"):=(H.ok.blt _ (by have:=aQ bn (i:=19) rfl rfl;exact beq_eq_false_iff_ne.mp this)).trans (aQ bl (i:=19) rfl rfl)
theorem on:C.mg (EB "TypeError")=none:=(H.glob _).trans (aQ gl (i:=54) rfl rfl)
theorem qU:C.mb (EB "TypeError")=some (.type "TypeError"):=(H.ok.blt _ (by have:=aQ bn (i:=20) rfl rfl;exact beq_eq_false_iff_ne.mp this)).trans (aQ bl (i:=20) rfl rfl)
end
section
variable {C:Cx} (H:bH C)
include H
theorem bv:cB C.K 160:=by constructor<;>(rw [H.K];kernel_rfl)
theorem eL:gC C.K 63:=by constructor<;>(rw [H.K];kernel_rfl)
theorem BW:makesIn C.K 160=true:=by rw [H.K];kernel_rfl
theorem CD:makesIn C.K 63=true:=by rw [H.K];kernel_rfl
theorem B2:findIn C.K (.ref 160) "__init__" = some (some (.ref 96)):=by rw [H.K];kernel_rfl
theorem Ci:findIn C.K (.ref 63) "__init__" = some (some (.ref 59)):=by rw [H.K];kernel_rfl
theorem fn_ {f:Addr} (h:typeIn (Kw C.w.params) (.ref f)=some (.type "function")):typeIn C.K (.ref f)=some (.type "function"):=by rw [H.K];exact h
theorem kp_ {f:Addr} (h:keepIn (Kw C.w.params) (.ref f)=true):keepIn C.K (.ref f)=true:=by rw [H.K];exact h
theorem fd_ {v:Value} {n:Str} {r} (h:findIn (Kw C.w.params) v n=some r):findIn C.K v n=some r:=by rw [H.K];exact h
theorem fi_ {f:Addr} (h:fnIn (Kw C.w.params) f=true):fnIn C.K f=true:=by rw [H.K];exact h
theorem sp_ {v:Value} {n:Str} {r} (h:JM (Kw C.w.params) v n=some r):JM C.K v n=some r:=by rw [H.K];exact h
theorem tk_ {v:Value} {r} (h:Kh (Kw C.w.params) v=some r):Kh C.K v=some r:=by rw [H.K];exact h
theorem sL:kh C.K 63 "node" 0:=⟨64,by rw [H.K];kernel_rfl,by rw [H.K];kernel_rfl,by rw [H.K];kernel_rfl,by rw [H.K];kernel_rfl,by rw [H.K];kernel_rfl⟩
theorem iP:kh C.K 63 "npredecessors" 1:=⟨65,by rw [H.K];kernel_rfl,by rw [H.K];kernel_rfl,by rw [H.K];kernel_rfl,by rw [H.K];kernel_rfl,by rw [H.K];kernel_rfl⟩
theorem tG:kh C.K 63 "successors" 2:=⟨66,by rw [H.K];kernel_rfl,by rw [H.K];kernel_rfl,by rw [H.K];kernel_rfl,by rw [H.K];kernel_rfl,by rw [H.K];kernel_rfl⟩
end
theorem iX {α:Type} {l r:List α} {i:Nat}:(l++r)[l.length+i]? = r[i]?:=by rw [EZ (EM _ _),E1]
theorem iG {α:Type} {l r:List α}:(l++r)[l.length]? = r[0]?:=iX (i:=0)
theorem sk {α:Type} {l r:List α} {i:Nat} {y:α}:(l++r).set (l.length+i) y=l++r.set i y:=by rw [Ee _ _ (EM _ _),E1]
theorem fE {α:Type} {l r:List α} {y:α}:(l++r).set l.length y=l++r.set 0 y:=sk (i:=0)
theorem xS {α:Type} {l r:List α} {i:Nat} {x:α} (h:l[i]? = some x):(l++r)[i]? = some x:=by rw [Ed (EI.mp h).1];exact h
theorem yg {α:Type} {l r:List α} {i:Nat} {x:α} (h:i<l.length):(l++r).set i x=l.set i x++r:=K8 _ _ h
section
open PySem.Builtin PySem.Builtin.Re
noncomputable def lO:Nat->Sre.M->Option Sre.M
 | 0,_=>none
 | n+1,m=>if (m.runFor reTurnSteps).outcome.isSome then some (m.runFor reTurnSteps) else lO n (m.runFor reTurnSteps)
noncomputable def fi:Array Nat:=#[14,17,4,1,1,21,9,0,604043296,1,0,0,0,0,0,8,4,0,13,14,21,9,0,604043296,1,0,0,0,0,0,8,4,0,1]
noncomputable def found (text:Array Nat):Option Bool:=match lO 64 (Sre.forSearch fi text 0 0 text.size false) with
 | some m=>match m.outcome with
  | some .matched=>some true
  | some .failed=>some false
  | _=>none
 | none=>none
section
variable {prog:Fn} {w:World} {A:Around} {E:Value->Shared->Prop} {s:Shared}
theorem rV {Q:Sre.M->Shared->Prop} {m':Sre.M}:∀ (n:Nat) (m:Sre.M) (k:Nat),n<=k->lO n m=some m'->Q m' s->wpAny (model prog w) A (reDrive k m) Q E s:=by
 intro n
 induction n with
 | zero=>
  intro _ _ _ h _
  cases h
 | succ n ih=>
  intro m k hk h q
  cases k with
  | zero=>exact absurd hk (Ir _)
  | succ k=>
  unfold lO at h
  unfold reDrive;dsimp only
  by_cases c:(m.runFor reTurnSteps).outcome.isSome
  ·rw [if_pos c] at h ⊢
   cases h
   exact EF q
  ·rw [if_neg c] at h ⊢
   exact EA (IG (ih _ k (Gx hk) h q))
theorem ul {Q:PUnit->Shared->Prop} {c:Nat->Bool} {nm:Nat->String} (q:Q ⟨⟩ s):∀ (l:List Nat),wpAny (model prog w) A (forIn l PUnit.unit fun i zz=>do
   if c i=true then
    rule (nm i)
    pure (ForInStep.yield PUnit.unit)
   else pure (ForInStep.yield PUnit.unit)) Q E s:=by
 intro l
 induction l with
 | nil=>rw [IX];exact EF q
 | cons i l ih=>
  rw [KP]
  refine EA ?_
  by_cases h:c i=true
  ·rw [if_pos h]
   exact EA (IG (EF ih))
  ·rw [if_neg h]
   exact EF ih
theorem vx {text:Array Nat} {b:Bool} {Q:Option Sre.M->Shared->Prop} (h:found text=some b) (q:∀ r:Option Sre.M,r.isSome=b->Q r s):wpAny (model prog w) A (reRunToEnd (Sre.forSearch fi text 0 0 text.size false)) Q E s:=by
 unfold found at h
 unfold reRunToEnd
 cases hm:lO 64 (Sre.forSearch fi text 0 0 text.size false) with
 | none=>rw [hm] at h;cases h
 | some m=>
  rw [hm] at h
  dsimp only at h
  refine EA (rV 64 _ _ (by decide) hm ?_)
  refine EA (ul ?_ _)
  cases ho:m.outcome with
  | none=>rw [ho] at h;cases h
  | some o=>
   rw [ho] at h
   cases o with
   | matched=>cases h;exact EF (q _ rfl)
   | failed=>cases h;exact EF (q _ rfl)
   | stuck y=>cases h
end
end
section
open PySem.Builtin PySem.Builtin.Re PySem.Challenge
theorem oD:Iw table "re.Pattern.search" = some En.«re.Pattern.search» := entryFor_of_fast (by kernel_rfl)
theorem qi {P:Params} {S:JL} {v:Value}:peek (Kw P) S (I5 "re.Pattern.search" ⟨[.ref 169,v],[]⟩)=some ():=by kernel_rfl
theorem o7 {P:Params} {S:JL} {x:Str} {t:Tok}:peek (Kw P) S (reTarget "re.Pattern.search" "search" ⟨[.ref 169,.str x t],[]⟩)=some {pattern:=.ref 169,string:=.str x t,code:=fi,text:=x.cps,kind:=0,groups:=0,pos:=min (Hs 0) x.cps.size,lim:=min (Hs (2 ^ 63 - 1)) x.cps.size}:=by kernel_rfl
theorem sr {P:Params}:(Kw P).lookup 872=some {cls:=.type "builtin_function_or_method",dict:=none,data:=.fields #[.builtin "re.Pattern.search",.ref 169],slots:=#[]}:=by kernel_rfl
section
variable {prog:Fn} {w:World} {A:Around} {E:Value->Shared->Prop} {s:Shared} {P:Params}
theorem qQ {x:Str} {t:Tok} {b:Bool} {Q:PySem.Fin->Shared->Prop} (X:(Kw P).In s.heap) (hz:x.cps.size<1000) (hf:found x.cps=some b)
  (hQ:∀ v h',(if b then ∃ a,v=Fg a else v=.none)->s.heap.objs.size<=h'.objs.size->(∀ a o,s.heap.get? a=some o->h'.get? a=some o)->Q (.done (.ret v)) {s with heap:=h'}) :
  wpAny (model prog w) A (En.«re.Pattern.search» ⟨[.ref 169,.str x t],[]⟩) Q E s:=by
 unfold En.«re.Pattern.search»
 refine EA ((Io X o7).here ?_)
 dsimp only
 have' hm:min (Hs (2 ^ 63 - 1)) x.cps.size=x.cps.size:=Hw (by
  have:Hs (2 ^ 63 - 1)=2 ^ 63 - 1:=by decide
  omega)
 rw [show min (Hs 0) x.cps.size=0 from Nat.zero_min _,hm]
 unfold reAnswer
 refine EA (vx hf fun r hr=>?_)
 cases r with
 | none=>
  obtain rfl:b=false:=hr.symm;exact EF (hQ _ s.heap rfl (EH _) fun zz zz e=>e)
 | some m=>
  obtain rfl:b=true:=hr.symm;dsimp only;refine EA ?_;unfold reNewMatch;dsimp only
  rw [show (EN 0).any _=false from rfl,if_neg (by decide)]
  refine EA (wpAny_newTuple ?_ (by show (2:Nat)<=FG;rw [EO];decide))
  unfold newFields;refine GZ ?_ (by first | size_fits | trivial | (unfold sizeOk;dsimp only;rw [EO];decide) | (simp [sizeOk,EO]))
  refine EF (hQ _ _ ⟨_,rfl⟩ (by simp only [ER];omega) fun a o e=>EJ _ (EJ _ e))
theorem pf {x:Str} {t:Tok} {b:Bool} {Q:Value->Shared->Prop} (X:(Kw P).In s.heap) (hz:x.cps.size<1000) (hf:found x.cps=some b)
  (hQ:∀ v h',(if b then ∃ a,v=Fg a else v=.none)->s.heap.objs.size<=h'.objs.size->(∀ a o,s.heap.get? a=some o->h'.get? a=some o)->Q v {s with heap:=h'}) :
  wpAny (model prog w) A (call (.ref 872) [.str x t]) Q E s:=by
 refine Ff ?_
 obtain ⟨hh,g,d,tk,os⟩:=s
 refine Gs ?_
 show wpAny _ _ (Ki (.ref 872) _) _ _ _
 refine Ll (X _ _ sr) (nd_bind (nd_pure ?_))
 show wpAny _ _ (I5 "re.Pattern.search" ⟨[.ref 169,.str x t],[]⟩ >>= _) _ _ _
 refine EA ((Io X qi).here (EF ⟨Code.quiet_builtin _ (by decide +kernel),?_⟩))
 refine Fd oD ?_
 exact qQ X hz hf fun v h' h1 h2 h3=>hQ v h' h1 h2 h3
end
end
section
variable {C:Cx} {lv:Lv} {N:aE} {ρ ρ₁ ρ₂:aO} {σ σ₁ σ₂:aC} {e:Expr}
theorem jY {P:Params} {M:Model} {h:Heap} (X:(Kw P).In h):Looks M h (LQ (.ref 872)) .machine:=(IZ (part:=none) (X _ _ sr)).andThen .now
theorem k7 (H:bH C) {fu:Str} {x:Str} {b:Bool} {np pos p1 p2:Pos} {k:Nat} (hf:aH C lv N (.Name fu np) ρ σ (.con (.ref 872)) ρ σ) (he:aH C lv N e ρ σ (.dat (.str x)) ρ₁ σ₁) (hb:found x.cps=some b) (hz:x.cps.size<1000) (hn:autoParam (bx e=true) aR)
  (hw:autoParam (∀ env,eval (.Call (.Name fu np) [e] [] pos) env=(do
   let f <- eval (.Name fu np) env
   HL pos f [] (backTo pos (Fv [e] env)) (HB pos (GE [] env)))) aV)
  (hm:autoParam (Kt .Is (.Constant .none k p1)=false) aU):aY C lv N (.Compare (.Call (.Name fu np) [e] [] pos) [.Is] [.Constant .none k p1] p2) ρ σ (!b) ρ₁ σ₁:=by
 intro A env μ s Q E ok G F hQ
 refine KV ?_ hm
 rw [hw]
 refine EA (hf A env μ s _ _ ok G F fun v μ1 s1 P1 hv1=>?_)
 obtain rfl:=hv1
 refine Lf (P:=fun h=>(Kw C.w.params).In h) (by rw [a7 hn];rfl) (fun h h0=>⟨_,.inr (.inl rfl),jY h0⟩) ((aZ (bF he bQ hn) hn) A env μ1 s1 pos _ _ _ ok P1.good P1.fr fun vs kvs μ2 s2 P2 rv rk=>?_)
 obtain rfl:=rk.e0
 obtain ⟨u,rfl,as,ru⟩:=rv.e1
 cases ru using RS with
 | str t=>
  have X2:(Kw C.w.params).In s2.heap:=by have:=P2.good.inK ok;rw [H.K] at this;exact this
  refine ⟨X2,pf X2 hz hb fun v h' hv hl hk=>?_⟩
  have' k1:aL A0 NoW s2 {s2 with heap:=h'}:=ab (tk:=s2.toks) hl hk;have P3:=P1.trans (P2.trans (aS.grow P2.good P2.fr k1));refine Kl ?_
  cases b with
  | false=>
   obtain rfl:v=.none:=hv;refine IY (by rfl) ?_
   exact HK (hQ _ _ P3)
  | true=>
   obtain ⟨a,rfl⟩:∃ a,v=.ref a:=hv;refine IY (by rfl) ?_
   exact HK (hQ _ _ P3)
theorem p7 {q x y z:Str} {apos pos p0 p1 p2 p3:Pos} {k0 k1 k2:Nat} (he:aH C lv N e ρ σ (.dat (.str x)) ρ σ) (hyz:(y==z)=false) (hz:x.length+(x.length+1) * z.length<=16777216) (hq:q.length+(Gy x y z).length<=FG)
  (hbase:autoParam (∀ env,HO e "replace" env (eval e env)=eval e env) aI)
  (hfew:autoParam (∀ env,((backTo pos (Fv [.Constant (.str y) k1 p1,.Constant (.str z) k2 p2] env)).all (fun x=>!x.1) && (HB pos (GE [] env)).all (fun x=>x.1.isSome)
   && decide ([Expr.Constant (.str y) k1 p1,.Constant (.str z) k2 p2].length+([]:List IE).length+(if ([]:List IE).isEmpty then 0 else 1)<30))=true) aI)
  (hline:autoParam ((apos.endLine==pos.line)=true) aR):aH C lv N (.BinOp (.Constant (.str q) k0 p0) .Add (.Call (.Attribute e "replace" apos) [.Constant (.str y) k1 p1,.Constant (.str z) k2 p2] [] pos) p3) ρ σ (.dat (.str (q++Gy x y z))) ρ σ:=by
 intro A env μ s Q E ok G F hQ
 refine wpAny_BinOp (H7 ?_)
 have P0:=aS.grow G F (ae (s:=s) (s.toks+1))
 refine H9 (hbase env) (hfew env) hline rfl (qf (he A env μ _ _ _ ok P0.good P0.fr fun v μ1 s1 P1 hv htk=>?_))
 obtain ⟨as,hv⟩:=hv
 cases hv using RS with
 | str t=>
  refine ⟨"str", "str.replace",PySem.F.plainAttrs_str,PySem.F.slot_str_replace,PySem.F.type_str_replace,rfl,(fun b hb=>by cases hb),?_⟩
  refine Fu (be (es:=[.Constant (.str y) k1 p1,.Constant (.str z) k2 p2]) rfl) ?_
  rw [a7 (by rfl)]
  refine FO (FS (H7 (k:=k1) (pos:=p1) ?_))
  rw [a7 (by rfl)]
  refine FS (H7 (k:=k2) (pos:=p2) (Fo ?_));have h1:s1.toks≠0:=by have:s.toks+1<=s1.toks:=htk;omega
  refine SC.replace h1 (HT _) (FE (E3 _)) hyz hz fun t' k=>?_
  refine PyProof.Rows.add_str (fun t2 tk=>?_) hq
  exact hQ _ _ _ (P0.trans (P1.trans (aS.grow P1.good P1.fr (ae tk)))) ⟨[],.str _ t2⟩
theorem yu {x y:Str} (hz:x.length+y.length<=FG):Op2 C (Iu .Add) (.str x) (.str y) (.str (x++y)):=fun zz zz zz zz zz zz zz zz zz zz ru rv zz hQ=>by
 cases ru using RS;cases rv using RS
 exact PyProof.Rows.add_str (fun t tk=>hQ _ _ [] (ae tk) (.str _ t)) hz
end
section
variable {C:Cx} {lv:Lv} {N:aE} {ρ ρ₁ ρ₂ ρ₃:aO} {σ σ₁ σ₂ σ₃:aC}
theorem wQ {x y:Str}:Op2 C (Fc .Eq) (.str x) (.str y) (.bool (x==y)):=fun zz zz zz zz zz zz zz zz zz zz ru rv zz hQ=>by
 cases ru using RS;cases rv using RS;exact PyProof.Rows.eq_str (hQ _ _ [] (aL.refl _ _ _) (.bool _))
theorem AL {x y:Str}:Op2 C (Fc .NotEq) (.str x) (.str y) (.bool (x != y)):=fun zz zz zz zz zz zz zz zz zz zz ru rv zz hQ=>by
 cases ru using RS;cases rv using RS;exact PyProof.Rows.ne_str (hQ _ _ [] (aL.refl _ _ _) (.bool _))
theorem y4:Op2 C (Fc .Eq) .none .none (.bool true):=fun zz zz zz zz zz zz zz zz zz zz ru rv zz hQ=>by
 cases ru using RN;cases rv using RN;exact PySem.EqNone.eq_none_none (hQ _ _ [] (aL.refl _ _ _) (.bool _))
theorem y6 {x:Str}:Op2 C (Fc .Eq) (.str x) .none (.bool false):=fun zz zz zz zz zz zz zz zz zz zz ru rv zz hQ=>by
 cases ru using RS;cases rv using RN;exact PySem.EqNone.eq_str_none (hQ _ _ [] (aL.refl _ _ _) (.bool _))
noncomputable def jk (y x:Str):Bool:=!(En.Str.occurrences x y 0 x.length 1).isEmpty
theorem xH {x y:Str}:Op2 C (Fc .In) (.str y) (.str x) (.bool (jk y x)):=fun zz zz zz zz zz zz zz zz zz zz ru rv zz hQ=>by
 cases ru using RS;cases rv using RS;exact PyProof.Rows.in_str (hQ _ _ [] (aL.refl _ _ _) (.bool _))
theorem Ad {a b:String}:OpG C lv σ (Fc .Is) (.con (.type a)) (.con (.type b)) (.bool (F7 a==F7 b)):=fun A μ u v s Q E ok G ru rv hQ=>by
 obtain rfl:u=.type a:=ru
 obtain rfl:v=.type b:=rv
 exact IY (by rfl) (hQ _ _ [] (aL.refl _ _ _) (.bool _))
theorem gy {a b:String}:OpG C lv σ (Fc .IsNot) (.con (.type a)) (.con (.type b)) (.bool (!(F7 a==F7 b))):=fun A μ u v s Q E ok G ru rv hQ=>by
 obtain rfl:u=.type a:=ru
 obtain rfl:v=.type b:=rv
 exact Jb (by rfl) (hQ _ _ [] (aL.refl _ _ _) (.bool _))
theorem uG {a b:Addr} {oa ob:Obj} (ha:C.K.lookup a=some oa) (hb:C.K.lookup b=some ob) (hne:a≠b) (ht:oa.cls≠.type "tuple"):OpG C lv σ (Fc .IsNot) (.con (.ref a)) (.con (.ref b)) (.bool true):=fun A μ u v s Q E ok G ru rv hQ=>by
 obtain rfl:u=.ref a:=ru
 obtain rfl:v=.ref b:=rv
 have X:=G.inK ok
 exact wpAny_isNot_ref_other hne (X _ _ ha) (X _ _ hb) ht (hQ _ _ [] (aL.refl _ _ _) (.bool _))
theorem pS {M:Model} {a:Addr}:(isSame (.ref a) (.ref a):Sem Bool)=pure true:=by
 show (if (a==a)=true then pure true else _:Sem Bool)=_
 rw [if_pos (beq_self_eq_true a)]
theorem oS {a:Addr}:OpG C lv σ (Fc .IsNot) (.con (.ref a)) (.con (.ref a)) (.bool false):=fun A μ u v s Q E ok G ru rv hQ=>by
 obtain rfl:u=.ref a:=ru
 obtain rfl:v=.ref a:=rv
 show wpAny _ _ (do return .bool (!(<- isSame (.ref a) (.ref a)))) Q E s
 rw [pS (M:=model C.prog C.w)]
 exact EA (EF (EF (hQ _ _ [] (aL.refl _ _ _) (.bool _))))
theorem pB {x:Str}:dS C lv σ (.type "type") [.dat (.str x)] (.con (.type "str")) σ:=by
 intro N ρ A env μ s vs Q E ok G F r hQ
 obtain ⟨u,rfl,⟨as,ru⟩⟩:=r.e1
 cases ru using RS
 obtain ⟨hh,g,d,t,os⟩:=s
 exact PySem.call_type_of (Tx := "str") (LD _ _ _) (by decide) (hQ _ μ _ (aS.refl G F) rfl)
theorem yD {i:Int}:dS C lv σ (.type "type") [.dat (.int i)] (.con (.type "int")) σ:=by
 intro N ρ A env μ s vs Q E ok G F r hQ
 obtain ⟨u,rfl,⟨as,ru⟩⟩:=r.e1
 cases ru using RI
 obtain ⟨hh,g,d,t,os⟩:=s
 exact PySem.call_type_of (Tx := "int") rfl (by decide) (hQ _ μ _ (aS.refl G F) rfl)
theorem za {i:Int}:dS C lv σ (.type "int") [.dat (.int i)] (.dat (.int i)) σ:=by
 intro N ρ A env μ s vs Q E ok G F r hQ
 obtain ⟨u,rfl,⟨as,ru⟩⟩:=r.e1
 cases ru using RI with
 | int t=>exact PySem.call_int_int (hQ _ μ _ (aS.refl G F) ⟨[],.int i t⟩)
theorem eV {x y:Expr} {r:List Expr} {pos:Pos} {b:Bool} (h:aY C lv N x ρ σ true ρ₁ σ₁) (h':aY C lv N (.BoolOp .And (y :: r) pos) ρ₁ σ₁ b ρ₂ σ₂):aY C lv N (.BoolOp .And (x :: y :: r) pos) ρ σ b ρ₂ σ₂:=fun A env μ s zz zz ok G F hQ=>
 HR (H8 (h A env μ s _ _ ok G F fun μ1 s1 P1=>h' A env μ1 s1 _ _ ok P1.good P1.fr fun μ2 s2 P2=>hQ μ2 s2 (P1.trans P2)))
end
section
open PySem.Builtin.Str
noncomputable def cZ (c:Nat):Str:=⟨#[c]⟩
set_option tactic.hygienic true in
theorem uf {x:Str} {i c:Nat} (h:x.cps[i]? = some c):Txt.slice x (some (i:Int)) (some (((i+1:Nat)):Int))=cZ c:=by
 have hi:i<x.cps.size:=(FX.mp h).1
 have' e:=StrLaws.strSliceIndices_plain (a:=i) (b:=i+1) (len:=x.length) (Eg _) hi
 have e2:List.range' i (i+1 - i)=[i]:=by rw [E1];rfl
 unfold Txt.slice
 rw [e]
 split
 ·rename_i hc
  simp only [E7,beq_iff_eq] at hc
  have hl:x.cps.size=1:=by
   have:=hc.2
   simp at this
   exact this.symm
  obtain ⟨cps⟩:=x;dsimp only at h hl hi
  have:i=0:=by omega
  subst this;unfold cZ
  congr 1
  apply Array.ext
  ·simpa using hl
  ·intro j h1 h2
   have:j=0:=by omega
   subst this
   simpa [HC hi] using h
 ·unfold cZ
  congr 1
  simp [h,List.range'_eq_map_range]
section
variable {C:Cx} {lv:Lv} {N:aE} {ρ ρ₁ ρ₂ ρ₃:aO} {σ σ₁ σ₂ σ₃:aC} {i:Nat} {e:Expr}
theorem wC {b:Expr} {x:Str} {t:Tok} {r:Value}:HY b (.str x t) r=pure ():=by cases b<;>rfl
theorem rN {M:Model} {A:Around} {E:Value->Shared->Prop} {s:Shared} {env:Env} {value lo hi:Expr} {p pos:Pos} {Q:Value->Shared->Prop}
  (h:wpAny M A (eval value env) (fun o s₁=>wpAny M A (eval lo env) (fun vl s₂=>wpAny M A (eval hi env) (fun vu s₃=>(∃ x t,o=.str x t) /\
   wpAny M A (Kf o (.ref s₃.heap.objs.size)) Q E {s₃ with heap:=s₃.heap.push {cls:=.type "slice",data:=.fields #[vl,vu,.none]}}) E s₂) E s₁) E s) :
  wpAny M A (eval (.Subscript value (.Slice (some lo) (some hi) none p) pos) env) Q E s:=by
 rw [eval_Subscript]
 refine EA (Ep h (fun o s₁ h₁=>EA (EY (wpAny_Slice (Kq (Ep h₁ (fun vl s₂ h₂=>Kq (Ep h₂ (fun vu s₃ h₃=>?_) fun zz zz x=>x)) fun zz zz x=>x))))) fun zz zz x=>x)
 obtain ⟨⟨x,t,rfl⟩,h₃⟩:=h₃
 refine wpAny_evalPart_none (EA (FP ?_))
 have hT:({s₃ with heap:=s₃.heap.push {cls:=.type "slice",data:=.fields #[vl,vu,.none]}}:Shared).TypeIs (.str x t) "str" := LD _ x t
 have fin:wpAny M A (LN [.ref s₃.heap.objs.size,.str x t] (Kf (.str x t) (.ref s₃.heap.objs.size))) (fun r s₄=>wpAny M A (HY value (.str x t) r >>= fun zz=>pure r) Q E s₄) E {s₃ with heap:=s₃.heap.push {cls:=.type "slice",data:=.fields #[vl,vu,.none]}}:=
  KQ (Ep h₃ (fun r s₄ h₄=>EA (GC wC (EF h₄))) fun zz zz x=>x)
 first
  | (refine EA ?_;rw [getitemInPython_of_ne hT.not_modules];refine EA (JB hT PySem.F.slot_str_getitem.lookup ?_);first | exact EF (EA fin) | exact EA (EF (EA fin)) | exact EA fin)
  | (refine EA (JB hT PySem.F.slot_str_getitem.lookup ?_);first | exact EA (EF (EA fin)) | exact EA fin)
theorem rh {value lo hi:Expr} {p pos:Pos} {x:Str} {i j:Int} (hv:aH C lv N value ρ σ (.dat (.str x)) ρ₁ σ₁) (hl:aH C lv N lo ρ₁ σ₁ (.dat (.int i)) ρ₂ σ₂) (hu:aH C lv N hi ρ₂ σ₂ (.dat (.int j)) ρ₃ σ₃) (hz:x.length<=FG):aH C lv N (.Subscript value (.Slice (some lo) (some hi) none p) pos) ρ σ (.dat (.str (Txt.slice x (some i) (some j)))) ρ₃ σ₃:=by
 intro A env μ s Q E ok G F hQ
 refine rN (hv A env μ s _ _ ok G F fun v μ1 s1 P1 ⟨_,r⟩=>hl A env μ1 s1 _ _ ok P1.good P1.fr fun vl μ2 s2 P2 ⟨_,r2⟩=>hu A env μ2 s2 _ _ ok P2.good P2.fr fun vu μ3 s3 P3 qq1=>?_)
 obtain ⟨_,r3⟩:=qq1
 cases r using RS with
 | str t=>cases r2 using RI with
  | int t2=>cases r3 using RI with
   | int t3=>
    refine ⟨⟨x,t,rfl⟩,wpAny_getItem_str_slice (l:=some (i,t2)) (u:=some (j,t3)) (st:=none) ⟨_,EP _ rfl,rfl,rfl⟩ rfl ?_⟩;have P4:=P1.trans (P2.trans (P3.trans (aS.grow P3.good P3.fr (bB {cls:=.type "slice",data:=.fields #[.int i t2,.int j t3,.none]} s3.toks))));exact post_val_or_str ⟨EE (Txt.slice_le x _ _) hz,fun t' k=>hQ _ _ _ (P4.trans (aS.grow P4.good P4.fr (ae k))) ⟨[],.str _ t'⟩⟩
theorem oZ {x y:Str} (hz:x.length+y.length<=FG):Op2 C (L8 .Add) (.str x) (.str y) (.str (x++y)):=fun zz zz zz zz zz zz zz zz zz zz ru rv zz hQ=>by
 cases ru;cases rv
 exact PyProof.Rows.iadd_str (fun t tk=>hQ _ _ [] (ae tk) (.str _ t)) hz
theorem tF {x:Str} (hz:(x.length:Int)<2 ^ 63):fO C lv σ (.builtin "len") [.dat (.str x)] (.int x.length):=fun A μ s vs Q E ok G r hQ=>by
 obtain ⟨v,rfl,⟨as,r⟩⟩:=r.e1
 cases r using RS with
 | str t=>exact PyProof.Rows.len_str (by omega) (hQ _ _ [] (ae _) (.int _ _))
end
end
section
open PySem PySem.W PyProof.Rows PySem.Builtin PySem.Builtin.ObjectAttr
noncomputable def fG {α:Type} (K:Frag) (S:JL):Sem α->Option (Obj×(Addr->Option (Obj×(Addr->Option α))))
 | .rule _ k=>fG K S (k ())
 | .point _ k=>fG K S (k ())
 | .ask k=>fG K S (k S)
 | .load a _ k=>(K.lookup a).bind fun o=>fG K S (k o)
 | .alloc o k=>some (o,fun D=>peek1 K S (k D))
 | _=>none
theorem pJ {α:Type} {K:Frag} {S:JL} {t:Sem α} {o:Obj} {o2:Addr->Obj} {r:Addr->Addr->α} (h1:(fG K S t).map (·.1)=some o) (h2:∀ D,((fG K S t).bind fun p=>(p.2 D).map (·.1))=some (o2 D))
  (h3:∀ D D2,((fG K S t).bind fun p=>(p.2 D).bind fun q=>q.2 D2)=some (r D D2)):∃ g,fG K S t=some (o,g)/\∀ D,∃ g',g D=some (o2 D,g')/\∀ D2,g' D2=some (r D D2):=by
 generalize fG K S t=z at *
 cases z with
 | none=>cases h1
 | some p=>
  obtain ⟨a,g⟩:=p
  cases h1
  refine ⟨g,rfl,fun D=>?_⟩
  have a2:=h2 D;have a3:=h3 D;dsimp only [H0] at a2 a3
  generalize g D=y at *
  cases y with
  | none=>cases a2
  | some q=>
   obtain ⟨b,g'⟩:=q
   cases a2
   exact ⟨g',rfl,a3⟩
theorem pQ {α:Type} {K:Frag} {M:Model} {A:Around} {E:Value->Shared->Prop} {Q:α->Shared->Prop} {s:Shared} {o:Obj} {o2:Addr->Obj} {r:Addr->Addr->α} (X:K.In s.heap)
  (q:Q (r s.heap.objs.size (s.heap.objs.size+1)) {s with heap:=(s.heap.push o).push (o2 s.heap.objs.size)}) (X2:K.In (s.heap.push o)) (X3:K.In ((s.heap.push o).push (o2 s.heap.objs.size))) :
  ∀ (t:Sem α) (g:Addr->Option (Obj×(Addr->Option α))),fG K ⟨M.prog,M.w.params⟩ t=some (o,g)->(∀ D,∃ g',g D=some (o2 D,g')/\∀ D2,g' D2=some (r D D2))->wpAny M A t Q E s:=by
 intro t
 induction t with
 | rule _ k ih=>intro g e h;exact ih () g e h
 | point _ k ih=>intro g e h;exact ih () g e h
 | ask k ih=>intro g e h;exact nd_ask (ih _ g e h)
 | load a _ k ih=>
  intro g e h;have e:((K.lookup a).bind fun o=>fG K ⟨M.prog,M.w.params⟩ (k o))=some (o,g):=e
  cases ho:K.lookup a with
  | none=>rewrite [ho] at e;cases e
  | some o'=>rewrite [ho] at e;exact Ll (X _ _ ho) (ih _ g e h)
 | alloc o' k ih=>
  intro g e h;have' e:some (o',fun D=>peek1 K ⟨M.prog,M.w.params⟩ (k D))=some (o,g):=e
  cases e
  refine nd_alloc ?_;obtain ⟨g',e2,h2⟩:=h s.heap.objs.size;refine il (M:=M) (s:={s with heap:=s.heap.push _}) (r:=r s.heap.objs.size) X2 ?_ X3 _ g' e2 h2
  show Q (r s.heap.objs.size (s.heap.push _).objs.size) _
  rw [ER]
  exact q
 | _=>intro g e;cases e
section
variable {C:Cx}
theorem bP.var2 {fd:Hm} {as:List AV} (names:List Str) (v w:Str) (n:Nat) (ds:List PyData) (hds:as.drop n=ds.map .dat)
  (hp:∀ vs:List Value,vs.length=as.length->∀ S,∃ g,fG C.K S (Jt fd ⟨vs,[]⟩)=some (({cls:=.type "tuple",data:=.seq (vs.drop n).toArray}:Obj),g)/\∀ D,∃ g',g D=some (({cls:=.type "dict",data:=.dict #[]}:Obj),g')/\∀ D2,g' D2=some (names.zip vs++[(v,.ref D),(w,.ref D2)])) :
  bP C fd as [] (names.zip as++[(v,.dat (.tuple ds)),(w,.dat (.dict []))]):=by
 intro A μ s vs kvs Q E X hlt r rk hQ
 cases kvs with
 | cons _ _=>exact rk.elim
 | nil=>
  obtain ⟨g,h1,h2⟩:=hp vs (bN r) ⟨C.prog,C.w.params⟩;have k1:aL A0 NoW s {s with heap:=s.heap.push {cls:=.type "tuple",data:=.seq (vs.drop n).toArray}}:=bB _ _;have k:aL A0 NoW s {s with heap:=(s.heap.push {cls:=.type "tuple",data:=.seq (vs.drop n).toArray}).push {cls:=.type "dict",data:=.dict #[]}}:=
   ab (tk:=s.toks) (by simp only [ER];exact Fi (Eg _)) fun zz zz e=>EJ _ (EJ _ e)
  refine pQ (M:=model C.prog C.w) (o2:=fun zz=>{cls:=.type "dict",data:=.dict #[]}) (r:=fun D D2=>names.zip vs++[(v,.ref D),(w,.ref D2)]) X (hQ _ _ k ?_) (fun a o e=>k1.up _ _ (X a o e)) (fun a o e=>k.up _ _ (X a o e)) _ g h1 h2
  have r':aw μ ((s.heap.push {cls:=.type "tuple",data:=.seq (vs.drop n).toArray}).push {cls:=.type "dict",data:=.dict #[]}) as vs:=r.mono (Ext.refl _ _) k noW;have hd:aw μ ((s.heap.push {cls:=.type "tuple",data:=.seq (vs.drop n).toArray}).push {cls:=.type "dict",data:=.dict #[]}) (as.drop n) (vs.drop n):=by
   generalize (s.heap.push {cls:=.type "tuple",data:=.seq (vs.drop n).toArray}).push {cls:=.type "dict",data:=.dict #[]}=hh at r'
   clear hQ h1 h2 g k k1 r hp hds;revert as vs
   induction n with
   | zero=>intro as vs r';exact r'
   | succ n ih=>
    intro as vs r'
    cases as with
    | nil=>cases vs with
     | nil=>exact trivial
     | cons=>exact r'.elim
    | cons=>cases vs with
     | nil=>exact r'.elim
     | cons=>exact ih _ r'.2
  rw [hds] at hd
  obtain ⟨bs,ra⟩:=fL hd;refine kS (lN r') ⟨⟨rfl,_,.tuple (F9 _ (EJ _ (EP _ rfl)) fun q=>absurd (hlt _ q) (E2 _)) rfl rfl (by simpa using ra)⟩,⟨rfl,?_⟩,trivial⟩
  have' hget:((s.heap.push {cls:=.type "tuple",data:=.seq (vs.drop n).toArray}).push {cls:=.type "dict",data:=.dict #[]}).get? (s.heap.objs.size+1)=some {cls:=.type "dict",data:=.dict #[]}:=by
   have:=EP (s.heap.push {cls:=.type "tuple",data:=.seq (vs.drop n).toArray}) (o:={cls:=.type "dict",data:=.dict #[]}) rfl
   rwa [ER] at this
  exact ⟨_,.dict (kvs:=[]) (F9 _ hget fun q=>absurd (hlt _ q) (E0.mpr (Eg _))) rfl rfl .nil .nil⟩
variable {lv:Lv} {N:aE} {ρ ρ₁ ρ₂:aO} {σ σ₁ σ₂:aC} {e ob:Expr} {c:Addr} {apos pos:Pos}
theorem nk {prog:Fn} {w:World} {A:Around} {E:Value->Shared->Prop} {s:Shared} {K:Frag} {v:Value} {name:Str} {T:String} {pl:Sem Bool} {Q:Value×List Value->Shared->Prop} (X:K.In s.heap) (ht:typeOf (.type T)=pure (.type "type")) (hs:Manifest.isStub T=false)
  (e:findCls K (.type T) (.type "type") name=some (.val v)) (hh:handedIn v=true) (h:Q (v,[]) {s with toks:=s.toks+1}):wpAny (model prog w) A (IS (.type T) name pl) Q E s:=by
 have hstub:H1 (.type T)=pure none:=by unfold H1;dsimp only;rw [hs];rfl
 have L0:Looks (model prog w) s.heap (typeOf (.type T)) (.type "type"):=Fa ht
 have hg:findIn K (.type "type") "__getattribute__" = some (some (.builtin "type.__getattribute__")):=type_tga
 unfold IS Gh
 refine EA (EA (L0.here ((Hx X hg).here ?_)))
 dsimp only
 rw [if_pos canon_tga]
 refine EA (Ep (Q:=fun v=>Q (v,[])) (E:=E) ?_ (fun zz zz z=>EF z) fun zz zz z=>z)
 have' LO:Looks (model prog w) s.heap (H1 (.type T)) none:=Fa hstub
 refine cls_open X LO L0 hg (looks_hook X (r:=none) (by kernel_rfl)) (by kernel_rfl) e
  (EF (by show wpAny _ _ (L7 v) _ _ _;rw [KG hh];exact EF h))
theorem pO {K:Frag}:findCls K (.type "object") (.type "type") "__new__" = some (.val (.builtin "object.__new__")):=by kernel_rfl
theorem ph:typeOf (.type "object")=pure (.type "type"):=by show pure (F7 ((Manifest.find? "object").elim "type" fun x=>x.metatype))=_;kernel_rfl
theorem qH:Manifest.isStub "object" = false:=by kernel_rfl
theorem rq (ho:aH C lv N ob ρ σ (.con (.type "object")) ρ₁ σ₁) (hc:aH C lv N e ρ₁ σ₁ (.con (.ref c)) ρ₂ σ₂) (pk:∀ S,peek C.K S (Hy "object.__new__" ⟨[.ref c],[]⟩)=some ())
  (pk2:∀ S,∃ g,fG C.K S (En.«object.__new__» ⟨[.ref c],[]⟩)=some (emptyDict,g)/\∀ D,∃ g',g D=some (Go c D,g')/\∀ D2,g' D2=some (.done (.ret (.ref D2))))
  (hn:autoParam (bx e=true) aR)
  (hw:∀ env,∃ pl,eval (.Call (.Attribute ob "__new__" apos) [e] [] pos) env=(do
   let ov <- eval ob env
   HQ apos.atName
   let (f,first) <- Hu [ov] (IS ov "__new__" pl)
   HL pos f first (backTo pos (Fv [e] env)) (HB pos (GE [] env)))):aH C lv N (.Call (.Attribute ob "__new__" apos) [e] [] pos) ρ σ (.ref σ₂.length) ρ₂ (σ₂++[.inst c []]):=by
 intro A env μ s Q E ok G F hQ
 obtain ⟨pl,hw⟩:=hw env
 refine Ku (ho A env μ s _ _ ok G F fun v μ1 s1 P1 hv=>?_) hw
 obtain rfl:v=.type "object" := hv
 refine nk (K:=C.K) (T := "object") (name := "__new__") (v:=.builtin "object.__new__") (P1.good.inK ok) ph qH pO (by kernel_rfl) ?_
 have P1':=P1.trans (aS.grow P1.good P1.fr (ae (s1.toks+1)))
 dsimp only
 refine Fu (be (es:=[e]) (by rw [GG,hn];rfl)) ?_
 rw [a7 hn]
 refine FO (FS (hc A env μ1 _ _ _ ok P1'.good P1'.fr fun v μ2 s2 P2 hv=>?_))
 obtain rfl:v=.ref c:=hv
 refine Fo ?_
 have X2:=P2.good.inK ok
 refine Ff (codeAny_call_builtin_code (Code.quiet_builtin _ PySem.F.objNew.quiet) ?_)
 refine (Io (M:=model C.prog C.w) X2 (pk _)).here ?_
 refine Fd PySem.F.objNew.entry ?_
 obtain ⟨g,h1,h2⟩:=pk2 ⟨C.prog,C.w.params⟩
 have k:aL A0 NoW s2 {s2 with heap:=(s2.heap.push emptyDict).push (Go c s2.heap.objs.size)}:=ab (tk:=s2.toks) (by simp only [ER];exact Fi (Eg _)) fun b o e=>EJ _ (EJ _ e)
 have g1:((s2.heap.push emptyDict).push (Go c s2.heap.objs.size)).get? (s2.heap.objs.size+1)=some (Go c s2.heap.objs.size):=by
  have:=EP (s2.heap.push emptyDict) (o:=Go c s2.heap.objs.size) rfl
  rwa [ER] at this
 have g2:((s2.heap.push emptyDict).push (Go c s2.heap.objs.size)).get? s2.heap.objs.size=some emptyDict:=EJ _ (EP _ rfl)
 have' hfp:∀ b∈[s2.heap.objs.size+1,s2.heap.objs.size],s2.heap.objs.size<=b/\b<((s2.heap.push emptyDict).push (Go c s2.heap.objs.size)).objs.size:=by
  intro b hb
  rcases ES.mp hb with rfl | hb
  ·exact ⟨Eg _,Ea g1⟩
  ·rw [EG.mp hb];exact ⟨EH _,Ea g2⟩
 have' P3:=aS.alloc (s':={s2 with heap:=(s2.heap.push emptyDict).push (Go c s2.heap.objs.size)}) (a:=s2.heap.objs.size+1) (o:=.inst c []) P2.good P2.fr k hfp (.head _)
  ⟨_,[],0,rfl,Ie _,g1,g2,trivial⟩
 refine pQ (M:=model C.prog C.w) (o2:=fun D=>Go c D) (r:=fun D D2=>.done (.ret (.ref D2))) X2 ?_ (fun b o e=>EJ _ (X2 _ _ e)) (fun b o e=>k.up _ _ (X2 b o e)) _ g h1 h2
 refine hQ _ _ _ ((P1'.trans P2).trans P3) ⟨(s2.heap.objs.size+1,[s2.heap.objs.size+1,s2.heap.objs.size]),?_,rfl⟩
 show (μ2.objs++[_])[σ₂.length]? = _
 rw [<- P2.good.sim.len];exact EV
structure sT (K:Frag) (c p fN fI:Addr):Prop where
 cls:(K.lookup c).any (fun o=>match o.data with | .cls cd=>!cd.mro.isEmpty && cd.mro.contains (.ref c) | _=>false)=true
 call:JM K (.ref c) "__call__" = some (some (.builtin "type.__call__"))
 typ:instIn K (.ref c) (.type "type")=some true
 made:∀ S,peek K S (Bind.madeBy (.ref c))=some none
 mro:∀ S,peek K S (mroOf (.ref c) >>= fun l=>pure l.isEmpty)=some false
 reads:readsIn K c (.type "type")=true
 new:findCls K (.ref c) (.type "type") "__new__" = some (.get (.builtin "staticmethod.__get__") (.ref p) .none (.ref c))
 stat:(recIn K p "staticmethod").bind (·.head?)=some (.ref fN)
 self:subIn K (.ref c) (.ref c)=some true
 init:findIn K (.ref c) "__init__" = some (some (.ref fI))
 fn:typeIn K (.ref fI)=some (.type "function")
end
section
variable {C:Cx} {m:Nat} {fz:List Nat} {σ σ₁ σ₂:aC} {c p fN fI:Addr} {i:Nat} {xs:List (Str×AV)} {as:List AV} {ks:List (Str×AV)}
set_option tactic.hygienic true in
theorem rM (O:sT C.K c p fN fI) (hN:aP C m fz (.ref fN) (.con (.ref c) :: as) [] σ (.ref i) σ₁) (hx:σ₁[i]? = some (.inst c xs)) (hci:cB C.K c)
  (hI:aP C m fz (.ref fI) (.ref i :: as) [] σ₁ (.dat .none) σ₂):aP C (m+1) fz (.ref c) as [] σ (.ref i) σ₂:=by
 intro A μ s vs kvs R ok G rv rk hR
 cases kvs with
 | cons _ _=>exact rk.elim
 | nil=>
 have X:=G.inK ok
 obtain ⟨oc,hoc,hcd⟩:=Lo O.cls
 refine Gs ?_
 show wpAny _ _ (Ki (.ref c) _) _ _ _
 obtain ⟨ocls,od,odata,osl⟩:=oc
 cases odata<;>try cases hcd
 rename_i cd
 refine Ll (X _ _ hoc) ?_
 show wpAny _ _ (Ki.viaDunder (.ref c) _) _ _ _
 unfold Ki.viaDunder
 refine EA ((looks_specialIn X O.call).here ?_)
 dsimp only
 rw [tc_bind]
 refine EA (EF (EA (EF ?_)))
 refine EF (a:=Fin.again (.call (.builtin "type.__call__") ⟨.ref c :: vs,[]⟩)) (And.intro rfl ?_)
 refine codeAny_call_builtin_at (Code.quiet_builtin _ (by decide +kernel)) entry_typeCall (check_slot tc_kind tc_split (looks_instIn X O.typ) (tc_args _ _ _) ?_)
 obtain ⟨u1,u2,u3,u4⟩:=gb A ⟨.ref c :: vs,[]⟩
 generalize A.under (.builtin "type.__call__" ⟨.ref c :: vs,[]⟩)=A2 at *
 have hroom:=G.room
 have hunits:=G.units
 dsimp only at hroom hunits
 have G2:aT C ⟨true,m,fz⟩ A2 μ σ s:=G.around (fun _=>u1.trans (G.quiet rfl)) rfl (by dsimp only;omega) (by dsimp only;omega) ⟨by rw [u2];exact G.frs.all⟩
 unfold En.«type.__call__»
 have hci':clsIn C.K c=some cd:=by unfold clsIn;rw [hoc]
 have e4:cd.mro.isEmpty=false:=by
  dsimp only at hcd;simp only [E7,Fz] at hcd;exact hcd.1
 have' Lm:Looks (model C.prog C.w) s.heap (mroOf (.ref c)) cd.mro:=(Ld X hci').andThen .now
 have' Lb:Looks (model C.prog C.w) s.heap (Bind.madeBy (.ref c)) none:=Io X (O.made _)
 refine EA (Lm.here ?_)
 simp only [e4,F0,if_false]
 refine EA (Lb.here ?_)
 obtain ⟨ws,hw,hws⟩:∃ ws,recIn C.K p "staticmethod" = some ws/\ws.head? = some (.ref fN):=Gn.mp O.stat
 obtain ⟨w0,ws⟩:∃ r,ws=.ref fN :: r:=by
  cases ws with | nil=>cases hws | cons a r=>cases hws;exact ⟨r,rfl⟩
 subst ws
 refine EA (cls_bind (s:=s) X O.reads O.new (Ff (sm_get (s:={s with toks:=s.toks+1}) X hw (handed_on rfl ?_))))
 have k1:aL A0 NoW s {s with toks:=s.toks+1}:=ae _
 have G3:=G2.grow k1
 have' rv':aw μ ({s with toks:=s.toks+1}:Shared).heap as vs:=rv
 refine EA (EY (Ff (hN A2 μ _ (.ref c :: vs) [] _ ok G3 ⟨rfl,rv⟩ rk fun v μ1 s1 G4 x4 k4 r4=>?_)))
 obtain ⟨q,dx,es,n,rfl,hq,e,ne,hd,hr,I⟩:=G4.sim.inst hx r4
 have X1:=G4.inK ok
 have fw:=G3.fw (n:=s.heap.objs.size) fun b hb=>.inl (G3.sim.foot b (WC.foot hb))
 show wpAny _ _ (IH (.ref q.1) (.ref c) >>= _) _ _ _
 unfold IH
 refine EA (EA (I.type.here ((looks_subIn X1 O.self).here ?_)))
 refine EA (EY (special_fn X1 I O.init O.fn (Ff (hI A2 μ1 s1 (.ref q.1 :: vs) [] _ ok G4 ⟨⟨_,hq,rfl⟩,aw.mono x4 k4 fw rv'⟩ (dD.mono x4 k4 fw rk) fun v μ2 s2 G5 x5 k5 r5=>?_))))
 obtain ⟨as',r5⟩:=r5
 cases r5
 refine EF ?_
 have x0:Ext μ μ1 s.heap.objs.size:=x4
 refine hR _ μ2 s2 (G5.around (fun _=>G.quiet rfl) rfl (by show A.depth+_+_<_;dsimp only;omega) (by show A.units+_+_<_;dsimp only;omega) ⟨by rw [<- u2];exact G5.frs.all⟩) (x0.trans x5 k4.le) ?_ ⟨_,x5.get hq,rfl⟩
 have k4':aL A (WC μ) s s1:=(k1.lift (A:=A) (W:=WC μ)).trans (k4.frames fun b hb=>.inl (by unfold FA at *;rw [<- u2];exact hb)) fun b hb=>.inl hb
 have k5':aL A (WC μ1) s1 s2:=k5.frames fun b hb=>.inl (by unfold FA at *;rw [<- u2];exact hb)
 exact k4'.trans k5' fun b hb=>WC.ext x0 (G4.frz.trans G.frz.symm) hb
end
end
section
open PySem PySem.W PyProof.Rows PySem.Builtin
open PySem.Calls
noncomputable abbrev ba:Obj:={cls:=.type "collections.deque",data:=.fields #[.none,rawInt 0]}
theorem rH:mroOf (.type "collections.deque")=pure [.type "collections.deque",.type "object"]:=by rw [mroOf_type];kernel_rfl
theorem Ao:II (.type "collections.deque") "__new__" = pure (some (.builtin "collections.deque.__new__")):=by rw [Ga,builtinLookup_eq_fast];kernel_rfl
theorem lD:IP (.type "collections.deque") (.type "collections.deque")=pure true:=by rw [Gl];kernel_rfl
theorem wR:II (.type "collections.deque") "__init__" = pure (some (.builtin "collections.deque.__init__")):=by rw [Ga,builtinLookup_eq_fast];kernel_rfl
theorem sR:Slot "collections.deque" "__init__" "collections.deque.__init__" :=
 .of (T := "collections.deque") (name := "__init__") (owner := "collections.deque") (n := "__init__") wR (by decide +kernel) (by decide +kernel) (by decide +kernel)
  (.inl (by decide +kernel)) lD
theorem AH:((Manifest.find? "collections.deque").bind (·.mro.findSome? fun t=>(Manifest.find? t).bind fun b=>if b.noNew then some true else if b.attrs.any (·.1 == "__new__") then some false else none)).getD false=false:=by
 rw [IC];kernel_rfl
theorem sg:Bind.madeBy (.type "collections.deque")=pure (some "collections.deque.__new__"):=madeBy_type rH Ao (by decide +kernel)
theorem qN:checkTypeCall "collections.deque" ⟨[],[]⟩=pure ():=by kernel_rfl
theorem rW:Hy "collections.deque.__new__" ⟨[.type "collections.deque"],[]⟩=pure ():=by kernel_rfl
theorem vT:Iw table "collections.deque.__new__" = some En.«collections.deque.__new__» := Gz (by kernel_rfl)
theorem ug:Iw table "collections.deque.__init__" = some En.«collections.deque.__init__» := Gz (by kernel_rfl)
theorem mS:plainId "collections.deque.__new__" = true:=by decide +kernel
theorem ww:Jg "collections.deque.__init__" = some .slot:=by unfold Jg;rw [IC];kernel_rfl
theorem ub:splitId "collections.deque.__init__" = some ("collections.deque", "__init__"):=by decide +kernel
theorem wZ (a:Value):argsOk "collections.deque.__init__" ⟨[a],[]⟩:=by unfold argsOk;kernel_rfl
theorem AJ {S:JL}:(peek1 [] S (En.«collections.deque.__new__» ⟨[.type "collections.deque"],[]⟩)).map (·.1)=some ba:=by kernel_rfl
theorem yd {S:JL} {D:Addr}:((peek1 [] S (En.«collections.deque.__new__» ⟨[.type "collections.deque"],[]⟩)).bind fun p=>p.2 D)=some (.done (.ret (.ref D))):=by kernel_rfl
theorem fT {α:Type} {M:Model} {A:Around} {t t':Sem α} {Q:α->Shared->Prop} {E:Value->Shared->Prop} {s:Shared} (e:t=t') (h:wpAny M A t' Q E s):wpAny M A t Q E s:=e▸h
theorem tm (x:Addr):En.«collections.deque.__init__» ⟨[.ref x],[]⟩=(setField (.ref x) 0 .none >>= fun zz=>Deque.clear (.ref x) >>= fun zz=>ret .none):=by kernel_rfl
section
variable {prog:Fn} {w:World} {A:Around} {E:Value->Shared->Prop} {s:Shared}
theorem wz {M:Model} {x:Addr} {Q:Unit->Shared->Prop} (hi:Looks M s.heap (IH (.ref x) (.type "collections.deque")) true) (q:Q () s):wpAny M A (Hy "collections.deque.__init__" ⟨[.ref x],[]⟩) Q E s:=
 @check_slot M A E s "collections.deque.__init__" "collections.deque" "__init__" (.ref x) [] [] Q ww ub hi (wZ _) q
theorem pR {Q₁:Value->Shared->Prop} (h:Q₁ (.ref s.heap.objs.size) {s with heap:=s.heap.push ba}) :
  GP (model prog w) A (.call (.builtin "collections.deque.__new__") ⟨[.type "collections.deque"],[]⟩) (wants Q₁ E) s:=by
 refine Gs ?_
 show wpAny _ A.in1 (do Hy "collections.deque.__new__" ⟨[.type "collections.deque"],[]⟩;again (.builtin "collections.deque.__new__" ⟨[.type "collections.deque"],[]⟩)) _ _ s
 refine EA (GC rW (EF ⟨Hf mS _,Fd vT ?_⟩))
 rw [Around.under_plainId mS _]
 have' h1:=AJ (S:=⟨prog,w.params⟩)
 obtain ⟨⟨o,g⟩,e1,e2⟩:=FL.mp h1
 dsimp only at e2
 subst e2
 refine il (K:=[]) (M:=model prog w) (r:=fun D=>.done (.ret (.ref D))) (fun zz zz e=>nomatch e) ?_ (fun zz zz e=>nomatch e) _ g e1 fun D=>?_
 ·exact h
 ·have h2:=yd (S:=⟨prog,w.params⟩) (D:=D)
  rw [e1] at h2
  exact h2
theorem sC {Q:Value->Shared->Prop} (h:∀ h',h'.get? s.heap.objs.size=some ba->GY s.heap.objs.size (s.heap.push ba) h'->Q (.ref s.heap.objs.size) {s with heap:=h'}) :
  wpAny (model prog w) A (call (.type "collections.deque") []) Q E s:=by
 have hmro:=rH
 have hmade:=sg
 have hsub:=lD
 refine Ff (Gs ?_)
 show wpAny _ _ (Ki (.type "collections.deque") _) _ _ _
 refine EF ⟨Code.quiet_builtin _ (by decide +kernel),Fd F.entry_type_call ?_⟩
 rw [Around.under_plain (weight_type_call_type "collections.deque" [] []) rfl]
 unfold En.«type.__call__»
 dsimp only
 rw [if_neg (by decide +kernel),AH]
 simp only [F0,if_false]
 refine EA (GC qN (EA (GC rH ?_)))
 simp only [List.isEmpty_cons,F0,if_false]
 refine EA (GC sg (EA (EF (EA (EY (Ff ?_))))))
 refine codeAny_mono (pR (E:=E) (Q₁:=fun obj s₁=>obj=.ref s.heap.objs.size/\s₁={s with heap:=s.heap.push ba}) ⟨rfl,rfl⟩) fun r s₁ hr=>?_
 rcases r with e | (obj | _ | _ | _)<;>first | exact hr | exact hr.elim | skip
 obtain ⟨rfl,rfl⟩:=hr
 have hS:(s.heap.push ba).get? s.heap.objs.size=some ba:=EP _ rfl
 have lt:Looks (model prog w) (s.heap.push ba) (typeOf (.ref s.heap.objs.size)) (.type "collections.deque"):=(IZ hS).andThen .now
 have hi:Looks (model prog w) (s.heap.push ba) (IH (.ref s.heap.objs.size) (.type "collections.deque")) true:=lt.andThen (Fa lD)
 have' hs:Looks (model prog w) (s.heap.push ba) (Gh (.ref s.heap.objs.size) "__init__") (some (.builtin "collections.deque.__init__")):=lt.andThen (Fa wR)
 show wpAny _ _ (IH (.ref s.heap.objs.size) (.type "collections.deque") >>= _) _ _ _
 refine EA (hi.here ?_)
 refine EA (EY (EA (hs.here (EY (EA (GC (sR.bind _) ?_))))))
 refine EA (Ff (GT sR.plain ug (wz hi ?_)))
 refine fT (tm _) ?_
 refine EA (JY (s:={s with heap:=s.heap.push ba}) hS (by decide) fun h' g1 sb=>EA ?_)
 unfold Deque.clear Deque.items
 refine EA (EA (EA (KJ g1 (EF (EF ?_)))))
 exact EF (EF (EF (EF (h h' g1 sb))))
end
section
variable {C:Cx} {lv:Lv} {N:aE} {ρ:aO} {σ:aC} {np pos:Pos}
theorem vK {x:Str} (hf:aH C lv N (.Name x np) ρ σ (.con (.type "collections.deque")) ρ σ):aH C lv N (.Call (.Name x np) [] [] pos) ρ σ (.ref σ.length) ρ (σ++[.raw ba]):=by
 intro A env μ s Q E ok G F hQ
 refine GI (hf A env μ s _ _ ok G F fun v μ1 s1 P1 hv=>?_)
 obtain rfl:=hv
 refine PySem.callWith_type rfl (PySem.evalArgs_none ?_)
 refine sC fun h' g1 sb=>?_
 have hl:h'.objs.size=s1.heap.objs.size+1:=by rw [sb.1,ER]
 have k1:aL A0 NoW s1 {s1 with heap:=h'}:=ab (tk:=s1.toks) (by show _<=h'.objs.size;omega) fun b o e=>(sb.2 b (FE (Ea e))).trans (EJ _ e)
 have P:=aS.alloc (a:=s1.heap.objs.size) (fp:=[s1.heap.objs.size]) (o:=.raw ba) P1.good P1.fr k1 (fun b hb=>by rw [EG.mp hb];exact ⟨EH _,by show _<h'.objs.size;omega⟩) (.head _) ⟨rfl,g1⟩
 exact hQ _ _ _ (P1.trans P) ⟨_,by show (μ1.objs++[_])[σ.length]? = _;rw [<- P1.good.sim.len];exact EV,rfl⟩
end
end
section
open PySem PySem.W PyProof.Rows PySem.Builtin
open PySem.Calls
theorem uM:II (.type "collections.deque") "__bool__" = pure none:=by rw [Ga,builtinLookup_eq_fast];kernel_rfl
theorem xU:II (.type "collections.deque") "__len__" = pure (some (.builtin "collections.deque.__len__")):=by rw [Ga,builtinLookup_eq_fast];kernel_rfl
theorem oq:Slot "collections.deque" "__len__" "collections.deque.__len__" :=
 .of (T := "collections.deque") (name := "__len__") (owner := "collections.deque") (n := "__len__") xU (by decide +kernel) (by decide +kernel) (by decide +kernel) (.inl (by rw [IC];kernel_rfl)) lD
theorem tZ:Iw table "collections.deque.__len__" = some En.«collections.deque.__len__» := Gz (by kernel_rfl)
theorem x9:Jg "collections.deque.__len__" = some .slot:=by unfold Jg;rw [IC];kernel_rfl
theorem uK:splitId "collections.deque.__len__" = some ("collections.deque", "__len__"):=by decide +kernel
theorem wG (a:Value):argsOk "collections.deque.__len__" ⟨[a],[]⟩:=by unfold argsOk;kernel_rfl
theorem xz (x:Addr):En.«collections.deque.__len__» ⟨[.ref x],[]⟩=(Deque.size (.ref x) >>= fun n=>retInt n):=by kernel_rfl
section
variable {prog:Fn} {w:World} {A:Around} {E:Value->Shared->Prop} {s:Shared}
theorem qd {a:Addr} {Q:Bool->Shared->Prop} (ho:s.heap.get? a=some ba) (h:∀ k,Q false {s with toks:=s.toks+k}):wpAny (model prog w) A (truthy (.ref a)) Q E s:=by
 have lt:Looks (model prog w) s.heap (typeOf (.ref a)) (.type "collections.deque"):=(IZ ho).andThen .now
 have' lb:Looks (model prog w) s.heap (Gh (.ref a) "__bool__") none:=lt.andThen (Fa uM)
 have ll:Looks (model prog w) s.heap (Gh (.ref a) "__len__") (some (.builtin "collections.deque.__len__")):=lt.andThen (Fa xU)
 have' hi:Looks (model prog w) s.heap (IH (.ref a) (.type "collections.deque")) true:=lt.andThen (Fa lD)
 have' key:wpAny (model prog w) A (runValue (.builtin "len" ⟨[.ref a],[]⟩)) (fun r s'=>r=.int 0 (s.toks+1)/\Q false s') E s:=by
  refine wpAny_runValue (Fd entry_len ?_)
  rw [Around.under_plainId plain_len _]
  unfold En.«len» LU;refine EA (m:=oneArg "len" _) (EF (EA (EA (ll.here (EY (EA (GC (oq.bind _) ?_)))))));refine EA (Ff (GT oq.plain tZ (@check_slot (model prog w) _ _ s "collections.deque.__len__" "collections.deque" "__len__" (.ref a) [] [] _ x9 uK hi (wG _) ?_)));refine fT (xz _) ?_;unfold Deque.size
  refine EA (EA (EA (KJ ho (EF (EF ?_)))));refine EA (wpAny_mkInt (EF (EF (EA (EY (EF (EA (wpAny_letGo ?_))))))));exact EA (wpAny_mkInt (EF ⟨rfl,h 2⟩))
 unfold truthy
 show wpAny _ _ (LU (.ref a) "__bool__" >>= _) _ _ _
 unfold LU
 refine EA (EA (lb.here (EF (EA (ll.here ?_)))))
 exact EA (Ep key (fun r s' h'=>by obtain ⟨rfl,hq⟩:=h';exact EF hq) fun zz zz e=>e)
end
section
variable {C:Cx} {lv:Lv} {N:aE} {ρ ρ₁:aO} {σ σ₁:aC} {i:Nat}
theorem gp {e:Expr} (h:aH C lv N e ρ σ (.ref i) ρ₁ σ₁) (hx:σ₁[i]? = some (.raw ba)) (he:autoParam (∀ env,isTrue e env (eval e env)=(do let v <- eval e env;HQ e.pos;Hu [v] (truthy v))) aI) :
  aY C lv N e ρ σ false ρ₁ σ₁:=fun A env μ s Q E ok G F hQ=>
 LL (h A env μ s _ _ ok G F fun v μ1 s1 P1 ⟨p,hp,hv⟩=>by
  subst hv;exact qd (P1.good.sim.rep i p _ hp hx).2 fun k=>hQ μ1 _ (P1.trans (aS.grow P1.good P1.fr (ae _)))) (he env)
theorem we {x:Str}:fO C lv σ (.builtin "isinstance") [.dat (.str x),.con (.type "str")] (.bool true):=
 mh (Tx := "str") (by show pure (F7 ((Manifest.find? "str").elim "type" fun x=>x.metatype))=_;rw [IC];kernel_rfl) (by rw [Gl];kernel_rfl) fun h v as s e r=>by
  cases r using RS with
  | str t=>exact LD _ _ _
theorem bP.kw {fd:Hm} {as:List AV} {k:Str} {b:AV} (bs:List Value->Value->List (Str×Value)) (abs:List (Str×AV)) (hp:∀ vs w,vs.length=as.length->∀ S,peek C.K S (Jt fd ⟨vs,[(k,w)]⟩)=some (bs vs w))
  (hr:∀ μ h vs w,aw μ h as vs->af μ h b w->dD μ h abs (bs vs w)):bP C fd as [(k,b)] abs:=
 .of_peek fun μ h vs kvs r rk=>by
  obtain ⟨w,rfl,rw⟩:=rk.e1;exact ⟨_,hp vs w (bN r),hr μ h vs w r rw⟩
end
end
inductive LS where
 | S | A | Q | D | E
deriving DecidableEq
noncomputable def LS.str:LS->PyData
 | .S=>.str " " | .A=>.str "a" | .Q=>.str "'" | .D=>.str "\"" | .E=>.none
noncomputable def m4 (c:Nat):Bool:=c==97 || c==98 || c==99 || c==100 || c==101
noncomputable def zB (c:Nat):Bool:=m4 c || c==32 || c==34 || c==39 || c==59
noncomputable def gf (st:LS) (c:Nat) (tok:Str) (q:Bool):Option (LS×Str×Bool):=match st with
 | .S=>if m4 c then some (.A,cZ c,q) else if c=39 then some (.Q,tok,q) else none
 | .A=>if c=39 then some (.Q,tok,q) else if c=34 then some (.D,tok,q) else if m4 c then some (.A,tok++cZ c,q) else none
 | .Q=>if zB c then (if c=39 then some (.A,tok,true) else some (.Q,tok++cZ c,true)) else none
 | .D=>if zB c then (if c=34 then some (.A,tok,true) else some (.D,tok++cZ c,true)) else none
 | .E=>none
noncomputable def eE:List Nat->LS->Str->Bool->Option (Nat×LS×Str×Bool)
 | [],.A,tok,q=>some (0,.E,tok,q)
 | [],.E,_,q=>some (0,.E, "",q)
 | [],_,_,_=>none
 | c :: cs,st,tok,q=>if st=.A/\c=32 then (if tok.length != 0 || q then some (1,.S,tok,q) else none)
   else match gf st c tok q with
    | some (st',tok',q')=>(eE cs st' tok' q').map fun r=>(r.1+1,r.2)
    | none=>none
section
variable {C:Cx} {lv:Lv} {N:aE} {test:Expr} {body orelse:List Stmt} {x:Str} {ρs:Bool->aO} {σs:Nat->LS->Str->aC}
theorem kJ (c:Nat):(cZ c).length=1:=rfl
theorem qF (a b:Str):(a++b).length=a.length+b.length:=Array.size_append
theorem pu {st st':LS} {c:Nat} {tok tok':Str} {q q':Bool} (h:gf st c tok q=some (st',tok',q')):(tok'=cZ c\/tok'=tok\/tok'=tok++cZ c)/\st'≠.E:=by
 unfold gf at h
 repeat' split at h
 all_goals cases h
 all_goals exact ⟨by first | exact .inl rfl | exact .inr (.inl rfl) | exact .inr (.inr rfl),fun q=>nomatch q⟩
theorem uF {st st':LS} {c p:Nat} {tok tok':Str} {q q':Bool} (h:gf st c tok q=some (st',tok',q')) (hl:tok.length<=p):tok'.length<=p+1:=by
 rcases (pu h).1 with rfl | rfl | rfl
 ·rw [kJ];exact Iz 1 p
 ·exact Fi hl
 ·rw [qF,kJ];exact GH hl
set_option tactic.hygienic true in
theorem ko (ht:∀ q p st tok,aY C lv N test (ρs q) (σs p st tok) true (ρs q) (σs p st tok))
  (tS:∀ p c st tok q st' tok' q',x.cps[p]? = some c->tok.length<=p->¬ (st=.A/\c=32)->gf st c tok q=some (st',tok',q')->∃ ρ₂ o,ay C lv N body (ρs q) (σs p st tok) o ρ₂ (σs (p+1) st' tok')/\(o=.nxt\/o=.cnt)/\Sub ρ₂ (ρs q'))
  (tB:∀ p tok q,x.cps[p]? = some 32->tok.length<=p->(tok.length != 0 || q)=true->∃ ρ₂,ay C lv N body (ρs q) (σs p .A tok) .brk ρ₂ (σs (p+1) .S tok)/\Sub ρ₂ (ρs q))
  (tE:∀ p tok q,x.length<=p->∃ ρ₂,ay C lv N body (ρs q) (σs p .A tok) .brk ρ₂ (σs p .E tok)/\Sub ρ₂ (ρs q))
  (tN:∀ p tok q,x.length<=p->∃ ρ₂,ay C lv N body (ρs q) (σs p .E tok) .brk ρ₂ (σs p .E "")/\Sub ρ₂ (ρs q)) :
  ∀ (cs:List Nat) (p:Nat) (st:LS) (tok:Str) (q:Bool) (r:Nat×LS×Str×Bool),x.cps.toList.drop p=cs->tok.length<=p->eE cs st tok q=some r->∃ ρ₂,eZ C lv N test body orelse cs.length (ρs q) (σs p st tok) .nxt ρ₂ (σs (p+r.1) r.2.1 r.2.2.1)/\Sub ρ₂ (ρs r.2.2.2):=by
 intro cs
 induction cs with
 | nil=>
  intro p st tok q r hd hl hs;have hp:x.length<=p:=by
   have:=K9.mp hd
   rw [FM] at this;exact this
  cases st<;>simp only [eE] at hs<;>cases hs
  ·obtain ⟨ρ₂,h,s⟩:=tE p tok q hp
   exact ⟨ρ₂,.brk (ht _ _ _ _) h,s⟩
  ·obtain ⟨ρ₂,h,s⟩:=tN p tok q hp
   exact ⟨ρ₂,.brk (ht _ _ _ _) h,s⟩
 | cons c cs ko=>
  intro p st tok q r hd hl hs;have hc:x.cps[p]? = some c:=by
   have:=congrArg (fun l=>l[0]?) hd
   simpa using this
  have hd':x.cps.toList.drop (p+1)=cs:=by rw [<- List.tail_drop,hd];rfl
  unfold eE at hs
  split at hs
  ·rename_i h
   obtain ⟨rfl,rfl⟩:=h
   split at hs
   ·rename_i h2
    cases hs
    obtain ⟨ρ₂,h,s⟩:=tB p tok q hc hl h2;exact ⟨ρ₂,.brk (ht _ _ _ _) h,s⟩
   ·cases hs
  ·rename_i h
   cases e:gf st c tok q with
   | none=>rw [e] at hs;cases hs
   | some r'=>
    obtain ⟨st',tok',q'⟩:=r'
    rw [e] at hs
    obtain ⟨r1,h1,rfl⟩:=FL.mp hs;obtain ⟨ρ₂,o,hb,ho,hsub⟩:=tS p c st tok q st' tok' q' hc hl h e;obtain ⟨ρ₃,hw,s3⟩:=ko (p+1) st' tok' q' r1 hd' (uF e hl) h1;refine ⟨ρ₃,.turn (ht _ _ _ _) hb ho hsub ?_,s3⟩
    rw [show p+(r1.1+1)=p+1+r1.1 by omega]
    exact hw
end
noncomputable def toks:Nat->List Nat->LS->Option (List Str)
 | 0,_,_=>none
 | k+1,cs,st=>match eE cs st "" false with
  | none=>none
  | some (n,st',t,q)=>if !q && t.length==0 then some [] else (toks k (cs.drop n) st').map (t :: ·)
noncomputable def dR:Nat->List Nat->LS->Nat×LS
 | 0,_,st=>(0,st)
 | j+1,cs,st=>match eE cs st "" false with
  | none=>(0,st)
  | some (n,st',_,_)=>(n+(dR j (cs.drop n) st').1,(dR j (cs.drop n) st').2)
set_option tactic.hygienic true in
theorem nR:∀ (k:Nat) (cs:List Nat) (st:LS) (ws:List Str),toks k cs st=some ws->∀ j,(∀ w,ws[j]? = some w->∃ n st' q,eE (cs.drop (dR j cs st).1) (dR j cs st).2 "" false=some (n,st',w,q)/\(!q && w.length==0)=false/\dR (j+1) cs st=((dR j cs st).1+n,st')) /\
  (j=ws.length->∃ n st' w q,eE (cs.drop (dR j cs st).1) (dR j cs st).2 "" false=some (n,st',w,q)/\(!q && w.length==0)=true):=by
 intro k
 induction k with
 | zero=>intro _ _ _ h;cases h
 | succ k nR=>
  intro cs st ws h j;unfold toks at h
  cases e:eE cs st "" false with
  | none=>rw [e] at h;cases h
  | some r=>
   obtain ⟨n,st',t,q⟩:=r
   rw [e] at h
   dsimp only at h
   split at h
   ·rename_i hq
    cases h
    refine ⟨fun w hw=>(by cases hw),fun hj=>?_⟩
    obtain rfl:j=0:=hj;exact ⟨n,st',t,q,by simpa [dR] using e,hq⟩
   ·rename_i hq
    obtain ⟨ws',h',rfl⟩:=FL.mp h
    cases j with
    | zero=>
     refine ⟨fun w hw=>?_,fun hj=>(by cases hj)⟩
     cases hw
     exact ⟨n,st',q,by simpa [dR] using e,by simpa using hq,by simp [dR,e]⟩
    | succ j=>
     have ih:=nR (cs.drop n) st' ws' h' j;have' e1:dR (j+1) cs st=(n+(dR j (cs.drop n) st').1,(dR j (cs.drop n) st').2):=by simp only [dR,e]
     have e2:dR (j+1+1) cs st=(n+(dR (j+1) (cs.drop n) st').1,(dR (j+1) (cs.drop n) st').2):=by rw [dR];simp only [e]
     rw [e1,e2]
     dsimp only
     rw [<- List.drop_drop]
     refine ⟨fun w hw=>?_,fun hj=>ih.2 (by simpa using hj)⟩
     obtain ⟨n2,st2,q2,a,b,c⟩:=ih.1 w (by simpa using hw)
     exact ⟨n2,st2,q2,a,b,by rw [c,Ez]⟩
section
open Lean in
local macro_rules
  | `(tactic| wtm_at $s:str)=>wt tab s.getString
noncomputable abbrev nD (n:Nat):PyData:=.int (n:Int)
noncomputable def bf (r:List Nat):PyData:=.list (r.map nD)
noncomputable def cy (b:Nat->Nat->Bool):PyData:=.list ((EN 4).map fun i=>.list ((EN 4).map fun j=>.bool (b i j)))
noncomputable def wd (i:Nat):PyData:=([.str "a",.str "b c",.str "",.str "d;e"]:List PyData).getD i .none
theorem B0 {i:Nat} (h4:i<4):([.str "a",.str "b c",.str "",.str "d;e"]:List PyData)[((i:Int)).toNat]? = some (wd i):=by
 have:i=0\/i=1\/i=2\/i=3:=by omega
 rcases this with rfl | rfl | rfl | rfl<;>rfl
theorem dP {α:Type} {xs:List α} {g:α->PyData}:(xs.map g).map AV.dat=xs.map fun x=>AV.dat (g x):=by rw [EQ];rfl
theorem Aa {a b:Nat}:((a:Int)==(b:Int))=(a==b):=by rw [FU,beq_iff_eq,beq_iff_eq];omega
theorem fc {row:List Nat} {p:Nat} (h:p<row.length):(row.map nD)[((p:Int)).toNat]? = some (.int (row.getD p 0:Nat)):=by
 simp [h,nD,GK]
theorem ib {b:Nat->Nat->Bool} {i:Nat} (h:i<4):((EN 4).map fun i=>GU ((EN 4).map fun j=>.bool (b i j)))[((i:Int)).toNat]? = some (.list ((EN 4).map fun j=>.bool (b i j))):=by
 simp [h]
theorem jM {b:Nat->Bool} {i:Nat} (h:i<4):((EN 4).map fun j=>Jh (b j))[((i:Int)).toNat]? = some (.bool (b i)):=by
 simp [h]
section
variable {C:Cx} (H:bH C) {fz:List Nat} {σ:aC}
include H
theorem kI {is:List Nat} (hi:∀ i∈is,i<4) (hz:is.length<=1000):aP C 2 fz (.ref 913) [.dat (bf is)] [] σ (.dat (.list (is.map wd))) σ:=by
 unfold bf
 wtm_at "Dp"
 case hr=>exact .ret
 case h=>
  dsimp only;refine' a8 (aX ?e)
  case e=>
   wtm_at "Dc"
   case hz=>rw [EC,EO];omega
   case hc=>
    rw [dP]
    refine' cM rfl ?ha ?he ?hs
    case ha=>intro i hx;wtm_at "Ma"
    case he=>
     intro i hx;have h0:(0:Int)<=(i:Int):=E4 i;have h4:(i:Int)<2 ^ 63:=by have:=hi i hx;omega
     have hd:=B0 (hi i hx);wtm_at "Me"
    case hs=>intro i hx;wtm_at "Msub"
noncomputable def ek (row:List Nat) (p:Nat):List Nat:=row.take p++[row.getD (p+1) 0,row.getD p 0]++row.drop (p+2)
theorem tW {row:List Nat} {p:Nat} (hp:p+1<row.length) (hz:row.length<=1000):aP C 2 fz (.ref 957) [.dat (bf row),.dat (.int p)] [] σ (.dat (bf (ek row p))) σ:=by
 unfold bf
 wtm_at "Dp"
 case hr=>exact .ret
 case h=>
  dsimp only;refine' a8 (aX ?e)
  case e=>
   have hl:(row.map nD).length<=FG:=by rw [EC,EO];omega
   have h0:(0:Int)<=(p:Int):=E4 p;have h1:(p:Int)<2 ^ 63:=by omega
   have h2:(0:Int)<=(p:Int)+1:=by omega
   have h3:(p:Int)+1<2 ^ 63:=by omega
   have e1:=fc (row:=row) (p:=p) (by omega)
   have e2:(row.map nD)[((p:Int)+1).toNat]? = some (.int (row.getD (p+1) 0:Nat)):=fc (row:=row) (p:=p+1) hp;have' e:AV.dat (.list ((ek row p).map nD))=AV.dat (.list ((df (row.map nD) none (some p)++[.int (row.getD (p+1) 0:Nat),.int (row.getD p 0:Nat)])++df (row.map nD) (some (p+2)) none)):=by
    simp [ek,df,nD]
   rw [e]
   refine' ct ?a1 ?a2 ?a3
   case a1=>
    refine' ct ?b1 ?b2 ?b3
    case b1=>wtm_at "Me"
    case b2=>
     refine' fZ ?k1 ?k2 ?k3
     case k1=>wtm_at "Ml"
     case k2=>wtm_at "Mdats"
     case k3=>wtm_at "Mside"
    case b3=>exact OpG.of2 (k8 (by simp [df,EO];omega))
   case a2=>wtm_at "Me"
   case a3=>exact OpG.of2 (k8 (by simp [df,EO];omega))
end
noncomputable def dp (b:Nat->Nat->Bool):List (Nat×Nat):=(EN 4).flatMap fun i=>(((EN (4 - i)).map fun j=>i+j).filter fun j=>b i j).map fun j=>(i,j)
theorem mU {β:Type} (b:Nat->Nat->Bool) (f:Nat->Nat->β):((EN 4).flatMap fun i=>(((EN (4 - i)).map fun j=>i+j).filter fun j=>b i j).map (f i)).length<=16:=by
 have h:∀ i,((((EN (4 - i)).map fun j=>i+j).filter fun j=>b i j).map (f i)).length<=4:=fun i=>by
  rw [EC]
  refine EE (FI _ _) ?_
  rw [EC,FR];omega
 rw [show EN 4=[0,1,2,3] from rfl]
 simp only [List.flatMap_cons,List.flatMap_nil,EU,KR]
 have h0:=h 0;have h1:=h 1;have h2:=h 2;have h3:=h 3
 omega
noncomputable def au (row:List Nat) (b:Nat->Nat->Bool):List (List Nat):=(dp b).map fun p=>row.filter fun x=>p.1==x || p.2==x
noncomputable def gJ (r:List (List Nat)):PyData:=.list (r.map bf)
theorem dF {n:Nat}:jF 0 n=(EN n).map fun (i:Nat)=>AV.dat (.int (i:Int)):=by
 unfold jF;exact FN fun i zz=>by rw [Int.zero_add]
theorem xY {c n:Nat}:jF (c:Int) n=((EN n).map fun i=>c+i).map fun (i:Nat)=>AV.dat (.int (i:Int)):=by
 unfold jF;rw [EQ];exact FN fun i zz=>by simp
section
variable {C:Cx} {lv:Lv} {N:aE} {ρ ρ₁:aO} {σ:aC}
theorem sQ {α β:Type} {elt:Expr} {g g':Es} {xs:List α} {v:α->AV} {r:α->aO} {ys:α->List β} {w:β->AV} {ds:α->List PyData} (hn:g.ifs=[]) (ha:∀ x∈xs,c8 C lv N g.target (v x) ρ σ (r x) σ)
  (hi:∀ x∈xs,gK C lv N g'.target g'.iter [] (r x) σ ((ys x).map w) (r x) σ) (hf:∀ env x,Fp g'.iter env x=pure x) (hc:∀ x∈xs,Cl C lv N elt σ [g'] ((ys x).map w) (r x) (ds x)) (hs:∀ x∈xs,Sub (r x) ρ) :
  Cl C lv N elt σ [g,g'] (xs.map v) ρ (xs.flatMap ds):=by
 induction xs with
 | nil=>exact .nil
 | cons x xs ih=>
  rw [E6,List.flatMap_cons]
  exact .deep (ha x (.head _)) (by rw [hn];exact m3) (hi x (.head _)) hf (hc x (.head _)) (hs x (.head _)) (ih (fun y hy=>ha y (.tail _ hy)) (fun y hy=>hi y (.tail _ hy)) (fun y hy=>hc y (.tail _ hy)) fun y hy=>hs y (.tail _ hy))
end
section
variable {C:Cx} (H:bH C) {fz:List Nat} {σ:aC}
include H
theorem rU {row:List Nat} {b:Nat->Nat->Bool} (hz:row.length<=1000):aP C 2 fz (.ref 940) [.dat (bf row),.dat (cy b)] [] σ (.dat (gJ (au row b))) σ:=by
 unfold bf cy
 wtm_at "Dp"
 case hr=>exact .ret
 case h=>
  dsimp only;refine' aA ?s1 ?s2
  case s1=>
   wtm_at "Da"
   case hc=>
    rw [dF]
    refine' sQ (ys:=fun (i:Nat)=>(EN (4 - i)).map fun j=>i+j) (w:=fun (j:Nat)=>AV.dat (.int (j:Int))) (ds:=fun (i:Nat)=>(((EN (4 - i)).map fun j=>i+j).filter fun j=>b i j).map fun (j:Nat)=>LV [.int (i:Int),.int (j:Int)]) rfl ?ha ?hi ?hf ?hc ?hs
    case ha=>intro i hx;wtm_at "Ma"
    case hf=>intro _ _;rfl
    case hs=>intro i hx;wtm_at "Msub"
    case hi=>
     intro i hx;have hi4:i<4:=by simpa using hx
     have' e:((EN (4 - i)).map (fun j=>i+j)).map (fun (j:Nat)=>AV.dat (.int (j:Int)))=jF (i:Int) ((4:Int) - (i:Int)).toNat:=by
      rw [show ((4:Int) - (i:Int)).toNat=4 - i by omega,xY]
     rw [e]
     have h1:(i:Int)<2 ^ 62:=by omega
     have h2:-(2 ^ 62)<=(i:Int):=by omega
     wtm_at "Mi"
    case hc=>
     intro i hx;have' hi4:i<4:=by simpa using hx
     refine' cV ?ha ?ht ?he ?hs
     case ha=>intro j hj;wtm_at "Ma"
     case hs=>intro j hj;wtm_at "Msub"
     case ht=>
      intro j hj;have hj4:j<4:=by simp at hj;omega
      have e1:=ib (b:=b) hi4;have e2:=jM (b:=b i) hj4;have h0:(0:Int)<=(i:Int):=E4 i;have h1:(i:Int)<2 ^ 63:=by omega
      have h2:(0:Int)<=(j:Int):=E4 j;have h3:(j:Int)<2 ^ 63:=by omega
      refine' ci ?x
      case x=>wtm_at "Mt"
     case he=>intro j hj hp;wtm_at "Me"
   case hz=>
    exact EE (mU _ _) (by rw [EO];decide)
  case s2=>
   refine' a8 (aX ?e)
   case e=>
    have e:gJ (au row b)=.list ((dp b).map fun p=>bf (row.filter fun x=>p.1==x || p.2==x)):=by
     unfold gJ au;rw [EQ];rfl
    rw [e]
    have' e2:((EN 4).flatMap fun (i:Nat)=>(((EN (4 - i)).map fun j=>i+j).filter fun j=>b i j).map fun (j:Nat)=>LV [.int (i:Int),.int (j:Int)])=(dp b).map fun p=>LV [.int (p.1:Int),.int (p.2:Int)]:=by
     unfold dp
     rw [List.map_flatMap]
     exact congrArg (fun f=>(EN 4).flatMap f) (funext fun i=>by rw [EQ];rfl)
    rw [show Hs 4=4 from rfl,e2]
    wtm_at "Dc"
    case hz=>rw [EC,EO];exact EE (mU b fun i j=>(i,j)) (by decide:16<=16777216)
    case hc=>
     rw [dP]
     refine' cM rfl ?ha ?he ?hs
     case ha=>intro p hp;wtm_at "Ma"
     case hs=>intro p hp;wtm_at "Msub"
     case he=>
      intro p hp;unfold bf;wtm_at "Dc"
      case hz=>rw [EC,EO];exact EE (FI _ _) (by omega)
      case hc=>
       rw [dP]
       refine' cV ?ha ?ht ?he ?hs
       case ha=>intro x hx;wtm_at "Ma"
       case hs=>intro x hx;wtm_at "Msub"
       case ht=>
        intro x hx;refine' ci ?x
        case x=>
         have' e:(p.1==x || p.2==x)=([Fw (p.1:Int),.int (p.2:Int)].any fun y=>FC y (nD x)):=by
          simp only [nD,IB,List.any_nil,FC,Aa,Kv]
         rw [e]
         wtm_at "Mt"
       case he=>intro x hx hp;wtm_at "Me"
end
theorem qr {α:Type} {l:List α} {f:α->PyData} {k:Nat}:df (l.map f) (some k) none=(l.drop k).map f:=by simp [df,Jp]
theorem uY {α:Type} {l:List α} {f:α->PyData} {a b:Nat}:df (l.map f) (some a) (some b)=((l.take b).drop a).map f:=by simp [df,Jp,Ip]
theorem lR {α:Type} {xs:List α} {p:α->Bool}:(!((xs.filter p).map fun zz=>Fw 1).isEmpty)=xs.any p:=by
 induction xs with
 | nil=>rfl
 | cons x xs ih=>cases h:p x<;>simp [h]<;>simpa using ih
noncomputable def qB (b:Nat->Nat->Bool) (rs:List (List Nat)) (p a:Nat):Bool:=
 !(((rs.getD p []).drop (a+1)).any fun o=>b ((rs.getD p []).getD a 0) o) && (p==0 || (rs.getD (p - 1) []).any fun o=>b ((rs.getD p []).getD a 0) o)
noncomputable def hM (b:Nat->Nat->Bool) (rs:List (List Nat)):Bool:=(EN rs.length).all fun p=>(EN (rs.getD p []).length).all fun a=>qB b rs p a
theorem m0 {rs:List (List Nat)} {p:Nat} (h:p<rs.length):(rs.map fun r=>GU (r.map nD))[((p:Int)).toNat]? = some (.list ((rs.getD p []).map nD)):=by
 simp [h,GK]
theorem gx {r:List Nat} {a:Nat} (h:∀ x∈r,x<4):r.getD a 0<4:=by
 rw [GK]
 cases e:r[a]? with
 | none=>simp
 | some x=>simp;exact h x (EK e)
theorem ox {rs:List (List Nat)} {p:Nat} (h:∀ r∈rs,∀ x∈r,x<4):∀ x∈rs.getD p [],x<4:=by
 rw [GK]
 cases e:rs[p]? with
 | none=>simp
 | some r=>exact h r (EK e)
theorem pi {rs:List (List Nat)} {p:Nat} (h:∀ r∈rs,r.length<=1000):(rs.getD p []).length<=1000:=by
 rw [GK]
 cases e:rs[p]? with
 | none=>simp
 | some r=>exact h r (EK e)
section
variable {C:Cx} (H:bH C) {fz:List Nat} {σ:aC}
include H
theorem tP {rs:List (List Nat)} {b:Nat->Nat->Bool} (hr4:∀ r∈rs,∀ x∈r,x<4) (hl:rs.length<=1000) (hrl:∀ r∈rs,r.length<=1000) :
  aP C 2 fz (.ref 945) [.dat (.list (rs.map bf)),.dat (cy b)] [] σ (.dat (.bool (hM b rs))) σ:=by
 unfold bf cy
 have hrd:(rs.map fun r=>GU (r.map nD)).length=rs.length:=by rw [EC]
 wtm_at "Dp"
 case hr=>exact .ret
 case h=>
  dsimp only;refine' jt (okk:=(EN rs.length).all (fun p=>(EN (rs.getD p []).length).all fun a=>qB b rs p a)) (rv:=.dat (.bool false)) ?s ?r ?o
  case o=>intro e;unfold hM;rw [e]
  case s=>
   refine' bq (ls:=[]) ?hi ?hf (by intro _ _;rfl)
   case hi=>
    have h1:(((rs.map fun r=>GU (r.map nD)).length:Nat):Int)<2 ^ 62:=by rw [hrd];omega
    have h2:-(2 ^ 62)<=(((rs.map fun r=>GU (r.map nD)).length:Nat):Int):=by omega
    have h3:(((rs.map fun r=>GU (r.map nD)).length:Nat):Int)<2 ^ 63:=by omega
    wtm_at "Mi"
   case hf=>
    rw [show ((((rs.map fun r=>GU (r.map nD)).length:Nat):Int)).toNat=rs.length by rw [hrd];omega,dF]
    dsimp only [EW];refine' em ?ha ?hb
    case ha=>intro p hp;wtm_at "Ma"
    case hb=>
     intro p hp;have' hp':p<rs.length:=by simpa using hp
     have' e1:=m0 hp';have h0:(0:Int)<=(p:Int):=E4 p;have h1:(p:Int)<2 ^ 63:=by omega
     have hst4:=ox (p:=p) hr4;have hstl:=pi (p:=p) hrl;have hsd:((rs.getD p []).map nD).length=(rs.getD p []).length:=by rw [EC]
     refine' ay.sub (aA ?s1 (aF ?s2)) ?sb
     case s1=>
      refine' aB ?v ?t (by intro _;rfl) (by intro _;rfl) (by intro _;rfl)
      case v=>wtm_at "Me"
      case t=>wtm_at "Ma"
     case s2=>
      refine' bq (ls:=[]) ?hi ?hf (by intro _ _;rfl)
      case hi=>
       have h1:((((rs.getD p []).map nD).length:Nat):Int)<2 ^ 62:=by rw [hsd];omega
       have h2:-(2 ^ 62)<=((((rs.getD p []).map nD).length:Nat):Int):=by omega
       have h3:((((rs.getD p []).map nD).length:Nat):Int)<2 ^ 63:=by omega
       wtm_at "Mi"
      case hf=>
       rw [show (((((rs.getD p []).map nD).length:Nat):Int)).toNat=(rs.getD p []).length by rw [hsd];omega,dF]
       dsimp only [EW];refine' em ?ha ?hb
       case ha=>intro a ha;wtm_at "Ma"
       case hb=>
        intro a ha;have' ha':a<(rs.getD p []).length:=by simpa using ha
        have' hx4:=gx (a:=a) hst4;have' e2:=fc ha';have e3:=ib (b:=b) hx4;have a0:(0:Int)<=(a:Int):=E4 a;have a1:(a:Int)<2 ^ 63:=by omega
        have x0:(0:Int)<=(((rs.getD p []).getD a 0:Nat):Int):=E4 _;have x1:(((rs.getD p []).getD a 0:Nat):Int)<2 ^ 63:=by omega
        have hsl:((rs.getD p []).map nD).length<=FG:=by rw [hsd,EO];omega
        generalize hc1:((rs.getD p []).drop (a+1)).any (fun o=>b ((rs.getD p []).getD a 0) o)=c1
        have hok:qB b rs p a=(!c1 && (p==0 || (rs.getD (p - 1) []).any fun o=>b ((rs.getD p []).getD a 0) o)):=by unfold qB;rw [hc1]
        rw [hok]
        refine' ay.sub (gE (c:=c1) (rv:=.dat (.bool false)) ?t1 ?e1 ?o1 ?r1) ?sb2
        case sb2=>wtm_at "Msub"
        case e1=>intro _;wtm_at "Me"
        case o1=>intro e;rw [e];rfl
        case t1=>
         rw [<- hc1,<- lR]
         refine' b7 ?cmp (fK ?sz) ?he
         case he=>intro _;rfl
         case sz=>rw [EC];have:=FI (fun o=>b ((rs.getD p []).getD a 0) o) ((rs.getD p []).drop (a+1));rw [Jz] at this;omega
         case cmp=>
          wtm_at "Dc"
          case hz=>rw [EC,EO];have:=FI (fun o=>b ((rs.getD p []).getD a 0) o) ((rs.getD p []).drop (a+1));rw [Jz] at this;omega
          case hc=>
           rw [qr,dP]
           refine' cV ?ha ?ht ?he ?hs
           case ha=>intro o ho;wtm_at "Ma"
           case hs=>intro o ho;wtm_at "Msub"
           case he=>intro o ho hp;wtm_at "Me"
           case ht=>
            intro o ho;have' ho4:=hst4 o (Ho ho);have e4:=jM (b:=b ((rs.getD p []).getD a 0)) ho4;have o0:(0:Int)<=(o:Int):=E4 o;have o1:(o:Int)<2 ^ 63:=by omega
            refine' ci ?x
            case x=>wtm_at "Mt"
        case r1=>
         intro hc10
         rw [hc10]
         generalize hc2:(rs.getD (p - 1) []).any (fun o=>b ((rs.getD p []).getD a 0) o)=c2
         have hdd:Out.nxt=Out.nxt:=rfl;refine' gE (c:=(decide ((0:Int)<(p:Int)) && !c2)) (rv:=.dat (.bool false)) ?t2 ?e2 ?o2 ?r2
         case e2=>intro _;wtm_at "Me"
         case o2=>
          intro e
          simp only [E7,decide_eq_true_eq,Fz] at e
          have:(p==0)=false:=by simp;omega
          rw [this,e.2];rfl
         case r2=>
          intro e;have:(!false && (p==0 || c2))=true:=by
           cases c2 with
           | true=>simp
           | false=>
            simp only [Bool.not_false,Bool.and_true,decide_eq_false_iff_not] at e
            simp;omega
          rw [this]
          exact aG
         case t2=>
          by_cases hp0:p=0
          ·have e0:(decide ((0:Int)<(p:Int)) && !c2)=false:=by simp;omega
           rw [e0]
           refine' dC (aY.of (b:=decide ((0:Int)<(p:Int))) ?y ?z)
           case z=>simp;omega
           case y=>wtm_at "Mt"
          ·have e0:(decide ((0:Int)<(p:Int)) && !c2) = !c2:=by simp;omega
           rw [e0]
           refine' cH (aY.of (b:=decide ((0:Int)<(p:Int))) ?y ?z) (dN ?w)
           case z=>simp;omega
           case y=>wtm_at "Mt"
           case w=>
            rw [<- hc2,<- lR]
            have q1:(rs.map fun r=>GU (r.map nD))[((p:Int) - 1).toNat]? = some (.list ((rs.getD (p - 1) []).map nD)):=by
             rw [show ((p:Int) - 1).toNat=p - 1 by omega]
             have:=m0 (rs:=rs) (p:=p - 1) (by omega)
             simpa using this
            have q2:(0:Int)<=(p:Int) - 1:=by omega
            have q3:(p:Int) - 1<2 ^ 63:=by omega
            have' hp4:=ox (p:=p - 1) hr4;have hpl:=pi (p:=p - 1) hrl;have hfl:=FI (fun o=>b ((rs.getD p []).getD a 0) o) (rs.getD (p - 1) [])
            refine' b7 ?cmp (fK ?sz) ?he
            case he=>intro _;rfl
            case sz=>rw [EC];omega
            case cmp=>
             wtm_at "Dc"
             case hz=>rw [EC,EO];omega
             case hc=>
              rw [dP]
              refine' cV ?ha ?ht ?he ?hs
              case ha=>intro o ho;wtm_at "Ma"
              case hs=>intro o ho;wtm_at "Msub"
              case he=>intro o ho hp;wtm_at "Me"
              case ht=>
               intro o ho;have' ho4:=hp4 o ho;have e4:=jM (b:=b ((rs.getD p []).getD a 0)) ho4;have o0:(0:Int)<=(o:Int):=E4 o;have o1:(o:Int)<2 ^ 63:=by omega
               refine' ci ?x
               case x=>wtm_at "Mt"
     case sb=>wtm_at "Msub"
  case r=>intro e;unfold hM;rw [e];refine' a8 (aX ?e);case e=>wtm_at "Me"
noncomputable def jB (b:Nat->Nat->Bool) (row:List Nat) (e g:Nat):Bool:=!(decide (row.getD e 0<row.getD g 0) && !((row.take e).drop g).any fun x=>b (row.getD e 0) x)
noncomputable def gw (b:Nat->Nat->Bool) (row:List Nat):Bool:=(EN row.length).all fun e=>(EN e).all fun g=>jB b row e g
theorem yS {row:List Nat} {b:Nat->Nat->Bool} (hr4:∀ x∈row,x<4) (hl:row.length<=1000):aP C 2 fz (.ref 950) [.dat (bf row),.dat (cy b)] [] σ (.dat (.bool (gw b row))) σ:=by
 unfold bf cy
 have hrd:(row.map nD).length=row.length:=by rw [EC]
 have hsl:(row.map nD).length<=FG:=by rw [hrd,EO];omega
 wtm_at "Dp"
 case hr=>exact .ret
 case h=>
  dsimp only;refine' jt (okk:=(EN row.length).all (fun e=>(EN e).all fun g=>jB b row e g)) (rv:=.dat (.bool false)) ?s ?r ?o
  case o=>intro e;unfold gw;rw [e]
  case s=>
   refine' bq (ls:=[]) ?hi ?hf (by intro _ _;rfl)
   case hi=>
    have h1:(((row.map nD).length:Nat):Int)<2 ^ 62:=by rw [hrd];omega
    have h2:-(2 ^ 62)<=(((row.map nD).length:Nat):Int):=by omega
    have h3:(((row.map nD).length:Nat):Int)<2 ^ 63:=by omega
    wtm_at "Mi"
   case hf=>
    rw [show ((((row.map nD).length:Nat):Int)).toNat=row.length by rw [hrd];omega,dF]
    dsimp only [EW];refine' em ?ha ?hb
    case ha=>intro e he;wtm_at "Ma"
    case hb=>
     intro e he;have' he':e<row.length:=by simpa using he
     refine' ay.sub (aF ?s2) ?sb
     case s2=>
      refine' bq (ls:=[]) ?hi ?hf (by intro _ _;rfl)
      case hi=>
       have h1:(e:Int)<2 ^ 62:=by omega
       have h2:-(2 ^ 62)<=(e:Int):=by omega
       wtm_at "Mi"
      case hf=>
       rw [show ((e:Int)).toNat=e by omega,dF]
       dsimp only [EW];refine' em ?ha ?hb
       case ha=>intro g hg;wtm_at "Ma"
       case hb=>
        intro g hg;have hg':g<e:=by simpa using hg
        have f1:=fc he';have f2:=fc (row:=row) (p:=g) (by omega)
        have' x4:=gx (a:=e) hr4;have f3:=ib (b:=b) x4;have a0:(0:Int)<=(e:Int):=E4 e;have a1:(e:Int)<2 ^ 63:=by omega
        have b0:(0:Int)<=(g:Int):=E4 g;have b1:(g:Int)<2 ^ 63:=by omega
        have x0:(0:Int)<=((row.getD e 0:Nat):Int):=E4 _;have x1:((row.getD e 0:Nat):Int)<2 ^ 63:=by omega
        generalize hc2:((row.take e).drop g).any (fun x=>b (row.getD e 0) x)=c2
        have hok:jB b row e g = !(decide (row.getD e 0<row.getD g 0) && !c2):=by unfold jB;rw [hc2]
        rw [hok]
        generalize hc1:decide (row.getD e 0<row.getD g 0)=c1;have hd1:decide (((row.getD e 0:Nat):Int)<((row.getD g 0:Nat):Int))=c1:=by rw [<- hc1];exact decide_eq_decide.mpr (by omega)
        refine' ay.sub (gE (c:=c1 && !c2) (rv:=.dat (.bool false)) ?t1 ?e1 ?o1 ?r1) ?sb2
        case sb2=>wtm_at "Msub"
        case e1=>intro _;wtm_at "Me"
        case o1=>intro e;rw [e];rfl
        case r1=>intro e;rw [e];exact aG
        case t1=>
         cases c1 with
         | false=>
          refine' dC (aY.of (b:=decide (((row.getD e 0:Nat):Int)<((row.getD g 0:Nat):Int))) ?y hd1)
          case y=>wtm_at "Mt"
         | true=>
          rw [Kx]
          refine' cH (aY.of (b:=decide (((row.getD e 0:Nat):Int)<((row.getD g 0:Nat):Int))) ?y hd1) (dN ?w)
          case y=>wtm_at "Mt"
          case w=>
           rw [<- hc2,<- lR]
           have hfl:=FI (fun x=>b (row.getD e 0) x) ((row.take e).drop g)
           have hfl2:((row.take e).drop g).length<=1000:=by rw [Jz,Ii];omega
           refine' b7 ?cmp (fK ?sz) ?he
           case he=>intro _;rfl
           case sz=>rw [EC];omega
           case cmp=>
            wtm_at "Dc"
            case hz=>rw [EC,EO];omega
            case hc=>
             rw [uY,dP]
             refine' cV ?ha ?ht ?he ?hs
             case ha=>intro o ho;wtm_at "Ma"
             case hs=>intro o ho;wtm_at "Msub"
             case he=>intro o ho hp;wtm_at "Me"
             case ht=>
              intro o ho;have' ho4:=hr4 o (Ka (Ho ho));have e4:=jM (b:=b (row.getD e 0)) ho4;have o0:(0:Int)<=(o:Int):=E4 o;have o1:(o:Int)<2 ^ 63:=by omega
              refine' ci ?x
              case x=>wtm_at "Mt"
     case sb=>wtm_at "Msub"
  case r=>intro e;unfold gw;rw [e];refine' a8 (aX ?e);case e=>wtm_at "Me"
end
noncomputable def dy (i j:Nat):Nat:=([0,3,5,6].getD (if j<i then j else i) 0)+(if i<j then j - i else i - j) - 1
noncomputable def gO (free:Int) (i j:Nat):Bool:=i==j || ((free.fdiv (2 ^ dy i j)).fmod 2==0)
theorem zE {i j:Nat} (hi:i<4) (hj:j<4):([Fw 0,.int 3,.int 5,.int 6])[(if (j:Int)<(i:Int) then (j:Int) else (i:Int)).toNat]? = some (.int (([0,3,5,6].getD (if j<i then j else i) 0:Nat):Int)):=by
 rcases i with _ | _ | _ | _ | i<;>rcases j with _ | _ | _ | _ | j<;>first | rfl | omega
theorem vN {i j:Nat} (hi:i<4) (hj:j<4) (hn:i≠j):((([0,3,5,6].getD (if j<i then j else i) 0:Nat):Int)+(if (i:Int) - (j:Int)<0 then -((i:Int) - (j:Int)) else (i:Int) - (j:Int)) - 1)=(dy i j:Nat)/\dy i j<=5:=by
 rcases i with _ | _ | _ | _ | i<;>rcases j with _ | _ | _ | _ | j<;>first | exact absurd rfl hn | (decide) | omega
theorem Aj {i j:Nat}:(0:Int)<=(if (j:Int)<(i:Int) then (j:Int) else (i:Int)):=by split<;>omega
theorem zr {i j:Nat} (hi:i<4) (hj:j<4):(if (j:Int)<(i:Int) then (j:Int) else (i:Int))<2 ^ 63:=by split<;>omega
section
variable {C:Cx} (H:bH C) {fz:List Nat} {σ:aC}
include H
theorem yx {free:Int} (hfz:∀ i∈fz,i<σ.length):aP C 2 fz (.ref 920) [.dat (.int free)] [] σ (.dat (cy (gO free))) σ:=by
 have' rowE:∃ row:Nat->AO,row=fun r=>.list (((EN 4).map fun j=>Jh (gO free r j)).map .dat):=⟨_,rfl⟩
 obtain ⟨row,hrow⟩:=rowE
 have' refsE:∃ refs:Nat->List AV,refs=fun i=>(EN i).map fun j=>AV.ref (σ.length+1+j):=⟨_,rfl⟩
 obtain ⟨refs,hrefs⟩:=refsE
 have' hK:σ.length∉fz:=fun h=>absurd (hfz _ h) (E2 _)
 have' hKr:∀ i,σ.length+1+i∉fz:=fun i h=>absurd (hfz _ h) (by omega)
 have hrl:∀ i,(refs i).length=i:=fun i=>by rw [hrefs];simp
 refine aP.pure (t:=.list (refs 4) :: (EN 4).map row) (a:=.ref σ.length) ?_ ?_
 rotate_left
 ·refine .list (EH _) (bo rfl) (by simp [hrl]) fun j x d hx hd=>?_
  have hj:j<4:=by have:=(EI.mp hd).1;simpa using this
  rw [hrefs] at hx
  simp [hj] at hx hd
  subst hx hd;refine Frz.dats (by omega) ?_
  rw [EZ (by omega),show σ.length+1+j - σ.length=j+1 by omega,Ev,hrow]
  simp [hj]
 wtm_at "Dp"
 case hr=>exact .ret
 case h=>
  dsimp only;refine' aA ?s1 (aA (σ₁:=σ++.list (refs 4) :: (EN 4).map row) ?s2 (a8 (aX ?s3)))
  case s1=>
   refine' aB ?v ?t (by intro _;rfl) (by intro _;rfl) (by intro _;rfl)
   case v=>exact cI bQ
   case t=>wtm_at "Ma"
  case s2=>
   refine' bq (ls:=[]) ?hi ?hf (by intro _ _;rfl)
   case hi=>wtm_at "Mi"
   case hf=>
    rw [show Hs 4=4 from rfl,dF]
    dsimp only [EW];have e0:σ++[AO.list []]=σ++.list (refs ([]:List Nat).length) :: (EN ([]:List Nat).length).map row:=by rw [hrefs];rfl
    rw [e0]
    refine' cU (S:=fun pre=>σ++.list (refs pre.length) :: (EN pre.length).map row) ?ha ?hb
    case ha=>intro pre x post hx;wtm_at "Ma"
    case hb=>
     intro pre x post hx;obtain ⟨hxp,hx4⟩:=eJ hx
     rw [EU,Ef,<- hxp]
     have' SE:∃ S:List Nat->aC,∀ q,S q=σ++.list (refs (x+1)) :: ((EN x).map row++[.list ((q.map fun j=>Jh (gO free x j)).map .dat)]):=⟨_,fun zz=>rfl⟩
     obtain ⟨S,hS⟩:=SE;refine' ay.sub (aA (σ₁:=S []) ?b1 (aF (aq.st (σ₁:=S (EN 4)) ?b2 ?b3))) ?sb
     case b1=>
      refine' aq.st (bR (bc ?ho (cI bQ) ?hl ?hg ?hz ?hsz) (by intro _;rfl)) ?he
      case ho=>wtm_at "Me"
      case hl=>exact ⟨_,bo rfl⟩
      case hg=>rw [FH];exact bo rfl
      case hz=>exact hK
      case hsz=>rw [hrl,EO];omega
      case he=>
       rw [hS,FH,El,gX rfl]
       congr 2
       rw [hrefs]
       simp [HF]
       omega
     case b2=>
      refine' bq (ls:=[]) ?hi ?hf (by intro _ _;rfl)
      case hi=>wtm_at "Mi"
      case hf=>
       rw [show Hs 4=4 from rfl,dF]
       dsimp only [EW];refine' cU (S:=S) ?ha ?hb
       case ha=>intro pre y post hy;wtm_at "Ma"
       case hb=>
        intro pre2 y post2 hy;obtain ⟨hyp,hy4⟩:=eJ hy
        rw [hS,hS]
        have e1:=zE hx4 hy4;have h0:=Aj (i:=x) (j:=y);have h1:=zr hx4 hy4;refine' ay.sub (aA ?f1 (aF (aq.st (bR (bc (i:=σ.length+1+x) (xs:=((pre2.map fun j=>Jh (gO free x j)).map .dat)) (a:=.dat (.bool (gO free x y))) ?ho ?hv ?hl ?hg ?hz ?hsz) (by intro _;rfl)) ?he))) ?sbi
        case f1=>
         refine' aB ?v ?t (by intro _;rfl) (by intro _;rfl) (by intro _;rfl)
         case v=>wtm_at "Me"
         case t=>wtm_at "Ma"
        case ho=>
         refine' mD (l:=σ.length) (i:=(x:Int)) ?u1 ?u2 ?u3 ?u4 ?u5 ?u6 (by intro _ _;with_unfolding_all rfl)
         case u1=>wtm_at "Me"
         case u2=>wtm_at "Me"
         case u3=>exact bo rfl
         case u4=>omega
         case u5=>omega
         case u6=>rw [hrefs];simp
        case hv=>
         refine' aH.of (oP (p:=((x:Int)==(y:Int))) (q:=((free.fdiv (2 ^ dy x y)).fmod 2==0)) ?o1 ?o2) ?o3
         case o1=>wtm_at "Me"
         case o3=>rw [Aa];rfl
         case o2=>
          intro hne;have hne':x≠y:=by intro q;rw [q] at hne;simp at hne
          obtain ⟨hf1,hf2⟩:=vN hx4 hy4 hne'
          rw [hf1]
          have hp0:(0:Int)<=(dy x y:Nat):=E4 _;have hp1:(En.Int.intBits 2:Int) * ((dy x y:Nat):Int)<=2 ^ 27:=by
           rw [show En.Int.intBits 2=2 by decide +kernel];omega
          have hp2:(2:Int) ^ (((dy x y:Nat):Int)).toNat≠0:=by
           rw [HM];exact Int.pow_ne_zero (by decide)
          have hp3:En.divisionGoesByPylong free ((2:Int) ^ (((dy x y:Nat):Int)).toNat)=false:=by
           refine PyProof.noPylong_small ?_
           rw [HM]
           generalize dy x y=f at hf2
           rcases f with _ | _ | _ | _ | _ | _ | f<;>first | decide | omega
          wtm_at "Me"
        case hl=>exact ⟨_,p9 (r:=(EN x).map row) (by simp)⟩
        case hg=>exact p9 (r:=(EN x).map row) (by simp)
        case hz=>exact hKr x
        case hsz=>simp [EO];omega
        case he=>
         rw [xe (by simp)]
         simp
        case sbi=>wtm_at "Msub"
     case b3=>
      rw [hS,HF (n:=x),Eh,hrow]
      simp
     case sb=>wtm_at "Msub"
  case s3=>wtm_at "Me"
end
noncomputable def gj (script:List Int) (cs:List Int) (p:Nat):List Int:=cs.set (p % 6) (cs.getD (p % 6) 0+script.getD p 0)
noncomputable def dQ (script:List Int) (ps:List Nat):List Int:=ps.foldl (gj script) [3,0,2,1,0,22]
noncomputable def dG (script:List Int):List Int:=dQ script (EN script.length)
theorem gc (script:List Int) (ps:List Nat):(dQ script ps).length=6:=by
 unfold dQ
 suffices h:∀ cs:List Int,cs.length=6->(ps.foldl (gj script) cs).length=6 from h _ rfl
 induction ps with
 | nil=>exact fun zz h=>h
 | cons p ps ih=>intro cs h;exact ih _ (by rw [gj,Hc];exact h)
theorem nO (script:List Int) (ps:List Nat) (p:Nat):dQ script (ps++[p])=gj script (dQ script ps) p:=by
 unfold dQ;rw [G6];rfl
theorem wb {p:Nat}:(p:Int).fmod 6=((p % 6:Nat):Int):=by
 rw [Int.fmod_eq_emod_of_nonneg _ (by decide)];omega
section
variable {C:Cx} (H:bH C) {fz:List Nat} {σ:aC}
include H
theorem yl {script:List Int} (hz:script.length<=1000) (hfz:∀ i∈fz,i<σ.length):aP C 2 fz (.ref 908) [.dat (.list (script.map .int))] [] σ (.dat (.list ((dG script).map .int))) σ:=by
 have' hK:σ.length∉fz:=fun h=>absurd (hfz _ h) (E2 _)
 have hlen:(script.map Fw).length=script.length:=by rw [EC]
 refine aP.pure (t:=[.list (((dG script).map .int).map .dat)]) (a:=.ref σ.length) ?_ (Frz.dats (EH _) (bo rfl))
 wtm_at "Dp"
 case hr=>exact .ret
 case h=>
  dsimp only;obtain ⟨S,hS⟩:∃ S:List Nat->aC,∀ q,S q=σ++[.list (((dQ script q).map .int).map .dat)]:=⟨_,fun zz=>rfl⟩
  refine' aA (σ₁:=S []) ?s1 (aA (σ₁:=S (EN script.length)) ?s2 (ay.st (σ₁:=S (EN script.length)) (a8 (aX ?s3)) ?s4))
  case s4=>rw [hS];rfl
  case s1=>
   refine' aq.st (aB ?v ?t (by intro _;rfl) (by intro _;rfl) (by intro _;rfl)) ?he
   case v=>
    refine' cI ?w ?w2
    case w=>wtm_at "Ml"
    case w2=>decide
   case t=>wtm_at "Ma"
   case he=>rw [hS];rfl
  case s2=>
   refine' bq (ls:=[]) ?hi ?hf (by intro _ _;rfl)
   case hi=>
    have h1:(((script.map Fw).length:Nat):Int)<2 ^ 62:=by rw [hlen];omega
    have h2:-(2 ^ 62)<=(((script.map Fw).length:Nat):Int):=by omega
    have h3:(((script.map Fw).length:Nat):Int)<2 ^ 63:=by omega
    wtm_at "Mi"
   case hf=>
    rw [show ((((script.map Fw).length:Nat):Int)).toNat=script.length by rw [hlen];omega,dF]
    dsimp only [EW];refine' cU (S:=S) ?ha ?hb
    case ha=>intro pre x post hx;wtm_at "Ma"
    case hb=>
     intro pre x post hx;obtain ⟨hxp,hxl⟩:=eJ hx
     rw [hS,hS]
     have hcl:=gc script pre;have hm0:(0:Int)<=(x:Int).fmod 6:=by rw [wb];omega
     have hm1:(x:Int).fmod 6<2 ^ 63:=by rw [wb];omega
     have hm2:((x:Int).fmod 6).toNat<(((dQ script pre).map Fw).map AV.dat).length:=by rw [wb,EC,EC,hcl];omega
     have hx0:(0:Int)<=(x:Int):=E4 x;have hx1:(x:Int)<2 ^ 63:=by omega
     have e1:(script.map Fw)[((x:Int)).toNat]? = some (.int (script.getD x 0)):=by simp [hxl,GK]
     have' e2:(((dQ script pre).map Fw).map AV.dat)[((x:Int).fmod 6).toNat]? = some (.dat (.int ((dQ script pre).getD (x % 6) 0))):=by
      have hlt:x % 6<(dQ script pre).length:=by rw [hcl];omega
      rw [wb,HM]
      simp [hlt,GK]
     refine' ay.sub (aF (aq.st (aB ?v ?t (by intro _;rfl) (by intro _;rfl) (by intro _;rfl)) ?he)) ?sb
     case v=>
      refine' ct ?v1 ?v2 ?v3
      case v1=>
       refine' mD (l:=σ.length) (i:=(x:Int).fmod 6) ?u1 ?u2 ?u3 hm0 hm1 e2 (by intro _ _;with_unfolding_all rfl)
       case u1=>wtm_at "Me"
       case u2=>wtm_at "Me"
       case u3=>exact bo rfl
      case v2=>wtm_at "Me"
      case v3=>wtm_at "Mop"
     case t=>
      refine' ux (l:=σ.length) (i:=(x:Int).fmod 6) ?u1 ?u2 ?u3 hK hm0 hm1 hm2 (by intro _ _ _;rfl)
      case u1=>wtm_at "Me"
      case u2=>wtm_at "Me"
      case u3=>exact bo rfl
     case he=>
      rw [gX rfl,nO,wb,HM,gj]
      simp [LR]
     case sb=>wtm_at "Msub"
  case s3=>wtm_at "Me"
end
noncomputable def cx (ds:List PyData):List PyData:=ds.foldl (fun acc d=>if acc.any fun y=>FC y d then acc else acc++[d]) []
theorem di (ds:List PyData) (d:PyData):cx (ds++[d])=if (cx ds).any fun y=>FC y d then cx ds else cx ds++[d]:=by
 unfold cx;rw [G6];rfl
theorem fX {α:Type} {P:List α->Prop} (h0:P []) (h1:∀ l x,P l->P (l++[x])) (l:List α):P l:=by
 suffices h:∀ r:List α,P r.reverse by have:=h l.reverse;rwa [List.reverse_reverse] at this
 intro r
 induction r with
 | nil=>exact h0
 | cons x r ih=>rw [List.reverse_cons];exact h1 _ _ ih
theorem m6 (ds:List PyData):∀ d∈cx ds,d∈ds:=by
 refine fX (P:=fun ds=>∀ d∈cx ds,d∈ds) (fun zz h=>h) (fun ds d ih x hx=>?_) ds
 rw [di] at hx
 split at hx
 ·exact ED.mpr (.inl (ih x hx))
 ·rcases ED.mp hx with q | q
  ·exact ED.mpr (.inl (ih x q))
  ·exact ED.mpr (.inr q)
theorem mn (ds:List PyData):(cx ds).length<=ds.length:=by
 refine fX (P:=fun ds=>(cx ds).length<=ds.length) (EH _) (fun ds d ih=>?_) ds
 rw [di,EU]
 split<;>simp<;>omega
theorem iR:∀ {xs:List PyData},(∀ d∈xs,SeqAt.shaped d=true)->Fq xs=true:=by
 intro xs
 induction xs with
 | nil=>exact fun zz=>rfl
 | cons x xs ih=>
  intro h
  rw [Fq,SeqAt.canLay_of_shaped (h x (.head _)),ih fun d hd=>h d (.tail _ hd)];rfl
section
variable {C:Cx} {lv:Lv} {N:aE} {ρ ρ₁ ρ₂:aO} {σ σ₁ σ₂:aC} {o:Out}
theorem pF {t:Expr} {x y:List Stmt} {pos:Pos} {c:Bool} (h:aY C lv N t ρ σ c ρ₁ σ₁) (hx:c=true->ay C lv N x ρ₁ σ₁ o ρ₂ σ₂) (hy:c=false->ay C lv N y ρ₁ σ₁ o ρ₂ σ₂):aq C lv N (.If t x y pos) ρ σ o ρ₂ σ₂:=by
 cases c with
 | true=>exact bL h (hx rfl)
 | false=>exact aN h (hy rfl)
end
section
variable {C:Cx} (H:bH C) {fz:List Nat} {σ:aC}
include H
theorem nW {ds:List PyData} (hs:∀ d∈ds,SeqAt.shaped d=true) (hz:ds.length<=1000) (hfz:∀ i∈fz,i<σ.length):aP C 2 fz (.ref 894) [.dat (.list ds)] [] σ (.dat (.list (cx ds))) σ:=by
 have' hK:σ.length∉fz:=fun h=>absurd (hfz _ h) (E2 _)
 refine aP.pure (t:=[.list ((cx ds).map .dat)]) (a:=.ref σ.length) ?_ (Frz.dats (EH _) (bo rfl))
 wtm_at "Dp"
 case hr=>exact .ret
 case h=>
  dsimp only;obtain ⟨S,hS⟩:∃ S:List PyData->aC,∀ q,S q=σ++[.list ((cx q).map .dat)]:=⟨_,fun zz=>rfl⟩
  refine' aA (σ₁:=S []) ?s1 (aA (σ₁:=S ds) ?s2 (ay.st (σ₁:=S ds) (a8 (aX ?s3)) ?s4))
  case s4=>rw [hS]
  case s1=>
   refine' aq.st (aB ?v ?t (by intro _;rfl) (by intro _;rfl) (by intro _;rfl)) ?he
   case v=>
    refine' cI ?w ?w2
    case w=>wtm_at "Ml"
    case w2=>decide
   case t=>wtm_at "Ma"
   case he=>rw [hS];rfl
  case s2=>
   refine' bq (ls:=[]) ?hi ?hf (by intro _ _;rfl)
   case hi=>wtm_at "Mi"
   case hf=>
    dsimp only [EW];refine' cU (S:=S) ?ha ?hb
    case ha=>intro pre x post hx;wtm_at "Ma"
    case hb=>
     intro pre x post hx;have hxs:SeqAt.shaped x=true:=hs x (by rw [hx];simp)
     have hpre:∀ d∈cx pre,SeqAt.shaped d=true:=fun d hd=>hs d (by rw [hx];exact ED.mpr (.inl (m6 pre d hd)))
     have hlen:(cx pre).length<=1000:=by
      have h1:=mn pre;have h2:=congrArg Hn hx
      simp at h2;omega
     rw [hS,hS]
     refine' ay.sub (aF (pF (c:=!((cx pre).any fun y=>FC y x)) ?t ?x ?y)) ?sb
     case t=>
      refine' ai ?l ?r ?o (by with_unfolding_all rfl)
      case l=>wtm_at "Me"
      case r=>wtm_at "Me"
      case o=>exact OpG.see (fA hxs (iR hpre)) .dat (Frz.dats (Ek _) (bo rfl))
     case x=>
      intro hc;refine' aF (aq.st (bR (bc (i:=σ.length) (xs:=(cx pre).map .dat) (a:=.dat x) ?ho ?hv ⟨_,bo rfl⟩ (bo rfl) hK ?hsz) (by intro _;rfl)) ?he)
      case ho=>wtm_at "Me"
      case hv=>wtm_at "Me"
      case hsz=>rw [EC,EO];omega
      case he=>
       rw [gX rfl,di,if_neg (by simpa using hc)]
       simp
     case y=>
      intro hc;refine' ay.st aG ?he
      case he=>rw [di,if_pos (by simpa using hc)]
     case sb=>wtm_at "Msub"
  case s3=>wtm_at "Me"
end
noncomputable def bM (ws:List Str):List Str:=ws.foldl (fun acc w=>if acc.any (fun y=>y==w) then acc else acc++[w]) []
theorem ev (ws:List Str) (w:Str):bM (ws++[w])=if (bM ws).any (fun y=>y==w) then bM ws else bM ws++[w]:=by
 unfold bM;rw [G6];rfl
theorem kL {a b:Str}:FC (.str a) (.str b)=(a==b):=by simp [FC]
theorem jW (ws:List Str):cx (ws.map .str)=(bM ws).map .str:=by
 refine fX (P:=fun ws=>cx (ws.map .str)=(bM ws).map .str) rfl (fun ws w ih=>?_) ws
 rw [Eh,J0,di,ev,ih,LW]
 have e:((fun y=>FC y (FY w)) ∘ FY)=fun y=>y==w:=by funext y;exact kL
 rw [e]
 split<;>simp
noncomputable def cY:List Str->List Str->Option (List Str)
 | t,[]=>some t
 | t,w :: ws=>if w∈t then cY (t.erase w) ws else none
noncomputable def gv:List Str->List Str->List Str
 | t,[]=>t
 | t,w :: ws=>if w∈t then gv (t.erase w) ws else t
noncomputable def b8 (f g:List Str):Bool:=match cY (bM g) (bM f) with
 | none=>false
 | some t=>t.isEmpty
theorem q7 {t:List Str} {w:Str} (h:w∈t):∃ j:Nat,t[j]? = some w/\(∀ m,m<j->t[m]?≠some w)/\t.eraseIdx j=t.erase w:=by
 induction t with
 | nil=>cases h
 | cons x t ih=>
  by_cases hx:x=w
  ·subst hx
   exact ⟨0,rfl,fun m hm=>absurd hm (He m),by simp⟩
  ·have' h':w∈t:=(ES.mp h).resolve_left fun q=>hx q.symm
   obtain ⟨j,h1,h2,h3⟩:=ih h';refine ⟨j+1,h1,fun m hm=>?_,?_⟩
   ·cases m with
    | zero=>simp only [List.getElem?_cons_zero];intro q;exact hx (GB.inj q)
    | succ m=>exact h2 m (by omega)
   ·rw [IQ,h3,List.erase_cons_tail (by simpa using hx)]
section
variable {C:Cx} {lv:Lv} {N:aE} {ρ ρ₁ ρ₂:aO} {σ σ₁ σ₂:aC} {o:Out} {tg:Expr} {body:List Stmt} {r:Str->aO}
noncomputable def St (σ:aC) (t:List Str):aC:=σ++[.list ((t.map FY).map .dat)]
theorem kp {t:List Str}:(St σ t)[σ.length]? = some (.list ((t.map FY).map .dat)):=bo rfl
set_option tactic.hygienic true in
theorem Ab (ha:∀ t w,c8 C lv N tg (.dat (.str w)) ρ (St σ t) (r w) (St σ t)) (hb:∀ t w,t.length<=1000->w∈t->ay C lv N body (r w) (St σ t) .nxt ρ (St σ (t.erase w))) :
  ∀ (ws t t':List Str),t.length<=1000->cY t ws=some t'->fQ C lv N tg body [] ((ws.map FY).map .dat) ρ (St σ t) .nxt ρ (St σ t'):=by
 intro ws
 induction ws with
 | nil=>
  intro t t' _ h
  cases h;exact .done aG
 | cons w ws ih=>
  intro t t' hz h
  rw [cY] at h
  split at h
  ·rename_i hw
   exact .turn (ha t w) (hb t w hz hw) (.inl rfl) Sub.refl (ih _ t' (EE (Ix ..) hz) h)
  ·cases h
set_option tactic.hygienic true in
theorem zW (ha:∀ t w,c8 C lv N tg (.dat (.str w)) ρ (St σ t) (r w) (St σ t)) (hb:∀ t w,t.length<=1000->w∈t->ay C lv N body (r w) (St σ t) .nxt ρ (St σ (t.erase w))) (hx:∀ t w,w∉t->fY C lv N body (r w) (St σ t) "ValueError" ρ (St σ t)) :
  ∀ (ws t:List Str),t.length<=1000->cY t ws=none->iQ C lv N tg body ((ws.map FY).map .dat) ρ (St σ t) "ValueError" ρ (St σ (gv t ws)):=by
 intro ws
 induction ws with
 | nil=>
  intro t _ h
  cases h
 | cons w ws ih=>
  intro t hz h
  rw [cY] at h
  split at h
  ·rename_i hw
   rw [gv,if_pos hw]
   exact .turn (ha t w) (hb t w hz hw) (.inl rfl) Sub.refl (ih _ (EE (Ix ..) hz) h)
  ·rename_i hw
   rw [gv,if_neg hw]
   exact .exc (ha t w) (hx t w hw)
theorem wi {x:Expr} {pos:Pos} {a:AV} {d:PyData} {c:Bool} (h:aH C lv N x ρ σ a ρ₁ σ₁) (f:Frz σ₁ 0 a d) (ht:Tru C d c):aH C lv N (.UnaryOp .Not x pos) ρ σ (.dat (.bool (!c))) ρ₁ σ₁:=fun A env μ s Q E ok G F hQ=>
 UnaryOp_ (h A env μ s _ _ ok G F fun v μ1 s1 P1 r=>by
  obtain ⟨as,r⟩:=f.see P1.good.sim r;unfold unaryOp;refine EY ?_
  show wpAny _ _ (do let c <- truthy v;pure (Value.bool !c)) _ _ _
  refine EA (ht A [] _ s1 _ _ _ (gh r) fun s2 k=>EF ?_)
  exact hQ _ μ1 s2 (P1.trans (aS.grow P1.good P1.fr k)) ⟨[],.bool _⟩)
end
theorem jh {ws:List Str} (h:∀ w∈ws,Fl w=true):∀ d∈ws.map FY,SeqAt.shaped d=true:=by
 intro d hd
 obtain ⟨w,hw,rfl⟩:=EL.mp hd
 simp [SeqAt.shaped,J2,h w hw,PyData.depth]
theorem rz (ws:List Str):(bM ws).length<=ws.length:=by
 have h1:=mn (ws.map .str)
 rw [jW] at h1
 simpa using h1
section
variable {C:Cx} (H:bH C) {fz:List Nat} {σ:aC}
include H
theorem oi {f g:List Str} (hf:∀ w∈f,Fl w=true) (hg:∀ w∈g,Fl w=true) (hzf:f.length<=1000) (hzg:g.length<=1000) (hfz:∀ i∈fz,i<σ.length) :
  aP C 3 fz (.ref 901) [.dat (.list (f.map .str)),.dat (.list (g.map .str))] [] σ (.dat (.bool (b8 f g))) σ:=by
 have hK:σ.length∉fz:=fun h=>absurd (hfz _ h) (E2 _)
 have c1:=nW H (fz:=fz) (σ:=σ) (ds:=f.map .str) (jh hf) (by simpa using hzf) hfz
 have c2:=nW H (fz:=fz) (σ:=σ) (ds:=g.map .str) (jh hg) (by simpa using hzg) hfz
 rw [jW] at c1 c2
 have hl:=rz g
 cases hto:cY (bM g) (bM f) with
 | none=>
  have hr:b8 f g=false:=by unfold b8;rw [hto]
  rw [hr]
  refine aP.drop (t:=[.list (((gv (bM g) (bM f)).map FY).map .dat)]) ?_;wtm_at "Dp"
  case hr=>exact .ret
  case h=>
   dsimp only;refine' aA ?s1 (aA ?s2 (aA (σ₁:=St σ (bM g)) ?s3 (ay.st (σ₁:=St σ (gv (bM g) (bM f))) (a8 ?s4) rfl)))
   case s1=>
    refine' aB ?v ?t (by intro _;rfl) (by intro _;rfl) (by intro _;rfl)
    case v=>
     refine' e7 ?f (bH.look H rfl) rfl ?l c1 (EH _) (by with_unfolding_all rfl) (by with_unfolding_all rfl)
     case f=>wtm_at "Me"
     case l=>wtm_at "Ml"
    case t=>wtm_at "Ma"
   case s2=>
    refine' aB ?v ?t (by intro _;rfl) (by intro _;rfl) (by intro _;rfl)
    case v=>
     refine' e7 ?f (bH.look H rfl) rfl ?l c2 (EH _) (by with_unfolding_all rfl) (by with_unfolding_all rfl)
     case f=>wtm_at "Me"
     case l=>wtm_at "Ml"
    case t=>wtm_at "Ma"
   case s3=>
    refine' aq.st (aB ?v ?t (by intro _;rfl) (by intro _;rfl) (by intro _;rfl)) ?he
    case v=>
     refine' cj ?f ?l (sO ?z) (by with_unfolding_all rfl)
     case f=>wtm_at "Me"
     case l=>wtm_at "Ml"
     case z=>simp [EO];omega
    case t=>wtm_at "Ma"
    case he=>rfl
   case s4=>
    refine' jm (X := "ValueError") (T := "ValueError") (eR (xV (ls:=[]) ?hi (zW (σ:=σ) ?ha ?hb ?hx _ _ (by omega) hto) (by intro _ _;rfl))) ?ht PySem.F.isExc_ValueError PySem.F.notTuple_ValueError PySem.F.self_ValueError ?hs
    case hi=>wtm_at "Mi"
    case ha=>intro t w;wtm_at "Ma"
    case hb=>
     intro t w hz hw;obtain ⟨j,j1,j2,j3⟩:=q7 hw;refine' ay.sub (aF (aq.st (bR (eY ?ho ?hl (dI kp) PySem.F.plainAttrs_list PySem.F.slot_list_remove PySem.F.type_list_remove (mV kp hK ?hsz j1 j2)) (by intro _;rfl)) ?he)) ?sb
     case ho=>wtm_at "Me"
     case hl=>wtm_at "Ml"
     case hsz=>rw [EO];omega
     case he=>unfold St;rw [gX rfl,j3]
     case sb=>wtm_at "Msub"
    case hx=>
     intro t w hw;refine' fY.sub (eR (qg (uq ?ho ?hl (dI kp) PySem.F.plainAttrs_list PySem.F.slot_list_remove PySem.F.type_list_remove (vP kp hw rfl)) (by intro _;rfl))) ?sb
     case ho=>wtm_at "Me"
     case hl=>wtm_at "Ml"
     case sb=>wtm_at "Msub"
    case ht=>wtm_at "Me"
    case hs=>exact a8 (aX fF)
 | some t'=>
  have hr:b8 f g=t'.isEmpty:=by unfold b8;rw [hto]
  rw [hr]
  refine aP.drop (t:=[.list ((t'.map FY).map .dat)]) ?_;wtm_at "Dp"
  case hr=>exact .ret
  case h=>
   dsimp only;refine' aA ?s1 (aA ?s2 (aA (σ₁:=St σ (bM g)) ?s3 (aA (σ₁:=St σ t') ?s4 (ay.st (σ₁:=St σ t') (a8 (aX (aH.of ?s5 ?s6))) rfl))))
   case s1=>
    refine' aB ?v ?t (by intro _;rfl) (by intro _;rfl) (by intro _;rfl)
    case v=>
     refine' e7 ?f (bH.look H rfl) rfl ?l c1 (EH _) (by with_unfolding_all rfl) (by with_unfolding_all rfl)
     case f=>wtm_at "Me"
     case l=>wtm_at "Ml"
    case t=>wtm_at "Ma"
   case s2=>
    refine' aB ?v ?t (by intro _;rfl) (by intro _;rfl) (by intro _;rfl)
    case v=>
     refine' e7 ?f (bH.look H rfl) rfl ?l c2 (EH _) (by with_unfolding_all rfl) (by with_unfolding_all rfl)
     case f=>wtm_at "Me"
     case l=>wtm_at "Ml"
    case t=>wtm_at "Ma"
   case s3=>
    refine' aq.st (aB ?v ?t (by intro _;rfl) (by intro _;rfl) (by intro _;rfl)) ?he
    case v=>
     refine' cj ?f ?l (sO ?z) (by with_unfolding_all rfl)
     case f=>wtm_at "Me"
     case l=>wtm_at "Ml"
     case z=>simp [EO];omega
    case t=>wtm_at "Ma"
    case he=>rfl
   case s4=>
    refine' qh (aF (bq (ls:=[]) ?hi (Ab (σ:=σ) ?ha ?hb _ _ _ (by omega) hto) (by intro _ _;rfl))) aG
    case hi=>wtm_at "Mi"
    case ha=>intro t w;wtm_at "Ma"
    case hb=>
     intro t w hz hw;obtain ⟨j,j1,j2,j3⟩:=q7 hw;refine' ay.sub (aF (aq.st (bR (eY ?ho ?hl (dI kp) PySem.F.plainAttrs_list PySem.F.slot_list_remove PySem.F.type_list_remove (mV kp hK ?hsz j1 j2)) (by intro _;rfl)) ?he)) ?sb
     case ho=>wtm_at "Me"
     case hl=>wtm_at "Ml"
     case hsz=>rw [EO];omega
     case he=>unfold St;rw [gX rfl,j3]
     case sb=>wtm_at "Msub"
   case s5=>
    refine' wi (c:=!(t'.map FY).isEmpty) ?x (Frz.dats (ds:=t'.map .str) (Ek _) kp) (fK ?z)
    case x=>wtm_at "Me"
    case z=>
     have:∀ (ws t t':List Str),cY t ws=some t'->t'.length<=t.length:=by
      intro ws
      induction ws with
      | nil=>intro t t' h;cases h;exact EH _
      | cons w ws ih=>
       intro t t' h
       rw [cY] at h
       split at h
       ·exact EE (ih _ _ h) (Ix ..)
       ·cases h
     have:=this _ _ _ hto
     rw [EC];omega
   case s6=>cases t'<;>rfl
end
section
open PySem.Calls PySem.Builtin
noncomputable abbrev jq:Obj:={cls:=.type "builtin_function_or_method",data:=.fields #[.builtin "dict.fromkeys",.type "dict"]}
theorem yU {K:Frag}:findCls K (.type "dict") (.type "type") "fromkeys" = some (.get (.builtin "classmethod_descriptor.__get__") (.builtin "dict.fromkeys") .none (.type "dict")):=by kernel_rfl
theorem zL:typeOf (.builtin "dict.fromkeys")=pure (.type "classmethod_descriptor"):=by show builtinType _=_;rw [Ko];kernel_rfl
theorem xW:Iw table "dict.fromkeys" = some En.«dict.fromkeys» := Gz (by kernel_rfl)
theorem mi:Iw table "dict.fromkeys.loop" = some En.«dict.fromkeys.loop» := Gz (by kernel_rfl)
theorem hX:plainId "dict.fromkeys.loop" = true:=by decide +kernel
theorem vX {v:Value}:I5 "dict.fromkeys" ⟨[.type "dict",v],[]⟩=pure ():=by kernel_rfl
theorem Bk {S:JL}:(peek1 [] S (En.«classmethod_descriptor.__get__» ⟨[.builtin "dict.fromkeys",.none,.type "dict"],[]⟩)).map (·.1)=some jq:=by kernel_rfl
theorem Ai {S:JL} {D:Addr}:((peek1 [] S (En.«classmethod_descriptor.__get__» ⟨[.builtin "dict.fromkeys",.none,.type "dict"],[]⟩)).bind fun p=>p.2 D)=some (.done (.ret (.ref D))):=by kernel_rfl
theorem Bh {S:JL}:(peek1 [] S (En.«dict.__new__» ⟨[.type "dict"],[]⟩)).map (·.1)=some emptyDict:=by kernel_rfl
theorem At {S:JL} {D:Addr}:((peek1 [] S (En.«dict.__new__» ⟨[.type "dict"],[]⟩)).bind fun p=>p.2 D)=some (.done (.ret (.ref D))):=by kernel_rfl
theorem yG:Hy "dict.__new__" ⟨[.type "dict"],[]⟩=pure ():=by kernel_rfl
theorem oo:checkTypeCall "dict" ⟨[],[]⟩=pure ():=by kernel_rfl
theorem zQ (a:Value):argsOk "dict.__init__" ⟨[a],[]⟩:=by unfold argsOk;kernel_rfl
theorem sX {α:Type} {M:Model} {A:Around} {E:Value->Shared->Prop} {Q:α->Shared->Prop} {s:Shared} {o:Obj} {r:Addr->α} {t:Sem α} (h1:∀ S,(peek1 [] S t).map (·.1)=some o) (h2:∀ S D,((peek1 [] S t).bind fun p=>p.2 D)=some (r D)) (q:Q (r s.heap.objs.size) {s with heap:=s.heap.push o}):wpAny M A t Q E s:=by
 obtain ⟨⟨o',g⟩,e1,e2⟩:=FL.mp (h1 ⟨M.prog,M.w.params⟩)
 dsimp only at e2
 subst e2
 refine il (K:=[]) (M:=M) (r:=r) (fun zz zz e=>nomatch e) q (fun zz zz e=>nomatch e) _ g e1 fun D=>?_
 have h3:=h2 ⟨M.prog,M.w.params⟩ D
 rw [e1] at h3
 exact h3
section
variable {prog:Fn} {w:World} {A:Around} {E:Value->Shared->Prop} {s:Shared} {K:Frag}
theorem yf {pl:Sem Bool} {Q:Value×List Value->Shared->Prop} (X:K.In s.heap) (h:Q (.ref s.heap.objs.size,[]) {s with heap:=s.heap.push jq,toks:=s.toks+1}):wpAny (model prog w) A (IS (.type "dict") "fromkeys" pl) Q E s:=by
 have hstub:H1 (.type "dict")=pure none:=by unfold H1;dsimp only;rw [show Manifest.isStub "dict" = false by decide +kernel];rfl
 have' ht:typeOf (.type "dict")=pure (.type "type"):=by first | rfl | kernel_rfl
 have L0:Looks (model prog w) s.heap (typeOf (.type "dict")) (.type "type"):=Fa ht
 have hg:findIn K (.type "type") "__getattribute__" = some (some (.builtin "type.__getattribute__")):=type_tga
 unfold IS Gh
 refine EA (EA (L0.here ((Hx X hg).here ?_)))
 dsimp only
 rw [if_pos canon_tga]
 refine EA (Ep (Q:=fun v=>Q (v,[])) (E:=E) ?_ (fun zz zz z=>EF z) fun zz zz z=>z)
 have' LO:Looks (model prog w) s.heap (H1 (.type "dict")) none:=Fa hstub
 refine cls_open X LO L0 hg (looks_hook X (r:=none) (by rfl)) (by kernel_rfl) yU ?_
 show wpAny _ _ (Hu [.builtin "dict.fromkeys"] (call (.builtin "classmethod_descriptor.__get__") [.builtin "dict.fromkeys",.none,.type "dict"]) >>= fun v=>ret v) _ _ _
 exact EA (EY (Jw KFB.slot_get zL KFB.entry_get (sX (fun zz=>Bk) (fun zz zz=>Ai) ⟨_,rfl,EF (EF h)⟩) (KFB.args_get _ _ _)))
theorem sF {Q:Value->Shared->Prop} (h:Q (.ref s.heap.objs.size) {s with heap:=s.heap.push emptyDict}):wpAny (model prog w) A (call (.type "dict") []) Q E s:=by
 refine callType_codes (Q₁:=fun obj s₁=>obj=.ref s.heap.objs.size/\s₁={s with heap:=s.heap.push emptyDict}) F.kt_called_dict oo F.entry_dict_init
  (GT F.kt_plain_dict_new F.kt_entry_dict_new (GC yG (sX (fun zz=>Bh) (fun zz zz=>At) ⟨rfl,rfl⟩))) ?_
 rintro obj s₁ ⟨rfl,rfl⟩
 have hT:Shared.TypeIs {s with heap:=s.heap.push emptyDict} (.ref s.heap.objs.size) "dict" := ⟨_,EP _ rfl,rfl⟩
 refine ⟨hT,zQ _,?_⟩
 unfold En.«dict.__init__»
 refine EA ?_
 unfold En.Dict.selfAndRest
 refine EA (wpAny_notOrdered_dict hT ?_)
 show wpAny _ _ (pure (s.heap.objs.size,[])) _ _ _
 refine EF ?_
 show wpAny _ _ (En.Dict.addKeywords s.heap.objs.size [] >>= fun zz=>ret .none) _ _ _
 unfold En.Dict.addKeywords
 rw [IX]
 exact EA (EA (EF (EF (EF ⟨rfl,h⟩))))
theorem z6 {x:Addr} {v:Value} {Q:Value->Shared->Prop} (ho:s.heap.get? x=some jq)
  (h:wpAny (model prog w) (A.under (.builtin "dict.fromkeys" ⟨[.type "dict",v],[]⟩)) (En.«dict.fromkeys» ⟨[.type "dict",v],[]⟩) (fun fin s'=>match fin with | .done (.ret r)=>Q r s' | .done _=>False | .again c'=>c'.quiet=true/\GP (model prog w) A c' (fun r s'=>match r with | .ok (.ret v)=>Q v s' | .ok _=>False | .error e=>E e s') s') E s):wpAny (model prog w) A (call (.ref x) [v]) Q E s:=by
 refine Ff (Gs ?_)
 show wpAny _ A.in1 (Ki (.ref x) ⟨[v],[]⟩) _ _ s
 refine EA (KJ ho ?_)
 refine KFB.if_so (c:=(F7 "builtin_function_or_method" == F7 "method" || F7 "builtin_function_or_method" == F7 "builtin_function_or_method" || F7 "builtin_function_or_method" == F7 "method-wrapper")=true) (by decide) ?_
 refine KFB.if_so (by decide) ?_
 refine EA (GC (a:=()) vX ?_)
 refine EA (EF (EF ?_))
 refine ⟨Code.quiet_builtin _ (by decide +kernel),Fd xW (Ep h (fun fin s' z=>?_) fun zz zz z=>z)⟩
 rcases fin with (_ | _ | _ | _) | _<;>first | exact z | exact z.elim
theorem pe {xs:List Str} {k:Str}:stored (xs.map fun k=>(k,FB)) k FB=(if xs.any (fun y=>y==k) then xs else xs++[k]).map fun k=>(k,FB):=by
 unfold stored
 have' e:(xs.map fun k=>(k,FB)).any (fun p=>p.1=k)=xs.any fun y=>y==k:=by
  rw [LW];congr 1
 rw [e]
 split
 ·rw [EQ]
  exact FN fun y zz=>by dsimp only [Function.comp];split<;>rfl
 ·rw [Eh];rfl
theorem uz (ws:List Str):(bM ws).length<=ws.length:=by
 refine fX (P:=fun ws=>(bM ws).length<=ws.length) (EH _) (fun ws w ih=>?_) ws
 rw [ev]
 split
 ·rw [EU];exact EE ih (EM _ _)
 ·simp only [EU,Ef];omega
theorem yr {R:Result->Shared->Prop} {D I l:Addr} {items:Array Value} {ws:List Str} {h0:Heap} (hh:A.handled=none) (hDI:D≠I) (hl:h0.IsList l items) (hlD:l≠D) (hlI:l≠I) (hsz:items.size=ws.length) (hws:∀ (j:Nat) w,ws[j]? = some w->∃ t,items[j]? = some (JN w t)) (hn:ws.length<=1000)
  (hR:∀ h' tk,h'.DictOf (PySem.strKind prog w) D ((bM ws).map fun k=>(k,FB))->(∀ b o,b≠D->b≠I->h0.get? b=some o->h'.get? b=some o)->R (.ok (.ret (.ref D))) {s with heap:=h',toks:=tk}) :
  ∀ (k j:Nat) (h:Heap) (tk:Nat),ws.length - j=k->j<=ws.length->h.IsListIter I l j->h.DictOf (PySem.strKind prog w) D ((bM (ws.take j)).map fun k=>(k,FB))->(∀ b o,b≠D->b≠I->h0.get? b=some o->h.get? b=some o)->
   GP (model prog w) A (.builtin "dict.fromkeys.loop" ⟨[.ref D,.ref I,.none],[]⟩) R {s with heap:=h,toks:=tk}:=by
 intro k
 induction k with
 | zero=>
  intro j h tk hk hj hI hD keep;obtain rfl:j=ws.length:=by omega
  rw [List.take_length] at hD
  refine Fd mi ?_
  rw [Around.under_plainId hX _]
  show wpAny _ _ (pyNext (.ref I) >>= _) _ _ _
  refine EA (wpAny_pyNext_list_end (s:={s with heap:=h,toks:=tk}) hh hI (let ⟨o,e,r⟩:=hl;⟨o,keep _ _ hlD hlI e,r⟩) (by rw [Array.getElem?_eq_none_iff];omega) fun h' hx=>?_)
  exact EF (hR h' tk (hD.extBut hx hDI) fun b o b1 b2 e=>hx b o b2 (keep b o b1 b2 e))
 | succ k ih=>
  intro j h tk hk hj hI hD keep;have hjl:j<ws.length:=by omega
  obtain ⟨t,ht⟩:=hws j _ (E8 hjl);refine Fd mi ?_
  rw [Around.under_plainId hX _]
  show wpAny _ _ (pyNext (.ref I) >>= _) _ _ _
  refine EA (wpAny_pyNext_list_item (s:={s with heap:=h,toks:=tk}) hI (let ⟨o,e,r⟩:=hl;⟨o,keep _ _ hlD hlI e,r⟩) ht fun h' hI' hs=>?_)
  have hD':=hD.sameBut hs hDI
  show wpAny _ _ (typeOf (.ref D) >>= _) _ _ _
  refine EA (I4 hD'.typeIs ?_)
  rw [if_pos (by decide)]
  refine EA (EF (EA (EY (wpAny_dictSet_pairs (knd:=PySem.strKind prog w) (k:=ws[j]) (key:=.str ws[j] t) (beq_self_eq_true _) hD' (fun h2 hD2 hs2=>?_) ?_))))
  ·rw [pe] at hD2
   refine EF ⟨Hf hX _,?_⟩;refine ih (j+1) h2 (tk+1) (by omega) hjl ?_ ?_ fun b o b1 b2 e=>(hs2.2 b b1).trans ((hs.2 b b2).trans (keep b o b1 b2 e))
   ·obtain ⟨o,e,r⟩:=hI'
    exact ⟨o,(hs2.2 _ (Ne.symm hDI)).trans e,r⟩
   ·rw [Ji,E8 hjl]
    show h2.DictOf _ D ((bM (ws.take j++[ws[j]])).map _)
    rw [ev];exact hD2
  ·rw [EC]
   have:=uz (ws.take j)
   rw [Ii] at this
   rw [EO];omega
end
end
section
open PySem.Calls PySem.Builtin
section
variable {M:Model} {A:Around} {E:Value->Shared->Prop} {s:Shared}
theorem qY {pos:Pos} {u:Addr} {first:List Value} {args:List (Bool×Sem Value)} {Q:Value->Shared->Prop} (hplain:args.any (·.1)=false)
  (h:wpAny M A (K5 (.ref u) true args []) (fun x s₁=>s₁.heap.get? u=some jq/\wpAny M A (call (.ref u) (first++x.pos) x.kw) Q E s₁) E s):wpAny M A (HL pos (.ref u) first args []) Q E s:=by
 unfold HL
 refine EA (EY (Ep h (fun x s₁ h₁=>EA (FP ?_)) fun zz zz x=>x))
 obtain ⟨ho,hcall⟩:=h₁
 have hs:(args.any (·.1) || ([]:List (Option Str×Sem Value)).any (·.1.isNone))=false:=by rw [hplain];rfl
 refine EA (m:=LQ (.ref u)) ?_
 unfold LQ
 refine EA (KJ ho ?_)
 refine KFB.if_so (c:=(F7 "builtin_function_or_method" != F7 "method")=true) (by decide) ?_
 refine GC (a:=Keeper.machine) (congrArg pure (if_pos (by decide))) ?_
 rw [hs]
 exact EA (Ep hcall (fun r s₂ hr=>EA (EY (Le (EF hr)))) fun zz zz x=>x)
end
theorem wO:plainId "dict.fromkeys" = true:=by decide +kernel
theorem un:isType (.type "dict")=pure true:=by first | rfl | kernel_rfl
section
variable {prog:Fn} {w:World} {A:Around} {E:Value->Shared->Prop} {s:Shared}
theorem yV {Q:Value->Shared->Prop} {l:Addr} {items:Array Value} {ws:List Str} (hh:A.handled=none) (hl:s.heap.IsList l items) (hsz:items.size=ws.length) (hws:∀ (j:Nat) w,ws[j]? = some w->∃ t,items[j]? = some (JN w t)) (hn:ws.length<=1000)
  (hQ:∀ h' tk,h'.DictOf (PySem.strKind prog w) s.heap.objs.size ((bM ws).map fun k=>(k,FB))->(∀ b o,s.heap.get? b=some o->h'.get? b=some o)->Q (.ref s.heap.objs.size) {s with heap:=h',toks:=tk}) :
  wpAny (model prog w) A.in1 (En.«dict.fromkeys» ⟨[.type "dict",.ref l],[]⟩) (fun fin s'=>match fin with | .done (.ret r)=>Q r s' | .done _=>False | .again c'=>c'.quiet=true/\GP (model prog w) A c' (fun r s'=>match r with | .ok (.ret v)=>Q v s' | .ok _=>False | .error e=>E e s') s') E s:=by
 unfold En.«dict.fromkeys»
 refine EA (GC (a:=true) un ?_)
 refine KFB.if_not rfl ?_
 refine EA (GC (a:=true) F.kt_sub_dict ?_)
 refine KFB.if_not rfl ?_
 refine KFB.if_not rfl ?_
 refine EA (IG (EA (EF ?_)))
 refine EA (sF ?_)
 obtain ⟨ol,hol,hcl,nl,hdl⟩:=hl
 have hlt:=Ea hol
 have hl1:(s.heap.push emptyDict).IsList l items:=⟨ol,EJ _ hol,hcl,nl,hdl⟩
 have hD:(s.heap.push emptyDict).DictOf (PySem.strKind prog w) s.heap.objs.size []:=Heap.DictOf.new s.heap
 refine EY (EA (I4 (s:={s with heap:=s.heap.push emptyDict}) hl1.typeIs (EA (I4 (s:={s with heap:=s.heap.push emptyDict}) hD.typeIs ?_))))
 refine KFB.if_not rfl ?_
 refine EA (I4 (s:={s with heap:=s.heap.push emptyDict}) hD.typeIs ?_)
 refine KFB.if_not rfl ?_
 refine EA (Hh (s:={s with heap:=s.heap.push emptyDict}) hl1 ?_)
 refine EF ⟨Hf hX _,?_⟩
 have' hI:((s.heap.push emptyDict).push {cls:=.type "list_iterator",data:=.fields #[.ref l,.int 0 0]}).IsListIter (s.heap.push emptyDict).objs.size l 0:=⟨_,EP _ rfl,rfl,rfl⟩
 have hz:(s.heap.push emptyDict).objs.size=s.heap.objs.size+1:=ER ..
 refine yr (s:=s) (h0:=(s.heap.push emptyDict).push {cls:=.type "list_iterator",data:=.fields #[.ref l,.int 0 0]}) hh (by rw [hz];exact FE (E3 _)) ⟨ol,EJ _ (EJ _ hol),hcl,nl,hdl⟩ (FE hlt) (by rw [hz];exact FE (HG hlt)) hsz hws hn
  (fun h' tk hd keep=>hQ h' tk hd fun b o e=>keep b o (FE (Ea e)) (by rw [hz];exact FE (HG (Ea e))) (EJ _ (EJ _ e)))
  ws.length 0 _ s.toks rfl (Ek _) hI (hD.push _) fun zz zz zz zz e=>e
end
section
variable {C:Cx} {lv:Lv} {N:aE} {ρ ρ₁ ρ₂:aO} {σ σ₁ σ₂:aC} {ob e:Expr} {apos pos:Pos} {ws:List Str}
theorem ny (ho:aH C lv N ob ρ σ (.con (.type "dict")) ρ₁ σ₁) (he:aH C lv N e ρ₁ σ₁ (.dat (.list (ws.map .str))) ρ₂ σ₂) (hz:ws.length<=1000) (hq:lv.q=true) (hn:autoParam (bx e=true) aR)
  (hw:∀ env,∃ pl,eval (.Call (.Attribute ob "fromkeys" apos) [e] [] pos) env=(do
   let ov <- eval ob env
   HQ apos.atName
   let (f,first) <- Hu [ov] (IS ov "fromkeys" pl)
   HL pos f first (backTo pos (Fv [e] env)) (HB pos (GE [] env)))):aH C lv N (.Call (.Attribute ob "fromkeys" apos) [e] [] pos) ρ σ (.ref σ₂.length) ρ₂ (σ₂++[.sdict (bM ws)]):=by
 intro A env μ s Q E ok G F hQ
 obtain ⟨pl,hw⟩:=hw env
 refine Ku (ho A env μ s _ _ ok G F fun v μ1 s1 P1 hv=>?_) hw
 obtain rfl:v=.type "dict" := hv
 refine yf (P1.good.inK ok) ?_
 dsimp only
 have k1:aL A0 NoW s1 {s1 with heap:=s1.heap.push jq,toks:=s1.toks+1}:=ab (by rw [ER];exact Eg _) fun zz zz e=>EJ _ e
 have P1':=P1.trans (aS.grow P1.good P1.fr k1)
 have' hu:(s1.heap.push jq).get? s1.heap.objs.size=some jq:=EP _ rfl
 refine qY (be (es:=[e]) (by rw [GG,hn];rfl)) ?_
 rw [a7 hn]
 refine FO (FS (he A env μ1 _ _ _ ok P1'.good P1'.fr fun v μ2 s2 P2 hv=>Fo ?_))
 have hu2:s2.heap.get? s1.heap.objs.size=some jq:=by
  refine P2.kept.at (fun q=>?_) (fun q=>?_) hu
  ·exact absurd (P1.good.lt _ (dE P1'.good.sim P1'.fr _ q)) (E2 _)
  ·exact absurd (P1.good.lt _ (P1.good.frs.fa q).1) (E2 _)
 obtain ⟨as,r⟩:=hv
 cases r using RL with
 | @list l ob items n as hob hc hd hr=>
  have hlen:items.size=ws.length:=(a9 hr).trans (EC ..);refine ⟨hu2,z6 hu2 ?_⟩
  rw [Around.under_plainId wO _]
  refine yV (P2.good.quiet hq) ⟨_,Ex _ hob,hc,n,hd⟩ hlen (fun j w hw=>?_) hz fun h' tk hdic keep=>?_
  ·have hj:j<items.size:=by rw [hlen];exact (EI.mp hw).1
   obtain ⟨u,hu'⟩:∃ u,items[j]? = some u:=⟨_,HC hj⟩;obtain ⟨bs,rr⟩:=bg hr j u (.str w) (by rw [Ic];exact hu') (by simp [hw])
   cases rr using RS with
   | str t=>exact ⟨t,hu'⟩
  ·obtain ⟨o,es,ep,hg,_⟩:=id hdic
   have' k2:aL A0 NoW s2 {s2 with heap:=h',toks:=tk}:=ab (Ej (Ea hg)) keep;have P3:=aS.alloc (a:=s2.heap.objs.size) (fp:=[s2.heap.objs.size]) (o:=.sdict (bM ws)) P2.good P2.fr k2 (fun b hb=>by rw [EG.mp hb];exact ⟨EH _,Ea hg⟩) (.head _) ⟨rfl,hdic⟩
   exact hQ _ _ _ (P1'.trans (P2.trans P3)) ⟨_,by show (μ2.objs++[_])[σ₂.length]? = _;rw [<- P2.good.sim.len];exact EV,rfl⟩
end
end
section
open PySem.Calls PySem.Builtin
section
variable {C:Cx} {lv:Lv} {N:aE} {ρ ρ₁ ρ₂:aO} {σ σ₁ σ₂:aC} {e:Expr} {apos pos pos' np:Pos} {xs:List Str} {i:Nat}
theorem qq (hx:σ[i]? = some (.sdict xs)):fO C lv σ (.builtin "isinstance") [.ref i,.con (.type "dict")] (.bool true):=by
 intro A μ s vs Q E ok G r hQ
 obtain ⟨v,c,rfl,⟨p,hp,hv⟩,hc⟩:=r.e2
 obtain rfl:c=.type "dict" := hc
 subst hv
 obtain ⟨e,hd⟩:=G.sim.rep i p _ hp hx
 exact call_isinstance (isinstance_true (by show pure (F7 ((Manifest.find? "dict").elim "type" fun x=>x.metatype))=_;rw [IC];kernel_rfl) F.kt_sub_dict) ⟨hd.typeIs,hQ _ s [] (aL.refl _ _ _) (.bool _)⟩
theorem tp {h h':Heap} {prog:Fn} {w:World} {lo:Addr} {as:List Addr} {xs:List Str} (hc:∀ a∈as,∀ o,h.get? a=some o->h'.get? a=some o) (hl:as.length=xs.length) (g:KdxG (PySem.strKind prog w) (xs.map fun k=>(k,FB)) lo h as) :
  ∃ bs,FW h' (as.map Fg) (xs.map fun k=>.tuple [.str k,.none]) bs:=by
 refine gm (by simp [hl]) fun j v d hv hd=>?_
 rw [Ei] at hv hd
 obtain ⟨a,ha,rfl⟩:=FL.mp hv
 obtain ⟨k,hk,rfl⟩:=FL.mp hd
 obtain ⟨key,k',x,h1,h2,h3⟩:=g.pairs j a ha
 rw [Ei,hk] at h1
 cases h1
 obtain ⟨t,rfl⟩:=Value.isStrOf_shape h2
 exact ⟨_,.tuple (hc a (EK ha) _ h3) rfl rfl (.cons (.str _ _) (.cons .none .nil))⟩
theorem lu {x:Str} (hf:aH C lv N (.Name x np) ρ σ (.con (.type "list")) ρ σ) (h:aH C lv N e ρ σ (.ref i) ρ₁ σ₁) (hx:σ₁[i]? = some (.sdict xs)) (hz:xs.length<=1000) (hq:autoParam (lv.q=true) aR) (hbase:autoParam (∀ env,HO e "items" env (eval e env)=eval e env) aI) (hline:autoParam ((apos.endLine==pos.line)=true) aR) :
  aH C lv N (.Call (.Name x np) [.Call (.Attribute e "items" apos) [] [] pos] [] pos') ρ σ (.dat (.list (xs.map fun k=>.tuple [.str k,.none]))) ρ₁ σ₁:=by
 intro A env μ s Q E ok G F hQ
 refine GI (hf A env μ s _ _ ok G F fun v μ0 s0 P0 hv=>?_)
 obtain rfl:=hv
 refine PySem.callWith_type rfl (FO (FS (?_:wpAny _ _ (eval (.Call (.Attribute e "items" apos) [] [] pos) env) _ _ _)))
 refine IM (hbase env) hline (h A env μ0 s0 _ _ ok P0.good P0.fr fun v μ1 s1 P1 r=>⟨"dict", "dict.items",PySem.F.plainAttrs_dict,PySem.F.slot_dict_items,PySem.F.type_dict_items,?_⟩)
 obtain ⟨p,hp,rfl⟩:=r
 obtain ⟨e1,hdict⟩:=P1.good.sim.rep i p _ hp hx
 have hsys:=P1.good.notSys ok (aj (EK hp) (by rw [e1];exact .head _))
 refine ⟨hdict.typeIs,fun b hb=>?_,?_⟩
 ·cases hb
  obtain ⟨o,es,ep,ho,hc,_⟩:=hdict;exact ⟨o,ho,hc.2.1⟩
 refine Fu rfl (PySem.evalArgs_none (KH PySem.F.slot_dict_items hdict.typeIs PySem.F.entry_dict_items (PySem.F.args_dict_items_1 _) (meets_dict_items (PySem.strKind C.prog C.w) p.1 hsys) ⟨⟨_,hdict⟩,?_⟩))
 have' k1:aL A0 NoW s1 {s1 with heap:=s1.heap.push {cls:=.type "dict_items",data:=.fields #[.ref p.1]}}:=bB _ _
 have P2:=P1.trans (aS.grow P1.good P1.fr k1)
 have hv:(s1.heap.push {cls:=.type "dict_items",data:=.fields #[.ref p.1]}).IsItemsView s1.heap.objs.size p.1:=⟨_,EP _ rfl,rfl,rfl⟩
 obtain ⟨ep,hat⟩:=(hdict.push {cls:=.type "dict_items",data:=.fields #[.ref p.1]}).dictAt
 generalize hs2:({s1 with heap:=s1.heap.push {cls:=.type "dict_items",data:=.fields #[.ref p.1]}}:Shared)=s2 at *
 have' hh2:s1.heap.push {cls:=.type "dict_items",data:=.fields #[.ref p.1]}=s2.heap:=by rw [<- hs2]
 rw [hh2] at hv hat
 refine Fo ?_
 refine kdx_call (s:=s2) (P1.good.quiet hq) hv hat (by rw [EC,EO];omega) fun h' tk acc c as keep hS hlen g hacc=>?_
 rw [EC] at hlen
 have' k3:aL A0 NoW s2 {s2 with heap:=h',toks:=tk}:=ab (Ej (Ea hS)) keep
 have' P3:=P2.trans (aS.grow P2.good P2.fr k3)
 obtain ⟨bs,ra⟩:=tp (h:=h') (h':=cK μ1.hid h') (fun a ha o ho=>F9 _ ho fun q=>absurd (P2.good.lt _ q) (E0.mpr (Ej (g.above a ha)))) hlen g
 exact hQ _ μ1 _ (P0.trans P3) ⟨_,.list (F9 _ hS fun q=>absurd (P2.good.lt _ q) (E2 _)) rfl rfl (by rw [hacc];exact ra)⟩
end
end
section
variable {C:Cx} (H:bH C) {fz:List Nat} {σ:aC}
include H
theorem mC {ws:List Str} (hz:ws.length<=1000):aP C 1 fz (.ref 887) [.dat (.list (ws.map .str))] [] σ (.ref σ.length) (σ++[.sdict (bM ws)]):=by
 wtm_at "De"
 case hb=>
  refine' bP.plain ["params"] [("unhashable_fallback",.bool false)] [("unhashable_fallback",.dat (.bool false))] ?_ (fun zz zz=>⟨⟨rfl,[],.bool _⟩,trivial⟩)
  intro vs hl S
  (rcases vs with _ | ⟨v1,_ | ⟨v2,vs⟩⟩)<;>first | (cases hl;done) | (rw [bH.K (by assumption)];kernel_rfl)
 case bl=>wtm_at "Mblank"
 case st=>(simp only [F5,FT,Fm,El,EW];wtm_at "Mstall")
 case hr=>exact .ret
 case h=>
  dsimp only;refine' a8 (jw (a8 (aX (ny ?o ?e hz rfl (by rfl) (by intro _;exact ⟨_,rfl⟩)))) (by intro q;cases q))
  case o=>wtm_at "Me"
  case e=>wtm_at "Me"
end
theorem Cl.of {C:Cx} {lv:Lv} {N:aE} {elt:Expr} {σ:aC} {gs:List Es} {xs:List AV} {ρ:aO} {ds es:List PyData} (h:Cl C lv N elt σ gs xs ρ ds) (e:ds=es):Cl C lv N elt σ gs xs ρ es:=e▸h
noncomputable def wS (i:Nat):Str:=(["a", "b c", "", "d;e"]:List Str).getD i ""
theorem Cz {i:Nat} (h4:i<4):wd i=.str (wS i):=by
 have:i=0\/i=1\/i=2\/i=3:=by omega
 rcases this with rfl | rfl | rfl | rfl<;>rfl
theorem sy {is:List Nat} (h:∀ i∈is,i<4):is.map wd=(is.map wS).map .str:=by
 rw [EQ];exact FN fun i hi=>Cz (h i hi)
theorem pY {i:Nat} (h4:i<4):Fl (wS i)=true:=by
 have:i=0\/i=1\/i=2\/i=3:=by omega
 rcases this with rfl | rfl | rfl | rfl<;>decide +kernel
noncomputable def ii (one other:List (List Nat)):Bool:=one.length==other.length && (one.zip other).all fun p=>b8 (p.1.map wS) (p.2.map wS)
theorem uX (bs:List Bool):((bs.map Jh).any fun y=>FC y (.bool false)) = !bs.all id:=by
 induction bs with
 | nil=>rfl
 | cons b bs ih=>rw [E6,IB,ih,GG];cases b<;>simp [FC]
section
variable {C:Cx} (H:bH C) {fz:List Nat} {σ:aC}
include H
theorem zS {one other:List (List Nat)} (h1:∀ r∈one,∀ x∈r,x<4) (h2:∀ r∈other,∀ x∈r,x<4) (l1:one.length<=1000) (l2:other.length<=1000) (r1:∀ r∈one,r.length<=1000) (r2:∀ r∈other,r.length<=1000) (hfz:∀ i∈fz,i<σ.length) :
  aP C 4 fz (.ref 962) [.dat (.list (one.map bf)),.dat (.list (other.map bf))] [] σ (.dat (.bool (ii one other))) σ:=by
 wtm_at "Dp"
 case hr=>exact .ret
 case h=>
  dsimp only;have hzl:((one.zip other).map fun p=>b8 (p.1.map wS) (p.2.map wS)).length<=1000:=by rw [EC,List.length_zip];omega
  refine' aA ?s1 (gE (c:=false) (rv:=.dat .none) ?t1 (by intro q;cases q) (by intro q;cases q) (fun zz=>a8 (aX (aH.of ?s5 ?s6))))
  case s1=>
   refine' dw (ds:=((one.zip other).map fun p=>b8 (p.1.map wS) (p.2.map wS)).map .bool) ?ck ?hi ?hfr ?hcl ?hbl ?hc ?hz ?ht ?hsw ?hf ?he ?hw
   case ck=>wtm_at "Mcompok"
   case hi=>wtm_at "Mzip"
   case hf=>(intro _ _;rfl)
   case he=>(intro _;rfl)
   case hw=>(intro _;rfl)
   case hsw=>(intro _;exact ⟨_,rfl⟩)
   case hfr=>wtm_at "Mfrees"
   case hcl=>wtm_at "Mclos"
   case hbl=>wtm_at "Mblank"
   case ht=>wtm_at "Ma"
   all_goals (try dsimp only [EW])
   case hz=>rw [EC,EO];omega
   case hc=>
    rw [List.zip_map,EQ,EQ]
    refine' cM rfl ?ha ?he ?hs
    case ha=>intro p hp;dsimp only [Function.comp,wm,Prod.map];wtm_at "Ma2"
    case hs=>intro p hp;wtm_at "Msub"
    case he=>
     intro p hp;obtain ⟨q1,q2⟩:p.1∈one/\p.2∈other:=⟨(List.of_mem_zip hp).1,(List.of_mem_zip hp).2⟩;have w1:=kI H (fz:=fz) (σ:=σ) (h1 _ q1) (r1 _ q1);have w2:=kI H (fz:=fz) (σ:=σ) (h2 _ q2) (r2 _ q2)
     rw [sy (h1 _ q1)] at w1
     rw [sy (h2 _ q2)] at w2
     have co:=oi H (fz:=fz) (σ:=σ) (f:=p.1.map wS) (g:=p.2.map wS) (fun w hw=>by obtain ⟨i,hi,rfl⟩:=EL.mp hw;exact pY (h1 _ q1 i hi)) (fun w hw=>by obtain ⟨i,hi,rfl⟩:=EL.mp hw;exact pY (h2 _ q2 i hi))
      (by rw [EC];exact r1 _ q1) (by rw [EC];exact r2 _ q2) hfz
     refine' e7 ?f (bH.look H rfl) rfl ?l co (EH 3) (by with_unfolding_all rfl) (by with_unfolding_all rfl)
     case f=>wtm_at "Me"
     case l=>
      refine' bF ?k1 (bF ?k2 bQ (by with_unfolding_all rfl)) (by with_unfolding_all rfl)
      case k1=>
       refine' e7 ?f (bH.look H rfl) rfl ?l w1 (Eg 2) (by with_unfolding_all rfl) (by with_unfolding_all rfl)
       case f=>wtm_at "Me"
       case l=>wtm_at "Ml"
      case k2=>
       refine' e7 ?f (bH.look H rfl) rfl ?l w2 (Eg 2) (by with_unfolding_all rfl) (by with_unfolding_all rfl)
       case f=>wtm_at "Me"
       case l=>wtm_at "Ml"
  case t1=>
   refine' b7 (d:=.list []) ?cmp (fK (by decide)) (by intro _;rfl)
   case cmp=>
    wtm_at "Dc"
    case hz=>decide
    case hc=>
     rw [dP]
     refine' Cl.of (cV (p:=fun zz=>false) (f:=fun b=>.bool b) ?ha ?ht (by intro _ _ q;cases q) ?hs) ?hn
     case ha=>intro b hb;wtm_at "Ma"
     case hs=>intro b hb;wtm_at "Msub"
     case hn=>simp
     case ht=>
      intro b hb;refine ci ?_
      cases b with
      | true=>exact dC (aY.of (by wtm_at "Mt") (by decide))
      | false=>exact cH (aY.of (by wtm_at "Mt") (by decide)) (aY.of (by wtm_at "Mt") (by decide))
  case s5=>
   have e1:(((one.map bf).length:Nat):Int)<2 ^ 63:=by rw [EC];omega
   have e2:(((other.map bf).length:Nat):Int)<2 ^ 63:=by rw [EC];omega
   have hK:Fq (((one.zip other).map fun p=>b8 (p.1.map wS) (p.2.map wS)).map .bool)=true:=iR fun d hd=>by obtain ⟨b,_,rfl⟩:=EL.mp hd;rfl
   refine' qZ ?x ?y
   case x=>wtm_at "Me"
   case y=>intro _;wtm_at "Me"
  case s6=>
   rw [uX,Bool.not_not,List.all_map]
   unfold ii
   congr 2
   rw [EC,EC]
   congr 1
   rw [FU,beq_iff_eq,beq_iff_eq];omega
end
theorem fU {α:Type} [BEq α] {f:α->PyData} (h:∀ x y,FC (f x) (f y)=(x==y)):∀ xs ys:List α,FC (.list (xs.map f)) (.list (ys.map f))=(xs==ys):=by
 intro xs
 induction xs with
 | nil=>
  intro ys
  cases ys<;>rfl
 | cons x xs ih=>
  intro ys
  cases ys with
  | nil=>rfl
  | cons y ys=>
  have ih:=ih ys
  simp only [FC] at ih
  simp only [E6,FC,PyData.eqvAll,h,ih]
  rfl
theorem An (x y:Nat):FC (nD x) (nD y)=(x==y):=by unfold nD;rw [FC];exact Aa
theorem wF (x y:List Nat):FC (bf x) (bf y)=(x==y):=fU An x y
theorem iA (x y:List (List Nat)):FC (gJ x) (gJ y)=(x==y):=fU wF x y
structure Lay (d:PyData) (k:Nat):Prop where
 lay:d.canLay0=true
 dep:d.depth<=k
theorem Lay.shaped {d:PyData} {k:Nat} (h:Lay d k) (hk:k<=64):SeqAt.shaped d=true:=by
 unfold SeqAt.shaped;rw [h.lay,Kx];exact decide_eq_true (EE h.dep hk)
theorem cQ {ds:List PyData} {k:Nat} (h:∀ d∈ds,Lay d k):Lay (.list ds) (k+1):=by
 have' key:∀ ds:List PyData,(∀ d∈ds,Lay d k)->Fq ds=true/\PyData.depthAll ds<=k:=by
  intro ds
  induction ds with
  | nil=>intro _;exact ⟨rfl,Ek _⟩
  | cons d ds ih=>
   intro h;obtain ⟨a,b⟩:=ih fun d hd=>h d (.tail _ hd)
   have c:=h d (.head _);refine ⟨by rw [Fq,c.lay,a];rfl,?_⟩
   rw [PyData.depthAll]
   exact Nat.max_le.mpr ⟨c.dep,b⟩
 obtain ⟨a,b⟩:=key ds h
 exact ⟨by rw [J2];exact a,by rw [PyData.depth];omega⟩
theorem Ah (x:Nat):Lay (nD x) 0:=⟨rfl,EH _⟩
theorem oQ {x:Str} (h:Fl x=true):Lay (.str x) 0:=⟨by simp [J2,h],EH _⟩
theorem xT (r:List Nat):Lay (bf r) 1:=cQ fun d hd=>by obtain ⟨x,_,rfl⟩:=EL.mp hd;exact Ah x
theorem dK (r:List (List Nat)):Lay (gJ r) 2:=cQ fun d hd=>by obtain ⟨x,_,rfl⟩:=EL.mp hd;exact xT x
theorem pT (x:Bool):Lay (.bool x) 0:=⟨rfl,EH _⟩
theorem vL (x y:List Bool):FC (.list (x.map .bool)) (.list (y.map .bool))=(x==y):=fU (fun a b=>by rw [FC]) x y

noncomputable def bU (x:Str):Str:=if x.length=0 then ("''" : Str) else if found x.cps=some false then x else (("'" : Str)++Gy x "'" "'\"'\"'")++("'" : Str)
section
variable {C:Cx} (H:bH C) {fz:List Nat} {σ:aC}
include H
theorem yz {x:Str} {b:Bool} (hb:found x.cps=some b) (hz:x.cps.size<1000) (hq:(Gy x "'" "'\"'\"'").length<=100000):aP C 2 fz (.ref 879) [.dat (.str x)] [] σ (.dat (.str (bU x))) σ:=by
 have hxl:x.length<1000:=hz
 wtm_at "Dp"
 case hr=>exact .ret
 case h=>
  dsimp only;unfold bU
  by_cases h0:x.length=0
  ·rw [if_pos h0]
   refine' cA (bL (aY.of (dN (b7 ?k1 (iq (x:=x) (by omega)) (by intro _;with_unfolding_all rfl))) ?e) (a8 (aX ?v))) (by intro q;cases q)
   case k1=>(refine' eW ?k1;(case k1=>wtm_at "Mload"))
   case e=>rw [h0];rfl
   case v=>wtm_at "Me"
  ·rw [if_neg h0]
   refine' aA (aN (aY.of (dN (b7 ?k1 (iq (x:=x) (by omega)) (by intro _;with_unfolding_all rfl))) ?e) aG) ?r
   case k1=>wtm_at "Me"
   case e=>
    have:((x.length:Int) != 0)=true:=by rw [bne_iff_ne];omega
    rw [this];rfl
   case r=>
    by_cases hbf:b=false
    ·rw [if_pos (hbf▸hb)]
     refine' cA (bL (aY.of (k7 H ?f ?x hb hz (by with_unfolding_all rfl) (by intro _;with_unfolding_all rfl) (by with_unfolding_all rfl)) (by rw [hbf];rfl)) (a8 (aX ?v))) (by intro q;cases q)
     case f=>wtm_at "Me"
     case x=>wtm_at "Me"
     case v=>wtm_at "Me"
    ·have hbt:b=true:=by cases b with
      | true=>rfl
      | false=>exact absurd rfl hbf
     rw [if_neg (by rw [hb,hbt];decide)]
     refine' aA (aN (aY.of (k7 H ?f ?x hb hz (by with_unfolding_all rfl) (by intro _;with_unfolding_all rfl) (by with_unfolding_all rfl)) (by rw [hbt];rfl)) aG) (a8 (aX (ct (p7 ?x2 (by decide +kernel) ?hz ?hq2 (by intro _;with_unfolding_all rfl) (by intro _;with_unfolding_all rfl) (by with_unfolding_all rfl)) oM (OpG.of2 (yu ?hs)))))
     case f=>wtm_at "Me"
     case x=>wtm_at "Me"
     case x2=>wtm_at "Me"
     case hz=>
      have:("'\"'\"'" : Str).length=5:=by decide +kernel
      rw [this];omega
     case hq2=>
      have:("'" : Str).length=1:=by decide +kernel
      rw [this,EO];omega
     case hs=>
      have:("'" : Str).length=1:=by decide +kernel
      have h2:(("'" : Str)++Gy x "'" "'\"'\"'").length=1+(Gy x "'" "'\"'\"'").length:=by
       show (("'" : Str).cps++(Gy x "'" "'\"'\"'").cps).size=_
       rw [Array.size_append]
       exact congrArg (· + (Gy x "'" "'\"'\"'").length) this
      rw [h2,this,EO];omega
end
theorem tJ {P:Params}:ke (Kw P) 870 866:=⟨by decide,_,_,_,_,_,_,_,_,_,rfl,rfl,rfl,rfl,rfl,rfl,rfl,rfl,rfl⟩
section
variable {C:Cx} (H:bH C) {fz:List Nat} {σ:aC} {jp:Nat}
include H
theorem A7 {ys:List Str} {b:Str->Bool} (hjp:σ[jp]? = some (.code 866)) (hjz:jp∉fz) (hb:∀ y∈ys,found y.cps=some (b y)/\y.cps.size<1000/\(Gy y "'" "'\"'\"'").length<=100000) (hys:ys.length<=1000) (hj:JoinOk " " (ys.map bU)=true) :
  aP C 5 fz (.ref 871) [.dat (.list (ys.map .str))] [] σ (.dat (.str (I7 " " (ys.map bU)))) σ:=by
 refine' mu (bH.look H rfl) rfl rfl ?hcd rfl rfl rfl rfl rfl rfl ?hok ?hfree ?hb ?bl ?st ?h ?hr
 case hcd=>exact bH.code H (by kernel_rfl)
 case hok=>wtm_at "Mnames"
 case hfree=>decide
 case hb=>(refine' bP.args ?_;wtm_at "Mpeek")
 case bl=>wtm_at "Mblank"
 case st=>(simp only [E6,I8,F5,FT,Fm];wtm_at "Mstall")
 case hr=>exact .ret
 case h=>
  intro A env μ s Q E hcode ok G F hQ;refine' Hv (wpAny_Return_some (uj (m:=2) (ρ0:=[none,none,none]) (ρ1:=fun y=>[none,some (.dat (.str y)),none]) (f:=bU) (ys:=ys) ok rfl (by show 4<=4;decide) G F hcode (by rw [H.K];exact tJ) hjp hjz ?hi ?gs ?helt hys hj ?e1 ?e2 ?e3 fun v μ2 s2 P2 r=>hQ _ μ2 s2 P2 ⟨v,rfl,r⟩))
  case hi=>
   refine' eW ?k1
   case k1=>wtm_at "Mload"
  case gs=>
   refine' ⟨?g1,?g2,rfl,rfl,?g3,?g4,?g5,?g6,?g7,?g8⟩
   case g1=>wtm_at "Mnames"
   case g2=>intro _;rfl
   case g3=>decide +kernel
   case g4=>decide +kernel
   case g5=>intro _ _;rfl
   case g6=>wtm_at "Mblank"
   case g7=>intro y;exact .there .here
   case g8=>intro y;wtm_at "Msub"
  case helt=>
   intro y hy;obtain ⟨h1,h2,h3⟩:=hb y hy;refine' ah ?f (kp_ H (by kernel_rfl)) (aZ ?l (by with_unfolding_all rfl)) (yz H h1 h2 h3) (by show 2<=2;decide) rfl (by intro _;with_unfolding_all rfl)
   case f=>wtm_at "Me"
   case l=>wtm_at "Ml"
  case e1=>rfl
  case e2=>rfl
  case e3=>rfl
end
structure QOk (y:Str):Prop where
 found:∃ b,Mine.Internal.found y.cps=some b
 size:y.cps.size<1000
 rep:(Gy y "'" "'\"'\"'").length<=100000
noncomputable def bJ (ws:List Str):Str:=I7 " " (ws.map bU)
noncomputable def bY (steps:List (List Str)):Str:=bJ (steps.map bJ)
section
variable {C:Cx} (H:bH C) {fz:List Nat} {σ:aC} {jp:Nat}
include H
theorem nB {ys:List Str} (hjp:σ[jp]? = some (.code 866)) (hjz:jp∉fz) (hb:∀ y∈ys,QOk y) (hys:ys.length<=1000) (hj:JoinOk " " (ys.map bU)=true) :
  aP C 5 fz (.ref 871) [.dat (.list (ys.map .str))] [] σ (.dat (.str (bJ ys))) σ:=
 A7 H (b:=fun y=>(found y.cps).getD false) hjp hjz (fun y hy=>⟨by obtain ⟨b,e⟩:=(hb y hy).found;rw [e];rfl,(hb y hy).size,(hb y hy).rep⟩) hys hj
theorem tr {steps:List (List Str)} (hjp:σ[jp]? = some (.code 866)) (hjz:jp∉fz) (hs:steps.length<=1000) (h1:∀ ws∈steps,ws.length<=1000/\(∀ y∈ws,QOk y)/\JoinOk " " (ws.map bU)=true/\QOk (bJ ws)) (h2:JoinOk " " ((steps.map bJ).map bU)=true) :
  aP C 7 fz (.ref 967) [.dat (.list (steps.map fun ws=>.list (ws.map .str)))] [] σ (.dat (.str (bY steps))) σ:=by
 wtm_at "Dp"
 case hr=>exact .ret
 case h=>
  dsimp only;refine' a8 (aX (ah ?f (kp_ H (by kernel_rfl)) (aZ (bF ?x bQ (by with_unfolding_all rfl)) (by with_unfolding_all rfl)) (nB H (ys:=steps.map bJ) hjp hjz ?hb ?hys h2) (by show 5<=6;decide) rfl (by intro _;with_unfolding_all rfl)))
  case f=>wtm_at "Me"
  case hys=>rw [EC];exact hs
  case hb=>
   intro y hy;obtain ⟨ws,hw,rfl⟩:=EL.mp hy;exact (h1 ws hw).2.2.2
  case x=>
   rw [EQ]
   wtm_at "Dc"
   case hz=>rw [EC,EO];omega
   case hc=>
    rw [EQ]
    refine' cM rfl ?ha ?hee ?hsu
    case ha=>intro ws hw;dsimp only [Function.comp];wtm_at "Ma"
    case hsu=>intro ws hw;wtm_at "Msub"
    case hee=>
     intro ws hw;obtain ⟨a1,a2,a3,_⟩:=h1 ws hw;refine' ah ?f (kp_ H (by kernel_rfl)) (aZ ?l (by with_unfolding_all rfl)) (nB H hjp hjz a2 a1 a3) (by show 5<=6;decide) rfl (by intro _;with_unfolding_all rfl)
     case f=>wtm_at "Me"
     case l=>wtm_at "Ml"
end
section
variable {C:Cx} (H:bH C)
include H
theorem cW:cB C.K 717:=by constructor<;>(rw [H.K];kernel_rfl)
theorem da:cB C.K 852:=by constructor<;>(rw [H.K];kernel_rfl)
end
noncomputable def eN (x:Str) (p:Nat):List (Str×AV):=[("_StringIO__newline",.dat (.str "\n")),("_StringIO__buf",.dat (.str x)),("_StringIO__pos",.dat (.int (p:Int)))]
section
variable {C:Cx} (H:bH C) {fz:List Nat} {σ:aC} {k:Nat} {x:Str} {p:Nat}
include H
theorem se (hx:σ[k]? = some (.inst 717 (eN x p))):aP C 1 fz (.ref 501) [.ref k] [] σ (.dat .none) σ:=by
 wtm_at "Dp"
 case hr=>exact .nxt
 case h=>
  dsimp only;refine' aF (aN (aY.of (ai (bV ?o (cJ hx (cW H) (fd_ H (by kernel_rfl)) rfl rfl) (by intro _;with_unfolding_all rfl)) ik (OpG.of2 (vb rfl)) (by with_unfolding_all rfl)) ?e) aG)
  case o=>wtm_at "Me"
  case e=>rfl
theorem nb {s:Str} (hx:∃ xs,σ[k]? = some (.inst 717 xs)/\xs.lookup ("_StringIO__newline" : Str)=some (AV.dat (.str "\n"))):aP C 1 fz (.ref 494) [.ref k,.dat (.str s)] [] σ (.dat (.str s)) σ:=by
 obtain ⟨xs,hx,hl⟩:=hx
 wtm_at "Dp"
 case hr=>exact .ret
 case h=>
  dsimp only;refine' aA ?s1 (aA (aN (aY.of ?t2 ?d2) aG) (aA (aN (fq (aY.of ?t3 ?d3) (aY.of ?t4 ?d4)) aG) (a8 (aX ?s5))))
  case s1=>
   refine' aB ?v ?t (by intro _;rfl) (by intro _;rfl) (by intro _;rfl)
   case v=>
    refine' bV ?o (cJ hx (cW H) (fd_ H (by kernel_rfl)) hl rfl) (by intro _;with_unfolding_all rfl)
    case o=>wtm_at "Me"
   case t=>wtm_at "Ma"
  case t2=>wtm_at "Mt"
  case d2=>rfl
  case t3=>wtm_at "Mt"
  case d3=>decide +kernel
  case t4=>wtm_at "Mt"
  case d4=>decide +kernel
  case s5=>wtm_at "Me"
end
section
variable {C:Cx} (H:bH C) {fz:List Nat} {σ:aC} {k:Nat} {x:Str} {p:Nat}
include H
theorem q9 {w:Str}:aP C 1 fz (.ref 183) [.dat (.int 1),.dat (.str w)] [] σ (.dat (.int 1)) σ:=by
 wtm_at "Dp"
 case hr=>exact .ret
 case h=>
  dsimp only;refine' aA (aN (dC (aY.of (ai (cj ?f ?l yD (by with_unfolding_all rfl)) ?r gy (by with_unfolding_all rfl)) ?e)) aG) (aA ?s2 (aA (aN (fq (aY.of ?t3 ?d3) (aY.of ?t4 ?d4)) aG) (a8 (aX ?s5))))
  case f=>wtm_at "Me"
  case l=>wtm_at "Ml"
  case r=>wtm_at "Me"
  case e=>decide
  case s2=>
   refine' aB ?v ?t (by intro _;rfl) (by intro _;rfl) (by intro _;rfl)
   case v=>
    refine' cj ?f ?l za (by with_unfolding_all rfl)
    case f=>wtm_at "Me"
    case l=>wtm_at "Ml"
   case t=>wtm_at "Ma"
  case t3=>wtm_at "Mt"
  case d3=>decide
  case t4=>wtm_at "Mt"
  case d4=>decide
  case s5=>wtm_at "Me"
theorem tj (hx:σ[k]? = some (.inst 717 (eN x p))) (hp:x.length<=p) (hz:x.length<=100000):aP C 2 fz (.ref 663) [.ref k,.dat (.int 1)] [] σ (.dat (.str "")) σ:=by
 wtm_at "De"
 case hb=>
  refine' bP.plain ["self", "size"] [] [] ?_ (fun zz zz=>trivial)
  wtm_at "Mpeek"
 case bl=>wtm_at "Mblank"
 case st=>(simp only [F5,FT,Fm,El,EW,FF];wtm_at "Mstall")
 case hr=>exact .ret
 case h=>
  dsimp only;refine' aA (aN (aY.of ?t1 ?d1) aG) (aA ?s2 (aA ?s3 (aA ?s4 (aA ?s5 (cA (bL (aY.of ?t6 ?d6) (a8 (aX ?s6))) (by intro q;cases q))))))
  case t1=>wtm_at "Mt"
  case d1=>rfl
  case s2=>
   refine' aB ?v ?t (by intro _;rfl) (by intro _;rfl) (by intro _;rfl)
   case v=>
    refine' ah ?f (kp_ H (by kernel_rfl)) (aZ ?l (by with_unfolding_all rfl)) (q9 H) (by show 1<=1;decide) rfl (by intro _;with_unfolding_all rfl)
    case f=>wtm_at "Me"
    case l=>wtm_at "Ml"
   case t=>wtm_at "Ma"
  case s3=>
   refine' bR (bD ?ho (bC hx (cW H) (fd_ H (by kernel_rfl)) (fn_ H (by kernel_rfl)) rfl) (kp_ H (by kernel_rfl)) bZ (se H hx) (by show 1<=1;decide) rfl (by intro _;exact ⟨_,rfl⟩)) (by intro _;rfl)
   case ho=>wtm_at "Me"
  case s4=>
   refine' aB ?v ?t (by intro _;rfl) (by intro _;rfl) (by intro _;rfl)
   case v=>
    refine' bV ?o (cJ hx (cW H) (fd_ H (by kernel_rfl)) rfl rfl) (by intro _;with_unfolding_all rfl)
    case o=>wtm_at "Me"
   case t=>wtm_at "Ma"
  case s5=>
   refine' aB ?v ?t (by intro _;rfl) (by intro _;rfl) (by intro _;rfl)
   case v=>
    refine' cq ?f (bF (bV ?o (cJ hx (cW H) (fd_ H (by kernel_rfl)) rfl rfl) (by intro _;with_unfolding_all rfl)) bQ (by with_unfolding_all rfl)) (tF (by omega)) (by with_unfolding_all rfl)
    case f=>wtm_at "Me"
    case o=>wtm_at "Me"
   case t=>wtm_at "Ma"
  case t6=>wtm_at "Mt"
  case d6=>exact decide_eq_true (by omega)
  case s6=>wtm_at "Me"
theorem yc {c:Nat} (hx:σ[k]? = some (.inst 717 (eN x p))) (hc:x.cps[p]? = some c) (hz:x.length<=100000) (hk:k∉fz):aP C 2 fz (.ref 663) [.ref k,.dat (.int 1)] [] σ (.dat (.str (cZ c))) (σ.set k (.inst 717 (eN x (p+1)))):=by
 have hp:p<x.length:=(FX.mp hc).1
 have' hkl:k<σ.length:=(EI.mp hx).1
 have hx2:(σ.set k (.inst 717 (eN x (p+1))))[k]? = some (.inst 717 (eN x (p+1))):=F6 hkl
 wtm_at "De"
 case hb=>
  refine' bP.plain ["self", "size"] [] [] ?_ (fun zz zz=>trivial)
  wtm_at "Mpeek"
 case bl=>wtm_at "Mblank"
 case st=>(simp only [F5,FT,Fm,El,EW,FF];wtm_at "Mstall")
 case hr=>exact .ret
 case h=>
  dsimp only;refine' aA (aN (aY.of ?t1 ?d1) aG) (aA ?s2 (aA ?s3 (aA ?s4 (aA ?s5 (aA (aN (aY.of ?t6 ?d6) aG) (aA (ρ₁:=[some (.ref k),some (.dat (.int 1)),some (.dat (.int (p:Int))),some (.dat (.int ((p:Int)+1))),none,none]) (σ₁:=σ) ?s7 (aA (σ₁:=σ.set k (.inst 717 (eN x (p+1)))) ?s8 (a8 (aX ?s9)))))))))
  case t1=>wtm_at "Mt"
  case d1=>rfl
  case s2=>
   refine' aB ?v ?t (by intro _;rfl) (by intro _;rfl) (by intro _;rfl)
   case v=>
    refine' ah ?f (kp_ H (by kernel_rfl)) (aZ ?l (by with_unfolding_all rfl)) (q9 H) (by show 1<=1;decide) rfl (by intro _;with_unfolding_all rfl)
    case f=>wtm_at "Me"
    case l=>wtm_at "Ml"
   case t=>wtm_at "Ma"
  case s3=>
   refine' bR (bD ?ho (bC hx (cW H) (fd_ H (by kernel_rfl)) (fn_ H (by kernel_rfl)) rfl) (kp_ H (by kernel_rfl)) bZ (se H hx) (by show 1<=1;decide) rfl (by intro _;exact ⟨_,rfl⟩)) (by intro _;rfl)
   case ho=>wtm_at "Me"
  case s4=>
   refine' aB ?v ?t (by intro _;rfl) (by intro _;rfl) (by intro _;rfl)
   case v=>
    refine' bV ?o (cJ hx (cW H) (fd_ H (by kernel_rfl)) rfl rfl) (by intro _;with_unfolding_all rfl)
    case o=>wtm_at "Me"
   case t=>wtm_at "Ma"
  case s5=>
   refine' aB ?v ?t (by intro _;rfl) (by intro _;rfl) (by intro _;rfl)
   case v=>
    refine' cq ?f (bF (bV ?o (cJ hx (cW H) (fd_ H (by kernel_rfl)) rfl rfl) (by intro _;with_unfolding_all rfl)) bQ (by with_unfolding_all rfl)) (tF (by omega)) (by with_unfolding_all rfl)
    case f=>wtm_at "Me"
    case o=>wtm_at "Me"
   case t=>wtm_at "Ma"
  case t6=>wtm_at "Mt"
  case d6=>exact decide_eq_false (by omega)
  case s7=>
   by_cases hl:p+1<x.length
   ·refine' aq.sub (ρ₁:=[some (.ref k),some (.dat (.int 1)),some (.dat (.int (p:Int))),some (.dat (.int ((p:Int)+1))),none,none]) (bL (aY.of (cH (aY.of ?t7 ?d7) ?t8) ?d8) (aF ?t9)) ?sb
    case t7=>wtm_at "Mt"
    case d7=>decide
    case t8=>wtm_at "Mt"
    case d8=>exact decide_eq_true (by omega)
    case t9=>
     refine' aB ?v9 ?ta9 (by intro _;rfl) (by intro _;rfl) (by intro _;rfl)
     case v9=>wtm_at "Me"
     case ta9=>wtm_at "Ma"
    case sb=>wtm_at "Msub"
   ·have' e1:(x.length:Int)=(p:Int)+1:=by omega
    refine' aq.sub (ρ₁:=[some (.ref k),some (.dat (.int 1)),some (.dat (.int (p:Int))),some (.dat (.int (x.length:Int))),none,none]) (aN (aY.of (cH (aY.of ?t7 ?d7) ?t8) ?d8) aG) ?sb
    case t7=>wtm_at "Mt"
    case d7=>decide
    case t8=>wtm_at "Mt"
    case d8=>exact decide_eq_false (by omega)
    case sb=>rw [e1];wtm_at "Msub"
  case s8=>
   refine' aq.st (aB (a:=.dat (.int ((p:Int)+1))) ?v ?t (by intro _;rfl) (by intro _;rfl) (by intro _;rfl)) rfl
   case v=>wtm_at "Me"
   case t=>
    refine' b9 ?k1 (bh hx hk (cW H) (fd_ H (by kernel_rfl)) (by show 3<1000;decide))
    case k1=>wtm_at "Me"
  case s9=>
   refine' aH.of (rh (i:=(p:Int)) (j:=(p:Int)+1) (bV ?o (cJ hx2 (cW H) (fd_ H (by kernel_rfl)) rfl rfl) (by intro _;with_unfolding_all rfl)) ?lo ?hi (by rw [EO];omega)) ?e9
   case o=>wtm_at "Me"
   case lo=>wtm_at "Me"
   case hi=>wtm_at "Me"
   case e9=>exact congrArg (fun y=>AV.dat (.str y)) (uf hc)
end
section
variable {C:Cx} (H:bH C) {fz:List Nat} {σ:aC} {x:Str}
include H
theorem uy (hfz:∀ i∈fz,i<σ.length):aP C 2 fz (.ref 487) [.ref σ.length,.dat (.str x)] [] (σ++[.inst 717 []]) (.dat .none) (σ++[.inst 717 (eN x 0)]):=by
 have hz:σ.length∉fz:=fun h=>absurd (hfz _ h) (E2 _)
 wtm_at "De"
 case hb=>
  refine' bP.plain ["self", "initial_value"] [("newline",.str "\n" 938)] [("newline",.dat (.str "\n"))] ?_ (fun zz zz=>⟨⟨rfl,[],.str _ _⟩,trivial⟩)
  intro vs hl S
  (rcases vs with _ | ⟨v1,_ | ⟨v2,_ | ⟨v3,vs⟩⟩⟩)<;>first | (cases hl;done) | (rw [bH.K (by assumption)];kernel_rfl)
 case bl=>wtm_at "Mblank"
 case st=>(simp only [F5,FT,Fm,El,EW];wtm_at "Mstall")
 case hr=>exact .nxt
 case h=>
  dsimp only;have hl0:∀ xs,(σ++[AO.inst 717 xs])[σ.length]? = some (.inst 717 xs):=fun xs=>EV
  have hset:∀ xs ys,(σ++[AO.inst 717 xs]).set σ.length (.inst 717 ys)=σ++[.inst 717 ys]:=fun xs ys=>by rw [Ee _ _ (EH _),Fx];rfl
  refine' aA (aN (aY.of (cH (aY.of ?t1 ?d1) (aY.of (b':=false) (ai (cj ?f1 ?l1 pB (by with_unfolding_all rfl)) ?r1 gy (by with_unfolding_all rfl)) ?e1)) ?d1b) aG)
   (aA (aN (eV (aY.of ?t2 ?d2) (eV (aY.of ?t3 ?d3) (dC (aY.of ?t4 ?d4)))) aG)
   (aA (aN (aY.of (cH (aY.of ?t5 ?d5) (aY.of (b':=false) (ai (cj ?f5 ?l5 pB (by with_unfolding_all rfl)) ?r5 gy (by with_unfolding_all rfl)) ?e5)) ?d5b) aG)
   (aA (σ₁:=σ++[.inst 717 [("_StringIO__newline",.dat (.str "\n"))]]) ?s1 (aA (σ₁:=σ++[.inst 717 [("_StringIO__newline",.dat (.str "\n")),("_StringIO__buf",.dat (.str ""))]]) ?s2 (aA (σ₁:=σ++[.inst 717 (eN "" 0)]) ?s3
   (aF (bL (aY.of ?t6 ?d6) (aF ?s4))))))))
  case t1=>wtm_at "Mt"
  case d1=>rfl
  case f1=>wtm_at "Me"
  case l1=>wtm_at "Ml"
  case r1=>wtm_at "Me"
  case e1=>decide
  case d1b=>rfl
  case t2=>wtm_at "Mt"
  case d2=>rfl
  case t3=>wtm_at "Mt"
  case d3=>decide +kernel
  case t4=>wtm_at "Mt"
  case d4=>decide +kernel
  case t5=>wtm_at "Mt"
  case d5=>rfl
  case f5=>wtm_at "Me"
  case l5=>wtm_at "Ml"
  case r5=>wtm_at "Me"
  case e5=>decide
  case d5b=>rfl
  case s1=>
   refine' aq.st (aB ?v ?t (by intro _;rfl) (by intro _;rfl) (by intro _;rfl)) ?he
   case v=>wtm_at "Me"
   case t=>
    refine' b9 ?k1 (bh (hl0 []) hz (cW H) (fd_ H (by kernel_rfl)) (by show 0<1000;decide))
    case k1=>wtm_at "Me"
   case he=>exact hset _ _
  case s2=>
   refine' aq.st (aB ?v ?t (by intro _;rfl) (by intro _;rfl) (by intro _;rfl)) ?he
   case v=>wtm_at "Me"
   case t=>
    refine' b9 ?k1 (bh (hl0 [("_StringIO__newline",.dat (.str "\n"))]) hz (cW H) (fd_ H (by kernel_rfl)) (by show 1<1000;decide))
    case k1=>wtm_at "Me"
   case he=>exact hset _ _
  case s3=>
   refine' aq.st (aB ?v ?t (by intro _;rfl) (by intro _;rfl) (by intro _;rfl)) ?he
   case v=>wtm_at "Me"
   case t=>
    refine' b9 ?k1 (bh (hl0 [("_StringIO__newline",.dat (.str "\n")),("_StringIO__buf",.dat (.str ""))]) hz (cW H) (fd_ H (by kernel_rfl)) (by show 2<1000;decide))
    case k1=>wtm_at "Me"
   case he=>exact hset _ _
  case t6=>wtm_at "Mt"
  case d6=>rfl
  case s4=>
   refine' aq.st (aB ?v ?t (by intro _;rfl) (by intro _;rfl) (by intro _;rfl)) ?he
   case v=>
    refine' bD ?ho (bC (hl0 (eN "" 0)) (cW H) (fd_ H (by kernel_rfl)) (fn_ H (by kernel_rfl)) rfl) (kp_ H (by kernel_rfl)) (aZ ?l (by with_unfolding_all rfl)) (nb H ⟨_,hl0 (eN "" 0),rfl⟩) (by show 1<=1;decide) rfl (by intro _;exact ⟨_,rfl⟩)
    case ho=>wtm_at "Me"
    case l=>wtm_at "Ml"
   case t=>
    refine' b9 ?k1 (bh (hl0 (eN "" 0)) hz (cW H) (fd_ H (by kernel_rfl)) (by show 3<1000;decide))
    case k1=>wtm_at "Me"
   case he=>exact hset _ _
end
section
variable {C:Cx} (H:bH C) {fz:List Nat} {σ:aC} {x:Str}
include H
theorem yv:aP C 2 fz (.ref 210) [.con (.ref 717),.dat (.str x)] [] σ (.ref σ.length) (σ++[.inst 717 []]):=by
 wtm_at "De"
 case hb=>
  refine' bP.var2 (as:=[.con (.ref 717),.dat (.str x)]) ["cls"] "args" "kwargs" 1 [.str x] rfl ?_;intro vs hl S
  rcases vs with _ | ⟨v1,_ | ⟨v2,_ | ⟨v3,vs⟩⟩⟩<;>first | (cases hl;done) | skip
  rw [bH.K (by assumption)]
  exact pJ (by kernel_rfl) (fun D=>by kernel_rfl) (fun D D2=>by kernel_rfl)
 case bl=>wtm_at "Mblank"
 case st=>(simp only [F5,FT,Fm,El,EW,FF];wtm_at "Mstall")
 case hr=>exact .ret
 case h=>
  dsimp only;refine' aA (aN (aY.of (cH (aY.of (ai ?f1 ?g1 (uG (a:=717) (b:=470) ?k1 ?k2 ?k3 ?k4) (by with_unfolding_all rfl)) ?d1) (ai ?f2 ?g2 oS (by with_unfolding_all rfl))) ?d) aG) (a8 (aX ?s5))
  case f1=>wtm_at "Me"
  case g1=>wtm_at "Me"
  case f2=>wtm_at "Me"
  case g2=>wtm_at "Me"
  case d=>rfl
  case d1=>rfl
  case s5=>
   refine' rq ?o1 ?o2 (fun S=>?o3) (fun S=>?o4) (by rfl) (fun env=>⟨_,rfl⟩)
   case o1=>wtm_at "Me"
   case o2=>wtm_at "Me"
   case o3=>rw [bH.K H];kernel_rfl
   case o4=>rw [bH.K H];exact pJ (by kernel_rfl) (fun D=>by kernel_rfl) (fun D D2=>by kernel_rfl)
  case k1=>rw [bH.K H];rfl
  case k2=>rw [bH.K H];rfl
  case k3=>decide
  case k4=>decide
theorem AM:sT C.K 717 214 210 487:=by
 constructor<;>first | (rw [H.K];kernel_rfl) | (intro S;rw [H.K];kernel_rfl)
theorem sD (hfz:∀ i∈fz,i<σ.length):aP C 3 fz (.ref 717) [.dat (.str x)] [] σ (.ref σ.length) (σ++[.inst 717 (eN x 0)]):=
 rM (AM H) (yv H) EV (cW H) (uy H hfz)
end
noncomputable def wcA:Str := "abcdfeghijklmnopqrstuvwxyzABCDEFGHIJKLMNOPQRSTUVWXYZ0123456789_"
noncomputable def wcB:Str := "ßàáâãäåæçèéêëìíîïðñòóôõöøùúûüýþÿÀÁÂÃÄÅÆÇÈÉÊËÌÍÎÏÐÑÒÓÔÕÖØÙÚÛÜÝÞ"
noncomputable def xd (wc:Str) (io pb fs:Nat) (com:Str) (ws:Bool) (st:PyData) (tok:Str):List (Str×AV):=
 [("instream",.ref io),("infile",.dat .none),("posix",.dat (.bool true)),("eof",.dat .none),("commenters",.dat (.str com)),("wordchars",.dat (.str wc)),("whitespace",.dat (.str " \t\r\n")),("whitespace_split",.dat (.bool ws)),
   ("quotes",.dat (.str "'\"")),("escape",.dat (.str "\\")),("escapedquotes",.dat (.str "\"")),("state",.dat st),("pushback",.ref pb),("lineno",.dat (.int 1)),("debug",.dat (.int 0)),("token",.dat (.str tok)),("filestack",.ref fs),("source",.dat .none),("_punctuation_chars",.dat (.str ""))]
noncomputable abbrev nM:=xd (wcA++wcB)
theorem wk {name:Str} {a:AV}:∀ {xs:List (Str×AV)},xs.lookup name=none->lz name a xs=xs++[(name,a)]:=by
 intro xs
 induction xs with
 | nil=>intro _;rfl
 | cons p r ih=>
  obtain ⟨y,b⟩:=p;intro h
  rw [GR] at h
  have e:(y==name)=false:=by
   rw [G7];intro q
   rw [beq_iff_eq.mp q,beq_self_eq_true] at h
   cases h
  have' h2:r.lookup name=none:=by
   have:(name==y)=false:=by rw [G7] at e ⊢;intro q;exact e (by rw [beq_iff_eq.mp q];exact beq_self_eq_true _)
   rw [this] at h;exact h
  show (if (y==name)=true then _ else _)=_
  rw [e]
  show (y,b) :: lz name a r=_
  rw [ih h2];rfl
section
variable {C:Cx} {lv:Lv} {N:aE} {ρ ρ₁:aO} {σ r r':aC} {c:Addr} {xs:List (Str×AV)} {a:AV}
theorem uH {L:List (Str×AV)} {k:Nat} {ob value:Expr} {name:Str} {tpos pos:Pos} (hz:σ.length∉lv.fz) (hc:cB C.K c) (hv:aH C lv N value ρ (σ++.inst c (L.take k) :: r) a ρ₁ (σ++.inst c (L.take k) :: r')) (ho:aH C lv N ob ρ₁ (σ++.inst c (L.take k) :: r') (.ref σ.length) ρ₁ (σ++.inst c (L.take k) :: r'))
  (hf:findIn C.K (.ref c) name=some none) (hn:(L.take k).lookup name=none) (hk:k<1000) (hL:L[k]? = some (name,a)) (he:autoParam (∀ env,(IF [.Attribute ob name tpos] env).map (·.2)=[assign (.Attribute ob name tpos) env]) aI)
  (hs:autoParam (∀ env,Jk [.Attribute ob name tpos] value pos.line env=pure false) aI) (hw:autoParam (∀ env,Ij [.Attribute ob name tpos] value env=pure none) aI):aq C lv N (.Assign [.Attribute ob name tpos] value pos) ρ (σ++.inst c (L.take k) :: r) .nxt ρ₁ (σ++.inst c (L.take (k+1)) :: r'):=
 .st (aB hv (b9 ho (bh iG hz hc hf (Eo (List.length_take_le _ _) hk))) he hs hw) (by rw [fE,wk hn,Ji,hL];rfl)
theorem uv {name:Str} {i:Nat} (hx:σ[i]? = some (.inst c xs)) (hc:cB C.K c) (hf:findIn C.K (.ref c) name=some none) (hl:xs.lookup name=some (.dat (.bool true))):bu C lv σ (.ref i) name (.dat (.bool true)):=cJ hx hc hf hl
end
section
variable {C:Cx} (H:bH C) {fz:List Nat} {σ:aC} {x:Str}
include H
theorem BE:makesIn C.K 852=true:=by rw [H.K];kernel_rfl
theorem Ax:findIn C.K (.ref 852) "__init__" = some (some (.ref 776)):=by rw [H.K];kernel_rfl
theorem tX (hfz:∀ i∈fz,i<σ.length) (hxz:x.length<=100000):aP C 4 fz (.ref 776) [.ref σ.length,.dat (.str x)] [("posix",.dat (.bool true))] (σ++[.inst 852 []]) (.dat .none)
  (σ++[.inst 852 (nM (σ.length+1) (σ.length+2) (σ.length+3) "#" false (.str " ") ""),.inst 717 (eN x 0),.raw ba,.raw ba]):=by
 have' hz:σ.length∉fz:=fun h=>absurd (hfz _ h) (E2 _)
 have hfz1:∀ i∈fz,i<(σ++[AO.inst 852 []]).length:=fun i h=>by rw [EU];exact E5 (hfz i h) (EM _ _)
 have' cs:aP C 3 fz (.ref 717) [.dat (.str x)] [] (σ++[.inst 852 []]) (.ref (σ.length+1)) (σ++.inst 852 ((xd wcA (σ.length+1) (σ.length+2) (σ.length+3) "#" false (.str " ") "").take 0) :: [.inst 717 (eN x 0)]):=by
  have h:=sD H (x:=x) hfz1
  rw [FH,EU] at h
  exact h
 wtm_at "De"
 case hb=>
  refine' bP.kw (as:=[.ref σ.length,.dat (.str x)]) (fun vs w=>(["self", "instream"]:List Str).zip vs++([("infile",.none),("posix",w),("punctuation_chars",.bool false)]:List (Str×Value))) [("self",.ref σ.length),("instream",.dat (.str x)),("infile",.dat .none),("posix",.dat (.bool true)),("punctuation_chars",.dat (.bool false))] ?_ ?_
  ·intro vs w hl S
   rcases vs with _ | ⟨v1,_ | ⟨v2,_ | ⟨v3,vs⟩⟩⟩<;>first | (cases hl;done) | (rw [bH.K (by assumption)];kernel_rfl)
  ·intro μ h vs w r rw_
   obtain ⟨v1,v2,rfl,r1,r2⟩:=r.e2;exact ⟨⟨rfl,r1⟩,⟨rfl,r2⟩,⟨rfl,[],.none⟩,⟨rfl,rw_⟩,⟨rfl,[],.bool _⟩,trivial⟩
 case bl=>wtm_at "Mblank"
 case st=>wtm_at "Mstall"
 case hr=>exact .nxt
 case h=>
  dsimp only
  show ay _ _ _ _ _ _ _ [some (.ref σ.length),some (.ref (σ.length+1)),some (.dat .none),some (.dat (.bool true)),some (.dat (.str "")),none,none,none,none,none,none,none] _
  refine' aA (ρ₁:=[some (.ref σ.length),some (.ref (σ.length+1)),some (.dat .none),some (.dat (.bool true)),some (.dat (.bool false)),none,none,none,none,none,none,none]) (σ₁:=σ++.inst 852 ((xd wcA (σ.length+1) (σ.length+2) (σ.length+3) "#" false (.str " ") "").take 0) :: [.inst 717 (eN x 0)]) (bL (aY.of ?t1 ?d1) (aF ?s1)) (aA (ρ₁:=[some (.ref σ.length),some (.ref (σ.length+1)),some (.dat .none),some (.dat (.bool true)),some (.dat (.bool false)),none,none,none,none,none,none,none]) (σ₁:=σ++.inst 852 ((xd wcA (σ.length+1) (σ.length+2) (σ.length+3) "#" false (.str " ") "").take 2) :: [.inst 717 (eN x 0)]) (bL (aY.of ?t2 ?d2) ?s2) ?nx)
  case t1=>wtm_at "Mt1"
  case d1=>rfl
  case s1=>
   refine' aB ?v ?t (by intro _;rfl) (by intro _;rfl) (by intro _;rfl)
   case v=>
    refine' ah ?f (kp_ H (by kernel_rfl)) (aZ ?l (by with_unfolding_all rfl)) cs (by show 3<=3;decide) rfl (by intro _;with_unfolding_all rfl)
    case f=>wtm_at "Me"
    case l=>wtm_at "Ml"
   case t=>wtm_at "Ma"
  case t2=>wtm_at "Mt1"
  case d2=>rfl
  case s2=>
   wtm_at "Mgo";wtm_at "Mgo";exact aG
  case nx=>
   wtm_at "Mgo";wtm_at "Mgo";wtm_at "Mgo";wtm_at "Mgo";refine' aA (σ₁:=σ++.inst 852 ((xd (wcA++wcB) (σ.length+1) (σ.length+2) (σ.length+3) "#" false (.str " ") "").take 6) :: [.inst 717 (eN x 0)]) (bL (aY.of ?t ?d) (aF (aq.st (fM ?o ?g ?v (OpG.of2 (oZ ?z)) ?ss) ?e))) ?_
   case t=>wtm_at "Mt1"
   case d=>rfl
   case o=>wtm_at "Me"
   case g=>exact cJ iG (da H) (fd_ H (by kernel_rfl)) (a:=.dat (.str wcA)) (by kernel_rfl) (by kernel_rfl)
   case v=>wtm_at "Me"
   case z=>rw [EO];exact ET (by kernel_rfl)
   case ss=>exact bh iG hz (da H) (fd_ H (by kernel_rfl)) (ET (by kernel_rfl))
   case e=>rw [fE];kernel_rfl
   wtm_at "Mgo";wtm_at "Mgo";wtm_at "Mgo";wtm_at "Mgo";wtm_at "Mgo";wtm_at "Mgo";wtm_at "Mgo";wtm_at "Mgo";wtm_at "Mgo";wtm_at "Mgo";wtm_at "Mgo";wtm_at "Mgo";wtm_at "Mgo";wtm_at "Mgo";wtm_at "Mgo";exact aG
end
noncomputable def az (σ:aC) (x:Str) (p:Nat) (st:LS) (tok:Str):aC:=σ++[.inst 852 (nM (σ.length+1) (σ.length+2) (σ.length+3) "" true st.str tok),.inst 717 (eN x p),.raw ba,.raw ba]
section
variable {C:Cx} {lv:Lv} {N:aE} {ρ:aO} {σ:aC} {x u nm v a y:Str} {i k:Nat} {p0 p1 p2 p3 p4:Pos}
theorem zl (l:bj N ρ x (.ref i)) (hg:bu C lv σ (.ref i) nm (.dat (.str v)))
  (hw:∀ env,eval (.Attribute (.Name x p1) nm p2) env=(do
   let o <- eval (.Name x p1) env
   HQ p2.atName
   let r <- Hu [o] (JK o nm true)
   HY (.Name x p1) o r
   pure r)):aY C lv N (.Compare (.Attribute (.Name x p1) nm p2) [.Eq] [.Constant (.str y) k p3] p4) ρ σ (v==y) ρ σ:=ai (bV (eW l) hg hw) oM (OpG.of2 wQ)
theorem zn (l0:bj N ρ u (.dat (.str a))) (l:bj N ρ x (.ref i)) (hg:bu C lv σ (.ref i) nm (.dat (.str v)))
  (hw:∀ env,eval (.Attribute (.Name x p1) nm p2) env=(do
   let o <- eval (.Name x p1) env
   HQ p2.atName
   let r <- Hu [o] (JK o nm true)
   HY (.Name x p1) o r
   pure r)):aY C lv N (.Compare (.Name u p0) [.In] [.Attribute (.Name x p1) nm p2] p4) ρ σ (jk a v) ρ σ:=ai (eW l0) (bV (eW l) hg hw) (OpG.of2 xH)
end
section
variable {C:Cx} (H:bH C) {lv:Lv} {fz:List Nat} {σ:aC} {x:Str} {p:Nat} {st:LS} {tok:Str}
include H
theorem lxg {name:Str} {a:AV} (hf:findIn (Kw C.w.params) (.ref 852) name=some none) (hl:(nM (σ.length+1) (σ.length+2) (σ.length+3) "" true st.str tok).lookup name=some a) (ha:iE a=true):bu C lv (az σ x p st tok) (.ref σ.length) name a:=
 cJ iG (da H) (fd_ H hf) hl ha
theorem pW:bu C lv (az σ x p st tok) (.ref σ.length) "instream" (.ref (σ.length+1)):=lxg H (by kernel_rfl) (by kernel_rfl) rfl
theorem xv:bu C lv (az σ x p st tok) (.ref σ.length) "posix" (.dat (.bool true)):=lxg H (by kernel_rfl) (by kernel_rfl) rfl
theorem Ae:bu C lv (az σ x p st tok) (.ref σ.length) "eof" (.dat .none):=lxg H (by kernel_rfl) (by kernel_rfl) rfl
theorem lr:bu C lv (az σ x p st tok) (.ref σ.length) "commenters" (.dat (.str "")):=lxg H (by kernel_rfl) (by kernel_rfl) rfl
theorem nI:bu C lv (az σ x p st tok) (.ref σ.length) "wordchars" (.dat (.str (wcA++wcB))):=lxg H (by kernel_rfl) (by kernel_rfl) rfl
theorem lf:bu C lv (az σ x p st tok) (.ref σ.length) "whitespace" (.dat (.str " \t\r\n")):=lxg H (by kernel_rfl) (by kernel_rfl) rfl
theorem tV:bu C lv (az σ x p st tok) (.ref σ.length) "quotes" (.dat (.str "'\"")):=lxg H (by kernel_rfl) (by kernel_rfl) rfl
theorem tM:bu C lv (az σ x p st tok) (.ref σ.length) "escape" (.dat (.str "\\")):=lxg H (by kernel_rfl) (by kernel_rfl) rfl
theorem j7:bu C lv (az σ x p st tok) (.ref σ.length) "escapedquotes" (.dat (.str "\"")):=lxg H (by kernel_rfl) (by kernel_rfl) rfl
theorem gk:bu C lv (az σ x p st tok) (.ref σ.length) "state" (.dat st.str):=lxg H (by kernel_rfl) (by kernel_rfl) rfl
theorem pM:bu C lv (az σ x p st tok) (.ref σ.length) "pushback" (.ref (σ.length+2)):=lxg H (by kernel_rfl) (by kernel_rfl) rfl
theorem yA:bu C lv (az σ x p st tok) (.ref σ.length) "debug" (.dat (.int 0)):=lxg H (by kernel_rfl) (by kernel_rfl) rfl
theorem yM:bu C lv (az σ x p st tok) (.ref σ.length) "token" (.dat (.str tok)):=lxg H (by kernel_rfl) (by kernel_rfl) rfl
theorem ni:bu C lv (az σ x p st tok) (.ref σ.length) "filestack" (.ref (σ.length+3)):=lxg H (by kernel_rfl) (by kernel_rfl) rfl
theorem vG:bu C lv (az σ x p st tok) (.ref σ.length) "source" (.dat .none):=lxg H (by kernel_rfl) (by kernel_rfl) rfl
theorem B9:bu C lv (az σ x p st tok) (.ref σ.length) "_punctuation_chars" (.dat (.str "")):=lxg H (by kernel_rfl) (by kernel_rfl) rfl
theorem xk {t:Str} (hz:σ.length∉lv.fz):jC C lv (az σ x p st tok) (.ref σ.length) "token" (.dat (.str t)) (az σ x p st t):=by
 have' h:=bh (C:=C) (lv:=lv) (σ:=az σ x p st tok) (a:=.dat (.str t)) (name := "token") iG hz (da H) (fd_ H (by kernel_rfl)) (ET (by kernel_rfl))
 have e:(az σ x p st tok).set σ.length (.inst 852 (lz "token" (.dat (.str t)) (nM (σ.length+1) (σ.length+2) (σ.length+3) "" true st.str tok)))=az σ x p st t:=by unfold az;rw [fE];kernel_rfl
 exact e▸h
theorem jA (st':LS) (hz:σ.length∉lv.fz):jC C lv (az σ x p st tok) (.ref σ.length) "state" (.dat st'.str) (az σ x p st' tok):=by
 have' h:=bh (C:=C) (lv:=lv) (σ:=az σ x p st tok) (a:=.dat st'.str) (name := "state") iG hz (da H) (fd_ H (by kernel_rfl)) (ET (by kernel_rfl))
 have e:(az σ x p st tok).set σ.length (.inst 852 (lz "state" (.dat st'.str) (nM (σ.length+1) (σ.length+2) (σ.length+3) "" true st.str tok)))=az σ x p st' tok:=by unfold az;rw [fE];kernel_rfl
 exact e▸h
theorem zG:aP C 1 fz (.ref 783) [.ref σ.length] [] (az σ x p st tok) (.dat (.str "")) (az σ x p st tok):=by
 wtm_at "Dp"
 case hr=>exact .ret
 case h=>
  dsimp only;refine' a8 (aX (bV ?o (B9 H) (by intro _;with_unfolding_all rfl)))
  case o=>wtm_at "Me"
theorem xp (hm:1<lv.n) (hq:lv.q=true):bu C lv (az σ x p st tok) (.ref σ.length) "punctuation_chars" (.dat (.str "")):=
 vo (f:=783) (p:=784) (rest:=((recIn (Kw C.w.params) 784 "property").getD []).tail) iG (da H) (fd_ H (by kernel_rfl)) (by rw [H.K];kernel_rfl) (by rw [H.K];kernel_rfl) (by rw [H.K];kernel_rfl) (zG H) hm hq
theorem A5:bu C lv (az σ x p .S tok) (.ref σ.length) "state" (.dat (.str " ")):=gk H
theorem Am:bu C lv (az σ x p .A tok) (.ref σ.length) "state" (.dat (.str "a")):=gk H
theorem AE:bu C lv (az σ x p .Q tok) (.ref σ.length) "state" (.dat (.str "'")):=gk H
theorem AZ:bu C lv (az σ x p .D tok) (.ref σ.length) "state" (.dat (.str "\"")):=gk H
theorem A4:bu C lv (az σ x p .E tok) (.ref σ.length) "state" (.dat .none):=gk H
theorem Dt (hz:σ.length∉lv.fz):jC C lv (az σ x p st tok) (.ref σ.length) "state" (.dat (.str " ")) (az σ x p .S tok):=jA H .S hz
theorem By (hz:σ.length∉lv.fz):jC C lv (az σ x p st tok) (.ref σ.length) "state" (.dat (.str "a")) (az σ x p .A tok):=jA H .A hz
theorem DT (hz:σ.length∉lv.fz):jC C lv (az σ x p st tok) (.ref σ.length) "state" (.dat .none) (az σ x p .E tok):=jA H .E hz
end
structure CF (c:Nat) (ws qu wo:Bool):Prop where
 nl:(cZ c == "\n")=false
 ws:jk (cZ c) " \t\r\n" = ws
 co:jk (cZ c) "" = false
 es:jk (cZ c) "\\" = false
 wo:jk (cZ c) (wcA++wcB)=wo
 qu:jk (cZ c) "'\"" = qu
theorem su {c:Nat} (h:m4 c=true):CF c false false true:=by
 simp only [m4,Gu,beq_iff_eq] at h
 rcases h with (((rfl | rfl) | rfl) | rfl) | rfl<;>constructor<;>decide +kernel
theorem zh:CF 32 true false false:=by constructor<;>decide +kernel
theorem zf:CF 39 false true false:=by constructor<;>decide +kernel
theorem BJ:CF 34 false true false:=by constructor<;>decide +kernel
theorem xI {c:Nat} (h:zB c=true):(cZ c == "\n")=false/\jk (cZ c) "\\" = false/\(cZ c == "'")=decide (c=39)/\(cZ c == "\"")=decide (c=34):=by
 simp only [zB,m4,Gu,beq_iff_eq] at h
 rcases h with (((((((rfl | rfl) | rfl) | rfl) | rfl) | rfl) | rfl) | rfl) | rfl<;>decide +kernel
section
variable {C:Cx} (H:bH C) {lv:Lv} {fz:List Nat} {σ:aC} {x:Str} {p:Nat} {st:LS} {tok:Str} {N:aE} {ρ:aO}
include H
theorem Ap {ob e:Expr} {apos pos:Pos} {s:Str} {p':Nat} (ho:aH C lv N ob ρ (az σ x p st tok) (.ref (σ.length+1)) ρ (az σ x p st tok)) (he:jI C lv N [e] ρ (az σ x p st tok) [.dat (.int 1)] ρ (az σ x p st tok)) (hn:bx e=true)
  (hz:σ.length+1∉lv.fz) (hm:2<=lv.n) (hq:lv.q=true) (hl:x.length<=100000) (h:(∃ c,x.cps[p]? = some c/\s=cZ c/\p'=p+1)\/(x.length<=p/\s="" /\ p'=p))
  (hw:∀ env,∃ pl,eval (.Call (.Attribute ob "read" apos) [e] [] pos) env=(do
   let ov <- eval ob env
   HQ apos.atName
   let (f,first) <- Hu [ov] (IS ov "read" pl)
   HL pos f first (backTo pos (Fv [e] env)) (HB pos (GE [] env)))):aH C lv N (.Call (.Attribute ob "read" apos) [e] [] pos) ρ (az σ x p st tok) (.dat (.str s)) ρ (az σ x p' st tok):=by
 have hx:(az σ x p st tok)[σ.length+1]? = some (.inst 717 (eN x p)):=iX.trans rfl
 rcases h with ⟨c,hc,rfl,rfl⟩ | ⟨hp,rfl,rfl⟩
 ·refine aH.st (bD ho (bC hx (cW H) (fd_ H (by kernel_rfl)) (fn_ H (by kernel_rfl)) rfl) (kp_ H (by kernel_rfl)) (aZ he hn) (yc H hx hc hl hz) hm hq hw) ?_
  unfold az;rw [sk];rfl
 ·exact bD ho (bC hx (cW H) (fd_ H (by kernel_rfl)) (fn_ H (by kernel_rfl)) rfl) (kp_ H (by kernel_rfl)) (aZ he hn) (tj H hx hp hl) hm hq hw
omit H in
theorem ud {y:Str}:(y == "")=(y.length==0):=by
 obtain ⟨a⟩:=y
 rw [FU,beq_iff_eq,beq_iff_eq]
 constructor
 ·intro e;rw [e];rfl
 ·intro e
  have:a = #[]:=HZ e
  rw [this];rfl
omit H in
theorem tL {test:Expr} {body orelse rest:List Stmt} {pos:Pos} {k:Nat} {ρ' ρ'':aO} {σ₀ σ' σ'':aC} {o:Out} (h:∃ ρ₂,eZ C lv N test body orelse k ρ σ₀ .nxt ρ₂ σ'/\Sub ρ₂ ρ') (hr:ay C lv N rest ρ' σ' o ρ'' σ''):ay C lv N (.While test body orelse pos :: rest) ρ σ₀ o ρ'' σ'':=
 let ⟨_,w,s⟩:=h;aA (.sub (dJ w) s) hr
set_option tactic.hygienic true in
theorem jy {cs:List Nat} {n2:Nat} {st2:LS} {t2:Str} {q2:Bool} (hfz:∀ i∈fz,i<σ.length) (hl:x.length<=100000) (hd:x.cps.toList.drop p=cs) (hs:eE cs st "" false=some (n2,st2,t2,q2)) :
  aP C 3 fz (.ref 820) [.ref σ.length] [] (az σ x p st "") (.dat (if !q2 && t2.length==0 then .none else .str t2)) (az σ x (p+n2) st2 ""):=by
 have hz:σ.length∉fz:=fun h=>absurd (hfz _ h) (E2 _)
 have hz1:σ.length+1∉fz:=fun h=>absurd (hfz _ h) (E0.mpr (Eg _))
 wtm_at "Dp"
 case hr=>exact .ret
 case h=>
  dsimp only;refine' aA ?s1 (aA ?s2 (tL (ko (ρs:=fun q=>[some (.ref σ.length),some (.dat (.bool q)),some (.dat (.str " ")),none,none,none,none,none]) (σs:=az σ x) ?ht ?tS ?tB ?tE ?tN cs p st "" false _ hd (Ek _) hs) ?rest))
  case s1=>
   refine' aB ?v ?t (by intro _;rfl) (by intro _;rfl) (by intro _;rfl)
   case v=>wtm_at "Me"
   case t=>wtm_at "Ma"
  case s2=>
   refine' aB ?v ?t (by intro _;rfl) (by intro _;rfl) (by intro _;rfl)
   case v=>wtm_at "Me"
   case t=>wtm_at "Ma"
  case ht=>intro q p st tok;wtm_at "Mt4"
  case tE=>
   intro p tok q hp;refine' ⟨[some (.ref σ.length),some (.dat (.bool q)),some (.dat (.str " ")),some (.dat (.str "")),none,none,none,none],?_,.same (.same (.same (.drop (.same (.same (.same (.same .nil)))))))⟩;wtm_at "Mhead";wtm_at "M0";wtm_at "M0";wtm_at "M0";wtm_at "M0";wtm_at "M1";wtm_at "M1";exact aA (by wtm_at "Mas") (cA iB (by intro q;cases q))
  case tN=>
   intro p tok q hp;refine' ⟨[some (.ref σ.length),some (.dat (.bool q)),some (.dat (.str " ")),some (.dat (.str "")),none,none,none,none],?_,.same (.same (.same (.drop (.same (.same (.same (.same .nil)))))))⟩;wtm_at "Mhead";wtm_at "M1";exact aA (by wtm_at "Mas") (cA iB (by intro q;cases q))
  case tB=>
   intro p tok q hc hl1 htq;have hpl:p<x.length:=(FX.mp hc).1;have n1:=zh.nl;have n2:=zh.ws;refine' ⟨[some (.ref σ.length),some (.dat (.bool q)),some (.dat (.str " ")),some (.dat (.str (cZ 32))),none,none,none,none],?_,.same (.same (.same (.drop (.same (.same (.same (.same .nil)))))))⟩;wtm_at "Mhead"
   wtm_at "M0";wtm_at "M0";wtm_at "M0";wtm_at "M0";wtm_at "M1";wtm_at "M0";wtm_at "M1";refine' aA ?db (aA ?as ?_)
   case db=>wtm_at "Mdbg"
   case as=>wtm_at "Mas"
   have hbt:(tok.length:Int)<2 ^ 63:=by omega
   cases ht:((tok.length:Int) != 0) with
   | true=>
    refine' aF (bL (sW (aY.of ?t ht)) (aF iB))
    case t=>wtm_at "Mt4"
   | false=>
    have' hq1:q=true:=by
     have:(tok.length != 0)=false:=by
      rw [bne_eq_false_iff_eq] at ht ⊢;omega
     rwa [this,Ik] at htq
    refine' aF (bL (fq (aY.of ?t ht) (cH (aY.of ?t2 ?d2) (aY.of ?t3 hq1))) (aF iB))
    case t=>wtm_at "Mt4"
    case t2=>wtm_at "Mt4"
    case d2=>rfl
    case t3=>wtm_at "Mt4"
  case tS=>
   intro p c st tok q st' tok' q' hc hl1 hne hs;have hpl:p<x.length:=(FX.mp hc).1
   cases st with
   | S=>
    simp only [gf] at hs
    split at hs
    ·rename_i hw
     cases hs
     obtain ⟨n1,n2,n3,n4,n5,n6⟩:=su hw;refine' ⟨[some (.ref σ.length),some (.dat (.bool q)),some (.dat (.str " ")),some (.dat (.str (cZ c))),none,none,none,none],.nxt,?_,.inl rfl,.same (.same (.same (.drop (.same (.same (.same (.same .nil)))))))⟩;wtm_at "Mhead";wtm_at "M0";wtm_at "M1";wtm_at "M0";wtm_at "M0"
     wtm_at "M0";wtm_at "M0";wtm_at "M1";exact aA (by wtm_at "Mas") (aF (by wtm_at "Mas"))
    ·split at hs
     ·rename_i h39
      cases hs;subst h39
      obtain ⟨n1,n2,n3,n4,n5,n6⟩:=zf;refine' ⟨[some (.ref σ.length),some (.dat (.bool q)),some (.dat (.str " ")),some (.dat (.str (cZ 39))),none,none,none,none],.nxt,?_,.inl rfl,.same (.same (.same (.drop (.same (.same (.same (.same .nil)))))))⟩;wtm_at "Mhead";wtm_at "M0";wtm_at "M1";wtm_at "M0";wtm_at "M0"
      wtm_at "M0";wtm_at "M0";wtm_at "M0";wtm_at "M0";wtm_at "M1";refine' aA (aN (aY.of ?t ?d) aG) (aF ?as)
      case t=>wtm_at "Mt4"
      case d=>rfl
      case as=>wtm_at "Mnq"
     ·cases hs
   | A=>
    simp only [gf] at hs
    split at hs
    ·rename_i h39
     cases hs;subst h39
     obtain ⟨n1,n2,n3,n4,n5,n6⟩:=zf;refine' ⟨[some (.ref σ.length),some (.dat (.bool q)),some (.dat (.str " ")),some (.dat (.str (cZ 39))),none,none,none,none],.nxt,?_,.inl rfl,.same (.same (.same (.drop (.same (.same (.same (.same .nil)))))))⟩;wtm_at "Mhead";wtm_at "M0";wtm_at "M0";wtm_at "M0";wtm_at "M0"
     wtm_at "M1";wtm_at "M0";wtm_at "M0";wtm_at "M0";wtm_at "M0";wtm_at "M1";exact aF (by wtm_at "Mnq")
    ·split at hs
     ·rename_i h34
      cases hs;subst h34
      obtain ⟨n1,n2,n3,n4,n5,n6⟩:=BJ;refine' ⟨[some (.ref σ.length),some (.dat (.bool q)),some (.dat (.str " ")),some (.dat (.str (cZ 34))),none,none,none,none],.nxt,?_,.inl rfl,.same (.same (.same (.drop (.same (.same (.same (.same .nil)))))))⟩;wtm_at "Mhead";wtm_at "M0";wtm_at "M0";wtm_at "M0";wtm_at "M0"
      wtm_at "M1";wtm_at "M0";wtm_at "M0";wtm_at "M0";wtm_at "M0";wtm_at "M1";exact aF (by wtm_at "Mnq")
     ·split at hs
      ·rename_i hw
       cases hs
       obtain ⟨n1,n2,n3,n4,n5,n6⟩:=su hw;refine' ⟨[some (.ref σ.length),some (.dat (.bool q)),some (.dat (.str " ")),some (.dat (.str (cZ c))),none,none,none,none],.nxt,?_,.inl rfl,.same (.same (.same (.drop (.same (.same (.same (.same .nil)))))))⟩;wtm_at "Mhead";wtm_at "M0";wtm_at "M0";wtm_at "M0";wtm_at "M0"
       wtm_at "M1";wtm_at "M0";wtm_at "M0";wtm_at "M0";wtm_at "M0";wtm_at "M0";wtm_at "M0";refine' aF (bL (sW (aY.of ?t n5)) ?_)
       case t=>wtm_at "Mt4"
       exact aF (by wtm_at "Mcat")
      ·cases hs
   | Q=>
    simp only [gf] at hs
    split at hs
    ·rename_i hw
     obtain ⟨n1,n4,n5,n6⟩:=xI hw
     split at hs
     ·rename_i h9
      cases hs
      have n7:(cZ c == "'")=true:=n5.trans (decide_eq_true h9);refine' ⟨[some (.ref σ.length),some (.dat (.bool true)),some (.dat (.str " ")),some (.dat (.str (cZ c))),none,none,none,none],.nxt,?_,.inl rfl,.same (.same (.same (.drop (.same (.same (.same (.same .nil)))))))⟩;wtm_at "Mhead";wtm_at "M0"
      wtm_at "M0";wtm_at "M1";refine' aA ?a (aA (aN (aY.of ?t ?d) aG) ?_)
      case a=>wtm_at "Mqt"
      case t=>wtm_at "Mt4"
      case d=>rfl
      wtm_at "M1";wtm_at "M0";exact aF (by wtm_at "Mas")
     ·rename_i h9
      cases hs
      have n7:(cZ c == "'")=false:=n5.trans (decide_eq_false h9);refine' ⟨[some (.ref σ.length),some (.dat (.bool true)),some (.dat (.str " ")),some (.dat (.str (cZ c))),none,none,none,none],.nxt,?_,.inl rfl,.same (.same (.same (.drop (.same (.same (.same (.same .nil)))))))⟩;wtm_at "Mhead";wtm_at "M0"
      wtm_at "M0";wtm_at "M1";refine' aA ?a (aA (aN (aY.of ?t ?d) aG) ?_)
      case a=>wtm_at "Mqt"
      case t=>wtm_at "Mt4"
      case d=>rfl
      wtm_at "M0";refine' aF (aN (eV (aY.of ?t ?d) (dC (aY.of ?t2 n4))) ?_)
      case t=>wtm_at "Mt4"
      case d=>rfl
      case t2=>wtm_at "Mt4"
      exact aF (by wtm_at "Mcat")
    ·cases hs
   | D=>
    simp only [gf] at hs
    split at hs
    ·rename_i hw
     obtain ⟨n1,n4,n5,n6⟩:=xI hw
     split at hs
     ·rename_i h9
      cases hs
      have n7:(cZ c == "\"")=true:=n6.trans (decide_eq_true h9);refine' ⟨[some (.ref σ.length),some (.dat (.bool true)),some (.dat (.str " ")),some (.dat (.str (cZ c))),none,none,none,none],.nxt,?_,.inl rfl,.same (.same (.same (.drop (.same (.same (.same (.same .nil)))))))⟩;wtm_at "Mhead";wtm_at "M0"
      wtm_at "M0";wtm_at "M1";refine' aA ?a (aA (aN (aY.of ?t ?d) aG) ?_)
      case a=>wtm_at "Mqt"
      case t=>wtm_at "Mt4"
      case d=>rfl
      wtm_at "M1";wtm_at "M0";exact aF (by wtm_at "Mas")
     ·rename_i h9
      cases hs
      have n7:(cZ c == "\"")=false:=n6.trans (decide_eq_false h9);refine' ⟨[some (.ref σ.length),some (.dat (.bool true)),some (.dat (.str " ")),some (.dat (.str (cZ c))),none,none,none,none],.nxt,?_,.inl rfl,.same (.same (.same (.drop (.same (.same (.same (.same .nil)))))))⟩;wtm_at "Mhead";wtm_at "M0"
      wtm_at "M0";wtm_at "M1";refine' aA ?a (aA (aN (aY.of ?t ?d) aG) ?_)
      case a=>wtm_at "Mqt"
      case t=>wtm_at "Mt4"
      case d=>rfl
      wtm_at "M0";refine' aF (aN (eV (aY.of ?t ?d) (dC (aY.of ?t2 n4))) ?_)
      case t=>wtm_at "Mt4"
      case d=>rfl
      case t2=>wtm_at "Mt4"
      exact aF (by wtm_at "Mcat")
    ·cases hs
   | E=>cases hs
  case rest=>
   refine' aA (ρ₁:=[some (.ref σ.length),some (.dat (.bool q2)),some (.dat (.str " ")),none,some (.dat (.str t2)),none,none,none]) ?a (aA (σ₁:=az σ x (p+n2) st2 "") ?b (aA (ρ₁:=[some (.ref σ.length),some (.dat (.bool q2)),some (.dat (.str " ")),none,some (.dat (if !q2 && t2.length==0 then .none else .str t2)),none,none,none]) (σ₁:=az σ x (p+n2) st2 "") ?c (aA (ρ₁:=[some (.ref σ.length),some (.dat (.bool q2)),some (.dat (.str " ")),none,some (.dat (if !q2 && t2.length==0 then .none else .str t2)),none,none,none]) (σ₁:=az σ x (p+n2) st2 "") ?dd (a8 (aX ?e)))))
   case a=>wtm_at "Mqt"
   case b=>wtm_at "Mas"
   case dd=>
    refine' aN (aY.of (ai ?k1 ig (OpG.of2 zj) (by with_unfolding_all rfl)) ?d) aG
    case k1=>wtm_at "Me"
    case d=>rfl
   case e=>exact eW (.there (.there (.there (.there .here))))
   case c=>
    cases q2 with
    | true=>
     show aq _ _ _ _ _ _ _ [some (.ref σ.length),some (.dat (.bool true)),some (.dat (.str " ")),none,some (.dat (.str t2)),none,none,none] _
     refine' aN (eV (aY.of ?t ?d) (dC (aY.of ?t2 ?d2))) aG
     case t=>wtm_at "Mt4"
     case d=>rfl
     case t2=>wtm_at "Mt4"
     case d2=>rfl
    | false=>
     rw [show (!false && t2.length==0)=(t2 == "") by rw [ud];rfl]
     cases he:(t2 == "") with
     | true=>
      show aq _ _ _ _ _ _ _ [some (.ref σ.length),some (.dat (.bool false)),some (.dat (.str " ")),none,some (.dat .none),none,none,none] _
      refine' bL (eV (aY.of ?t ?d) (cH (aY.of ?t2 ?d2) (aY.of ?t3 he))) (aF ?as)
      case t=>wtm_at "Mt4"
      case d=>rfl
      case t2=>wtm_at "Mt4"
      case d2=>rfl
      case t3=>wtm_at "Mt4"
      case as=>wtm_at "Mqt"
     | false=>
      show aq _ _ _ _ _ _ _ [some (.ref σ.length),some (.dat (.bool false)),some (.dat (.str " ")),none,some (.dat (.str t2)),none,none,none] _
      refine' aN (eV (aY.of ?t ?d) (cH (aY.of ?t2 ?d2) (aY.of ?t3 he))) aG
      case t=>wtm_at "Mt4"
      case d=>rfl
      case t2=>wtm_at "Mt4"
      case d2=>rfl
      case t3=>wtm_at "Mt4"
end
section
variable {C:Cx} (H:bH C) {fz:List Nat} {σ:aC} {x:Str} {p:Nat} {st:LS} {cs:List Nat} {n2:Nat} {st2:LS} {t2:Str} {q2:Bool}
include H
theorem xa (hfz:∀ i∈fz,i<σ.length) (hl:x.length<=100000) (hd:x.cps.toList.drop p=cs) (hs:eE cs st "" false=some (n2,st2,t2,q2)) (hq:(!q2 && t2.length==0)=false) :
  aP C 4 fz (.ref 813) [.ref σ.length] [] (az σ x p st "") (.dat (.str t2)) (az σ x (p+n2) st2 ""):=by
 have cr:=jy H hfz hl hd hs
 rw [hq] at cr
 simp only [F0,if_false] at cr
 wtm_at "Dp"
 case hr=>exact .ret
 case h=>
  dsimp only;refine' aA (aN (gp ?t1 ?x1) aG) (aA (ρ₁:=[some (.ref σ.length),none,some (.dat (.str t2)),none,none,none,none,none]) (σ₁:=az σ x (p+n2) st2 "") ?s2 (aA (aN (aY.of ?t3 ?d3) aG) (aA (dJ (k:=0) (.done (aY.of ?t4 ?d4) aG)) (aA (aN (aY.of ?t5 ?d5) aG) (a8 (aX ?e))))))
  case t1=>wtm_at "Me"
  case x1=>exact iX.trans rfl
  case s2=>
   refine' aB (bD ?ho (bC iG (da H) (fd_ H (by kernel_rfl)) (fn_ H (by kernel_rfl)) (by kernel_rfl)) (kp_ H (by kernel_rfl)) bZ cr (by show 3<=3;decide) rfl (by intro _;exact ⟨_,rfl⟩)) ?t (by intro _;rfl) (by intro _;rfl) (by intro _;rfl)
   case ho=>wtm_at "Me"
   case t=>wtm_at "Ma"
  case t3=>wtm_at "Mt"
  case d3=>rfl
  case t4=>wtm_at "Mt"
  case d4=>rfl
  case t5=>
   refine' ai ?k1 ig (OpG.of2 si) (by with_unfolding_all rfl)
   case k1=>wtm_at "Me"
  case d5=>rfl
  case e=>wtm_at "Me"
theorem xc (hfz:∀ i∈fz,i<σ.length) (hl:x.length<=100000) (hd:x.cps.toList.drop p=cs) (hs:eE cs st "" false=some (n2,st2,t2,q2)) (hq:(!q2 && t2.length==0)=true) :
  aP C 4 fz (.ref 813) [.ref σ.length] [] (az σ x p st "") (.dat .none) (az σ x (p+n2) st2 ""):=by
 have cr:=jy H hfz hl hd hs
 rw [hq] at cr
 simp only [if_true] at cr
 wtm_at "Dp"
 case hr=>exact .ret
 case h=>
  dsimp only;refine' aA (aN (gp ?t1 ?x1) aG) (aA (ρ₁:=[some (.ref σ.length),none,some (.dat .none),none,none,none,none,none]) (σ₁:=az σ x (p+n2) st2 "") ?s2 (aA (aN (aY.of ?t3 ?d3) aG) (a8 (dJ (k:=0) (.ret (aY.of ?t4 ?d4) ?b)))))
  case t1=>wtm_at "Me"
  case x1=>exact iX.trans rfl
  case s2=>
   refine' aB (bD ?ho (bC iG (da H) (fd_ H (by kernel_rfl)) (fn_ H (by kernel_rfl)) (by kernel_rfl)) (kp_ H (by kernel_rfl)) bZ cr (by show 3<=3;decide) rfl (by intro _;exact ⟨_,rfl⟩)) ?t (by intro _;rfl) (by intro _;rfl) (by intro _;rfl)
   case ho=>wtm_at "Me"
   case t=>wtm_at "Ma"
  case t3=>wtm_at "Mt"
  case d3=>rfl
  case t4=>wtm_at "Mt"
  case d4=>rfl
  case b=>
   refine' aF (bL (aY.of (dN (gp ?t5 ?x5)) rfl) (a8 (aX ?e)))
   case t5=>wtm_at "Me"
   case x5=>exact iX.trans rfl
   case e=>wtm_at "Me"
end
section
open PySem.Calls
noncomputable def sn (C:Cx) (m:Nat) (fz:List Nat) (f:Value) (as:List AV) (σ:aC) (X:String) (σ':aC):Prop:=
 ∀ (A:Around) (μ:Mu) (s:Shared) (vs:List Value) (R:Result->Shared->Prop),C.Ok->aT C ⟨true,m,fz⟩ A μ σ s->aw μ s.heap as vs->
  (∀ x μ' s',aT C ⟨true,m,fz⟩ A μ' σ' s'->Ext μ μ' s.heap.objs.size->aL A (WC μ) s s'->(∃ o,s'.heap.get? x=some o/\o.cls=.type X)->R (.error (.ref x)) s')->GP (model C.prog C.w) A (.call f ⟨vs,[]⟩) R s
section
variable {C:Cx} {lv:Lv} {N:aE} {ρ ρ₁ ρ₂:aO} {σ σ₁ σ₂:aC} {X:String}
theorem um {m:Nat} {fz:List Nat} {f:Addr} {of:Obj} {fd:Hm} {body:List Stmt} {as:List AV} {bs:List (Str×AV)} (hK:C.K.lookup f=some of) (hd:of.data=.func fd) (hbody:fd.body=.stmts body) (hcd:codeIn C.K fd.code fd.qualname=true)
  (hcl:fd.closure=[]) (hg:fd.globals=Gk) (hbl:fd.builtins=H5) (hco:fd.scope.isCoroutine=false) (hgen:fd.scope.isGenerator=false) (hkd:fd.scope.kind=.function) (ok:dW fd.scope.names) (hfree:∀ p∈fd.scope.names,p.2≠.free)
  (hb:bP C fd as [] bs) (bl:cL fd.scope.names ρ) (st:cO fd.scope.names ρ bs ρ₁) (h:fY C ⟨true,m,fz⟩ fd.scope.names body ρ₁ σ X ρ₂ σ₂):sn C (m+1) fz (.ref f) as σ X σ₂:=by
 intro A μ s vs R okC G rv hR
 have X':=G.inK okC
 have hroom:=G.room
 have hunits:=G.units
 dsimp only at hroom hunits
 refine KW (by omega) (X' _ _ hK) hd hco hgen hbody (codeRec_of X' hcd) (hb A.in1 μ s vs [] _ _ X' G.lt rv trivial fun binds s1 k1 rb=>?_)
 have G1:aT C ⟨true,m+1,fz⟩ A μ σ s1:=G.grow k1
 have G1':aT C ⟨true,m,fz⟩ A.in1 μ σ s1:=G1.around (fun zz=>G.quiet rfl) rfl (by show A.depth+_+_<_;dsimp only;omega) (by show A.units+1+_+_<_;dsimp only;omega) ⟨G1.frs.all⟩
 refine eX fun env he=>?_
 rw [hcl,hg,hbl] at he
 have e1:env.locals=s1.heap.objs.size:=by rw [he];rfl
 have e3:env.frame=some env.locals:=by rw [he];rfl
 have e4:env.scope.kind=.function:=by rw [he];exact hkd
 have e2:env.cells=GS (s1.heap.objs.size+1) fd.scope.names []:=by rw [he];rfl
 have' hkn:∀ p∈fd.scope.names,env.kindOf p.1=some p.2:=by
  intro p hp
  rw [he]
  show fd.scope.names.lookup p.1=some p.2
  have nd:=ok.nodup;clear he e1 e2 st bl h hb hcl hg hbl hfree;generalize fd.scope.names=l at hp nd
  induction l with
  | nil=>cases hp
  | cons q l ih=>
   obtain ⟨y,ky⟩:=q
   rw [E6,GF] at nd
   rw [GR]
   rcases ES.mp hp with rfl | hp
   ·simp
   ·have:(p.1==y)=false:=by
     refine beq_eq_false_iff_ne.mpr fun q=>nd.1 (EL.mpr ⟨p,hp,q⟩)
    rw [this]
    exact ih hp nd.2
 have' hfe:∃ L,env.frame=some L/\FA (A.deeper env) L:=by
  obtain ⟨l,e,_⟩:=G.frs.all;exact ⟨_,e3,env :: l,by show A.frames.map _=_;rw [e];rfl,env,.head _,e3⟩
 obtain ⟨G2,F2,x2,k2⟩:=jR (A':=A.deeper env) (cls := "frame") (env':=env) G1' ok (.nil hfree) bl e1 e2 (by rw [he];rfl) (by rw [he];rfl) (by rw [he];exact hkd) (fun p hp=>.inl (hkn p hp)) hfe
 have' rb2:dD (μ.hide (dA s1.heap.objs.size fd.scope.names)) (bX s1.heap "frame" fd.scope.names) bs binds:=rb.mono x2 k2 noW
 have G3:aT C ⟨true,m,fz⟩ (A.deeper env) (μ.hide (dA s1.heap.objs.size fd.scope.names)) σ {s1 with heap:=bX s1.heap "frame" fd.scope.names}:=G2.around (fun zz=>G.quiet rfl) rfl (by show A.depth+1+_+_<_;dsimp only;omega) (by show A.units+3+_+_<_;dsimp only;omega) (Frs.deeper (A:=A) ⟨G2.frs.all⟩ F2 e3 e4)
 refine EA (mj st G3 F2 rb2 fun s3 P3=>EF ⟨okC.lim.keeps P3.good.base,codeAny_func ?_⟩)
 refine h (A.deeper env) env _ s3 _ _ okC P3.good P3.fr fun x μ4 s4 P4 r4=>?_
 refine EA (Ag P4 r4 fun L μ5 s5 hf P5 N5=>oR (f:=none) P5 N5 fun s6 P6 N6=>?_)
 have' kept:aL A (WC μ) s s6:=by
  have' a1:aL A (WC μ) s s1:=k1.lift;have' a2:aL A (WC μ) s {s1 with heap:=bX s1.heap "frame" fd.scope.names}:=a1.trans (k2.lift (W:=NoW)) fun zz h=>h.elim
  have w:∀ b,WS (μ.hide (dA s1.heap.objs.size fd.scope.names)) fd.scope.names env b->WC μ b\/s.heap.objs.size<=b:=fun b hb=>(nG G1 ok.nodup e1 e2 hb).imp id fun q=>EE k1.le q
  have' k4:aL A (WS (μ.hide (dA s1.heap.objs.size fd.scope.names)) fd.scope.names env) s3 s6:=P6.kept.frames fun b hb=>(FA.deeper e3 hb).imp id fun q=>.inl (.inr (.inl q))
  exact (a2.trans (P3.kept.frames (A':=A) fun b hb=>(FA.deeper e3 hb).imp id fun q=>.inl (.inr (.inl q))) w).trans k4 w
 have G4:aT C ⟨true,m+1,fz⟩ A μ5 σ₂ s6:=P6.good.around G.quiet rfl G.room G.units (P6.good.frs.outer (let ⟨l,e,_⟩:=G.frs.all;⟨l,e⟩))
 have x4:Ext μ μ5 s.heap.objs.size:=(x2.trans (P3.ext.trans P6.ext P3.kept.le) k2.le).trans (Ext.refl _ _) (EH _) |> fun x=>⟨let ⟨t,e,f⟩:=x.grow;⟨t,e,fun p hp b hb=>EE k1.le (f p hp b hb)⟩,x.sub,fun b hb=>(x.new b hb).imp id fun q=>EE k1.le q⟩
 obtain ⟨vs',T',ts,a,_⟩:=N6
 obtain ⟨oe,h1,h2,_⟩:=a.rc
 exact hR x μ5 s6 G4 x4 kept ⟨oe,h1,h2⟩
theorem rO {x:Str} {np pos:Pos} (g:bw N x) (hm:C.mg x=none) (hv:C.mb x=some (.type "StopIteration")) (hq:autoParam (lv.q=true) aR):iM C lv N (.Raise (some (.Name x np)) none pos) ρ σ "StopIteration" ρ σ:=by
 intro A env μ s Q E ok G F hE
 have' hp:=F.plain _ g.mem
 refine ao (owsi_raiseC (G.quiet hq) (Hk F.fn (F.globKind g) (Jj (F.glob▸ok.g.keeps G.base) hm (F.blt▸ok.b.keeps G.base) hv ⟨rfl,rfl⟩) hp.1) fun h' e hx hl=>?_)
 obtain ⟨P,f⟩:=nu (tk:=s.toks) G F hx.newExc hl
 exact hE e μ _ P f
end
end
section
open PySem.Calls
section
variable {C:Cx} {m:Nat} {fz:List Nat} {A:Around} {μ:Mu} {σ σ':aC} {s:Shared} {i:Nat} {c:Addr} {xs:List (Str×AV)} {v:Value} {f:Addr} {a:AV} {E:Value->Shared->Prop}
theorem BZ {Q:Option Value->Shared->Prop} (ok:C.Ok) (G:aT C ⟨true,m,fz⟩ A μ σ s) (hx:σ[i]? = some (.inst c xs)) (r:af μ s.heap (.ref i) v) (hf:findIn C.K (.ref c) "__next__" = some (some (.ref f))) (ht:typeIn C.K (.ref f)=some (.type "function")) (hc:aP C m fz (.ref f) [.ref i] [] σ a σ')
  (hQ:∀ u μ' s',aT C ⟨true,m,fz⟩ A μ' σ' s'->Ext μ μ' s.heap.objs.size->aL A (WC μ) s s'->af μ' s'.heap a u->Q (some u) s'):wpAny (model C.prog C.w) A (pyNext v) Q E s:=by
 obtain ⟨q,dx,es,n,rfl,hq,e,ne,hd,hr,I⟩:=G.sim.inst hx r
 unfold pyNext
 exact EA (wpAny_attempt (special_fn (G.inK ok) I hf ht (Ff (hc A μ s [.ref q.1] [] _ ok G ⟨r,trivial⟩ trivial fun u μ' s' G' x k ru=>EF (hQ u μ' s' G' x k ru)))))
theorem Aq {Q:Option Value->Shared->Prop} (ok:C.Ok) (G:aT C ⟨true,m,fz⟩ A μ σ s) (hx:σ[i]? = some (.inst c xs)) (r:af μ s.heap (.ref i) v) (hf:findIn C.K (.ref c) "__next__" = some (some (.ref f))) (ht:typeIn C.K (.ref f)=some (.type "function")) (hc:sn C m fz (.ref f) [.ref i] σ "StopIteration" σ')
  (hQ:∀ μ' s',aT C ⟨true,m,fz⟩ A μ' σ' s'->Ext μ μ' s.heap.objs.size->aL A (WC μ) s s'->Q none s'):wpAny (model C.prog C.w) A (pyNext v) Q E s:=by
 obtain ⟨q,dx,es,n,rfl,hq,e,ne,hd,hr,I⟩:=G.sim.inst hx r
 unfold pyNext
 refine EA (wpAny_attempt (special_fn (G.inK ok) I hf ht (Ff (hc A μ s [.ref q.1] _ ok G ⟨r,trivial⟩ fun x μ' s' G' ex k ho=>?_))))
 obtain ⟨o,ho,hcls⟩:=ho
 have L:Looks (model C.prog C.w) s'.heap (IH (.ref x) (.type "StopIteration")) true:=((IZ ho).andThen (by rw [hcls];exact .now)).andThen (Fa owsi_facts.sub)
 exact EA (L.here (EF (hQ μ' s' G' ex k)))
theorem yi {Q:Value->Shared->Prop} {f1:Addr} (ok:C.Ok) (G:aT C ⟨true,m,fz⟩ A μ σ s) (hx:σ[i]? = some (.inst c xs)) (r:af μ s.heap (.ref i) v) (hf:findIn C.K (.ref c) "__iter__" = some (some (.ref f))) (ht:typeIn C.K (.ref f)=some (.type "function")) (hn:findIn C.K (.ref c) "__next__" = some (some (.ref f1))) (hc:aP C m fz (.ref f) [.ref i] [] σ (.ref i) σ)
  (hQ:∀ μ' s',aT C ⟨true,m,fz⟩ A μ' σ s'->Ext μ μ' s.heap.objs.size->aL A (WC μ) s s'->Q v s'):wpAny (model C.prog C.w) A (pyIter v) Q E s:=by
 obtain ⟨q,dx,es,n,rfl,hq,e,ne,hd,hr,I⟩:=G.sim.inst hx r
 have X:=G.inK ok
 have L:Looks (model C.prog C.w) s.heap (Gh (.ref q.1) "__iter__") (some (.ref f)):=I.type.andThen (Hx X hf)
 unfold pyIter
 refine EA (L.here ?_)
 dsimp only
 unfold callSpecialIfBoundUnlessNone? bindSpecialIfBound?
 have B:∀ E,wpAny (model C.prog C.w) A (bindSpecial (.ref f) (.ref q.1) >>= fun r=>pure (some r)) (fun r s'=>r=some (Fg f,[Fg q.1])/\s'=s) E s:=fun E=>EA ((bind_fn X _ ht).here (EF ⟨rfl,rfl⟩))
 refine EA (EY (EA (EA (L.here (EA (Ig (Ep (Q:=fun r s'=>r=some (Fg f,[Fg q.1])/\s'=s) (E:=E) ?_ (fun r s' z=>?_) fun zz zz z=>z)))))))
 ·dsimp only
  split
  ·exact B _
  ·exact wpAny_tryCatch (B _)
 ·obtain ⟨rfl,rfl⟩:=z
  refine EA (Ff (hc A μ s' [.ref q.1] [] _ ok G ⟨r,trivial⟩ trivial fun u μ' s2 G' x k ru=>EF ?_))
  obtain ⟨q',hq',rfl⟩:=ru;obtain rfl:q'=q:=by rw [x.get hq] at hq';cases hq';rfl
  have' L2:Looks (model C.prog C.w) s2.heap (Gh (.ref q'.1) "__next__") (some (.ref f1)):=by
   obtain ⟨q2,_,_,_,e2,hq2,_,_,_,_,I2⟩:=G'.sim.inst hx (v:=.ref q'.1) ⟨q',hq',rfl⟩
   rw [hq'] at hq2;cases hq2
   exact I2.type.andThen (Hx (G'.inK ok) hn)
  exact EA (L2.here (EF (hQ μ' s2 G' x k)))
end
end
section
open PySem.Calls
section
variable {C:Cx} {m:Nat} {fz:List Nat} {A:Around} {μ0 μ μ':Mu} {σ σ':aC} {s0 s s':Shared} {S:Addr} {as:List AV} {a:AV} {E:Value->Shared->Prop}
structure l6 (C:Cx) (m:Nat) (fz:List Nat) (A:Around) (μ0:Mu) (s0:Shared) (S:Addr) (σ:aC) (as:List AV) (μ:Mu) (s:Shared):Prop where
 good:aT C ⟨true,m,fz⟩ A μ σ s
 ext:Ext μ0 μ s0.heap.objs.size
 kept:aL A (fun b=>WC μ0 b\/b=S) s0 s
 hid:S∈μ.hid
 foot:S∉μ.foot
 ne:¬ FA A S
 there:S<s0.heap.objs.size
 z0:μ0.fz=fz
 list:∃ acc c,s.heap.get? S=some (du acc c)/\aw μ s.heap as acc.toList
theorem l6.call (L:l6 C m fz A μ0 s0 S σ as μ s) (G:aT C ⟨true,m,fz⟩ A μ' σ' s') (x:Ext μ μ' s.heap.objs.size) (k:aL A (WC μ) s s'):l6 C m fz A μ0 s0 S σ' as μ' s':=by
 obtain ⟨acc,c,hS,r⟩:=L.list
 have' hlt:=Ea hS
 refine ⟨G,L.ext.trans x L.kept.le,L.kept.trans k fun b hb=>?_,x.sub _ L.hid,fun q=>(x.foot _ q).elim L.foot fun z=>absurd hlt (E0.mpr z),L.ne,L.there,L.z0,acc,c,k.at (fun q=>L.foot (WC.foot q)) L.ne hS,aw.mono x k (L.good.fw fun b hb=>.inl (L.good.sim.foot b (WC.foot hb))) r⟩
 exact (WC.ext L.ext (L.good.frz.trans L.z0.symm) hb).imp .inl id
theorem l6.turn {acc:Array Value} {c c':Nat} (L:l6 C m fz A μ0 s0 S σ as μ s) {f:Obj->Obj} {acc':Array Value} {as':List AV} (hf:f (du acc c)=du acc' c') (hS:s.heap.get? S=some (du acc c)) (h:aw μ s.heap as' acc'.toList):l6 C m fz A μ0 s0 S σ as' μ {s with heap:=s.heap.update S f}:=by
 have g:(s.heap.update S f).get? S=some (du acc' c'):=by rw [<- hf];exact FQ _ hS (by rw [hf];rfl)
 have k:aL A (· = S) s {s with heap:=s.heap.update S f}:=⟨_,_,_,rfl,⟨E9 (Gg ..).symm,id⟩,fun b o hb e=>.inl ((GJ _ _ (Ne.symm hb)).trans e)⟩
 refine ⟨L.good.turn k (fun b hb=>hb▸L.hid) (fun b hb=>hb▸L.foot) fun b hb hw=>absurd (hw▸hb) L.ne,L.ext,L.kept.trans k fun b hb=>.inl (.inr hb),L.hid,L.foot,L.ne,L.there,L.z0,acc',c',g,aw.mono (Ext.refl _ _) k (L.good.fw fun b hb=>.inl (hb▸L.hid)) h⟩
theorem vA {μ:Mu} {h:Heap} {as:List AV} {vs:List Value} {a:AV} {v:Value} (r:aw μ h as vs) (q:af μ h a v):aw μ h (as++[a]) (vs++[v]):=aw.ind r ⟨q,trivial⟩ fun zz zz zz zz hv zz ih=>⟨hv,ih⟩
end
section
variable {C:Cx} {lv:Lv} {m i:Nat} {c:Addr} {fN fI:Addr} {τ:Nat->aC} {σ':aC} {ts:List AV} {xs:Nat->List (Str×AV)}
theorem uu (hm:m<lv.n) (hq:lv.q=true) (hx:∀ j,j<=ts.length->(τ j)[i]? = some (.inst c (xs j))) (h1:findIn C.K (.ref c) "__iter__" = some (some (.ref fI))) (h2:typeIn C.K (.ref fI)=some (.type "function")) (h3:findIn C.K (.ref c) "__next__" = some (some (.ref fN))) (h4:typeIn C.K (.ref fN)=some (.type "function"))
  (h5:findIn C.K (.ref c) "__len__" = some none) (h6:findIn C.K (.ref c) "__length_hint__" = some none) (hI:aP C m lv.fz (.ref fI) [.ref i] [] (τ 0) (.ref i) (τ 0)) (hN:∀ (j:Nat) a,ts[j]? = some a->aP C m lv.fz (.ref fN) [.ref i] [] (τ j) a (τ (j+1)))
  (hE:sn C m lv.fz (.ref fN) [.ref i] (τ ts.length) "StopIteration" σ') (hz:ts.length<=1000):dS C lv (τ 0) (.type "list") [.ref i] (.ref σ'.length) (σ'++[.list ts]):=by
 intro N ρ A env μ s vs Q E ok G F r hQ
 obtain ⟨v,rfl,ru⟩:=r.e1
 obtain ⟨q,dx,es,n,rfl,hq0,e0,ne0,hd0,hr0,I0⟩:=G.sim.inst (hx 0 (Ek _)) ru
 have hS:(s.heap.push {cls:=.type "list",data:=.seq #[]}).get? s.heap.objs.size=some (du #[] 0):=EP _ rfl
 have k0:aL A0 NoW s {s with heap:=s.heap.push {cls:=.type "list",data:=.seq #[]}}:=bB _ _
 have hb:∀ b∈[s.heap.objs.size],s.heap.objs.size<=b/\b<(s.heap.push {cls:=.type "list",data:=.seq #[]}).objs.size:=fun b hb=>by rw [EG.mp hb];exact ⟨EH _,Ea hS⟩
 have G1:=(G.around (lv':=⟨true,m,lv.fz⟩) (A':=A.in1.in1) (fun zz=>G.quiet hq) rfl (by have:=G.room;show A.depth+_+_<_;dsimp only;omega) (by have:=G.units;show A.units+1+1+_+_<_;dsimp only;omega) ⟨G.frs.all⟩).hide k0 hb
 have x1:Ext μ (μ.hide [s.heap.objs.size]) s.heap.objs.size:=fS fun b h=>(hb b h).1
 refine callType_codes (Q₁:=fun obj s₁=>obj=.ref s.heap.objs.size/\s₁={s with heap:=s.heap.push {cls:=.type "list",data:=.seq #[]}}) PySem.F.called_list (PySem.F.typeCall_list_1 _) PySem.F.entry_list_init (code_list_new _ ⟨rfl,rfl⟩) fun obj s₁ h₁=>?_
 obtain ⟨rfl,rfl⟩:=h₁
 refine ⟨⟨_,hS,rfl⟩,PySem.F.args_list_init_2 _ _,?_⟩
 have' hfoot:s.heap.objs.size∉(μ.hide [s.heap.objs.size]).foot:=fun h=>absurd (G.lt _ (G.sim.foot _ h)) (E2 _)
 have' hne:¬ FA A.in1.in1 s.heap.objs.size:=fun h=>absurd (G.lt _ (G.frs.fa (A:=A) h).1) (E2 _)
 have L0:l6 C m lv.fz A.in1.in1 (μ.hide [s.heap.objs.size]) {s with heap:=s.heap.push {cls:=.type "list",data:=.seq #[]}} s.heap.objs.size (τ 0) [] (μ.hide [s.heap.objs.size]) {s with heap:=s.heap.push {cls:=.type "list",data:=.seq #[]}}:=
  ⟨G1,Ext.refl _ _,aL.refl _ _ _,.head _,hfoot,hne,Ea hS,G.frz,#[],0,hS,trivial⟩
 generalize hs1:({s with heap:=s.heap.push {cls:=.type "list",data:=.seq #[]}}:Shared)=s1 at *
 generalize hμ1:μ.hide [s.heap.objs.size]=μ1 at *
 have hqS:s.heap.objs.size≠q.1:=fun h=>absurd (Ea I0.at_) (by rw [<- h];exact E2 _)
 have hq1:μ1.objs[i]? = some q:=x1.get hq0
 obtain ⟨acc0,c0,hS1,hr1⟩:=L0.list
 obtain rfl:acc0 = #[]:=by rw [<- KA];exact GO (bN hr1)
 show wpAny _ A.in1.in1 (do let old <- En.List.listItems (.ref s.heap.objs.size);En.List.listUpdate (.ref s.heap.objs.size) (fun zz=>#[]);letGo old.toList.reverse;En.List.listExtendWith (.ref s.heap.objs.size) (.ref q.1) .none) _ _ s1
 refine EA ?_
 unfold En.List.listItems
 refine EA (K7 hS1 rfl (EF ?_))
 show wpAny _ A.in1.in1 (Jy s.heap.objs.size (fun zz=>#[]) >>= fun zz=>letGo (#[]:Array Value).toList.reverse >>= fun zz=>En.List.listExtendWith (.ref s.heap.objs.size) (.ref q.1) .none) _ _ s1
 refine EA (Hd hS1 rfl (EA (wpAny_letGo ?_)))
 have L1:=L0.turn (f:=Ey fun zz=>#[]) (acc':=#[]) (as':=[]) rfl hS1 trivial
 generalize hs2:({s1 with heap:=s1.heap.update s.heap.objs.size (Ey fun zz=>#[])}:Shared)=s2 at *
 unfold En.List.listExtendWith
 have r1:af μ1 s2.heap (.ref i) (.ref q.1):=⟨q,hq1,rfl⟩
 obtain ⟨q',_,_,_,eq',hq',_,_,_,_,I1⟩:=L1.good.sim.inst (hx 0 (Ek _)) r1
 rw [hq1] at hq';cases hq'
 refine EA (I1.type.here ?_)
 have e1:En.List.listSameRef (.ref s.heap.objs.size) (.ref q.1)=false:=by simp [En.List.listSameRef,hqS]
 have e2:(Fg c==F7 "list")=false:=rfl
 have e3:(Fg c==F7 "tuple")=false:=rfl
 simp only [e1,e2,e3,Kv,F0,if_false]
 refine EA (yi ok L1.good (hx 0 (Ek _)) r1 h1 h2 h3 hI fun μ3 s3 G3 x3 k3=>?_)
 have L3:=L1.call G3 x3 k3
 have hq3:=x3.get hq1
 obtain ⟨q',_,_,_,eq',hq',_,_,_,_,I3⟩:=L3.good.sim.inst (hx 0 (Ek _)) (v:=.ref q.1) ⟨q,hq3,rfl⟩
 rw [hq3] at hq';cases hq'
 have X3:=L3.good.inK ok
 have' l1:Looks (model C.prog C.w) s3.heap (Gh (.ref q.1) "__len__") none:=I3.type.andThen (Hx X3 h5)
 have' l2:Looks (model C.prog C.w) s3.heap (Gh (.ref q.1) "__length_hint__") none:=I3.type.andThen (Hx X3 h6)
 refine EA (EY ?_)
 unfold En.List.listLengthHint
 refine EA (l1.here ?_)
 show wpAny _ A.in1.in1 (Gh (Fg q.1) (EB "__length_hint__") >>= _) _ _ _
 refine EA (l2.here (EF ?_))
 show wpAny _ A.in1.in1 (rule "list.extend.makes-room" >>= fun zz=>En.List.listTouch (.ref s.heap.objs.size) >>= fun zz=>
  again (.builtin "list.extend.loop" ⟨[.ref s.heap.objs.size,.ref q.1,.none],[]⟩)) _ _ _
 obtain ⟨acc3,c3,hS3,hr3⟩:=L3.list
 obtain rfl:acc3 = #[]:=by rw [<- KA];exact GO (bN hr3)
 refine EA (IG (EA ?_))
 show wpAny _ A.in1.in1 (Jy s.heap.objs.size (·.push .none) >>= fun zz=>Jy s.heap.objs.size (·.pop)) _ _ _
 refine EA (Hd hS3 rfl ?_)
 have hS4:=FQ (Ey (·.push FB)) hS3 rfl
 refine Hd hS4 rfl ?_
 have' L4:=(L3.turn (f:=Ey (·.push FB)) (acc':=#[.none]) (as':=[.dat .none]) rfl hS3 ⟨⟨[],.none⟩,trivial⟩).turn (f:=Ey (·.pop)) (acc:=#[.none]) (acc':=#[]) (as':=[]) rfl hS4 trivial
 refine EF ⟨Hf PySem.F.plain_extend_loop _,lH (n:=ts.length) (Inv:=fun j s'=>∃ μ',l6 C m lv.fz A.in1.in1 μ1 s1 s.heap.objs.size (τ j) (ts.take j) μ' s'/\μ'.objs[i]? = some q)
  (Mid:=fun j v s'=>∃ μ' a,ts[j]? = some a/\l6 C m lv.fz A.in1.in1 μ1 s1 s.heap.objs.size (τ (j+1)) (ts.take j) μ' s'/\af μ' s'.heap a v/\μ'.objs[i]? = some q) (Fin:=fun s'=>∃ μ',l6 C m lv.fz A.in1.in1 μ1 s1 s.heap.objs.size σ' ts μ' s')
  ?hs ?hitem ?hmid ?hdone ?hfin ts.length 0 _ rfl (Ek _) ⟨μ3,L4,hq3⟩⟩
 case hs=>
  rintro j v s' ⟨μ',a,_,L,_,_⟩
  obtain ⟨acc,c',hS',hr'⟩:=L.list;have:=bN hr'
  rw [Ii] at this
  exact ⟨acc,c',hS',by rw [<- FM];omega⟩
 case hitem=>
  rintro j s' Q' E' hj ⟨μ',L,hq'⟩ hQ'
  exact BZ ok L.good (hx j (Ej hj)) ⟨q,hq',rfl⟩ h3 h4 (hN j _ (E8 hj)) fun u μ2 s2 G2 x2 k2 ru=>hQ' u s2 ⟨μ2,_,E8 hj,L.call G2 x2 k2,ru,x2.get hq'⟩
 case hmid=>
  rintro j v s' ⟨μ',a,ha,L,rv,hq'⟩
  obtain ⟨acc,c',hS',hr'⟩:=L.list;refine ⟨μ',L.turn (acc':=acc.push v) rfl hS' ?_,hq'⟩
  rw [Ji,ha,Ja]
  exact vA hr' rv
 case hdone=>
  rintro s' Q' E' ⟨μ',L,hq'⟩ hQ'
  refine Aq ok L.good (hx _ (EH _)) ⟨q,hq',rfl⟩ h3 h4 hE fun μ2 s2 G2 x2 k2=>hQ' s2 ⟨μ2,?_⟩
  have:=L.call G2 x2 k2
  rwa [List.take_length] at this
 case hfin=>
  rintro s' ⟨μ',L⟩
  obtain ⟨acc,c',hS',hr'⟩:=L.list;have y:Ext μ' {μ' with objs:=μ'.objs++[(s.heap.objs.size,[s.heap.objs.size])]} s.heap.objs.size:=⟨⟨_,rfl,fun p hp b hb=>by rw [EG.mp hp] at hb;rw [EG.mp hb];exact EH _⟩,fun zz h=>h,fun zz h=>.inl h⟩
  have GA:=L.good.adopt (ob:=.list ts) L.hid L.foot L.ne ⟨rfl,acc,⟨c',hS'⟩,aw.move ⟨fun zz zz e=>y.get e,fun r=>r⟩ hr'⟩
  have' hlen:=L.good.sim.len;generalize hμ2:({μ' with objs:=μ'.objs++[(s.heap.objs.size,[s.heap.objs.size])]}:Mu)=μ2 at *
  refine ⟨rfl,hQ _ μ2 s' (aS.call rfl G F (GA.around (lv':=⟨true,m,lv.fz⟩) (fun zz=>G.quiet hq) rfl (by have:=G.room;dsimp only;omega) (by have:=G.units;dsimp only;omega) ⟨GA.frs.all⟩) ?_ ?_) ⟨(s.heap.objs.size,[s.heap.objs.size]),?_,rfl⟩⟩
  ·exact (x1.trans L.ext k0.le).trans y (EH _)
  ·refine (k0.lift (A:=A) (W:=WC μ)).trans (L.kept.frames fun b hb=>.inl hb) fun b hb=>?_
   rcases hb with q | rfl
   ·exact WC.ext x1 (by rw [<- hμ1];rfl) q
   ·exact .inr (EH _)
  ·rw [<- hμ2]
   show (μ'.objs++[_])[σ'.length]? = _
   rw [<- hlen];exact EV
end
end
section
variable {C:Cx} {lv:Lv} {N:aE} {ρ ρ₁ ρ₂:aO} {σ σ₁ σ₂:aC} {X:String}
theorem ur {t:Expr} {x y:List Stmt} {pos:Pos} (h:aY C lv N t ρ σ true ρ₁ σ₁) (hx:fY C lv N x ρ₁ σ₁ X ρ₂ σ₂):iM C lv N (.If t x y pos) ρ σ X ρ₂ σ₂:=fun A env μ s Q E ok G F hE=>
 wpAny_If (h A env μ s _ _ ok G F fun μ1 s1 P1=>hx A env μ1 s1 _ _ ok P1.good P1.fr (hE.behind G F P1))
end
section
variable {C:Cx} (H:bH C) {fz:List Nat} {σ:aC} {x:Str} {p:Nat} {st:LS} {cs:List Nat} {n2:Nat} {st2:LS} {t2:Str} {q2:Bool}
include H
theorem vF:aP C 1 fz (.ref 842) [.ref σ.length] [] (az σ x p st "") (.ref σ.length) (az σ x p st ""):=by
 wtm_at "Dp"
 case hr=>exact .ret
 case h=>
  dsimp only;refine' a8 (aX ?e)
  case e=>wtm_at "Me"
theorem uQ (hfz:∀ i∈fz,i<σ.length) (hl:x.length<=100000) (hd:x.cps.toList.drop p=cs) (hs:eE cs st "" false=some (n2,st2,t2,q2)) (hq:(!q2 && t2.length==0)=false) :
  aP C 5 fz (.ref 849) [.ref σ.length] [] (az σ x p st "") (.dat (.str t2)) (az σ x (p+n2) st2 ""):=by
 wtm_at "Dp"
 case hr=>exact .ret
 case h=>
  dsimp only;refine' aA (ρ₁:=[some (.ref σ.length),some (.dat (.str t2)),none]) (σ₁:=az σ x (p+n2) st2 "") ?s1 (aA (aN (aY.of ?t ?d) aG) (a8 (aX ?e)))
  case s1=>
   refine' aB (bD ?ho (bC iG (da H) (fd_ H (by kernel_rfl)) (fn_ H (by kernel_rfl)) (by kernel_rfl)) (kp_ H (by kernel_rfl)) bZ (xa H hfz hl hd hs hq) (by show 4<=4;decide) rfl (by intro _;exact ⟨_,rfl⟩)) ?ta (by intro _;rfl) (by intro _;rfl) (by intro _;rfl)
   case ho=>wtm_at "Me"
   case ta=>wtm_at "Ma"
  case t=>wtm_at "Mt"
  case d=>rfl
  case e=>wtm_at "Me"
theorem uU (hfz:∀ i∈fz,i<σ.length) (hl:x.length<=100000) (hd:x.cps.toList.drop p=cs) (hs:eE cs st "" false=some (n2,st2,t2,q2)) (hq:(!q2 && t2.length==0)=true) :
  sn C 5 fz (.ref 849) [.ref σ.length] (az σ x p st "") "StopIteration" (az σ x (p+n2) st2 ""):=by
 refine' um (bH.look H rfl) rfl rfl ?hcd rfl rfl rfl rfl rfl rfl ?hok ?hfree ?hb ?bl ?st ?h
 case hcd=>exact bH.code H (by kernel_rfl)
 case hok=>wtm_at "Mnames"
 case hfree=>decide
 case hb=>(refine' bP.args ?_;wtm_at "Mpeek")
 case bl=>wtm_at "Mblank"
 case st=>(simp only [E6,I8,F5,FT,Fm];wtm_at "Mstall")
 case h=>
  dsimp only;refine' qm (ρ₁:=[some (.ref σ.length),some (.dat .none),none]) (σ₁:=az σ x (p+n2) st2 "") ?s1 (eR (ur (aY.of ?t ?d) (eR ?st)))
  case s1=>
   refine' aB (bD ?ho (bC iG (da H) (fd_ H (by kernel_rfl)) (fn_ H (by kernel_rfl)) (by kernel_rfl)) (kp_ H (by kernel_rfl)) bZ (xc H hfz hl hd hs hq) (by show 4<=4;decide) rfl (by intro _;exact ⟨_,rfl⟩)) ?ta (by intro _;rfl) (by intro _;rfl) (by intro _;rfl)
   case ho=>wtm_at "Me"
   case ta=>wtm_at "Ma"
  case t=>wtm_at "Mt"
  case d=>rfl
  case st=>
   refine' rO ?g (gH H) (gI H) rfl
   case g=>wtm_at "Mglob"
end
theorem aP.up {C:Cx} {m m':Nat} {fz:List Nat} {f:Value} {as:List AV} {ks:List (Str×AV)} {σ σ':aC} {a:AV} (h:aP C m fz f as ks σ a σ') (hm:m<=m'):aP C m' fz f as ks σ a σ':=fun A μ s vs kvs R ok G rv rk hR=>
 h A μ s vs kvs R ok (G.around (fun zz=>G.quiet rfl) rfl (by have:=G.room;dsimp only at this ⊢;omega) (by have:=G.units;dsimp only at this ⊢;omega) G.frs) rv rk fun v μ' s' G' x k r=>hR v μ' s' (G'.around (fun zz=>G.quiet rfl) rfl G.room G.units G'.frs) x k r
section
variable {C:Cx} (H:bH C) {fz:List Nat} {σ:aC} {x:Str}
include H
theorem yp (hfz:∀ i∈fz,i<σ.length) (hl:x.length<=100000):aP C 5 fz (.ref 852) [.dat (.str x)] [("posix",.dat (.bool true))] σ (.ref σ.length) (σ++[.inst 852 (nM (σ.length+1) (σ.length+2) (σ.length+3) "#" false (.str " ") ""),.inst 717 (eN x 0),.raw ba,.raw ba]):=
 jS (BE H) (Ax H) (fn_ H (by kernel_rfl)) .inst (tX H hfz hl)
theorem my {ws:List Str} {k:Nat} (hfz:∀ i∈fz,i<σ.length) (hl:x.length<=100000) (hw:toks k x.cps.toList .S=some ws) (hz:ws.length<=1000) :
  aP C 7 fz (.ref 864) [.dat (.str x)] [] σ (.dat (.list (ws.map .str))) σ:=by
 have hz0:σ.length∉fz:=fun h=>absurd (hfz _ h) (E2 _)
 have ta:=nR k x.cps.toList .S ws hw
 obtain ⟨nE,stE,wE,qE,hE1,hE2⟩:=(ta ws.length).2 rfl
 have' gl:dS C ⟨true,6,fz⟩ (az σ x 0 .S "") (.type "list") [.ref σ.length] (.ref (az σ x ((dR ws.length x.cps.toList .S).1+nE) stE "").length) (az σ x ((dR ws.length x.cps.toList .S).1+nE) stE "" ++ [.list ((ws.map FY).map .dat)]):=by
  refine uu (τ:=fun j=>az σ x (dR j x.cps.toList .S).1 (dR j x.cps.toList .S).2 "") (i:=σ.length) (m:=5) (c:=852) (fN:=849) (fI:=842) (xs:=fun j=>nM (σ.length+1) (σ.length+2) (σ.length+3) "" true (dR j x.cps.toList .S).2.str "")
   (by show 5<6;decide) rfl (fun j zz=>iG) (fd_ H (by kernel_rfl)) (fn_ H (by kernel_rfl)) (fd_ H (by kernel_rfl)) (fn_ H (by kernel_rfl)) (fd_ H (by kernel_rfl)) (fd_ H (by kernel_rfl)) ((vF H).up (by decide)) ?_ ?_ (by simpa using hz)
  ·intro j a ha
   obtain ⟨d,hd,rfl⟩:=kH ha
   rw [Ei] at hd
   obtain ⟨w,hw',rfl⟩:=FL.mp hd;obtain ⟨n,st',q,h1,h2,h3⟩:=(ta j).1 w hw';dsimp only
   rw [h3]
   exact uQ H hfz hl rfl h1 h2
  ·rw [EC,EC]
   exact uU H hfz hl rfl hE1 hE2
 have key:aP C 7 fz (.ref 864) [.dat (.str x)] [] σ (.ref (az σ x ((dR ws.length x.cps.toList .S).1+nE) stE "").length) (az σ x ((dR ws.length x.cps.toList .S).1+nE) stE "" ++ [.list ((ws.map FY).map .dat)]):=by
  wtm_at "De"
  case hb=>
   refine' bP.plain ["s"] [("comments",.bool false),("posix",.bool true)] [("comments",.dat (.bool false)),("posix",.dat (.bool true))] ?_ (fun zz zz=>⟨⟨rfl,[],.bool _⟩,⟨rfl,[],.bool _⟩,trivial⟩)
   intro vs hl S
   (rcases vs with _ | ⟨v1,_ | ⟨v2,vs⟩⟩)<;>first | (cases hl;done) | (rw [bH.K (by assumption)];kernel_rfl)
  case bl=>wtm_at "Mblank"
  case st=>(simp only [F5,FT,Fm,El,EW];wtm_at "Mstall")
  case hr=>exact .ret
  case h=>
   dsimp only;refine' aA (aN (aY.of ?t1 ?d1) aG) (aA (ρ₁:=[some (.dat (.str x)),some (.dat (.bool false)),some (.dat (.bool true)),some (.ref σ.length),none,none,none]) ?s2 (aA (σ₁:=σ++[.inst 852 (nM (σ.length+1) (σ.length+2) (σ.length+3) "#" true (.str " ") ""),.inst 717 (eN x 0),.raw ba,.raw ba]) ?s3 (aA (σ₁:=az σ x 0 .S "") (bL (aY.of ?t4 ?d4) (aF ?s4)) (a8 (aX ?s5)))))
   case t1=>wtm_at "Mt"
   case d1=>rfl
   case s2=>
    refine' aB (ah ?f (kp_ H (by kernel_rfl)) (yT ?x0 ?x1 (by rfl)) (yp H hfz hl) (by show 5<=6;decide) rfl (by intro _;with_unfolding_all rfl)) ?ta (by intro _;rfl) (by intro _;rfl) (by intro _;rfl)
    case f=>wtm_at "Me"
    case x0=>wtm_at "Me"
    case x1=>wtm_at "Me"
    case ta=>wtm_at "Ma"
   case s3=>
    refine' aq.st (aB ?v (b9 ?o ?ss) (by intro _;rfl) (by intro _;rfl) (by intro _;rfl)) ?he
    case v=>wtm_at "Me"
    case o=>wtm_at "Me"
    case ss=>exact bh iG hz0 (da H) (fd_ H (by kernel_rfl)) (ET (by kernel_rfl))
    case he=>rw [fE];kernel_rfl
   case t4=>wtm_at "Mt"
   case d4=>rfl
   case s4=>
    refine' aq.st (aB ?v (b9 ?o ?ss) (by intro _;rfl) (by intro _;rfl) (by intro _;rfl)) ?he
    case v=>wtm_at "Me"
    case o=>wtm_at "Me"
    case ss=>exact bh iG hz0 (da H) (fd_ H (by kernel_rfl)) (ET (by kernel_rfl))
    case he=>rw [fE];kernel_rfl
   case s5=>
    refine' cj ?f ?l gl (by with_unfolding_all rfl)
    case f=>wtm_at "Me"
    case l=>wtm_at "Ml"
 have' e:az σ x ((dR ws.length x.cps.toList .S).1+nE) stE "" ++ [.list ((ws.map FY).map .dat)]=σ++(az [] x 0 .S "").take 0++[.inst 852 (nM (σ.length+1) (σ.length+2) (σ.length+3) "" true stE.str ""),.inst 717 (eN x ((dR ws.length x.cps.toList .S).1+nE)),.raw ba,.raw ba,.list ((ws.map FY).map .dat)]:=by
  unfold az;rw [FH];simp
 have e2:(az σ x ((dR ws.length x.cps.toList .S).1+nE) stE "").length=σ.length+4:=by unfold az;simp
 rw [e,e2,FH] at key
 refine key.pure (.dats (EM _ _) ?_)
 exact iX.trans rfl
end
section
variable {C:Cx} (H:bH C) {fz:List Nat} {σ:aC}
include H
theorem vM {x:Str} {k:Nat} {ls:List Str} {g:Str->List Str} (hfz:∀ i∈fz,i<σ.length) (hl:x.length<=100000) (hw:toks k x.cps.toList .S=some ls) (hz:ls.length<=1000) (h:∀ l∈ls,l.length<=100000/\toks k l.cps.toList .S=some (g l)/\(g l).length<=1000) :
  aP C 9 fz (.ref 972) [.dat (.str x)] [] σ (.dat (.list (ls.map fun l=>.list ((g l).map .str)))) σ:=by
 wtm_at "Dp"
 case hr=>exact .ret
 case h=>
  dsimp only;refine' a8 (aX ?rr)
  case rr=>
   refine' dO ?ck ?hi ?hfr ?hcl ?hbl ?hc ?hz ?hf
   case ck=>wtm_at "Mcompok"
   case hi=>
    refine' fH ?k1 (by with_unfolding_all rfl) (.name (by with_unfolding_all rfl))
    case k1=>
     refine' ah ?f (kp_ H (by kernel_rfl)) (aZ ?l (by with_unfolding_all rfl)) (my H hfz hl hw hz) (by show 7<=8;decide) rfl (by intro _;with_unfolding_all rfl)
     case f=>wtm_at "Me"
     case l=>wtm_at "Ml"
   case hf=>(intro _ _;rfl)
   case hfr=>wtm_at "Mfrees"
   case hcl=>wtm_at "Mclos"
   case hbl=>wtm_at "Mblank"
   case hz=>rw [EC,EO];omega
   case hc=>
    rw [EQ]
    refine' cM rfl ?ha ?hee ?hsu
    case ha=>intro l hw;dsimp only [Function.comp];wtm_at "Ma"
    case hsu=>intro l hw;wtm_at "Msub"
    case hee=>
     intro l hl1;obtain ⟨a1,a2,a3⟩:=h l hl1;refine' ah ?f (kp_ H (by kernel_rfl)) (aZ ?l (by with_unfolding_all rfl)) (my H hfz a1 a2 a3) (by show 7<=8;decide) rfl (by intro _;with_unfolding_all rfl)
     case f=>wtm_at "Me"
     case l=>wtm_at "Ml"
end
section
variable {C:Cx} (H:bH C) {fz:List Nat} {σ:aC}
include H
theorem xP {j:Int} (hfz:∀ i∈fz,i<σ.length):aP C 1 fz (.ref 59) [.ref σ.length,.dat (.int j)] [] (σ++[.slot 63 []]) (.dat .none) (σ++[c9 j 0 (σ.length+1),.list []]):=by
 have hz:σ.length∉fz:=fun h=>absurd (hfz _ h) (E2 _)
 wtm_at "Dp"
 case hr=>exact .nxt
 case h=>
  dsimp only;refine' aA (σ₁:=σ++[.slot 63 [some (.dat (.int j))]]) ?s1 (aA (σ₁:=σ++[.slot 63 [some (.dat (.int j)),some (.dat (.int 0))]]) ?s2 (aF ?s3))
  case s1=>
   refine' aq.st (aB ?v ?t (by intro _;rfl) (by intro _;rfl) (by intro _;rfl)) ?he
   case v=>wtm_at "Me"
   case t=>wtm_at "Ma"
   case he=>rw [fE];rfl
  case s2=>
   refine' aq.st (aB ?v ?t (by intro _;rfl) (by intro _;rfl) (by intro _;rfl)) ?he
   case v=>wtm_at "Me"
   case t=>wtm_at "Ma"
   case he=>rw [fE];rfl
  case s3=>
   refine' aq.st (aB (σ₁:=σ++[.slot 63 [some (.dat (.int j)),some (.dat (.int 0))],.list []]) ?v ?t (by intro _;rfl) (by intro _;rfl) (by intro _;rfl)) ?he
   case v=>
    refine' aH.st (cI ?w ?w2) ?w3
    case w=>wtm_at "Ml"
    case w2=>decide
    case w3=>simp
   case t=>wtm_at "Ma"
   case he=>rw [fE];simp [kU,c9]
theorem A6 {j:Int} (hfz:∀ i∈fz,i<σ.length):aP C 2 fz (.ref 63) [.dat (.int j)] [] σ (.ref σ.length) (σ++[c9 j 0 (σ.length+1),.list []]):=
 jS (CD H) (Ci H) (fn_ H (by kernel_rfl)) .slot (xP H hfz)
theorem xn {k d i:Nat} {j:Int} {xs:List (Str×AV)} {ys:List (Int×AV)} (h1:σ[k]? = some (.inst 160 xs)) (h2:xs.lookup ("_node2info" : Str)=some (AV.ref d)) (h3:σ[d]? = some (.dict ys)) (h4:atA ys j=some (.ref i)) :
  aP C 1 fz (.ref 103) [.ref k,.dat (.int j)] [] σ (.ref i) σ:=by
 wtm_at "Dp"
 case hr=>exact .ret
 case h=>
  dsimp only;refine' aA (aN ?t aG) (a8 (aX ?e))
  case t=>
   refine' ai (i0 ?l ?a) ?r ?o (by with_unfolding_all rfl)
   case l=>
    refine' aH.of (a':=.ref i) (eY ?ho ?hl (gD h3) PySem.F.plainAttrs_dict PySem.F.slot_dict_get PySem.F.type_dict_get (qt h3) (by intro _;with_unfolding_all rfl) (by intro _;with_unfolding_all rfl) (by with_unfolding_all rfl) (by with_unfolding_all rfl)) (by rw [h4];rfl)
    case ho=>wtm_at "Me"
    case hl=>wtm_at "Ml"
   case a=>wtm_at "Ma"
   case r=>wtm_at "Me"
   case o=>wtm_at "Mop"
  case e=>wtm_at "Me"
theorem xZ {k d:Nat} {j:Int} {xs:List (Str×AV)} {ys:List (Int×AV)} (h1:σ[k]? = some (.inst 160 xs)) (h2:xs.lookup ("_node2info" : Str)=some (AV.ref d)) (h3:σ[d]? = some (.dict ys)) (h4:atA ys j=none) (h5:ys.length<=1000) (hd:d∉fz) (hfz:∀ i∈fz,i<σ.length) :
  aP C 3 fz (.ref 103) [.ref k,.dat (.int j)] [] σ (.ref σ.length) (σ.set d (.dict (er ys j (.ref σ.length)))++[c9 j 0 (σ.length+1),.list []]):=by
 have' hdl:d<σ.length:=(EI.mp h3).1
 have h1':(σ++[c9 j 0 (σ.length+1),.list []])[k]? = some (.inst 160 xs):=xS h1
 have' h3':(σ++[c9 j 0 (σ.length+1),.list []])[d]? = some (.dict ys):=xS h3
 wtm_at "Dp"
 case hr=>exact .ret
 case h=>
  dsimp only;refine' aA (bL ?t (aF (aq.st (pd (σ₁:=σ++[c9 j 0 (σ.length+1),.list []]) ?v ?t1 ?t2 (by intro _;rfl) (by intro _;rfl)) ?he))) (a8 (aX ?e))
  case t=>
   refine' aY.of (ai (i0 ?l ?a) ?r ?o (by with_unfolding_all rfl)) ?dd
   case l=>
    refine' aH.of (a':=.dat .none) (eY ?ho ?hl (gD h3) PySem.F.plainAttrs_dict PySem.F.slot_dict_get PySem.F.type_dict_get (qt h3) (by intro _;with_unfolding_all rfl) (by intro _;with_unfolding_all rfl) (by with_unfolding_all rfl) (by with_unfolding_all rfl)) (by rw [h4];rfl)
    case ho=>wtm_at "Me"
    case hl=>wtm_at "Ml"
   case a=>wtm_at "Ma"
   case r=>wtm_at "Me"
   case o=>wtm_at "Mop"
   case dd=>decide
  case v=>
   refine' ah ?f (kp_ H (by kernel_rfl)) (aZ ?l (by with_unfolding_all rfl)) (A6 H hfz) (EH 2) rfl (by intro _;with_unfolding_all rfl)
   case f=>wtm_at "Me"
   case l=>wtm_at "Ml"
  case t1=>
   refine' iJ ?k1 ?k2 h3' hd h5 (by intro _ _ _;rfl)
   case k1=>wtm_at "Me"
   case k2=>wtm_at "Me"
  case t2=>wtm_at "Ma"
  case he=>rw [yg hdl]
  case e=>wtm_at "Me"
end
section
variable {C:Cx} (H:bH C) {fz:List Nat} {σ:aC}
include H
theorem yR (hfz:∀ i∈fz,i<σ.length):aP C 1 fz (.ref 96) [.ref σ.length] [] (σ++[.inst 160 []]) (.dat .none) (σ++(bd σ.length (.dat .none) 0 0 []++[])):=by
 have hz:σ.length∉fz:=fun h=>absurd (hfz _ h) (E2 _)
 wtm_at "De"
 case hb=>
  refine' bP.plain ["self"] [("graph",.none)] [("graph",.dat .none)] ?_ (fun zz zz=>⟨⟨rfl,[],.none⟩,trivial⟩)
  intro vs hl S
  (rcases vs with _ | ⟨v1,_ | ⟨v2,vs⟩⟩)<;>first | (cases hl;done) | (rw [bH.K (by assumption)];kernel_rfl)
 case bl=>wtm_at "Mblank"
 case st=>(simp only [F5,FT,Fm,El,EW];wtm_at "Mstall")
 case hr=>exact .nxt
 case h=>
  dsimp only;refine' aA (σ₁:=σ++[.inst 160 [("_node2info",.ref (σ.length+1))],.dict []]) ?s1 (aA (σ₁:=σ++[.inst 160 [("_node2info",.ref (σ.length+1)),("_ready_nodes",.dat .none)],.dict []]) ?s2 (aA (σ₁:=σ++[.inst 160 [("_node2info",.ref (σ.length+1)),("_ready_nodes",.dat .none),("_npassedout",.dat (.int 0))],.dict []]) ?s3 (aA (σ₁:=σ++(bd σ.length (.dat .none) 0 0 []++[])) ?s4 (aF ?s5))))
  case s1=>
   refine' aq.st (aB (σ₁:=σ++[.inst 160 [],.dict []]) ?v ?t (by intro _;rfl) (by intro _;rfl) (by intro _;rfl)) ?he
   case v=>
    refine' aH.st mJ ?w3
    case w3=>simp
   case t=>wtm_at "Ma"
   case he=>rw [fE];simp [lz]
  case s2=>
   refine' aq.st (aB ?v ?t (by intro _;rfl) (by intro _;rfl) (by intro _;rfl)) ?he
   case v=>wtm_at "Me"
   case t=>wtm_at "Ma"
   case he=>rw [fE];rfl
  case s3=>
   refine' aq.st (aB ?v ?t (by intro _;rfl) (by intro _;rfl) (by intro _;rfl)) ?he
   case v=>wtm_at "Me"
   case t=>wtm_at "Ma"
   case he=>rw [fE];rfl
  case s4=>
   refine' aq.st (aB ?v ?t (by intro _;rfl) (by intro _;rfl) (by intro _;rfl)) ?he
   case v=>wtm_at "Me"
   case t=>wtm_at "Ma"
   case he=>rw [fE];rfl
  case s5=>
   refine' aN (aY.of ?t ?d) aG
   case t=>wtm_at "Mt"
   case d=>decide
theorem uR (hfz:∀ i∈fz,i<σ.length):aP C 2 fz (.ref 160) [] [] σ (.ref σ.length) (σ++(bd σ.length (.dat .none) 0 0 []++[])):=
 jS (BW H) (B2 H) (fn_ H (by kernel_rfl)) .inst (yR H hfz)
end
noncomputable def eQ (n:Nat) (l:List Nd) (p:Nat):List Nd:=match l[p]? with
 | some x=>l.set p ⟨x.np,x.sc++[n]⟩
 | none=>l
noncomputable def jz (nds:List Nd) (preds:List Nat):List Nd:=preds.foldl (eQ nds.length) (nds++[⟨preds.length,[]⟩])
theorem u0 (n:Nat) (l:List Nd) (p:Nat):(eQ n l p).length=l.length:=by unfold eQ;split<;>simp
theorem lW (n:Nat):∀ (ps:List Nat) (l:List Nd),(ps.foldl (eQ n) l).length=l.length:=by
 intro ps
 induction ps with
 | nil=>exact fun zz=>rfl
 | cons p ps ih=>
  intro l
  rw [Fh,ih,u0]
set_option tactic.hygienic true in
theorem xJ {n:Nat} {l:List Nd} {p m:Nat} (h:∀ x∈l,x.sc.length<=m):∀ x∈eQ n l p,x.sc.length<=m+1:=by
 unfold eQ
 split
 ·rename_i y hy
  intro x hx
  rcases J7 hx with hx | rfl
  ·exact Fi (h x hx)
  ·have:=h y (EK hy)
   simp;omega
 ·exact fun x hx=>Fi (h x hx)
theorem mP {n:Nat}:∀ (ps:List Nat) (l:List Nd) (m:Nat),(∀ x∈l,x.sc.length<=m)->∀ x∈ps.foldl (eQ n) l,x.sc.length<=m+ps.length:=by
 intro ps
 induction ps with
 | nil=>exact fun zz zz h=>h
 | cons p ps ih=>
  intro l m h
  rw [Fh,EX]
  intro x hx;have:=ih (eQ n l p) (m+1) (xJ h) x hx
  omega
section
variable {C:Cx} (H:bH C) {fz:List Nat} {σ:aC}
include H
theorem B6 {nds:List Nd} {preds:List Nat} (hp:∀ p∈preds,p<nds.length) (hl:preds.length<=4) (hn:nds.length<=100) (hsc:∀ x∈nds,x.sc.length<=100) (hfz:∀ i∈fz,i<σ.length) :
  aP C 5 fz (.ref 110) (.ref σ.length :: .dat (.int nds.length) :: (preds.map nD).map .dat) [] (σ++(bd σ.length (.dat .none) 0 0 nds++[])) (.dat .none) (σ++(bd σ.length (.dat .none) 0 0 (jz nds preds)++[])):=by
 have hfz2:∀ i∈fz,i<(σ++(bd σ.length (.dat .none) 0 0 nds++[])).length:=fun i hi=>by rw [EU];exact Nat.lt_add_right _ (hfz i hi)
 have hz1:σ.length+1∉fz:=fun h=>by have:=hfz _ h;omega
 have hz2:∀ i,σ.length+2+i∉fz:=fun i h=>by have:=hfz _ h;omega
 have hz3:∀ i,σ.length+3+i∉fz:=fun i h=>by have:=hfz _ h;omega
 have hlen:(σ++(bd σ.length (.dat .none) 0 0 nds++[])).length=σ.length+2+2 * nds.length:=by rw [FF,EU,cR];omega
 wtm_at "De"
 case hb=>
  refine' bP.var ["self", "node"] "predecessors" 2 (preds.map nD) rfl ?_;intro vs hv S
  rw [EX,EX,EC,EC] at hv
  (rcases vs with _ | ⟨v1,_ | ⟨v2,_ | ⟨v3,_ | ⟨v4,_ | ⟨v5,_ | ⟨v6,_ | ⟨v7,vs⟩⟩⟩⟩⟩⟩⟩)<;>first | (exfalso;simp only [EX,KR] at hv;omega;done) | (rw [bH.K (by assumption)];exact ⟨fun D=>some (_++[(_,.ref D)]),by kernel_rfl,fun zz=>rfl⟩)
 case bl=>wtm_at "Mblank"
 case st=>(simp only [F5,FT,Fm,El,EW];wtm_at "Mstall")
 case hr=>exact .nxt
 case h=>
  dsimp only;have hnew:(nds++[(⟨0,[]⟩:Nd)])[nds.length]? = some ⟨0,[]⟩:=EV;refine' aA (aN (aY.of ?t0 ?d0) aG) (aA (σ₁:=σ++(bd σ.length (.dat .none) 0 0 (nds++[⟨0,[]⟩])++[])) ?s1 (aA (σ₁:=σ++(bd σ.length (.dat .none) 0 0 (nds++[⟨preds.length,[]⟩])++[])) ?s2 (aF ?s3)))
  case t0=>wtm_at "Mt"
  case d0=>decide
  case s1=>
   refine' aB (a:=.ref (σ.length+2+2 * nds.length)) ?v ?t (by intro _;rfl) (by intro _;rfl) (by intro _;rfl)
   case v=>
    have cg:=xZ H (fz:=fz) (σ:=σ++(bd σ.length (.dat .none) 0 0 nds++[])) (k:=σ.length) (d:=σ.length+1) (j:=nds.length) dH rfl fm uc (by simp [gY];omega) hz1 hfz2
    rw [hlen,wh,Ar] at cg
    refine' bD ?ho (bC dH (bv H) (fd_ H (by kernel_rfl)) (fn_ H (by kernel_rfl)) rfl) (kp_ H (by kernel_rfl)) (aZ ?l (by with_unfolding_all rfl)) cg (Eg 3) rfl (by intro _;exact ⟨_,rfl⟩)
    case ho=>wtm_at "Me"
    case l=>wtm_at "Ml"
   case t=>wtm_at "Ma"
  case s2=>
   refine' aq.st (fM ?o ?g ?v (OpG.of2 oG) ?ss) ?he
   case o=>wtm_at "Me"
   case g=>exact dB (eh hnew) (eL H) (iP H) rfl
   case v=>
    have hz:(((preds.map nD).length:Nat):Int)<2 ^ 63:=by rw [EC];omega
    wtm_at "Me"
   case ss=>exact gR (eh hnew) (hz2 _) (eL H) (iP H) (by decide)
   case he=>
    have e1:=qJ (σ:=σ) (post:=[]) (rd:=.dat .none) (po:=0) (nf:=0) hnew ((0:Int)+((preds.map nD).length:Nat));have' e2:(nds++[(⟨0,[]⟩:Nd)]).set nds.length (⟨(0:Int)+((preds.map nD).length:Nat),[]⟩:Nd)=nds++[⟨preds.length,[]⟩]:=by
     rw [Ee _ _ (EH _),Fx];simp
    rw [e2] at e1
    exact e1
  case s3=>
   refine' bq (ls:=[]) ?hi ?hf (by intro _ _;rfl)
   case hi=>wtm_at "Mi"
   case hf=>
    dsimp only [EW]
    rw [EQ]
    obtain ⟨S,hS⟩:∃ S:List Nat->aC,∀ q,S q=σ++(bd σ.length (.dat .none) 0 0 (q.foldl (eQ nds.length) (nds++[⟨preds.length,[]⟩]))++[]):=⟨_,fun zz=>rfl⟩
    have e0:σ++(bd σ.length (.dat .none) 0 0 (nds++[⟨preds.length,[]⟩])++[])=S []:=by rw [hS];rfl
    have e9:σ++(bd σ.length (.dat .none) 0 0 (jz nds preds)++[])=S preds:=by rw [hS];rfl
    rw [e0,e9]
    refine' cU (S:=S) ?ha ?hb
    case ha=>intro pre x post hx;dsimp only [Function.comp];wtm_at "Ma"
    case hb=>
     intro pre x post hx;have hxn:x<nds.length:=hp x (by rw [hx];simp)
     have hpl:pre.length<=4:=by have:=congrArg Hn hx;simp at this;omega
     have' hll:=lW nds.length pre (nds++[⟨preds.length,[]⟩])
     rw [hS,hS,G6,Fh,J3]
     have' hsc2:=mP (n:=nds.length) pre (nds++[⟨preds.length,[]⟩]) 100 (fun y hy=>by
      rcases ED.mp hy with hy | hy
      ·exact hsc y hy
      ·rw [EG.mp hy];exact Ek _)
     generalize pre.foldl (eQ nds.length) (nds++[⟨preds.length,[]⟩])=cur at *
     rw [EU,Ef] at hll
     have hxc:cur[x]? = some (cur[x]'(by omega)):=by simp
     generalize (cur[x]'(by omega))=y at hxc
     have e3:eQ nds.length cur x=cur.set x ⟨y.np,y.sc++[nds.length]⟩:=by unfold eQ;rw [hxc]
     have hyl:=hsc2 y (EK hxc)
     rw [e3]
     refine' ay.sub (aA ?u1 (aF ?u2)) ?sb
     case u1=>
      refine' aB (a:=.ref (σ.length+2+2 * x)) ?v ?t (by intro _;rfl) (by intro _;rfl) (by intro _;rfl)
      case v=>
       have' cg:=xn H (fz:=fz) (σ:=σ++(bd σ.length (.dat .none) 0 0 cur++[])) (k:=σ.length) (d:=σ.length+1) (j:=x) dH rfl fm (jK (by omega))
       refine' bD ?ho (bC dH (bv H) (fd_ H (by kernel_rfl)) (fn_ H (by kernel_rfl)) rfl) (kp_ H (by kernel_rfl)) (aZ ?l (by with_unfolding_all rfl)) cg (by show 1<=4;decide) rfl (by intro _;exact ⟨_,rfl⟩)
       case ho=>wtm_at "Me"
       case l=>wtm_at "Ml"
      case t=>wtm_at "Ma"
     case u2=>
      refine' aq.st (bR (bc (i:=σ.length+3+2 * x) (xs:=y.sc.map bW) (a:=.dat (.int nds.length)) ?ho ?hv ⟨_,iu hxc⟩ (iu hxc) (hz3 _) ?hsz) (by intro _;rfl)) ?he
      case ho=>
       refine' bV ?k1 (dB (eh hxc) (eL H) (tG H) rfl rfl) (by intro _;with_unfolding_all rfl)
       case k1=>wtm_at "Me"
      case hv=>wtm_at "Me"
      case hsz=>rw [EC,EO];omega
      case he=>
       have:=ve (σ:=σ) (post:=[]) (rd:=.dat .none) (po:=0) (nf:=0) hxc (y.sc++[nds.length])
       rw [Eh] at this
       exact this
     case sb=>wtm_at "Msub"
end
noncomputable def bA (row:List Nat) (b:Nat->Nat->Bool) (p:Nat):List Nat:=(EN p).filter fun at_=>b (row.getD at_ 0) (row.getD p 0)
noncomputable def bp (row:List Nat) (b:Nat->Nat->Bool) (n:Nat):List Nd:=(EN n).foldl (fun nds p=>jz nds (bA row b p)) []
theorem vH (nds:List Nd) (preds:List Nat):(jz nds preds).length=nds.length+1:=by unfold jz;rw [lW];simp
theorem fv (row:List Nat) (b:Nat->Nat->Bool) (n:Nat):bp row b (n+1)=jz (bp row b n) (bA row b n):=by unfold bp;rw [HF,G6];rfl
theorem cT (row:List Nat) (b:Nat->Nat->Bool):∀ n,(bp row b n).length=n:=by
 intro n
 induction n with
 | zero=>rfl
 | succ n ih=>rw [fv,vH,ih]
theorem kB (row:List Nat) (b:Nat->Nat->Bool) (p:Nat):(bA row b p).length<=p:=by
 have:=FI (fun at_=>b (row.getD at_ 0) (row.getD p 0)) (EN p)
 rwa [FR] at this
theorem xC (row:List Nat) (b:Nat->Nat->Bool):∀ n,∀ x∈bp row b n,x.sc.length<=n * n:=by
 intro n
 induction n with
 | zero=>exact fun x hx=>by cases hx
 | succ n ih=>
  intro x hx
  rw [fv] at hx
  unfold jz at hx
  have h:=mP (n:=(bp row b n).length) (bA row b n) (bp row b n++[⟨(bA row b n).length,[]⟩]) (n * n) (fun y hy=>by
   rcases ED.mp hy with hy | hy
   ·exact ih y hy
   ·rw [EG.mp hy];exact Ek _) x hx
  have:=kB row b n;have:(n+1) * (n+1)=n * n+n+n+1:=by rw [Nat.add_mul,Nat.mul_add];omega
  omega
section
variable {C:Cx} (H:bH C) {fz:List Nat} {σ:aC}
include H
theorem ju {row:List Nat} {b:Nat->Nat->Bool} (hr:row.length=5) (hr4:∀ x∈row,x<4) (hfz:∀ i∈fz,i<σ.length) :
  aP C 7 fz (.ref 925) [.dat (bf row),.dat (cy b)] [] σ (.ref σ.length) (σ++(bd σ.length (.dat .none) 0 0 (bp row b 5)++[])):=by
 unfold bf cy
 wtm_at "Dp"
 case hr=>exact .ret
 case h=>
  dsimp only;obtain ⟨S,hS⟩:∃ S:List Nat->aC,∀ q,S q=σ++(bd σ.length (.dat .none) 0 0 (bp row b q.length)++[]):=⟨_,fun zz=>rfl⟩
  refine' aA (σ₁:=S []) ?s1 (aA (σ₁:=S (EN 5)) ?s2 (ay.st (σ₁:=S (EN 5)) (a8 (aX ?s3)) ?s4))
  case s4=>rw [hS,FR]
  case s1=>
   refine' aq.st (aB ?v ?t (by intro _;rfl) (by intro _;rfl) (by intro _;rfl)) ?he
   case v=>
    refine' ah ?f (kp_ H (by kernel_rfl)) bZ (uR H hfz) (by show 2<=6;decide) rfl (by intro _;with_unfolding_all rfl)
    case f=>wtm_at "Me"
   case t=>wtm_at "Ma"
   case he=>rw [hS];rfl
  case s2=>
   refine' bq (ls:=[]) ?hi ?hf (by intro _ _;rfl)
   case hi=>
    have h1:(5:Int)<2 ^ 62:=by decide
    have h2:-(2 ^ 62)<=(5:Int):=by decide
    wtm_at "Mi"
   case hf=>
    rw [show ((5:Int)).toNat=5 from rfl,dF]
    dsimp only [EW];refine' cU (S:=S) ?ha ?hb
    case ha=>intro pre p post hx;wtm_at "Ma"
    case hb=>
     intro pre p post hx;obtain ⟨hpl,hp5⟩:=eJ hx;subst hpl;have' hl4:pre.length<row.length:=by omega
     have e2:=fc hl4;have x0:(0:Int)<=(pre.length:Int):=E4 _;have x1:(pre.length:Int)<2 ^ 63:=by omega
     have' hy4:row.getD pre.length 0<4:=gx hr4;have y0:(0:Int)<=((row.getD pre.length 0:Nat):Int):=E4 _;have y1:((row.getD pre.length 0:Nat):Int)<2 ^ 63:=by omega
     have hnl:=cT row b pre.length;have hps:=kB row b pre.length
     rw [hS,hS,EU,Ef,fv]
     have ca:=B6 H (fz:=fz) (σ:=σ) (nds:=bp row b pre.length) (preds:=bA row b pre.length) (fun p hp=>by rw [hnl];exact Ec.mp ((FV.mp hp).1)) (by omega) (by omega) (fun x hx=>by
      have:=xC row b pre.length x hx;have:pre.length * pre.length<=4 * 4:=Nat.mul_le_mul (by omega) (by omega)
      omega) hfz
     rw [hnl] at ca
     refine' ay.sub (aF (bR (mq ?ho dH (bv H) (fd_ H (by kernel_rfl)) (sp_ H (by kernel_rfl)) (tk_ H (by kernel_rfl)) (by decide +kernel) rfl (fi_ H (by kernel_rfl)) (fn_ H (by kernel_rfl)) (by intro _;rfl) (r9 ?x ?c .list ?hz (by with_unfolding_all rfl)) ca (by show 5<6;decide) rfl (by intro _;with_unfolding_all rfl)) (by intro _;rfl))) ?sb
     case ho=>wtm_at "Me"
     case x=>wtm_at "Me"
     case hz=>rw [EC,EO];omega
     case c=>
      have h1:((pre.length:Nat):Int)<2 ^ 62:=by omega
      have h2:-(2 ^ 62)<=((pre.length:Nat):Int):=by omega
      wtm_at "Dc"
      case hz=>rw [EC,EO];omega
      case hc=>
       rw [show (((pre.length:Nat):Int)).toNat=pre.length by omega,dF]
       refine' cV ?ha ?ht ?he ?hs
       case ha=>intro a ha;wtm_at "Ma"
       case hs=>intro a ha;wtm_at "Msub"
       case he=>intro a ha _;wtm_at "Me"
       case ht=>
        intro a ha;have hal:a<row.length:=by have:=Ec.mp ha;omega
        have f2:=fc hal;have a0:(0:Int)<=(a:Int):=E4 _;have a1:(a:Int)<2 ^ 63:=by omega
        have' hz4:row.getD a 0<4:=gx hr4;have z0:(0:Int)<=((row.getD a 0:Nat):Int):=E4 _;have z1:((row.getD a 0:Nat):Int)<2 ^ 63:=by omega
        have f3:=ib (b:=b) hz4;have f4:=jM (b:=b (row.getD a 0)) hy4;refine ci ?_;wtm_at "Mt"
     case sb=>wtm_at "Msub"
  case s3=>rw [hS];wtm_at "Me"
end
section
variable {C:Cx} (H:bH C) {fz:List Nat} {σ:aC}
include H
theorem lP {Z post:aC} {rd:List Nat} {po nf:Int} {nds:List Nd} (hr:∀ p∈rd,p<nds.length) (hl:rd.length<=100) (hn:nds.length<=100) (hfz:∀ i∈fz,i<Z.length) :
  aP C 2 fz (.ref 122) [.ref Z.length] [] (so5 Z rd po nf nds post) (.dat (.tuple (rd.map nD))) (so5 Z [] (po+rd.length) nf (rd.foldl (bO (-1)) nds) post):=by
 have' hz0:Z.length∉fz:=fun h=>absurd (hfz _ h) (E2 _)
 have hz2:∀ i,Z.length+2+i∉fz:=fun i h=>by have:=hfz _ h;omega
 wtm_at "Dp"
 case hr=>exact .ret
 case h=>
  dsimp only;have hL:=eK (-1) rd nds;refine' aA (aN (aY.of ?t0 ?d0) aG) (aA ?s1 (aA ?s2 (aA (σ₁:=so5 Z rd po nf (rd.foldl (bO (-1)) nds) post) ?s3 (aA (σ₁:=so5 Z [] po nf (rd.foldl (bO (-1)) nds) post) ?s4 (aA (σ₁:=so5 Z [] (po+rd.length) nf (rd.foldl (bO (-1)) nds) post) ?s5 (a8 (aX ?s6)))))))
  case t0=>wtm_at "Mt"
  case d0=>rfl
  case s1=>
   refine' aB ?v ?t (by intro _;rfl) (by intro _;rfl) (by intro _;rfl)
   case v=>
    refine' cj ?f ?l (vg (ds:=rd.map nD) (qA.trans (by rw [zd])) (by rw [EC,EO];omega)) (by with_unfolding_all rfl)
    case f=>wtm_at "Me"
    case l=>wtm_at "Ml"
   case t=>wtm_at "Ma"
  case s2=>
   refine' aB ?v ?t (by intro _;rfl) (by intro _;rfl) (by intro _;rfl)
   case v=>wtm_at "Me"
   case t=>wtm_at "Ma"
  case s3=>
   refine' bq (ls:=[]) ?hi ?hf (by intro _ _;rfl)
   case hi=>wtm_at "Mi"
   case hf=>
    dsimp only [EW]
    rw [EQ]
    obtain ⟨S,hS⟩:∃ S:List Nat->aC,∀ q,S q=so5 Z rd po nf (q.foldl (bO (-1)) nds) post:=⟨_,fun zz=>rfl⟩
    have e0:so5 Z rd po nf nds post=S []:=by rw [hS];rfl
    rw [e0,<- hS]
    refine' cU (S:=S) ?ha ?hb
    case ha=>intro pre x post' hx;dsimp only [Function.comp];wtm_at "Ma"
    case hb=>
     intro pre x post' hx;have hxn:x<nds.length:=hr x (by rw [hx];simp)
     have hll:=eK (-1) pre nds
     rw [hS,hS,G6,Fh,J3]
     generalize pre.foldl (bO (-1)) nds=cur at *
     have hxc:cur[x]? = some (cur[x]'(by omega)):=by simp
     generalize (cur[x]'(by omega))=y at hxc
     have e3:bO (-1) cur x=cur.set x ⟨-1,y.sc⟩:=by unfold bO;rw [hxc]
     rw [e3]
     refine' ay.sub (aF (aq.st (aB (a:=.dat (.int (-1))) (aH.int (t:=334) ?v) (b9 (fh ?k1 ?k2 im (jK (by omega)) (by intro _ _;with_unfolding_all rfl)) (gR (en hxc) (hz2 _) (eL H) (iP H) (by decide))) (by intro _;rfl) (by intro _;rfl) (by intro _;rfl)) ?he)) ?sb
     case v=>wtm_at "Me"
     case k1=>wtm_at "Me"
     case k2=>wtm_at "Me"
     case he=>exact kW hxc (-1)
     case sb=>wtm_at "Msub"
  case s4=>
   have h2:=qA (Z:=Z) (rd:=rd) (po:=po) (nf:=nf) (nds:=rd.foldl (bO (-1)) nds) (post:=post);refine' aq.st (bR (jU (T := "list") (a:=.ref (Z.length+2+2 * (rd.foldl (bO (-1)) nds).length)) (σ₁:=so5 Z rd po nf (rd.foldl (bO (-1)) nds) post) ?ho (dI h2) PySem.F.plainAttrs_list PySem.F.slot_list_clear PySem.F.type_list_clear (xX h2 ?hz ?hsz) (by intro _;with_unfolding_all rfl) (by with_unfolding_all rfl)) (by intro _;rfl)) ?he
   case ho=>wtm_at "Me"
   case hz=>exact hz2 _
   case hsz=>rw [EC,EO];omega
   case he=>exact pn (rd':=[])
  case s5=>
   refine' aq.st (fM ?o ?g ?v (OpG.of2 oG) ?ss) ?he
   case o=>wtm_at "Me"
   case g=>exact cJ cN (bv H) (fd_ H (by kernel_rfl)) rfl rfl
   case v=>
    have hz:(((rd.map nD).length:Nat):Int)<2 ^ 63:=by rw [EC];omega
    wtm_at "Me"
   case ss=>exact bh cN hz0 (bv H) (fd_ H (by kernel_rfl)) (by show 4<1000;decide)
   case he=>
    have:=kl (Z:=Z) (post:=post) (rd:=[]) (po:=po) (nf:=nf) (nds:=rd.foldl (bO (-1)) nds) (po':=po+((rd.map nD).length:Nat)) (nf':=nf)
    rw [EC] at this
    rw [EC]
    exact this
  case s6=>wtm_at "Me"
theorem gB {Z post:aC} {rd:List Nat} {po nf:Int} {nds:List Nd} (hl:rd.length<=1000) :
  aP C 2 fz (.ref 129) [.ref Z.length] [] (so5 Z rd po nf nds post) (.dat (.bool (decide (nf<po) || !rd.isEmpty))) (so5 Z rd po nf nds post):=by
 wtm_at "Dp"
 case hr=>exact .ret
 case h=>
  dsimp only;refine' aA (aN (aY.of ?t0 ?d0) aG) (a8 (aX (aH.of (oP ?x ?y) ?e)))
  case t0=>wtm_at "Mt"
  case d0=>rfl
  case x=>wtm_at "Me"
  case y=>
   intro _;refine' cj ?f ?l (zI qA (by rw [EC];exact hl)) (by with_unfolding_all rfl)
   case f=>wtm_at "Me"
   case l=>wtm_at "Ml"
  case e=>cases rd<;>rfl
end
noncomputable def eF (s:List Nd×List Nat) (j:Nat):List Nd×List Nat:=match s.1[j]? with
 | some x=>(s.1.set j ⟨x.np - 1,x.sc⟩,if x.np - 1==0 then s.2++[j] else s.2)
 | none=>s
noncomputable def av (s:List Nd×List Nat) (i:Nat):List Nd×List Nat:=match s.1[i]? with
 | some x=>x.sc.foldl eF (s.1.set i ⟨-2,x.sc⟩,s.2)
 | none=>s
theorem ix {l:List Nd} {j:Nat} {x:Nd} {np:Int} (h:l[j]? = some x):(l.set j ⟨np,x.sc⟩).map (·.sc)=l.map (·.sc):=by
 rw [LR]
 refine I6 fun i=>?_
 by_cases hi:i=j
 ·subst hi
  have' hl:=(EI.mp h).1
  rw [F6 (by rw [EC];exact hl),Ei,h];rfl
 ·rw [Fj (Ne.symm hi)]
set_option tactic.hygienic true in
theorem zK (s:List Nd×List Nat) (j:Nat):(eF s j).1.map (·.sc)=s.1.map (·.sc)/\(eF s j).2.length<=s.2.length+1:=by
 unfold eF
 split
 ·rename_i x hx
  refine ⟨ix hx,?_⟩;dsimp only
  split
  ·simp
  ·exact Eg _
 ·exact ⟨rfl,Eg _⟩
theorem kj:∀ (js:List Nat) (s:List Nd×List Nat),(js.foldl eF s).1.map (·.sc)=s.1.map (·.sc)/\(js.foldl eF s).2.length<=s.2.length+js.length:=by
 intro js
 induction js with
 | nil=>exact fun zz=>⟨rfl,EH _⟩
 | cons j js ih=>
  intro s;have h1:=ih (eF s j);have h2:=zK s j
  rw [Fh,EX]
  exact ⟨h1.1.trans h2.1,by omega⟩
theorem nV {l l':List Nd} (h:l.map (·.sc)=l'.map (·.sc)):l.length=l'.length:=by have:=congrArg Hn h;simpa using this
theorem yJ {l l':List Nd} (h:l.map (·.sc)=l'.map (·.sc)) {i:Nat} {x:Nd} (hx:l[i]? = some x):∃ y∈l',y.sc=x.sc:=by
 have h1:(l.map (·.sc))[i]? = some x.sc:=by rw [Ei,hx];rfl
 rw [h,Ei] at h1
 obtain ⟨y,hy,e⟩:=FL.mp h1
 exact ⟨y,EK hy,e⟩
set_option tactic.hygienic true in
theorem rn (s:List Nd×List Nat) (i m:Nat) (hm:∀ x∈s.1,x.sc.length<=m):(av s i).1.map (·.sc)=s.1.map (·.sc)/\(av s i).2.length<=s.2.length+m:=by
 unfold av
 split
 ·rename_i x hx
  have h:=kj x.sc (s.1.set i ⟨-2,x.sc⟩,s.2);have:=hm x (EK hx);exact ⟨h.1.trans (ix hx),by have:=h.2;dsimp only at this;omega⟩
 ·exact ⟨rfl,EM _ _⟩
theorem vd:∀ (is:List Nat) (s:List Nd×List Nat) (m:Nat),(∀ x∈s.1,x.sc.length<=m)->(is.foldl av s).1.map (·.sc)=s.1.map (·.sc)/\(is.foldl av s).2.length<=s.2.length+m * is.length:=by
 intro is
 induction is with
 | nil=>exact fun zz zz zz=>⟨rfl,EM _ _⟩
 | cons i is ih=>
  intro s m hm;have h2:=rn s i m hm;have h1:=ih (av s i) m (fun x hx=>by
   obtain ⟨k,hk⟩:=Iv hx;obtain ⟨y,hy,e⟩:=yJ h2.1 hk
   rw [<- e];exact hm y hy)
  rw [Fh,EX,Nat.mul_add]
  exact ⟨h1.1.trans h2.1,by omega⟩
section
variable {C:Cx} (H:bH C) {fz:List Nat} {σ:aC}
include H
theorem wH {Z post:aC} {rd:List Nat} {po nf:Int} {nds:List Nd} {is:List Nat} (hl:is.length<=5) (hrl:rd.length<=100) (hn:nds.length<=100) (hsl:∀ x∈nds,x.sc.length<=100) (hsc:∀ x∈nds,∀ j∈x.sc,j<nds.length)
  (hst:∀ pre x post,is=pre++x :: post->∃ y,(pre.foldl av (nds,rd)).1[x]? = some y/\y.np=-1) (hfz:∀ i∈fz,i<Z.length) :
  aP C 2 fz (.ref 143) (.ref Z.length :: (is.map nD).map .dat) [] (so5 Z rd po nf nds post) (.dat .none) (so5 Z (is.foldl av (nds,rd)).2 po (nf+is.length) (is.foldl av (nds,rd)).1 post):=by
 have' hz0:Z.length∉fz:=fun h=>absurd (hfz _ h) (E2 _)
 have hz2:∀ i,Z.length+2+i∉fz:=fun i h=>by have:=hfz _ h;omega
 wtm_at "De"
 case hb=>
  refine' bP.var ["self"] "nodes" 1 (is.map nD) rfl ?_;intro vs hv S
  rw [EX,EC,EC] at hv
  (rcases vs with _ | ⟨v1,_ | ⟨v2,_ | ⟨v3,_ | ⟨v4,_ | ⟨v5,_ | ⟨v6,_ | ⟨v7,vs⟩⟩⟩⟩⟩⟩⟩)<;>first | (exfalso;simp only [EX,KR] at hv;omega;done) | (rw [bH.K (by assumption)];exact ⟨fun D=>some (_++[(_,.ref D)]),by kernel_rfl,fun zz=>rfl⟩)
 case bl=>wtm_at "Mblank"
 case st=>(simp only [F5,FT,Fm,El,EW];wtm_at "Mstall")
 case hr=>exact .nxt
 case h=>
  dsimp only;refine' aA (aN (aY.of ?t0 ?d0) aG) (aA ?s1 (aF ?s2))
  case t0=>wtm_at "Mt"
  case d0=>rfl
  case s1=>
   refine' aB ?v ?t (by intro _;rfl) (by intro _;rfl) (by intro _;rfl)
   case v=>wtm_at "Me"
   case t=>wtm_at "Ma"
  case s2=>
   refine' bq (ls:=[]) ?hi ?hf (by intro _ _;rfl)
   case hi=>wtm_at "Mi"
   case hf=>
    dsimp only [EW]
    rw [EQ]
    obtain ⟨S,hS⟩:∃ S:List Nat->aC,∀ q,S q=so5 Z (q.foldl av (nds,rd)).2 po (nf+q.length) (q.foldl av (nds,rd)).1 post:=⟨_,fun zz=>rfl⟩
    have e0:so5 Z rd po nf nds post=S []:=by rw [hS];simp
    rw [e0,<- hS]
    refine' cU (S:=S) ?ha ?hb
    case ha=>intro pre x post' hx;dsimp only [Function.comp];wtm_at "Ma"
    case hb=>
     intro pre i post' hx;obtain ⟨y,hy,hnp⟩:=hst pre i post' hx;have hpl:pre.length<=5:=by have:=congrArg Hn hx;simp at this;omega
     have hD:=vd pre (nds,rd) 100 hsl
     rw [hS,hS,G6,Fh,J3,EU,Ef]
     generalize pre.foldl av (nds,rd)=cur at *
     obtain ⟨cn,cr⟩:=cur;dsimp only at hy hD ⊢
     have' hcl:=nV hD.1;have hin:i<cn.length:=(EI.mp hy).1;obtain ⟨y0,hy0,ey⟩:=yJ hD.1 hy;have hyl:y.sc.length<=100:=ey▸hsl y0 hy0;have hyj:∀ j∈y.sc,j<cn.length:=fun j hj=>by rw [hcl];exact hsc y0 hy0 j (ey▸hj)
     have hcr:cr.length<=100+100 * 5:=by have:100 * pre.length<=100 * 5:=GM _ hpl;omega
     have eD:av (cn,cr) i=y.sc.foldl eF (cn.set i ⟨-2,y.sc⟩,cr):=by unfold av;rw [hy]
     rw [eD]
     generalize hnf:nf+(pre.length:Int)=nf1;have hnf2:nf+((pre.length+1:Nat):Int)=nf1+1:=by rw [<- hnf];push_cast;omega
     rw [hnf2]
     have hi2:(cn.set i ⟨-2,y.sc⟩)[i]? = some ⟨-2,y.sc⟩:=by simp [hin]
     refine' ay.sub (aA (aN (aY.of (ai (i0 ?l ?a) ?r ?o (by with_unfolding_all rfl)) ?d1) aG) (aA ?b2 (aA (aN (aY.of ?t3 ?d3) aG) (aA (σ₁:=so5 Z cr po nf1 (cn.set i ⟨-2,y.sc⟩) post) ?b4 (aA (σ₁:=so5 Z (y.sc.foldl eF (cn.set i ⟨-2,y.sc⟩,cr)).2 po nf1 (y.sc.foldl eF (cn.set i ⟨-2,y.sc⟩,cr)).1 post) ?b5 (aF ?b6)))))) ?sb
     case l=>
      refine' aH.of (a':=.ref (Z.length+2+2 * i)) (eY ?ho ?hl (gD im) PySem.F.plainAttrs_dict PySem.F.slot_dict_get PySem.F.type_dict_get (qt im) (by intro _;with_unfolding_all rfl) (by intro _;with_unfolding_all rfl) (by with_unfolding_all rfl) (by with_unfolding_all rfl)) (by rw [jK hin];rfl)
      case ho=>wtm_at "Me"
      case hl=>wtm_at "Ml"
     case a=>wtm_at "Ma"
     case r=>wtm_at "Me"
     case o=>wtm_at "Mop"
     case d1=>rfl
     case b2=>
      refine' aB ?v ?t (by intro _;rfl) (by intro _;rfl) (by intro _;rfl)
      case v=>
       refine' bV ?k1 (dB (en hy) (eL H) (iP H) rfl rfl) (by intro _;with_unfolding_all rfl)
       case k1=>wtm_at "Me"
      case t=>wtm_at "Ma"
     case t3=>
      refine' ai ?l3 (aH.int (t:=334) ?r3) (OpG.of2 xQ) (by with_unfolding_all rfl)
      case l3=>wtm_at "Me"
      case r3=>wtm_at "Me"
     case d3=>rw [hnp];rfl
     case b4=>
      refine' aq.st (aB (a:=.dat (.int (-2))) (aH.int (t:=337) ?v) (b9 ?k1 (gR (en hy) (hz2 _) (eL H) (iP H) (by decide))) (by intro _;rfl) (by intro _;rfl) (by intro _;rfl)) ?he
      case v=>wtm_at "Me"
      case k1=>wtm_at "Me"
      case he=>exact kW hy (-2)
     case b5=>
      refine' bq (ls:=[Z.length+3+2 * i]) (x8 ?k1 (sZ hi2) (by with_unfolding_all rfl) (by with_unfolding_all rfl)) ?hf2 (by intro _ _;rfl)
      case k1=>
       refine' bV ?k1 (dB (en hi2) (eL H) (tG H) rfl rfl) (by intro _;with_unfolding_all rfl)
       case k1=>wtm_at "Me"
      case hf2=>
       have hz4:∀ j,Z.length+2+2 * j∉[Z.length+3+2 * i]++fz:=fun j h=>by
        rcases ED.mp h with h | h
        ·rw [EG] at h;omega
        ·exact hz2 _ h
       obtain ⟨T,hT⟩:∃ T:List Nat->aC,∀ q,T q=so5 Z (q.foldl eF (cn.set i ⟨-2,y.sc⟩,cr)).2 po nf1 (q.foldl eF (cn.set i ⟨-2,y.sc⟩,cr)).1 post:=⟨_,fun zz=>rfl⟩
       have e0:so5 Z cr po nf1 (cn.set i ⟨-2,y.sc⟩) post=T []:=by rw [hT];rfl
       rw [e0,<- hT]
       refine' cU (v:=bW) (S:=T) ?ha2 ?hb2
       case ha2=>intro pre x post' hx;unfold bW;wtm_at "Ma"
       case hb2=>
        intro pre2 j post2 hx2;have hj:j<cn.length:=hyj j (by rw [hx2];simp)
        have hp2:pre2.length<=100:=by have:=congrArg Hn hx2;simp at this;omega
        have hE:=kj pre2 (cn.set i ⟨-2,y.sc⟩,cr)
        rw [hT,hT,G6,Fh,J3]
        generalize pre2.foldl eF (cn.set i ⟨-2,y.sc⟩,cr)=c2 at *
        obtain ⟨dn,dr⟩:=c2;dsimp only at hE ⊢
        have hdl:dn.length=cn.length:=by rw [nV hE.1,Hc]
        have hxc:dn[j]? = some (dn[j]'(by omega)):=by simp
        generalize (dn[j]'(by omega))=x at hxc
        have eC:eF (dn,dr) j=(dn.set j ⟨x.np - 1,x.sc⟩,if x.np - 1==0 then dr++[j] else dr):=by unfold eF;rw [hxc]
        rw [eC]
        have' hx3:(dn.set j ⟨x.np - 1,x.sc⟩)[j]? = some ⟨x.np - 1,x.sc⟩:=by
         have:j<dn.length:=by omega
         simp [this]
        refine' ay.sub (aA ?u1 (aA (σ₁:=so5 Z dr po nf1 (dn.set j ⟨x.np - 1,x.sc⟩) post) ?u2 (aF (pF (c:=x.np - 1==0) ?u3 ?u4 ?u5)))) ?sb2
        case u1=>
         refine' aB (a:=.ref (Z.length+2+2 * j)) ?v ?t (by intro _;rfl) (by intro _;rfl) (by intro _;rfl)
         case v=>
          have' hjd:j<dn.length:=by omega
          refine' fh ?k1 ?k2 im (jK hjd) (by intro _ _;with_unfolding_all rfl)
          case k1=>wtm_at "Me"
          case k2=>wtm_at "Me"
         case t=>wtm_at "Ma"
        case u2=>
         refine' aq.st (fM ?o ?g ?v (OpG.of2 y9) ?ss) ?he
         case o=>wtm_at "Me"
         case g=>exact dB (en hxc) (eL H) (iP H) rfl rfl
         case v=>wtm_at "Me"
         case ss=>exact gR (en hxc) (hz4 _) (eL H) (iP H) (by decide)
         case he=>exact kW hxc (x.np - 1)
        case u3=>
         refine' ai ?l3 ?r3 (OpG.of2 qz) (by with_unfolding_all rfl)
         case l3=>
          refine' bV ?k1 (dB (en hx3) (eL H) (iP H) rfl rfl) (by intro _;with_unfolding_all rfl)
          case k1=>wtm_at "Me"
         case r3=>wtm_at "Me"
        case u4=>
         intro hc
         rw [if_pos hc]
         have h2:=qA (Z:=Z) (rd:=dr) (po:=po) (nf:=nf1) (nds:=dn.set j ⟨x.np - 1,x.sc⟩) (post:=post);refine' aF (aq.st (bR (bc (i:=Z.length+2+2 * (dn.set j ⟨x.np - 1,x.sc⟩).length) (xs:=dr.map bW) (a:=bW j) ?ho ?hv ⟨_,h2⟩ h2 (hz4 _) ?hsz) (by intro _;rfl)) ?he)
         case ho=>wtm_at "Me"
         case hv=>unfold bW;wtm_at "Me"
         case hsz=>rw [EC,EO];have:=hE.2;omega
         case he=>
          have:=pn (Z:=Z) (rd:=dr) (po:=po) (nf:=nf1) (nds:=dn.set j ⟨x.np - 1,x.sc⟩) (post:=post) (rd':=dr++[j])
          rw [Eh] at this
          exact this
        case u5=>intro hc;rw [hc];exact aG
        case sb2=>wtm_at "Msub"
     case b6=>
      refine' aq.st (fM ?o ?g ?v (OpG.of2 oG) ?ss) ?he
      case o=>wtm_at "Me"
      case g=>exact cJ cN (bv H) (fd_ H (by kernel_rfl)) rfl rfl
      case v=>wtm_at "Me"
      case ss=>exact bh cN hz0 (bv H) (fd_ H (by kernel_rfl)) (by show 4<1000;decide)
      case he=>exact kl
     case sb=>wtm_at "Msub"
end
theorem qe:IP (.type "StopIteration") (.type "BaseException")=pure true:=by rw [Gl];kernel_rfl
theorem la:IP (.type ((Manifest.find? "StopIteration").elim "type" fun x=>x.metatype)) (.type "tuple")=pure false:=by
 rw [show (Manifest.find? "StopIteration").elim "type" (fun x=>x.metatype)="type" by kernel_rfl,Gl];kernel_rfl
theorem uN:IP (.type "StopIteration") (.type "StopIteration")=pure true:=by rw [Gl];kernel_rfl
noncomputable def lS (nds:List Nd) (i:Nat):List Nat:=match nds[i]? with
 | some x=>x.sc
 | none=>[]
theorem oN {ex:List (Nat×Option Nat)} {v:Nat}:(ex.map fun (x:Nat×Option Nat)=>(x.1:Int)).contains (v:Int)=decide (v∈ex.map (·.1)):=by
 rw [FU]
 simp only [FJ,EL,decide_eq_true_eq]
 exact ⟨fun ⟨x,h1,h2⟩=>⟨x,h1,by omega⟩,fun ⟨x,h1,h2⟩=>⟨x,h1,by omega⟩⟩
theorem ji {ex:List (Nat×Option Nat)} {q m:Nat} {y z:Option Nat} (h:ex[q]? = some (m,y)):((ex.set q (m,z)).map fun (x:Nat×Option Nat)=>(x.1:Int))=ex.map fun (x:Nat×Option Nat)=>(x.1:Int):=by
 have:=congrArg (fun l:List Nat=>l.map fun (n:Nat)=>(n:Int)) (eu (z:=z) h)
 simpa [EQ,Function.comp_def] using this
theorem iM.st {C:Cx} {lv:Lv} {N:aE} {b:Stmt} {X:String} {ρ ρ₁:aO} {σ σ₁ σ₂:aC} (h:iM C lv N b ρ σ X ρ₁ σ₁) (e:σ₁=σ₂):iM C lv N b ρ σ X ρ₁ σ₂:=e▸h
section
variable {C:Cx} (H:bH C) {fz:List Nat} {σ:aC}
include H
theorem pU {Z post:aC} {rd:AV} {po nf:Int} {nds:List Nd} (hn:nds.length<=100) (hac:∀ i x,nds[i]? = some x->∀ j∈x.sc,i<j/\j<nds.length) (hfz:∀ i∈fz,i<Z.length) :
  aP C 2 fz (.ref 150) [.ref Z.length] [] (Z++(bd Z.length rd po nf nds++post)) (.dat .none) (Z++(bd Z.length rd po nf nds++post)):=by
 generalize hB:Z++(bd Z.length rd po nf nds++post)=B
 have hBl:Z.length+2<=B.length:=by rw [<- hB];simp [cR];omega
 have b1:B[Z.length]? = some (.inst 160 (mH Z.length rd po nf)):=by rw [<- hB];exact dH
 have b2:B[Z.length+1]? = some (.dict (gY Z.length nds.length)):=by rw [<- hB];exact fm
 have b3:∀ j x,nds[j]? = some x->B[Z.length+2+2 * j]? = some (c9 j x.np (Z.length+3+2 * j)):=fun j x h=>by rw [<- hB];exact eh h
 have b4:∀ j x,nds[j]? = some x->B[Z.length+3+2 * j]? = some (.list ((lS nds j).map bW)):=fun j x h=>by rw [<- hB];unfold lS;rw [h];exact iu h
 have hsc:∀ i,i<nds.length->∀ j∈lS nds i,i<j/\j<nds.length:=fun i hi j hj=>by
  have hx:nds[i]? = some nds[i]:=by simp
  unfold lS at hj;rw [hx] at hj
  exact hac i _ hx j hj
 clear hB
 generalize hkk:Z.length=k at *
 have hz:∀ i,i∉[k+1]++fz\/i<B.length:=fun i=>by
  by_cases h:i<B.length
  ·exact .inr h
  ·refine .inl fun q=>?_
   rcases ED.mp q with q | q
   ·rw [EG] at q;omega
   ·have:=hfz i q;omega
 have hzz:∀ i,B.length<=i->i∉[k+1]++fz:=fun i h=>(hz i).resolve_right (by omega)
 refine' uh (bH.look H rfl) rfl rfl ?hcd rfl rfl rfl rfl rfl rfl ?hok ?hfree ?hb ?bl ?st ?h
 case hcd=>exact bH.code H (by kernel_rfl)
 case hok=>wtm_at "Mnames"
 case hfree=>decide
 case hb=>(refine' bP.args ?_;wtm_at "Mpeek")
 case bl=>wtm_at "Mblank"
 case st=>(simp only [E6,I8,F5,FT,Fm];wtm_at "Mstall")
 case h=>
  dsimp only;refine' gQ ?s1 (gQ (σ₁:=B++[.list []]) ?s2 (gQ (σ₁:=B++[.list [],.list []]) ?s3 (gQ (σ₁:=B++[.list [],.list [],.set []]) ?s4 (gQ (σ₁:=dfS B k [] []) ?s5 (wu (E:=fun ex=>dfS B k ex []) ?s6 fun ex=>⟨_,(.list _ :: .list _ :: .set _ :: .dict _ :: dZ B.length k 0 ex),a8 (aX ik)⟩)))))
  case s1=>
   refine' aB ?v ?t (by intro _;rfl) (by intro _;rfl) (by intro _;rfl)
   case v=>wtm_at "Me"
   case t=>wtm_at "Ma"
  case s2=>
   refine' aB ?v ?t (by intro _;rfl) (by intro _;rfl) (by intro _;rfl)
   case v=>
    refine' cI ?w ?w2
    case w=>wtm_at "Ml"
    case w2=>decide
   case t=>wtm_at "Ma"
  case s3=>
   refine' aB (a:=.ref (B.length+1)) (σ₁:=B++[.list [],.list []]) ?v ?t (by intro _;rfl) (by intro _;rfl) (by intro _;rfl)
   case v=>
    refine' aH.st (aH.of (cI ?w ?w2) ?w3) ?w4
    case w=>wtm_at "Ml"
    case w2=>decide
    case w3=>simp
    case w4=>simp
   case t=>wtm_at "Ma"
  case s4=>
   refine' aB (a:=.ref (B.length+2)) (σ₁:=B++[.list [],.list [],.set []]) ?v ?t (by intro _;rfl) (by intro _;rfl) (by intro _;rfl)
   case v=>
    refine' aH.st (aH.of (wq ?w) ?w3) ?w4
    case w=>wtm_at "Me"
    case w3=>simp
    case w4=>simp
   case t=>wtm_at "Ma"
  case s5=>
   refine' aB (a:=.ref (B.length+3)) (σ₁:=dfS B k [] []) ?v ?t (by intro _;rfl) (by intro _;rfl) (by intro _;rfl)
   case v=>
    refine' aH.st (aH.of mJ ?w3) ?w4
    case w3=>simp
    case w4=>simp [dfS,dfG,dL,dZ]
   case t=>wtm_at "Ma"
  case s6=>
   obtain ⟨R,hR⟩:∃ R:Nat->aO,∀ v,R v=[some (.ref k),some (.ref (k+1)),some (.ref B.length),some (.ref (B.length+1)),some (.ref (B.length+2)),some (.ref (B.length+3)),some (.dat (.int (v:Int))),none,none,none,none]:=⟨_,fun zz=>rfl⟩
   have' I0:e6 nds.length (lS nds) [] []:=⟨.nil,jP,jP,.nil,by
    show 0+unv _ []<=_
    unfold unv;have:=FI (fun i=>!(([]:List (Nat×Option Nat)).map (·.1)).contains i) (EN nds.length)
    rw [FR] at this;omega⟩
   refine' vV (ls:=[k+1]) (E:=fun ex=>dfS B k ex []) ?hi ?hf (by intro _ _;rfl)
   case hi=>
    refine' uB ?k1 (gU b2) (by with_unfolding_all rfl) (by with_unfolding_all rfl)
    case k1=>wtm_at "Me"
   case hf=>
    rw [show (gY k nds.length).map (fun p=>AV.dat (.int p.1))=(EN nds.length).map bW by unfold gY;rw [EQ];rfl]
    refine' yh (R:=R) (n:=nds.length) (sc:=lS nds) (D:=dfS B k) ?fsub ?ftg ?fseen ?funs ?fout (EN nds.length) (fun v hv=>Ec.mp hv) [] I0
    case ftg=>intro v ex;rw [hR];unfold bW;wtm_at "Ma"
    case fsub=>intro v;rw [hR];wtm_at "Msub"
    case fseen=>
     intro v ex I hv
     rw [hR]
     refine' bL (aY.of (ai ?l ?r (ie tq) (by with_unfolding_all rfl)) ?e) (cA yY (by intro q;cases q))
     case l=>wtm_at "Me"
     case r=>wtm_at "Me"
     case e=>rw [oN];exact decide_eq_true hv
    case funs=>
     intro v ex I hv
     rw [hR]
     refine' aN (aY.of (ai ?l ?r (ie tq) (by with_unfolding_all rfl)) ?e) aG
     case l=>wtm_at "Me"
     case r=>wtm_at "Me"
     case e=>rw [oN];exact decide_eq_false hv
    case fout=>
     intro v ex I hv;refine' yt (R:=R) (n:=nds.length) (sc:=lS nds) (D:=dfS B k) hsc ?otrue ?oold ?onew ?oin (unv nds.length ex) (rest (lS nds) ex []) v ex [] rfl rfl I hv jP
     case otrue=>intro v ex st;rw [hR];exact b7 fF dT (by intro _;with_unfolding_all rfl)
     case oold=>
      intro v ex st I hv hlt
      rw [hR]
      refine' bL (aY.of (ai ?l ?r (ie tq) (by with_unfolding_all rfl)) ?e) (aF (aN (aY.of (ai ?l2 ?r2 (uL zt) (by with_unfolding_all rfl)) ?e2) aG))
      case l=>wtm_at "Me"
      case r=>wtm_at "Me"
      case e=>rw [oN];exact decide_eq_true hv
      case l2=>wtm_at "Me"
      case r2=>wtm_at "Me"
      case e2=>rw [(sm fun y hy=>FE (hlt y hy)).1];rfl
     case onew=>
      intro v ex st I hvn hv hlt
      rw [hR]
      have hxv:nds[v]? = some nds[v]:=by simp
      have hel:=I.cnt;have hstl:=I.stl;have hks:(ex.map fun (x:Nat×Option Nat)=>(x.1:Int)).contains (v:Int)=false:=by rw [oN];exact decide_eq_false hv
      have heL:(dZ B.length k 0 ex).length=2 * ex.length:=vp ..;have' hnost:∀ y∈st,y.1≠v:=fun y hy=>FE (hlt y hy)
      have hdl:(dL st).length<=1000:=by rw [qK];omega
      refine' aN (aY.of (ai ?l ?r (ie tq) (by with_unfolding_all rfl)) ?e) (aA (σ₁:=dfG B (.list (st.map fun (x:Nat×Nat)=>bW x.1)) (.list (st.map fun (x:Nat×Nat)=>AV.ref (B.length+5+2 * x.2))) (.set ((ex++[(v,some 0)]).map fun (x:Nat×Option Nat)=>(x.1:Int))) (.dict (dL st)) (dZ B.length k 0 ex)) ?o1 (aA (σ₁:=dfG B (.list (st.map fun (x:Nat×Nat)=>bW x.1)) (.list ((st++[(v,ex.length)]).map fun (x:Nat×Nat)=>AV.ref (B.length+5+2 * x.2))) (.set ((ex++[(v,some 0)]).map fun (x:Nat×Option Nat)=>(x.1:Int))) (.dict (dL st)) (dZ B.length k 0 (ex++[(v,some 0)]))) ?o2 (aA (σ₁:=dfG B (.list (st.map fun (x:Nat×Nat)=>bW x.1)) (.list ((st++[(v,ex.length)]).map fun (x:Nat×Nat)=>AV.ref (B.length+5+2 * x.2))) (.set ((ex++[(v,some 0)]).map fun (x:Nat×Option Nat)=>(x.1:Int))) (.dict (dL (st++[(v,ex.length)]))) (dZ B.length k 0 (ex++[(v,some 0)]))) ?o3 (aF ?o4))))
      case l=>wtm_at "Me"
      case r=>wtm_at "Me"
      case e=>exact hks
      case o1=>
       refine' aq.st (bR (eY ?ho ?hl (uT tq) PySem.F.plainAttrs_set PySem.F.slot_set_add PySem.F.type_set_add (AP (k:=(v:Int)) tq (hzz _ (EM _ _)) hks ?hsz) (by intro _;with_unfolding_all rfl) (by intro _;with_unfolding_all rfl) (by with_unfolding_all rfl) (by with_unfolding_all rfl)) (by intro _;rfl)) ?he
       case ho=>wtm_at "Me"
       case hl=>wtm_at "Ml"
       case hsz=>rw [EC];omega
       case he=>simp only [ym,Eh,E6,I8]
      case o2=>
       refine' aq.st (bR (bc (i:=B.length+1) (σ₂:=dfG B (.list (st.map fun (x:Nat×Nat)=>bW x.1)) (.list (st.map fun (x:Nat×Nat)=>AV.ref (B.length+5+2 * x.2))) (.set ((ex++[(v,some 0)]).map fun (x:Nat×Option Nat)=>(x.1:Int))) (.dict (dL st)) (dZ B.length k 0 (ex++[(v,some 0)]))) (xs:=st.map fun (x:Nat×Nat)=>AV.ref (B.length+5+2 * x.2)) (a:=.ref (B.length+5+2 * ex.length)) ?ho ?hv ⟨_,vh⟩ vh (hzz _ (EM _ _)) ?hsz) (by intro _;rfl)) ?he
       case ho=>wtm_at "Me"
       case hsz=>rw [EC,EO];omega
       case he=>simp only [so,Eh,E6,I8]
       case hv=>
        refine' aH.st (aH.of (uw (i:=B.length+4+2 * ex.length) (l:=k+3+2 * v) (k:=0) (σ₁:=dfG B (.list (st.map fun (x:Nat×Nat)=>bW x.1)) (.list (st.map fun (x:Nat×Nat)=>AV.ref (B.length+5+2 * x.2))) (.set ((ex++[(v,some 0)]).map fun (x:Nat×Option Nat)=>(x.1:Int))) (.dict (dL st)) (dZ B.length k 0 ex++[.iter (k+3+2 * v) 0])) ?hi ?hx (by intro _;with_unfolding_all rfl)) ?w3) ?w4
        case hi=>
         refine' aH.st (aH.of (tU ?f ?l2 (zN (gU (b4 v _ hxv))) (by with_unfolding_all rfl)) ?w5) ?w6
         case f=>wtm_at "Me"
         case l2=>
          refine' bF (bV (fh ?k1 ?k2 (gU b2) (jK hvn) (by intro _ _;with_unfolding_all rfl)) (dB (gU (b3 v _ hxv)) (eL H) (tG H) rfl rfl) (by intro _;with_unfolding_all rfl)) bQ (by with_unfolding_all rfl)
          case k1=>wtm_at "Me"
          case k2=>wtm_at "Me"
         case w5=>rw [wx,heL]
         case w6=>rw [wj]
        case hx=>rw [wI,<- heL,EV]
        case w3=>rw [wx,EU,heL,Ef];congr 1;omega
        case w4=>rw [wj,xA,FH,HH];rfl
      case o3=>
       refine' aq.st (aB (a:=bW st.length) ?v (iJ ?k1 ?k2 zt (hzz _ (EM _ _)) hdl (by intro _ _ _;rfl)) (by intro _;rfl) (by intro _;rfl) (by intro _;rfl)) ?he
       case v=>
        have hzl:((((st.map fun (x:Nat×Nat)=>bW x.1).length:Nat):Int))<2 ^ 63:=by rw [EC];omega
        refine' aH.of (cq ?f ?l2 (mx xq hzl) (by with_unfolding_all rfl)) ?w
        case f=>wtm_at "Me"
        case l2=>wtm_at "Ml"
        case w=>rw [EC];rfl
       case k1=>wtm_at "Me"
       case k2=>wtm_at "Me"
       case he=>rw [tC,vm hnost]
      case o4=>
       refine' aq.st (bR (bc (i:=B.length) (xs:=st.map fun (x:Nat×Nat)=>bW x.1) (a:=bW v) ?ho ?hv ⟨_,xq⟩ xq (hzz _ (EH _)) ?hsz) (by intro _;rfl)) ?he
       case ho=>wtm_at "Me"
       case hv=>unfold bW;wtm_at "Me"
       case hsz=>rw [EC,EO];omega
       case he=>simp only [dfS,tH,Eh,E6,I8]
     case oin=>
      intro v ex st I;refine' zv (R:=R) (n:=nds.length) (sc:=lS nds) (D:=dfS B k) hsc v ?itop ?inext ?ipop ?iels st.length ex st rfl I
      case itop=>
       intro v ex st I
       rw [hR]
       refine' aY.of (tQ ?l xq ?z (by intro _;with_unfolding_all rfl)) ?e
       case l=>wtm_at "Me"
       case z=>rw [EC];have:=I.stl;omega
       case e=>cases st<;>rfl
      case iels=>intro v ex;rw [hR];exact cA iB (by intro q;cases q)
      case inext=>
       intro v ex st m q p v' I hq hv
       rw [hR,hR]
       have hmn:m<nds.length:=I.lt _ (EK hq);have' hxm:nds[m]? = some nds[m]:=by simp
       obtain ⟨g1,g2⟩:=pV B.length k 0 ex q _ hq
       rw [HH] at g2
       have' hstl:=I.stl
       rw [EU,Ef] at hstl
       have hq1:(dfS B k ex (st++[(m,q)]))[B.length+1]? = some (.list ((st.map fun (x:Nat×Nat)=>AV.ref (B.length+5+2 * x.2))++[.ref (B.length+5+2 * q)])):=by rw [vh,Eh];rfl
       refine' aF (jw (aA ?a1 (cA iB (by intro q;cases q))) (by intro q;cases q))
       case a1=>
        refine' aq.st (aB (a:=bW v') (nw (n:=B.length+5+2 * q) (i:=B.length+4+2 * q) (l:=k+3+2 * m) (k:=p) (xs:=(lS nds m).map bW) ?f ?hn ?hi ?hl ?hx (hzz _ (by omega)) (by intro _;with_unfolding_all rfl)) ?t (by intro _;rfl) (by intro _;rfl) (by intro _;rfl)) ?he
        case f=>
         refine' mf (xs:=st.map fun (x:Nat×Nat)=>AV.ref (B.length+5+2 * x.2)) ?k1 ?k2 hq1 ?hz (by intro _ _;with_unfolding_all rfl)
         case k1=>wtm_at "Me"
         case k2=>wtm_at "Me"
         case hz=>rw [EC];omega
        case hn=>rw [show B.length+5+2 * q=B.length+4+(2 * q+1) by omega];exact wI.trans g2
        case hi=>exact wI.trans g1
        case hl=>exact gU (b4 m _ hxm)
        case hx=>rw [Ei,hv];rfl
        case t=>unfold bW;wtm_at "Ma"
        case he=>
         rw [sf]
         have e1:=pj B.length k (some (p+1)) 0 ex q _ hq;dsimp only [itO] at e1
         rw [e1];simp only [dfS,ji hq]
      case ipop=>
       intro v ex st m q p I hq hv
       rw [hR]
       have hmn:m<nds.length:=I.lt _ (EK hq);have' hxm:nds[m]? = some nds[m]:=by simp
       obtain ⟨g1,g2⟩:=pV B.length k 0 ex q _ hq
       rw [HH] at g2
       have' hstl:=I.stl
       rw [EU,Ef] at hstl
       obtain ⟨_,hlt⟩:=p8 I.inc;have' hnost:∀ y∈st,y.1≠m:=fun y hy=>FE (hlt y hy)
       obtain ⟨d1,d2⟩:=vv (q:=q) hnost;have hdl2:(dL (st++[(m,q)])).length<=1000:=by rw [qK,EU,Ef];omega
       have hq1:(dfS B k ex (st++[(m,q)]))[B.length+1]? = some (.list ((st.map fun (x:Nat×Nat)=>AV.ref (B.length+5+2 * x.2))++[.ref (B.length+5+2 * q)])):=by rw [vh,Eh];rfl
       refine' aF (jm (X := "StopIteration") (T := "StopIteration") (σ₁:=dfG B (.list ((st++[(m,q)]).map fun (x:Nat×Nat)=>bW x.1)) (.list ((st++[(m,q)]).map fun (x:Nat×Nat)=>AV.ref (B.length+5+2 * x.2))) (.set (ex.map fun (x:Nat×Option Nat)=>(x.1:Int))) (.dict (dL (st++[(m,q)]))) (dZ B.length k 0 (ex.set q (m,none)))) (eR ?a1) ?ht qe la uN (aA (σ₁:=dfG B (.list (st.map fun (x:Nat×Nat)=>bW x.1)) (.list ((st++[(m,q)]).map fun (x:Nat×Nat)=>AV.ref (B.length+5+2 * x.2))) (.set (ex.map fun (x:Nat×Option Nat)=>(x.1:Int))) (.dict (dL st)) (dZ B.length k 0 (ex.set q (m,none)))) ?b1 (aF ?b2)))
       case a1=>
        refine' iM.st (nH (qP (n:=B.length+5+2 * q) (i:=B.length+4+2 * q) (l:=k+3+2 * m) (k:=p) (xs:=(lS nds m).map bW) ?f ?hn ?hi ?hl ?hx (hzz _ (by omega)) (by with_unfolding_all rfl) (by intro _;with_unfolding_all rfl)) (by intro _;rfl) (by intro _;rfl) (by intro _;rfl)) ?he
        case f=>
         refine' mf (xs:=st.map fun (x:Nat×Nat)=>AV.ref (B.length+5+2 * x.2)) ?k1 ?k2 hq1 ?hz (by intro _ _;with_unfolding_all rfl)
         case k1=>wtm_at "Me"
         case k2=>wtm_at "Me"
         case hz=>rw [EC];omega
        case hn=>rw [show B.length+5+2 * q=B.length+4+(2 * q+1) by omega];exact wI.trans g2
        case hi=>exact wI.trans g1
        case hl=>exact gU (b4 m _ hxm)
        case hx=>rw [Ei,hv];rfl
        case he=>
         rw [sf]
         have e1:=pj B.length k none 0 ex q _ hq;dsimp only [itO] at e1
         rw [e1]
       case ht=>wtm_at "Me"
       case b1=>
        refine' aq.st (q8 (a:=bW st.length) (k:=(m:Int)) (σ₂:=dfG B (.list (st.map fun (x:Nat×Nat)=>bW x.1)) (.list ((st++[(m,q)]).map fun (x:Nat×Nat)=>AV.ref (B.length+5+2 * x.2))) (.set (ex.map fun (x:Nat×Option Nat)=>(x.1:Int))) (.dict (dL (st++[(m,q)]))) (dZ B.length k 0 (ex.set q (m,none)))) ?k1 ?k2 zt (hzz _ (EM _ _)) d2 hdl2) ?he
        case k1=>wtm_at "Me"
        case k2=>
         have hx0:(dfG B (.list ((st++[(m,q)]).map fun (x:Nat×Nat)=>bW x.1)) (.list ((st++[(m,q)]).map fun (x:Nat×Nat)=>AV.ref (B.length+5+2 * x.2))) (.set (ex.map fun (x:Nat×Option Nat)=>(x.1:Int))) (.dict (dL (st++[(m,q)]))) (dZ B.length k 0 (ex.set q (m,none))))[B.length]? = some (.list (st.map (fun (x:Nat×Nat)=>bW x.1)++[bW m])):=xq.trans (by rw [Eh];rfl)
         refine' aH.st (jU ?ho (dI hx0) PySem.F.plainAttrs_list PySem.F.slot_list_pop PySem.F.type_list_pop (vW hx0 (hzz _ (EH _)) ?hsz) (by intro _;with_unfolding_all rfl) (by with_unfolding_all rfl)) ?w
         case ho=>wtm_at "Me"
         case hsz=>rw [EC,EO];omega
         case w=>rw [tH]
        case he=>rw [tC,d1]
       case b2=>
        have hx1:(dfG B (.list (st.map fun (x:Nat×Nat)=>bW x.1)) (.list ((st++[(m,q)]).map fun (x:Nat×Nat)=>AV.ref (B.length+5+2 * x.2))) (.set (ex.map fun (x:Nat×Option Nat)=>(x.1:Int))) (.dict (dL st)) (dZ B.length k 0 (ex.set q (m,none))))[B.length+1]? = some (.list ((st.map fun (x:Nat×Nat)=>AV.ref (B.length+5+2 * x.2))++[.ref (B.length+5+2 * q)])):=vh.trans (by rw [Eh];rfl)
        refine' aq.st (bR (jU ?ho (dI hx1) PySem.F.plainAttrs_list PySem.F.slot_list_pop PySem.F.type_list_pop (vW hx1 (hzz _ (EM _ _)) ?hsz) (by intro _;with_unfolding_all rfl) (by with_unfolding_all rfl)) (by intro _;rfl)) ?he
        case ho=>wtm_at "Me"
        case hsz=>rw [EC,EO];omega
        case he=>rw [so];show _=dfG _ _ _ _ _ _;rw [ji hq]
end
noncomputable def qT (nds:List Nd) (j:Nat):Bool:=match nds[j]? with
 | some x=>decide (x.np=0)
 | none=>false
noncomputable def cC (nds:List Nd):List Nat:=(EN nds.length).filter (qT nds)
section
variable {C:Cx} (H:bH C) {fz:List Nat} {σ:aC}
include H
theorem mW {Z:aC} {po nf:Int} {nds:List Nd} (hn:nds.length<=100) (hac:∀ i x,nds[i]? = some x->∀ j∈x.sc,i<j/\j<nds.length) (hfz:∀ i∈fz,i<Z.length) :
  aP C 3 fz (.ref 115) [.ref Z.length] [] (Z++(bd Z.length (.dat .none) po nf nds++[])) (.dat .none) (so5 Z (cC nds) po nf nds []):=by
 have' hz0:Z.length∉fz:=fun h=>absurd (hfz _ h) (E2 _)
 have hlen:(Z++(bd Z.length (.dat .none) po nf nds++[])).length=Z.length+2+2 * nds.length:=by rw [FF,EU,cR];omega
 have hrl:(cC nds).length<=100:=by
  have:=FI (qT nds) (EN nds.length)
  rw [FR] at this
  exact EE this hn
 wtm_at "Dp"
 case hr=>exact .nxt
 case h=>
  dsimp only;refine' aA (aN (aY.of ?t0 ?d0) aG) (aA (σ₁:=so5 Z (cC nds) po nf nds []) ?s1 (aA (σ₁:=so5 Z (cC nds) po nf nds []) ?s2 (aF ?s3)))
  case t0=>wtm_at "Mt"
  case d0=>decide
  case s1=>
   refine' aq.st (aB (a:=.ref (Z.length+2+2 * nds.length)) (σ₁:=Z++(bd Z.length (.dat .none) po nf nds++[])++[.list ((cC nds).map bW)]) ?v ?t (by intro _;rfl) (by intro _;rfl) (by intro _;rfl)) ?he
   case v=>
    refine' aH.st (aH.of (vC ?ck ?hi ?hfr ?hcl ?hbl ?hc ?hz (by intro _ _;rfl)) (by rw [hlen])) (by rw [zd])
    case ck=>wtm_at "Mcompok"
    case hi=>
     refine' qL ?k1 fm (by intro _;with_unfolding_all rfl) (by with_unfolding_all rfl) (by with_unfolding_all rfl) (by with_unfolding_all rfl)
     case k1=>wtm_at "Me"
    case hfr=>wtm_at "Mfrees"
    case hcl=>wtm_at "Mclos"
    case hbl=>wtm_at "Mblank"
    case hz=>rw [EC,EO];omega
    case hc=>
     rw [show (gY Z.length nds.length).map (·.2)=(EN nds.length).map fun (j:Nat)=>AV.ref (Z.length+2+2 * j) by unfold gY;rw [EQ];rfl]
     refine' cV ?ha ?ht ?hee ?hs
     case ha=>intro a ha;wtm_at "Ma"
     case hs=>intro a ha;wtm_at "Msub"
     case hee=>
      intro a ha _;have' hxa:nds[a]? = some (nds[a]'(Ec.mp ha)):=by simp
      refine' bV ?k1 (dB (eh hxa) (eL H) (sL H) rfl rfl) (by intro _;with_unfolding_all rfl)
      case k1=>wtm_at "Me"
     case ht=>
      intro a ha;have hxa:nds[a]? = some (nds[a]'(Ec.mp ha)):=by simp
      refine' ci (aY.of (ai (bV ?k1 (dB (eh hxa) (eL H) (iP H) rfl rfl) (by intro _;with_unfolding_all rfl)) ?r (OpG.of2 qz) (by with_unfolding_all rfl)) ?e)
      case k1=>wtm_at "Me"
      case r=>wtm_at "Me"
      case e=>unfold qT;rw [hxa];rfl
   case t=>
    refine' b9 ?k1 ?k2
    case k1=>wtm_at "Me"
    case k2=>exact bh (by rw [FH,FH,EW];exact dH) hz0 (bv H) (fd_ H (by kernel_rfl)) (by show 4<1000;decide)
   case he=>rw [FH,FH,EW];exact lF
  case s2=>
   refine' aB (a:=.dat .none) ?v ?t (by intro _;rfl) (by intro _;rfl) (by intro _;rfl)
   case v=>
    have' cf:aP C 2 fz (.ref 150) [.ref Z.length] [] (so5 Z (cC nds) po nf nds []) (.dat .none) (so5 Z (cC nds) po nf nds []):=pU H (fz:=fz) (Z:=Z) (rd:=.ref (Z.length+2+2 * nds.length)) (po:=po) (nf:=nf) (post:=[.list ((cC nds).map bW)]) hn hac hfz;refine' bD ?ho (bC cN (bv H) (fd_ H (by kernel_rfl)) (fn_ H (by kernel_rfl)) rfl) (kp_ H (by kernel_rfl)) bZ cf (by show 2<=2;decide) rfl (by intro _;exact ⟨_,rfl⟩)
    case ho=>wtm_at "Me"
   case t=>wtm_at "Ma"
  case s3=>
   refine' aN (b7 ?k1 ki (by intro _;with_unfolding_all rfl)) aG
   case k1=>wtm_at "Me"
end
set_option tactic.hygienic true in
theorem va {n:Nat} {l:List Nd} {q p:Nat}:(eQ n l q)[p]? = l[p]?.map fun x=>if p=q then ⟨x.np,x.sc++[n]⟩ else x:=by
 unfold eQ
 split
 ·rename_i y hy
  by_cases h:p=q
  ·subst h;rw [F6 (EI.mp hy).1,hy];simp
  ·rw [Fj (Ne.symm h)];simp [h]
 ·rename_i hy
  by_cases h:p=q
  ·subst h;rw [hy];rfl
  ·simp [h]
theorem tY {n:Nat}:∀ (ps:List Nat) (l:List Nd) (p:Nat),ps.Nodup->(ps.foldl (eQ n) l)[p]? = l[p]?.map fun x=>if p∈ps then ⟨x.np,x.sc++[n]⟩ else x:=by
 intro ps
 induction ps with
 | nil=>intro l p _;simp
 | cons q ps ih0=>
  intro l p h;obtain ⟨h1,h2⟩:=GF.mp h
  rw [Fh,ih0 _ p h2,va,Kb]
  congr 1
  funext x
  by_cases e:p=q
  ·subst e;simp [h1]
  ·simp [e]
set_option tactic.hygienic true in
theorem xB {v:Int} {l:List Nd} {q p:Nat}:(bO v l q)[p]? = l[p]?.map fun x=>if p=q then ⟨v,x.sc⟩ else x:=by
 unfold bO
 split
 ·rename_i y hy
  by_cases h:p=q
  ·subst h;rw [F6 (EI.mp hy).1,hy];simp
  ·rw [Fj (Ne.symm h)];simp [h]
 ·rename_i hy
  by_cases h:p=q
  ·subst h;rw [hy];rfl
  ·simp [h]
theorem vQ {v:Int}:∀ (ps:List Nat) (l:List Nd) (p:Nat),(ps.foldl (bO v) l)[p]? = l[p]?.map fun x=>if p∈ps then ⟨v,x.sc⟩ else x:=by
 intro ps
 induction ps with
 | nil=>intro l p;simp
 | cons q ps ih0=>
  intro l p
  rw [Fh,ih0 _ p,xB,Kb]
  congr 1
  funext x
  by_cases e:p=q
  ·subst e;simp
  ·simp [e]
noncomputable def is1 (l:List Nd) (p:Nat):Bool:=match l[p]? with
 | some x=>x.np - 1==0
 | none=>false
set_option tactic.hygienic true in
theorem tK {l:List Nd} {r:List Nat} {q p:Nat}:(eF (l,r) q).1[p]? = (l[p]?.map fun x=>if p=q then ⟨x.np - 1,x.sc⟩ else x):=by
 unfold eF
 split
 ·rename_i y hy
  dsimp only at hy ⊢
  by_cases h:p=q
  ·subst h;rw [F6 (EI.mp hy).1,hy];simp
  ·rw [Fj (Ne.symm h)];simp [h]
 ·rename_i hy
  dsimp only at hy ⊢
  by_cases h:p=q
  ·subst h;rw [hy];rfl
  ·simp [h]
set_option tactic.hygienic true in
theorem yw {l:List Nd} {r:List Nat} {q:Nat}:(eF (l,r) q).2=r++[q].filter (is1 l):=by
 unfold eF is1
 split
 ·rename_i y hy
  dsimp only at hy ⊢
  simp only [Eu,KS,hy]
  split<;>simp
 ·rename_i hy
  dsimp only at hy ⊢
  simp [hy]
theorem yB:∀ (js:List Nat) (l:List Nd) (r:List Nat),js.Nodup->(∀ p,(js.foldl eF (l,r)).1[p]? = l[p]?.map fun x=>if p∈js then ⟨x.np - 1,x.sc⟩ else x)/\(js.foldl eF (l,r)).2=r++js.filter (is1 l):=by
 intro js
 induction js with
 | nil=>intro l r _;exact ⟨fun p=>by simp,by simp⟩
 | cons q js ih0=>
  intro l r h;obtain ⟨h1,h2⟩:=GF.mp h;obtain ⟨i1,i2⟩:=ih0 (eF (l,r) q).1 (eF (l,r) q).2 h2
  rw [Fh]
  refine ⟨fun p=>?_,?_⟩
  ·rw [i1 p,tK,Kb]
   congr 1
   funext x
   by_cases e:p=q
   ·subst e;simp [h1]
   ·simp [e]
  ·rw [i2,yw,FH,show q :: js=[q]++js from rfl,IK]
   congr 2
   refine G0 fun p hp=>?_
   have:p≠q:=fun e=>h1 (e▸hp)
   unfold is1
   rw [tK]
   cases l[p]? with
   | none=>rfl
   | some x=>simp [this]
theorem dc {α:Type} {P:α->Bool} {l:List α} (h:l.Nodup):(l.filter P).Nodup:=h.sublist List.filter_sublist
noncomputable def ch (n:Nat) (pr:Nat->List Nat) (p:Nat):List Nat:=(EN n).filter fun q=>(pr q).contains p
noncomputable def kD (pr:Nat->List Nat) (D O:Nat->Bool) (p:Nat):Int:=if D p then -2 else if O p then -1 else (((pr p).filter fun q=>!D q).length:Nat)
structure SJ (n:Nat) (pr:Nat->List Nat) (D O:Nat->Bool) (nds:List Nd) (rd:List Nat):Prop where
 len:nds.length=n
 at_:∀ p,p<n->nds[p]? = some ⟨kD pr D O p,ch n pr p⟩
 rdn:rd.Nodup
 rd_:∀ p,p∈rd↔p<n/\D p=false/\O p=false/\∀ q∈pr p,D q=true
 cl:∀ p,(D p=true\/O p=true)->p<n/\∀ q∈pr p,D q=true
 dj:∀ p,D p=true->O p=false
structure Prd (pr:Nat->List Nat):Prop where
 nod:∀ p,(pr p).Nodup
 lt:∀ p,∀ q∈pr p,q<p
theorem jg {n:Nat} {pr:Nat->List Nat} {p:Nat}:(ch n pr p).Nodup:=dc KB
theorem cu {n:Nat} {pr:Nat->List Nat} {p q:Nat}:q∈ch n pr p↔q<n/\p∈pr q:=by unfold ch;simp
theorem jN {P:Nat->Bool} {v:Nat} (hv:P v=true):∀ (l:List Nat),l.Nodup->v∈l->(l.filter fun i=>P i && !(i==v)).length+1=(l.filter P).length:=by
 intro l
 induction l with
 | nil=>intro _ h;exact absurd h Fb
 | cons x l ih0=>
  intro hn h;obtain ⟨h1,h2⟩:=GF.mp hn
  rw [Eu,Eu]
  by_cases q:x=v
  ·subst q
   have:l.filter (fun i=>P i && !(i==x))=l.filter P:=G0 fun i hi=>by
    have:i≠x:=fun e=>h1 (e▸hi)
    simp [this]
   simp [hv,this]
  ·have' h':v∈l:=(ES.mp h).resolve_left (Ne.symm q)
   have ih:=ih0 h2 h';have hq:(x==v)=false:=by simpa using q
   cases hp:P x<;>simp [hq]<;>omega
section
variable {n:Nat} {pr:Nat->List Nat} {D O:Nat->Bool} {nds:List Nd} {rd:List Nat} {i:Nat}
theorem SJ.out (h:SJ n pr D O nds rd):SJ n pr D (fun p=>O p || rd.contains p) (rd.foldl (bO (-1)) nds) [] where
 len:=(eK _ _ _).trans h.len
 at_:=fun p hp=>by
  rw [vQ,h.at_ p hp]
  show some _=some _
  congr 1
  unfold kD
  by_cases hr:p∈rd
  ·obtain ⟨_,a,b,_⟩:=(h.rd_ p).mp hr
   simp [hr,a]
  ·simp [hr]
 rdn:=.nil
 rd_:=fun p=>by
  refine ⟨fun q=>absurd q Fb,fun qq1=>?_⟩
  obtain ⟨a,b,c,d⟩:=qq1
  simp only [Kc] at c
  have:=(h.rd_ p).mpr ⟨a,b,c.1,d⟩
  simp [this] at c
 cl:=fun p hp=>by
  simp only [Gu,FJ] at hp
  rcases hp with hp | hp | hp
  ·exact h.cl p (.inl hp)
  ·exact h.cl p (.inr hp)
  ·obtain ⟨a,_,_,b⟩:=(h.rd_ p).mp hp
   exact ⟨a,b⟩
 dj:=fun p hp=>by
  have:p∉rd:=fun q=>by
   have:=((h.rd_ p).mp q).2.1
   rw [hp] at this;cases this
  simp [h.dj p hp,this]
theorem SJ.np1 (h:SJ n pr D O nds rd) (hi:O i=true):∃ y,nds[i]? = some y/\y.np=-1:=by
 refine ⟨_,h.at_ i (h.cl i (.inr hi)).1,?_⟩
 have:D i=false:=by
  cases q:D i with
  | false=>rfl
  | true=>have:=h.dj i q;rw [hi] at this;cases this
 simp [kD,this,hi]
theorem SJ.done (P:Prd pr) (h:SJ n pr D O nds rd) (hi:O i=true):SJ n pr (fun p=>D p || p==i) (fun p=>O p && !(p==i)) (av (nds,rd) i).1 (av (nds,rd) i).2:=by
 obtain ⟨hin,hipr⟩:=h.cl i (.inr hi)
 have hDi:D i=false:=by
  cases q:D i with
  | false=>rfl
  | true=>have:=h.dj i q;rw [hi] at this;cases this
 have hx:=h.at_ i hin
 have e:av (nds,rd) i=(ch n pr i).foldl eF (nds.set i ⟨-2,ch n pr i⟩,rd):=by unfold av;dsimp only;rw [hx]
 obtain ⟨d1,d2⟩:=yB (ch n pr i) (nds.set i ⟨-2,ch n pr i⟩) rd jg
 have hset:∀ p,p≠i->(nds.set i ⟨-2,ch n pr i⟩)[p]? = nds[p]?:=fun p hp=>Fj (Ne.symm hp)
 have hni:i∉ch n pr i:=fun q=>E2 _ (P.lt _ _ (cu.mp q).2)
 have hfol:∀ p,i∈pr p->D p=false/\O p=false/\p≠i:=fun p hp=>by
  refine ⟨?_,?_,?_⟩
  ·cases q:D p with
   | false=>rfl
   | true=>have:=(h.cl p (.inl q)).2 i hp;rw [hDi] at this;cases this
  ·cases q:O p with
   | false=>rfl
   | true=>have:=(h.cl p (.inr q)).2 i hp;rw [hDi] at this;cases this
  ·rintro rfl;exact E2 _ (P.lt _ _ hp)
 have hcnt:∀ p,i∈pr p->((pr p).filter fun q=>!(D q || q==i)).length+1=((pr p).filter fun q=>!D q).length:=fun p hp=>by
  have:=jN (P:=fun q=>!D q) (v:=i) (by simp [hDi]) (pr p) (P.nod p) hp
  rw [<- this]
  congr 2
  refine G0 fun q zz=>?_
  cases D q<;>rfl
 have' hcnt0:∀ p,i∉pr p->((pr p).filter fun q=>!(D q || q==i))=((pr p).filter fun q=>!D q):=fun p hp=>G0 fun q hq=>by
  have:q≠i:=fun e=>hp (e▸hq)
  simp [this]
 have his1:∀ p,p∈ch n pr i->(is1 (nds.set i ⟨-2,ch n pr i⟩) p=true↔∀ q∈pr p,(D q || q==i)=true):=fun p hp=>by
  obtain ⟨hpn,hpi⟩:=cu.mp hp;obtain ⟨a,b,c⟩:=hfol p hpi;unfold is1
  rw [hset p c,h.at_ p hpn]
  have e1:kD pr D O p=(((pr p).filter fun q=>!D q).length:Nat):=by unfold kD;rw [a,b];rfl
  have' e2:=hcnt p hpi;dsimp only
  rw [e1,<- e2]
  have' e3:((((pr p).filter fun q=>!(D q || q==i)).length+1:Nat):Int) - 1=(((pr p).filter fun q=>!(D q || q==i)).length:Nat):=by omega
  rw [e3]
  rw [show ((((pr p).filter fun q=>!(D q || q==i)).length:Nat):Int)==0↔((pr p).filter fun q=>!(D q || q==i)).length=0 by simp]
  rw [Gr,KL]
  refine forall_congr' fun q=>forall_congr' fun zz=>?_
  cases D q<;>simp
 rw [e,d2]
 refine ⟨?_,fun p hp=>?_,?_,fun p=>?_,fun p hp=>?_,fun p hp=>?_⟩
 ·have:=nV (kj (ch n pr i) (nds.set i ⟨-2,ch n pr i⟩,rd)).1
  rw [this];simpa using h.len
 ·rw [d1]
  by_cases hpi:p=i
  ·subst hpi
   rw [F6 (EI.mp hx).1]
   simp [hni,kD]
  ·rw [hset p hpi,h.at_ p hp]
   show some _=some _
   congr 1
   by_cases hf:i∈pr p
   ·obtain ⟨a,b,c⟩:=hfol p hf
    have' e2:=hcnt p hf
    show (if p∈ch n pr i then _ else _)=_
    rw [if_pos (cu.mpr ⟨hp,hf⟩)]
    have e1:kD pr D O p=(((pr p).filter fun q=>!D q).length:Nat):=by unfold kD;rw [a,b];rfl
    have' e3:kD pr (fun p=>D p || p==i) (fun p=>O p && !(p==i)) p=(((pr p).filter fun q=>!(D q || q==i)).length:Nat):=by
     unfold kD;simp [a,b,hpi]
    rw [e3]
    dsimp only
    rw [e1,<- e2]
    congr 1
    omega
   ·show (if p∈ch n pr i then _ else _)=_
    rw [if_neg fun q=>hf (cu.mp q).2]
    congr 1
    unfold kD
    rw [hcnt0 p hf]
    simp [hpi]
 ·rw [Fy]
  refine ⟨h.rdn,dc jg,fun a ha b hb e=>?_⟩
  subst e;have h1:=((h.rd_ a).mp ha).2.2.2 i (cu.mp (FV.mp hb).1).2
  rw [hDi] at h1;cases h1
 ·rw [ED,FV]
  constructor
  ·rintro (q | ⟨q1,q2⟩)
   ·obtain ⟨a,b,c,d⟩:=(h.rd_ p).mp q
    have:p≠i:=fun e=>by rw [e,hi] at c;cases c
    exact ⟨a,by simp [b,this],by simp [c],fun q hq=>by simp [d q hq]⟩
   ·obtain ⟨hpn,hpi⟩:=cu.mp q1
    obtain ⟨a,b,c⟩:=hfol p hpi;exact ⟨hpn,by simp [a,c],by simp [b],(his1 p q1).mp q2⟩
  ·rintro ⟨a,b,c,d⟩
   simp only [Kc,beq_eq_false_iff_ne] at b
   have' hO:O p=false:=by simpa [b.2] using c
   by_cases hf:i∈pr p
   ·have hs:=cu.mpr ⟨a,hf⟩
    exact .inr ⟨hs,(his1 p hs).mpr d⟩
   ·refine .inl ((h.rd_ p).mpr ⟨a,b.1,hO,fun q hq=>?_⟩)
    have:=d q hq;have hqi:q≠i:=fun e=>hf (e▸hq)
    simpa [hqi] using this
 ·have' hp':D p=true\/O p=true:=by
   simp only [Gu,beq_iff_eq,E7] at hp
   rcases hp with (hp | rfl) | ⟨hp,_⟩
   ·exact .inl hp
   ·exact .inr hi
   ·exact .inr hp
  obtain ⟨a,b⟩:=h.cl p hp';exact ⟨a,fun q hq=>by simp [b q hq]⟩
 ·simp only [Gu,beq_iff_eq] at hp
  rcases hp with hp | hp
  ·simp [h.dj p hp]
  ·simp [hp]
theorem SJ.dones (P:Prd pr):∀ (is:List Nat) {D O:Nat->Bool} {nds:List Nd} {rd:List Nat},is.Nodup->(∀ i∈is,O i=true)->SJ n pr D O nds rd->
  SJ n pr (fun p=>D p || is.contains p) (fun p=>O p && !is.contains p) (is.foldl av (nds,rd)).1 (is.foldl av (nds,rd)).2:=by
 intro is
 induction is with
 | nil=>intro D O nds rd _ _ h;simpa using h
 | cons i is ih0=>
  intro D O nds rd hn hO h;obtain ⟨h1,h2⟩:=GF.mp hn;have:=ih0 h2 (fun j hj=>by
   have:j≠i:=fun e=>h1 (e▸hj)
   simp [hO j (.tail _ hj),this]) (h.done P (hO i (.head _)))
  rw [Fh]
  have e1:(fun p=>(D p || p==i) || is.contains p)=fun p=>D p || (i :: is).contains p:=by funext p;rw [List.contains_cons,Bool.or_assoc]
  have e2:(fun p=>(O p && !(p==i)) && !is.contains p)=fun p=>O p && !(i :: is).contains p:=by funext p;rw [List.contains_cons];cases O p<;>cases (p==i)<;>rfl
  rw [e1,e2] at this
  exact this
theorem SJ.st (P:Prd pr) {is:List Nat} (hn:is.Nodup) (hO:∀ i∈is,O i=true) (h:SJ n pr D O nds rd):∀ pre x post,is=pre++x :: post->∃ y,(pre.foldl av (nds,rd)).1[x]? = some y/\y.np=-1:=by
 rintro pre x post rfl
 rw [Fy] at hn
 have hx:x∉pre:=fun q=>hn.2.2 x q x (.head _) rfl
 exact (h.dones P pre hn.1 fun i hi=>hO i (ED.mpr (.inl hi))).np1 (by simp [hO x (by simp),hx])
end
theorem fR:∀ {n:Nat} {l:List Nat},l.Nodup->(∀ x∈l,x<n)->l.length<=n:=by
 intro n
 induction n with
 | zero=>exact fun zz h=>(GL.mpr fun x hx=>He _ (h x hx))▸EH _
 | succ n ih=>
  intro l hn h;have hf:=ih (dc (P:=fun i=>!(i==n)) hn) fun x hx=>by
   obtain ⟨a,b⟩:=FV.mp hx;have:=h x a
   simp at b;omega
  by_cases q:n∈l
  ·have:=jN (P:=fun zz=>true) (v:=n) rfl l hn q
   rw [show l.filter (fun zz=>true)=l from GN.mpr fun zz zz=>rfl] at this
   simp only [Kx] at this
   omega
  ·have e:l.filter (fun i=>!(i==n))=l:=GN.mpr fun x hx=>by
    have:x≠n:=fun e=>q (e▸hx)
    simpa using this
   rw [e] at hf;omega
theorem cG (row:List Nat) (b:Nat->Nat->Bool):Prd (bA row b):=⟨fun zz=>dc KB,fun p q hq=>Ec.mp (FV.mp hq).1⟩
theorem lA (row:List Nat) (b:Nat->Nat->Bool):∀ n p,p<n->(bp row b n)[p]? = some ⟨((bA row b p).length:Nat),ch n (bA row b) p⟩:=by
 intro n
 induction n with
 | zero=>intro p h;exact absurd h (He _)
 | succ n ih0=>
  intro p h;have hl:=cT row b n;have' hs:ch (n+1) (bA row b) p=ch n (bA row b) p++if p∈bA row b n then [n] else []:=by
   unfold ch
   rw [HF,IK,Eu,KS]
   congr 1
   simp
  rw [fv]
  unfold jz
  rw [hl,tY _ _ _ ((cG row b).nod n),hs]
  by_cases hp:p<n
  ·rw [Ed (by omega),ih0 p hp]
   show some _=some _
   congr 1
   by_cases q:p∈bA row b n<;>simp [q]
  ·obtain rfl:p=n:=by omega
   have h1:p∉bA row b p:=fun q=>E2 _ ((cG row b).lt _ _ q)
   have h2:ch p (bA row b) p=[]:=by
    unfold ch
    rw [KL]
    intro q hq;have' hq:=Ec.mp hq;have:p∉bA row b q:=fun r=>Hq hq ((cG row b).lt _ _ r)
    simpa using this
   rw [EZ (by omega),hl,Fx]
   simp [h1,h2]
noncomputable def no:Nat->Bool:=fun zz=>false
theorem ij (row:List Nat) (b:Nat->Nat->Bool) (n:Nat):SJ n (bA row b) no no (bp row b n) (cC (bp row b n)) where
 len:=cT row b n
 at_:=fun p hp=>by
  rw [lA row b n p hp]
  have:(bA row b p).filter (fun q=>!no q)=bA row b p:=GN.mpr fun zz zz=>rfl
  unfold kD;rw [this];rfl
 rdn:=dc KB
 rd_:=fun p=>by
  unfold cC
  rw [FV,Ec,cT]
  constructor
  ·rintro ⟨h1,h2⟩
   unfold qT at h2
   rw [lA row b n p h1] at h2
   have' h3:bA row b p=[]:=by simpa using h2
   exact ⟨h1,rfl,rfl,fun q hq=>by rw [h3] at hq;cases hq⟩
  ·rintro ⟨h1,_,_,h2⟩
   refine ⟨h1,?_⟩;have h3:bA row b p=[]:=GL.mpr fun q hq=>by have:=h2 q hq;cases this
   unfold qT
   rw [lA row b n p h1,h3]
   rfl
 cl:=fun p h=>by rcases h with h | h<;>cases h
 dj:=fun p h=>by cases h
section
variable {n:Nat} {pr:Nat->List Nat} {D O:Nat->Bool} {nds:List Nd} {rd:List Nat} {i:Nat}
theorem SJ.rdlt (h:SJ n pr D O nds rd):∀ p∈rd,p<n:=fun p hp=>((h.rd_ p).mp hp).1
theorem SJ.rdl (h:SJ n pr D O nds rd):rd.length<=n:=fR h.rdn h.rdlt
theorem SJ.nd (h:SJ n pr D O nds rd):∀ x∈nds,∃ i,i<n/\x.sc=ch n pr i:=fun x hx=>by
 obtain ⟨i,hi⟩:=Iv hx
 have hl:=(EI.mp hi).1
 rw [h.len] at hl
 rw [h.at_ i hl] at hi
 exact ⟨i,hl,by rw [<- GB.inj hi]⟩
theorem SJ.scl (h:SJ n pr D O nds rd):∀ x∈nds,x.sc.length<=n:=fun x hx=>by
 obtain ⟨i,_,e⟩:=h.nd x hx
 rw [e]
 have:=FI (fun q=>(pr q).contains i) (EN n)
 rwa [FR] at this
theorem SJ.scn (h:SJ n pr D O nds rd):∀ x∈nds,∀ j∈x.sc,j<nds.length:=fun x hx j hj=>by
 obtain ⟨i,_,e⟩:=h.nd x hx
 rw [e] at hj
 rw [h.len];exact (cu.mp hj).1
theorem SJ.ac (P:Prd pr) (h:SJ n pr D O nds rd):∀ i x,nds[i]? = some x->∀ j∈x.sc,i<j/\j<nds.length:=fun i x hx j hj=>by
 have' hl:=(EI.mp hx).1
 have hl':=hl
 rw [h.len] at hl'
 rw [h.at_ i hl'] at hx
 rw [<- GB.inj hx] at hj
 obtain ⟨a,b⟩:=cu.mp hj
 exact ⟨P.lt _ _ b,by rw [h.len];exact a⟩
noncomputable def kb (s:List Nd×List Nat):List Nd×List Nat:=s.2.foldl av (s.2.foldl (bO (-1)) s.1,[])
theorem SJ.turn (P:Prd pr) (h:SJ n pr D no nds rd):SJ n pr (fun p=>D p || rd.contains p) no (kb (nds,rd)).1 (kb (nds,rd)).2:=by
 have:=h.out.dones P rd h.rdn fun i hi=>by simp [hi]
 have e:(fun p=>(no p || rd.contains p) && !rd.contains p)=no:=by funext p;unfold no;cases rd.contains p<;>rfl
 rw [e] at this
 exact this
end
noncomputable def bI (row:List Nat) (b:Nat->Nat->Bool):Nat->List Nd×List Nat
 | 0=>(bp row b 5,cC (bp row b 5))
 | t+1=>kb (bI row b t)
noncomputable def an (row:List Nat) (b:Nat->Nat->Bool):Nat->List Nat
 | 0=>[]
 | t+1=>an row b t++(bI row b t).2
theorem iL (row:List Nat) (b:Nat->Nat->Bool):∀ t,SJ 5 (bA row b) (fun p=>(an row b t).contains p) no (bI row b t).1 (bI row b t).2:=by
 intro t
 induction t with
 | zero=>
  have e:(fun p=>(an row b 0).contains p)=no:=by funext p;rfl
  rw [e];exact ij row b 5
 | succ t ih0=>
  have:=ih0.turn (cG row b);have' e:(fun p=>(an row b (t+1)).contains p)=fun p=>(an row b t).contains p || (bI row b t).2.contains p:=by
   funext p
   rw [an,FU];simp
  rw [e];exact this
theorem iC (row:List Nat) (b:Nat->Nat->Bool):∀ t,(an row b t).Nodup/\∀ p∈an row b t,p<5:=by
 intro t
 induction t with
 | zero=>exact ⟨.nil,fun zz h=>by cases h⟩
 | succ t ih0=>
  obtain ⟨h1,h2⟩:=ih0;have S:=iL row b t;refine ⟨?_,fun p hp=>?_⟩
  ·rw [an,Fy]
   refine ⟨h1,S.rdn,fun a ha c hc e=>?_⟩
   subst e;have:=((S.rd_ a).mp hc).2.1
   simp [ha] at this
  ·rw [an] at hp
   rcases ED.mp hp with hp | hp
   ·exact h2 p hp
   ·exact S.rdlt p hp
theorem xG {row:List Nat} {b:Nat->Nat->Bool} {t:Nat} (h:(bI row b t).2=[]):bI row b (t+1)=bI row b t:=by
 have' e:bI row b (t+1)=kb (bI row b t):=rfl
 rw [e];unfold kb;rw [h]
 exact Prod.ext rfl h.symm
theorem me {row:List Nat} {b:Nat->Nat->Bool} {t:Nat} (h:(bI row b t).2=[]):∀ m,(bI row b (t+m)).2=[]:=by
 intro m
 induction m with
 | zero=>exact h
 | succ m ih=>rw [<- Ez,xG (ih)];exact ih
theorem xy {row:List Nat} {b:Nat->Nat->Bool}:∀ {t:Nat},(∀ m,m<t->(bI row b m).2≠[])->t<=(an row b t).length:=by
 intro t
 induction t with
 | zero=>exact fun zz=>Ek _
 | succ t ih=>
  intro h;have h1:=ih fun m hm=>h m (HG hm)
  have h2:=Kr.mpr (h t (E3 _))
  rw [an,EU];omega
theorem sA (row:List Nat) (b:Nat->Nat->Bool):(bI row b 5).2=[]:=by
 by_cases q:(bI row b 5).2=[]
 ·exact q
 ·have h1:=xy (row:=row) (b:=b) (t:=6) fun m hm e=>by
   have:=me e (5 - m)
   rw [show m+(5 - m)=5 by omega] at this
   exact q this
  have h2:=fR (iC row b 6).1 (iC row b 6).2
  omega
theorem o6 (row:List Nat) (b:Nat->Nat->Bool):∀ p,p<5->p∈an row b 5:=by
 intro p
 induction p using JC with
 | ind p ih=>
  intro hp;have S:=iL row b 5
  by_cases q:p∈an row b 5
  ·exact q
  ·have:p∈(bI row b 5).2:=(S.rd_ p).mpr ⟨hp,by simpa using q,rfl,fun r hr=>by
    have hl:=(cG row b).lt _ _ hr
    simpa using ih r hl (Hp hl hp)⟩
   rw [sA] at this;cases this
noncomputable def al (row:List Nat) (b:Nat->Nat->Bool):Nat->List (List Nat)
 | 0=>[]
 | t+1=>al row b t++if (bI row b t).2=[] then [] else [(bI row b t).2]
set_option tactic.hygienic true in
theorem qC (row:List Nat) (b:Nat->Nat->Bool):∀ t,(al row b t).flatten=an row b t:=by
 intro t
 induction t with
 | zero=>rfl
 | succ t ih=>
  rw [al,List.flatten_append,ih,an]
  split
  ·rename_i h;rw [h];rfl
  ·simp
theorem lL (row:List Nat) (b:Nat->Nat->Bool):∀ t,(al row b t).length<=t:=by
 intro t
 induction t with
 | zero=>exact EH _
 | succ t this=>
  rw [al,EU]
  split<;>simp<;>omega
noncomputable def ag (row:List Nat) (b:Nat->Nat->Bool):List (List Nat):=(al row b 5).map fun g=>g.map fun p=>row.getD p 0
section
variable {Z post:aC} {rd:List Nat} {po nf:Int} {nds:List Nd}
theorem nY {t:aC}:so5 Z rd po nf nds post++t=so5 Z rd po nf nds (post++t):=by unfold so5;simp
theorem nU:(so5 Z rd po nf nds post).length=Z.length+3+2 * nds.length+post.length:=by unfold so5;simp [cR];omega
theorem sY {i:Nat}:(so5 Z rd po nf nds post)[Z.length+(3+2 * nds.length+i)]? = post[i]?:=by
 unfold so5
 rw [EZ (EM _ _),E1,EZ (by rw [cR];omega),cR]
 rw [show 3+2 * nds.length+i - (2+2 * nds.length)=i+1 by omega,Ev]
theorem lI {i:Nat} {o:AO}:(so5 Z rd po nf nds post).set (Z.length+(3+2 * nds.length+i)) o=so5 Z rd po nf nds (post.set i o):=by
 unfold so5
 rw [Ee _ _ (EM _ _),E1,Ee _ _ (by rw [cR];omega),cR]
 rw [show 3+2 * nds.length+i - (2+2 * nds.length)=i+1 by omega,F4]
variable {x y:AO}
theorem nX (h:nds.length=5):(so5 Z rd po nf nds [x,y])[Z.length+13]? = some x:=by have:=sY (Z:=Z) (rd:=rd) (po:=po) (nf:=nf) (nds:=nds) (post:=[x,y]) (i:=0);rw [h] at this;exact this
theorem uk (h:nds.length=5):(so5 Z rd po nf nds [x,y])[Z.length+14]? = some y:=by have:=sY (Z:=Z) (rd:=rd) (po:=po) (nf:=nf) (nds:=nds) (post:=[x,y]) (i:=1);rw [h] at this;exact this
theorem nJ (h:nds.length=5) {o:AO}:(so5 Z rd po nf nds [x,y]).set (Z.length+13) o=so5 Z rd po nf nds [o,y]:=by have:=lI (Z:=Z) (rd:=rd) (po:=po) (nf:=nf) (nds:=nds) (post:=[x,y]) (i:=0) (o:=o);rw [h] at this;exact this
theorem sS (h:nds.length=5) {o:AO}:(so5 Z rd po nf nds [x,y]).set (Z.length+14) o=so5 Z rd po nf nds [x,o]:=by have:=lI (Z:=Z) (rd:=rd) (po:=po) (nf:=nf) (nds:=nds) (post:=[x,y]) (i:=1) (o:=o);rw [h] at this;exact this
end
noncomputable def am (m:Nat):List AV:=FK m (.dat .none)
theorem gP (m:Nat):am m++[.dat .none]=am (m+1):=by unfold am;rw [<- List.replicate_succ']
theorem eG:∀ m:Nat,m<32->SeqAt.shaped (.list (FK m Iy))=true:=by decide +kernel
theorem m8:∀ m:Nat,m<32->FC (.list (FK m Iy)) (.list (FK m Iy))=true:=by decide +kernel
section
variable {C:Cx} (H:bH C) {fz:List Nat} {σ:aC}
include H
theorem q5 {row:List Nat} {b:Nat->Nat->Bool} (hr:row.length=5) (hr4:∀ x∈row,x<4) (hfz:∀ i∈fz,i<σ.length) :
  aP C 8 fz (.ref 930) [.dat (bf row),.dat (cy b)] [] σ (.dat (.list ((ag row b).map bf))) σ:=by
 have hz13:σ.length+13∉fz:=fun h=>by have:=hfz _ h;omega
 have hz14:σ.length+14∉fz:=fun h=>by have:=hfz _ h;omega
 obtain ⟨g,hg⟩:∃ g:List Nat->AV,∀ q,g q=AV.dat (bf (q.map fun p=>row.getD p 0)):=⟨_,fun zz=>rfl⟩
 obtain ⟨S,hS⟩:∃ S:List Nat->aC,∀ q,S q=so5 σ (bI row b q.length).2 (an row b q.length).length (an row b q.length).length (bI row b q.length).1 [.list (am (1+2 * (al row b q.length).length)),.list ((al row b q.length).map g)]:=⟨_,fun zz=>rfl⟩
 have hL:∀ t,(bI row b t).1.length=5:=fun t=>(iL row b t).len
 have hend:S (EN 5)=σ++(bd σ.length (.ref (σ.length+2+2 * (bI row b 5).1.length)) (an row b 5).length (an row b 5).length (bI row b 5).1++(.list ((bI row b 5).2.map bW) :: [.list (am (1+2 * (al row b 5).length)),.list ((al row b 5).map g)])):=by rw [hS,FR];rfl
 refine aP.pure (t:=bd σ.length (.ref (σ.length+2+2 * (bI row b 5).1.length)) (an row b 5).length (an row b 5).length (bI row b 5).1++(.list ((bI row b 5).2.map bW) :: [.list (am (1+2 * (al row b 5).length)),.list ((al row b 5).map g)])) (a:=.ref (σ.length+14)) ?_ ?_
 ·rw [<- hend]
  have' hrow:bf row=.list (row.map nD):=rfl;have hrl:(row.map nD).length<=FG:=by rw [EC,EO];omega
  wtm_at "Dp"
  case hr=>exact .ret
  case h=>
   dsimp only;refine' aA (σ₁:=σ++(bd σ.length (.dat .none) 0 0 (bp row b 5)++[])) ?s1 (aA (σ₁:=so5 σ (cC (bp row b 5)) 0 0 (bp row b 5) [.list (am 1)]) ?s2 (aA (σ₁:=S []) ?s3 (aA (σ₁:=S (EN 5)) ?s4 (aA (σ₁:=S (EN 5)) ?s5 (a8 (aX ?s6))))))
   case s1=>
    refine' aB ?v ?t (by intro _;rfl) (by intro _;rfl) (by intro _;rfl)
    case v=>
     refine' ah ?f (kp_ H (by kernel_rfl)) (aZ ?l (by with_unfolding_all rfl)) (ju H hr hr4 hfz) (by show 7<=7;decide) rfl (by intro _;with_unfolding_all rfl)
     case f=>wtm_at "Me"
     case l=>wtm_at "Ml"
    case t=>wtm_at "Ma"
   case s2=>
    refine' aB (a:=.ref (σ.length+13)) (σ₁:=so5 σ (cC (bp row b 5)) 0 0 (bp row b 5) [.list (am 1)]) ?v ?t (by intro _;rfl) (by intro _;rfl) (by intro _;rfl)
    case v=>
     have' S0:=ij row b 5;have cp:=mW H (fz:=fz) (Z:=σ) (po:=0) (nf:=0) (nds:=bp row b 5) (by rw [cT];decide) (S0.ac (cG row b)) hfz
     refine' aH.st (aH.of (cI (as:=[.dat .none]) ?w ?w2) ?w3) ?w4
     case w=>
      refine' bF (bD ?ho (bC dH (bv H) (fd_ H (by kernel_rfl)) (fn_ H (by kernel_rfl)) rfl) (kp_ H (by kernel_rfl)) bZ cp (by show 3<=7;decide) rfl (by intro _;exact ⟨_,rfl⟩)) bQ (by with_unfolding_all rfl)
      case ho=>wtm_at "Me"
     case w2=>decide
     case w3=>rw [nU,cT];rfl
     case w4=>rw [nY];rfl
    case t=>wtm_at "Ma"
   case s3=>
    refine' aB (a:=.ref (σ.length+14)) (σ₁:=S []) ?v ?t (by intro _;rfl) (by intro _;rfl) (by intro _;rfl)
    case v=>
     refine' aH.st (aH.of (cI ?w ?w2) ?w3) ?w4
     case w=>wtm_at "Ml"
     case w2=>decide
     case w3=>rw [nU,cT];rfl
     case w4=>rw [nY,hS];rfl
    case t=>wtm_at "Ma"
   case s4=>
    refine' bq (ls:=[]) ?hi ?hf (by intro _ _;rfl)
    case hi=>
     have h1:(5:Int)<2 ^ 62:=by decide
     have h2:-(2 ^ 62)<=(5:Int):=by decide
     wtm_at "Mi"
    case hf=>
     rw [show ((5:Int)).toNat=5 from rfl,dF]
     dsimp only [EW];refine' cU (S:=S) ?ha ?hb
     case ha=>intro pre p post hx;wtm_at "Ma"
     case hb=>
      intro pre p post hx;obtain ⟨hpl,hp5⟩:=eJ hx;subst hpl;have J:=iL row b pre.length;have J1:=iL row b (pre.length+1);have hl5:=J.len;have hrd5:=J.rdl;have hgl:=lL row b pre.length;have ca:=gB H (fz:=fz) (Z:=σ) (post:=[.list (am (1+2 * (al row b pre.length).length)),.list ((al row b pre.length).map g)]) (rd:=(bI row b pre.length).2) (po:=(an row b pre.length).length) (nf:=(an row b pre.length).length) (nds:=(bI row b pre.length).1) (by omega)
      rw [hS,hS,EU,Ef]
      by_cases q:(bI row b pre.length).2=[]
      ·rw [xG q,al,an,if_pos q,q,FF,FF]
       rw [q] at ca
       refine' ay.sub (aF (aN (aY.of (b7 (bD ?ho (bC cN (bv H) (fd_ H (by kernel_rfl)) (fn_ H (by kernel_rfl)) rfl) (kp_ H (by kernel_rfl)) bZ ca (by show 2<=7;decide) rfl (by intro _;exact ⟨_,rfl⟩)) dT (by intro _;with_unfolding_all rfl)) ?e) aG)) ?sb
       case ho=>wtm_at "Me"
       case e=>simp
       case sb=>wtm_at "Msub"
      ·have hturn:bI row b (pre.length+1)=(bI row b pre.length).2.foldl av ((bI row b pre.length).2.foldl (bO (-1)) (bI row b pre.length).1,[]):=rfl
       have Jo:=J.out;have hst:=Jo.st (cG row b) J.rdn fun i hi=>by simp [hi]
       rw [al,an,if_neg q,EU,Eh,EU,Ef]
       rw [hturn] at J1 ⊢
       generalize bI row b pre.length=cur at *
       obtain ⟨nds,rd⟩:=cur;dsimp only at *
       generalize al row b pre.length=gs at *
       generalize an row b pre.length=fl at *
       have hrd1:(rd.map nD).length=rd.length:=by rw [EC]
       have hrde:rd.isEmpty=false:=by cases rd with
        | nil=>exact absurd rfl q
        | cons _ _=>rfl
       have hl5':=eK (-1) rd nds
       rw [hl5] at hl5'
       have hl5'':(rd.foldl av (rd.foldl (bO (-1)) nds,[])).1.length=5:=J1.len;have cg:=lP H (fz:=fz) (Z:=σ) (post:=[.list (am (1+2 * gs.length)),.list (gs.map g)]) (rd:=rd) (po:=fl.length) (nf:=fl.length) (nds:=nds) (fun p hp=>by rw [hl5];exact J.rdlt p hp) (by omega) (by omega) hfz
       have' cb:=gB H (fz:=fz) (Z:=σ) (post:=[.list (am (1+2 * gs.length)),.list ((gs.map g)++[g rd])]) (rd:=[]) (po:=fl.length+rd.length) (nf:=fl.length) (nds:=rd.foldl (bO (-1)) nds) (by decide)
       have' cd:=wH H (fz:=fz) (Z:=σ) (post:=[.list (am (1+2 * gs.length+1)),.list ((gs.map g)++[g rd])]) (rd:=[]) (po:=fl.length+rd.length) (nf:=fl.length) (nds:=rd.foldl (bO (-1)) nds) (is:=rd) (by omega) (by decide) (by omega) (fun x hx=>EE (Jo.scl x hx) (by decide)) Jo.scn hst hfz
       refine' ay.sub (aF (bL (aY.of (b7 (bD ?ho (bC cN (bv H) (fd_ H (by kernel_rfl)) (fn_ H (by kernel_rfl)) rfl) (kp_ H (by kernel_rfl)) bZ ca (by show 2<=7;decide) rfl (by intro _;exact ⟨_,rfl⟩)) dT (by intro _;with_unfolding_all rfl)) ?e) (aA (σ₁:=so5 σ [] (fl.length+rd.length) fl.length (rd.foldl (bO (-1)) nds) [.list (am (1+2 * gs.length)),.list (gs.map g)]) ?a1 (aA (σ₁:=so5 σ [] (fl.length+rd.length) fl.length (rd.foldl (bO (-1)) nds) [.list (am (1+2 * gs.length)),.list ((gs.map g)++[g rd])]) ?a2 (aA (σ₁:=so5 σ [] (fl.length+rd.length) fl.length (rd.foldl (bO (-1)) nds) [.list (am (1+2 * gs.length+1)),.list ((gs.map g)++[g rd])]) ?a3 (aF ?a4)))))) ?sb
       case ho=>wtm_at "Me"
       case e=>simp [hrde]
       case a1=>
        refine' aB ?v9 ?t9 (by intro _;rfl) (by intro _;rfl) (by intro _;rfl)
        case v9=>
         refine' bD ?ho (bC cN (bv H) (fd_ H (by kernel_rfl)) (fn_ H (by kernel_rfl)) rfl) (kp_ H (by kernel_rfl)) bZ cg (by show 2<=7;decide) rfl (by intro _;exact ⟨_,rfl⟩)
         case ho=>wtm_at "Me"
        case t9=>wtm_at "Ma"
       case a2=>
        refine' aq.st (bR (bc (i:=σ.length+14) (xs:=gs.map g) (a:=g rd) ?ho ?hv ⟨_,uk hl5'⟩ (uk hl5') hz14 ?hsz) (by intro _;rfl)) (sS hl5')
        case ho=>wtm_at "Me"
        case hsz=>rw [EC,EO];omega
        case hv=>
         rw [hg,show bf (rd.map fun p=>row.getD p 0)=.list ((rd.map fun p=>row.getD p 0).map nD) from rfl,EQ]
         wtm_at "Dc"
         case hz=>rw [EC,EO];omega
         case hc=>
          rw [EQ]
          refine' cM rfl ?ha ?hee ?hs
          case ha=>intro i hx;dsimp only [Function.comp];wtm_at "Ma"
          case hee=>
           intro i hx;have hi5:=J.rdlt i hx;have h0:(0:Int)<=(i:Int):=E4 i;have h4:(i:Int)<2 ^ 63:=by omega
           have hd:=fc (row:=row) (p:=i) (by omega)
           rw [hrow]
           dsimp only [Function.comp];wtm_at "Me"
          case hs=>intro i hx;wtm_at "Msub"
       case a3=>
        refine' aq.st (bR (bc (i:=σ.length+13) (xs:=am (1+2 * gs.length)) (a:=.dat .none) ?ho ?hv ⟨_,nX hl5'⟩ (nX hl5') hz13 ?hsz) (by intro _;rfl)) ?he
        case ho=>wtm_at "Me"
        case hsz=>unfold am;rw [Gc,EO];omega
        case he=>rw [nJ hl5',gP]
        case hv=>
         refine' y5 (aY.of (cH ?x ?y) ?e2) ik
         case x=>
          refine' b7 (cq ?f ?l qj (by with_unfolding_all rfl)) dT (by intro _;with_unfolding_all rfl)
          case f=>wtm_at "Me"
          case l=>wtm_at "Ml"
         case y=>
          refine' ai (bD ?ho (bC cN (bv H) (fd_ H (by kernel_rfl)) (fn_ H (by kernel_rfl)) rfl) (kp_ H (by kernel_rfl)) bZ cb (by show 2<=7;decide) rfl (by intro _;exact ⟨_,rfl⟩)) fF (OpG.of2 (vb rfl)) (by with_unfolding_all rfl)
          case ho=>wtm_at "Me"
         case e2=>
          have' hd:decide ((fl.length:Int)<(fl.length:Int)+(rd.length:Int))=true:=by
           have:0<rd.length:=Kr.mpr q;exact decide_eq_true (by omega)
          rw [hd];rfl
       case a4=>
        have hn2:am (1+2 * gs.length+1)++[.dat .none]=am (1+2 * (gs.length+1)):=by rw [gP];congr 1
        refine' aq.st (bR (bc (i:=σ.length+13) (xs:=am (1+2 * gs.length+1)) (a:=.dat .none) ?ho ?hv ⟨_,nX hl5'⟩ (nX hl5'') hz13 ?hsz) (by intro _;rfl)) ?he
        case ho=>wtm_at "Me"
        case hsz=>unfold am;rw [Gc,EO];omega
        case he=>rw [nJ hl5'',hn2]
        case hv=>
         refine' mq ?ho cN (bv H) (fd_ H (by kernel_rfl)) (sp_ H (by kernel_rfl)) (tk_ H (by kernel_rfl)) (by decide +kernel) rfl (fi_ H (by kernel_rfl)) (fn_ H (by kernel_rfl)) (by intro _;rfl) (vR ?x .tuple ?hz) cd (by show 2<7;decide) rfl (by intro _;with_unfolding_all rfl)
         case ho=>wtm_at "Me"
         case x=>wtm_at "Me"
         case hz=>rw [EC,EO];omega
       case sb=>wtm_at "Msub"
   case s5=>
    have hgl:=lL row b 5;have hl5:=hL 5;have cb:=gB H (fz:=fz) (Z:=σ) (post:=[.list (am (1+2 * (al row b 5).length)),.list ((al row b 5).map g)]) (rd:=(bI row b 5).2) (po:=(an row b 5).length) (nf:=(an row b 5).length) (nds:=(bI row b 5).1) (by have:=(iL row b 5).rdl;omega)
    rw [hS,FR]
    have hzl:(((am (1+2 * (al row b 5).length)).length:Nat):Int)<2 ^ 63:=by unfold am;rw [Gc];omega
    have' hm0:(0:Int)<=(((am (1+2 * (al row b 5).length)).length:Nat):Int):=E4 _;have hm1:(((am (1+2 * (al row b 5).length)).length:Nat):Int)<=1000:=by unfold am;rw [Gc];omega
    have hrep:(am (1+2 * (al row b 5).length)).length=1+2 * (al row b 5).length:=by unfold am;rw [Gc]
    have hfr:am (1+2 * (al row b 5).length)=(FK (1+2 * (al row b 5).length) Iy).map .dat:=by unfold am;rw [List.map_replicate]
    have hsA:(so5 σ (bI row b 5).2 (an row b 5).length (an row b 5).length (bI row b 5).1 [.list (am (1+2 * (al row b 5).length)),.list ((al row b 5).map g)])[σ.length+13]? = some (.list ((FK (1+2 * (al row b 5).length) Iy).map .dat)):=by rw [nX hl5,hfr]
    refine' aN (aY.of (fq (aY.of (ai ?l ?r (OpG.see (ia (eG (1+2 * (al row b 5).length) (by omega)) (eG (1+2 * (al row b 5).length) (by omega))) (Frz.dats (Ek _) hsA) .dat) (by with_unfolding_all rfl)) ?e1) ?y) ?e2) aG
    case l=>wtm_at "Me"
    case r=>
     refine' aH.of (ct ?b1 ?b2 (OpG.of2 (vt hm0 hm1))) ?b3
     case b1=>
      refine' fZ ?k1 ?k2 ?k3
      case k1=>wtm_at "Ml"
      case k2=>wtm_at "Mdats"
      case k3=>wtm_at "Mside"
     case b2=>
      refine' cq ?f ?l2 (mx (nX hl5) hzl) (by with_unfolding_all rfl)
      case f=>wtm_at "Me"
      case l2=>wtm_at "Ml"
     case b3=>rw [hrep];rfl
    case e1=>rw [m8 _ (by omega)];rfl
    case y=>
     refine' ai (bD ?ho (bC cN (bv H) (fd_ H (by kernel_rfl)) (fn_ H (by kernel_rfl)) rfl) (kp_ H (by kernel_rfl)) bZ cb (by show 2<=7;decide) rfl (by intro _;exact ⟨_,rfl⟩)) fF (OpG.of2 (kt rfl)) (by with_unfolding_all rfl)
     case ho=>wtm_at "Me"
    case e2=>rw [sA,decide_eq_false (Int.lt_irrefl _)];rfl
   case s6=>wtm_at "Me"
 ·have' e:=uk (Z:=σ) (rd:=(bI row b 5).2) (po:=(an row b 5).length) (nf:=(an row b 5).length) (nds:=(bI row b 5).1) (x:=.list (am (1+2 * (al row b 5).length))) (y:=.list ((al row b 5).map g)) (hL 5)
  refine Frz.dats (EM _ _) (e.trans ?_);unfold ag
  rw [EQ,EQ]
  congr 2
  exact FN fun q zz=>hg q
end
noncomputable def jH {α:Type} (n:Nat) (lt:Nat->Nat->Bool):KasT α->Option α
 | .ret a=>some a
 | .ask i j k=>if i<n/\j<n then jH n lt (k (lt i j)) else none
set_option tactic.hygienic true in
theorem uE {α:Type} {cmp:Nat->Nat->(Bool->Shared->Prop)->Shared->Prop} {n:Nat} {lt:Nat->Nat->Bool} {s:Shared} (hc:∀ i j,i<n->j<n->∀ C:Bool->Shared->Prop,C (lt i j) s->cmp i j C s) {Q:α->Shared->Prop} {a:α}:∀ t:KasT α,jH n lt t=some a->Q a s->t.kasWp cmp Q s:=by
 intro t
 induction t with
 | ret b=>
  intro h q
  cases h;exact q
 | ask i j k ih=>
  intro h q;have h:(if i<n/\j<n then jH n lt (k (lt i j)) else none)=some a:=h
  split at h
  ·rename_i hij
   exact hc i j hij.1 hij.2 _ (ih (lt i j) h q)
  ·cases h
noncomputable def jx:Nat->Nat->List (List Nat)
 | _,0=>[[]]
 | n,k+1=>(jx n k).flatMap fun r=>(EN n).map fun x=>x :: r
theorem th {n:Nat}:∀ {k:Nat} {r:List Nat},r.length=k->(∀ x∈r,x<n)->r∈jx n k:=by
 intro k
 induction k with
 | zero=>exact fun h zz=>Gr.mp h▸.head _
 | succ k ih=>
  intro r h hx
  cases r with
  | nil=>cases h
  | cons x r=>
  rw [jx,HW]
  exact ⟨r,ih (by simpa using h) fun y hy=>hx y (.tail _ hy),EL.mpr ⟨x,Ec.mpr (hx x (.head _)),rfl⟩⟩
noncomputable def oH:List Nat->Bool
 | []=>true
 | [_]=>true
 | x :: y :: r=>decide (x<=y) && oH (y :: r)
noncomputable def eI (n:Nat) (r:List Nat):Bool:=match jH n (fun i j=>decide (r.getD i 0<r.getD j 0)) (kas_sort n) with
 | some p=>p.toList.isPerm (EN n) && oH (p.toList.map fun i=>r.getD i 0)
 | none=>false
theorem AW:∀ r∈jx 2 2,eI 2 r=true:=by decide +kernel
theorem Al:∀ r∈jx 3 3,eI 3 r=true:=by decide +kernel
theorem A8:∀ r∈jx 4 4,eI 4 r=true:=by decide +kernel
theorem AR:∀ r∈jx 5 5,eI 5 r=true:=by decide +kernel
section
open PySem PySem.W PySem.Calls PyProof.Rows
noncomputable def eP (x:Nat×Nat):Nat:=x.1 * 8+x.2
noncomputable def gu (ps:List (Nat×Nat)):List (Nat×Nat):=ps.mergeSort fun x y=>decide (eP x<=eP y)
noncomputable def pD (x:Nat×Nat):PyData:=.tuple [nD x.1,nD x.2]
theorem AG {x y:Nat×Nat} (hx:x.2<8) (hy:y.2<8) (h:eP x=eP y):x=y:=by
 unfold eP at h
 exact Prod.ext (by omega) (by omega)
theorem fy (ps:List (Nat×Nat)):(gu ps).Perm ps:=G8 ..
theorem iy (ps:List (Nat×Nat)):(gu ps).Pairwise fun x y=>eP x<=eP y:=
 (IR (le:=fun (a b:Nat×Nat)=>decide (eP a<=eP b)) (fun a b c h1 h2=>by simp at *;omega) (fun a b=>by simp;omega) ps).imp fun h=>by simpa using h
theorem km:∀ {a b:List (Nat×Nat)},(∀ x∈a,x.2<8)->a.Perm b->a.Pairwise (fun x y=>eP x<=eP y)->b.Pairwise (fun x y=>eP x<=eP y)->a=b:=by
 intro a
 induction a with
 | nil=>intro b _ hp _ _;exact (Jn.mp hp).symm
 | cons x a ih=>
  intro b h8 hp ha hb
  cases b with
  | nil=>exact absurd hp.length_eq (by simp)
  | cons y b=>
   rw [Fe] at ha hb
   have hy:y∈x :: a:=hp.mem_iff.mpr (.head _);have' h1:eP y<=eP x:=by
    rcases ES.mp (hp.mem_iff.mp (.head _)) with q | q
    ·rw [q];exact EH _
    ·exact hb.1 x q
   have' h2:eP x<=eP y:=by
    rcases ES.mp hy with q | q
    ·rw [q];exact EH _
    ·exact ha.1 y q
   obtain rfl:x=y:=AG (h8 x (.head _)) (h8 y hy) (HD h2 h1)
   rw [ih (fun z hz=>h8 z (.tail _ hz)) hp.cons_inv ha.2 hb.2]
theorem oV {a b:Nat} (hab:a<b):∀ {l:List Nat},a∈l->(l.filter fun x=>decide (x<a)).length<(l.filter fun x=>decide (x<b)).length:=by
 intro l
 induction l with
 | nil=>intro h;exact absurd h Fb
 | cons x l ih0=>
  intro h;have' le:∀ l:List Nat,(l.filter fun x=>decide (x<a)).length<=(l.filter fun x=>decide (x<b)).length:=fun l=>by
   induction l with
   | nil=>exact EH _
   | cons y l ih=>
    rw [Eu,Eu]
    by_cases p:y<a
    ·have:y<b:=by omega
     simp [p,this];exact ih
    ·by_cases q:y<b<;>simp [p,q]<;>omega
  rw [Eu,Eu]
  by_cases q:x=a
  ·subst q
   have:=le l
   simp [hab];omega
  ·have' h':a∈l:=(ES.mp h).resolve_left (Ne.symm q)
   have ih:=ih0 h'
   by_cases p:x<a
   ·have:x<b:=by omega
    simp [p,this];exact ih
   ·by_cases r:x<b<;>simp [p,r]<;>omega
theorem nC {a b:Nat} (hab:a<=b):∀ (l:List Nat),(l.filter fun x=>decide (x<a)).length<=(l.filter fun x=>decide (x<b)).length:=by
 intro l
 induction l with
 | nil=>exact EH _
 | cons y l ih=>
  rw [Eu,Eu]
  by_cases p:y<a
  ·have:y<b:=by omega
   simp [p,this];exact ih
  ·by_cases q:y<b<;>simp [p,q]<;>omega
theorem mA {a:Nat}:∀ {l:List Nat},a∈l->(l.filter fun x=>decide (x<a)).length<l.length:=by
 intro l
 induction l with
 | nil=>exact fun h=>nomatch h
 | cons x l ih=>
  intro h
  rw [Eu]
  by_cases q:x=a
  ·subst q
   have:=FI (fun y=>decide (y<x)) l
   simp;omega
  ·have ih:=ih ((ES.mp h).resolve_left (Ne.symm q))
   by_cases p:x<a
   ·rw [if_pos (decide_eq_true p),EX,EX];omega
   ·rw [if_neg (by simpa using p),EX];omega
theorem mF:∀ {l:List Nat},oH l=true->l.Pairwise (·<=·)
 | [],_=>.nil
 | [_],_=>Gp _ _
 | x :: y :: r,h=>by
  unfold oH at h
  simp only [E7,decide_eq_true_eq] at h
  have ih:=mF h.2
  rw [Fe]
  refine ⟨fun z hz=>?_,ih⟩
  rcases ES.mp hz with rfl | hz
  ·exact h.1
  ·exact EE h.1 ((Fe.mp ih).1 z hz)
noncomputable def iS (ps:List (Nat×Nat)) (x:Nat×Nat):Nat:=((ps.map eP).filter fun y=>decide (y<eP x)).length
theorem uS {ps:List (Nat×Nat)} (h2:2<=ps.length) (h5:ps.length<=5) (h8:∀ x∈ps,x.2<8) :
  ∃ p:Array Nat,jH ps.length (fun i j=>decide (eP (ps.getD i (0,0))<eP (ps.getD j (0,0)))) (kas_sort ps.length)=some p/\(∀ i∈p.toList,i<ps.length)/\p.toList.map (fun i=>ps.getD i (0,0))=gu ps:=by
 have hm:∀ i,i<ps.length->ps.getD i (0,0)∈ps:=fun i hi=>by rw [GK,E8 hi];exact Ge hi
 have hr:ps.map (iS ps)∈jx ps.length ps.length:=th (by simp) fun x hx=>by
  obtain ⟨y,hy,rfl⟩:=EL.mp hx;have:=mA (EL.mpr ⟨y,hy,rfl⟩:eP y∈ps.map eP)
  rwa [EC] at this
 have hs:eI ps.length (ps.map (iS ps))=true:=by
  have:ps.length=2\/ps.length=3\/ps.length=4\/ps.length=5:=by omega
  generalize ps.map (iS ps)=r at hr
  rcases this with e | e | e | e<;>rw [e] at hr ⊢
  ·exact AW r hr
  ·exact Al r hr
  ·exact A8 r hr
  ·exact AR r hr
 have hget:∀ i,i<ps.length->(ps.map (iS ps)).getD i 0=iS ps (ps.getD i (0,0)):=fun i hi=>by simp [GK,hi]
 have hlt:∀ x∈ps,∀ y∈ps,(iS ps x<iS ps y↔eP x<eP y):=fun x hx y hy=>by
  constructor
  ·intro h
   apply Nat.lt_of_not_le
   intro q;have:=nC q (ps.map eP);unfold iS at h;omega
  ·intro h
   exact oV h (EL.mpr ⟨x,hx,rfl⟩)
 have' hrun:∀ {α:Type} (t:KasT α),jH ps.length (fun i j=>decide ((ps.map (iS ps)).getD i 0<(ps.map (iS ps)).getD j 0)) t=jH ps.length (fun i j=>decide (eP (ps.getD i (0,0))<eP (ps.getD j (0,0)))) t:=by
  intro α t
  induction t with
  | ret a=>rfl
  | ask i j k ih=>
   unfold jH
   by_cases h:i<ps.length/\j<ps.length
   ·rw [if_pos h,if_pos h,ih]
    congr 2
    rw [hget i h.1,hget j h.2]
    exact decide_eq_decide.mpr (hlt _ (hm i h.1) _ (hm j h.2))
   ·rw [if_neg h,if_neg h]
 unfold eI at hs
 rw [hrun] at hs
 cases e:jH ps.length (fun i j=>decide (eP (ps.getD i (0,0))<eP (ps.getD j (0,0)))) (kas_sort ps.length) with
 | none=>rw [e] at hs;cases hs
 | some p=>
  rw [e] at hs
  simp only [E7] at hs
  have hp:p.toList.Perm (EN ps.length):=List.isPerm_iff.mp hs.1;have hpl:∀ i∈p.toList,i<ps.length:=fun i hi=>Ec.mp (hp.mem_iff.mp hi)
  refine ⟨p,rfl,hpl,?_⟩;have' e1:(EN ps.length).map (fun i=>ps.getD i (0,0))=ps:=by
   refine KC (by simp) fun i h1 h2=>?_
   simp [GK,h2]
  have hperm:(p.toList.map fun i=>ps.getD i (0,0)).Perm ps:=by
   have:=hp.map fun i=>ps.getD i (0,0)
   rwa [e1] at this
  refine km (fun x hx=>h8 x (hperm.mem_iff.mp hx)) (hperm.trans (fy ps).symm) ?_ (iy ps)
  have hpw:=mF hs.2
  rw [Hi] at hpw ⊢
  refine hpw.imp_of_mem fun {i j} hi hj h=>?_
  rw [hget i (hpl i hi),hget j (hpl j hj)] at h
  apply Jr
  intro q;have:=(hlt _ (hm j (hpl j hj)) _ (hm i (hpl i hi))).mpr q
  omega
noncomputable def cm (h:Heap) (vs:List Value) (ps:List (Nat×Nat)):Prop:=vs.length=ps.length/\∀ (i:Nat) (x:Nat×Nat),ps[i]? = some x->∃ (t:Addr) (o:Obj) (m:Nat) (k1 k2:Tok),vs[i]? = some (Fg t)/\h.get? t=some o/\o.cls=.type "tuple" /\ o.data=.seq #[.int (x.1:Int) k1,.int (x.2:Int) k2] m
theorem cm.tups {h:Heap}:∀ {vs:List Value} {ps:List (Nat×Nat)},cm h vs ps->∃ fs:List Value,KatTups h vs fs/\fs.length=ps.length/\∀ f∈fs,∃ n t,f=.int n t:=by
 intro vs
 induction vs with
 | nil=>
  intro ps H
  cases ps with
  | nil=>exact ⟨[],trivial,rfl,jP⟩
  | cons _ _=>exact nomatch H.1
 | cons v vs ih=>
  intro ps H
  cases ps with
  | nil=>exact nomatch H.1
  | cons x ps=>
   obtain ⟨hl,hp⟩:=H;obtain ⟨t,o,m,k1,k2,hv,ho,hc,hd⟩:=hp 0 x rfl;obtain ⟨fs,h1,h2,h3⟩:=ih (ps:=ps) ⟨by simpa using hl,fun i y hy=>hp (i+1) y hy⟩
   obtain rfl:v=.ref t:=by simpa using hv
   refine ⟨.int (x.1:Int) k1 :: fs,KatTups.cons ho hc hd rfl h1,by simp [h2],fun f hf=>?_⟩
   rcases ES.mp hf with rfl | hf
   ·exact ⟨_,_,rfl⟩
   ·exact h3 f hf
theorem cm.mono {h h':Heap} {vs:List Value} {ps:List (Nat×Nat)} (H:cm h vs ps) (k:∀ t o,h.get? t=some o->o.cls=.type "tuple" -> h'.get? t=some o):cm h' vs ps:=
 ⟨H.1,fun i x hx=>by
  obtain ⟨t,o,m,k1,k2,a,b,c,d⟩:=H.2 i x hx;exact ⟨t,o,m,k1,k2,a,k t o b c,c,d⟩⟩
section
variable {prog:Fn} {w:World} {A:Around} {E:Value->Shared->Prop} {s:Shared}
theorem uJ {vs:List Value} {ps:List (Nat×Nat)} (H:cm s.heap vs ps) (h8:∀ x∈ps,x.2<8) (i j:Nat) (hi:i<ps.length) (hj:j<ps.length) (C:Bool->Shared->Prop) (h:C (decide (eP (ps.getD i (0,0))<eP (ps.getD j (0,0)))) s) :
  kas_ask prog w A (tuples' true) vs i j C s:=by
 have ei:ps[i]? = some (ps.getD i (0,0)):=by simp [GK,hi]
 have ej:ps[j]? = some (ps.getD j (0,0)):=by simp [GK,hj]
 have i8:=h8 _ (EK ei)
 have j8:=h8 _ (EK ej)
 obtain ⟨t,o,m,k1,k2,hv,ho,hc,hd⟩:=H.2 i _ ei
 obtain ⟨t',o',m',k1',k2',hv',ho',hc',hd'⟩:=H.2 j _ ej
 generalize ps.getD i (0,0)=x at *
 generalize ps.getD j (0,0)=y at *
 unfold kas_ask
 rw [show vs.getD i FB=.ref t by rw [GK,hv];rfl,show vs.getD j FB=.ref t' by rw [GK,hv'];rfl]
 refine kat_lt ho hd ho' hd' ?_
 unfold eP at h
 refine kat_cons (wpAny_eqBool_int (kat_go (fun e=>kat_yes (kat_cons (wpAny_eqBool_int (kat_go (fun e2=>kat_yes (kat_nil ?_)) fun e2=>kat_no ?_)))) fun e=>kat_no ?_))
 ·have e:(x.1:Int)=y.1:=by simpa using e
  have e2:(x.2:Int)=y.2:=by simpa using e2
  rw [show decide (x.1 * 8+x.2<y.1 * 8+y.2)=false from decide_eq_false (by omega)] at h
  exact h
 ·have e:(x.1:Int)=y.1:=by simpa using e
  refine kat_one _ _ (PyProof.Rows.lt_int ?_)
  rw [show decide (x.1 * 8+x.2<y.1 * 8+y.2)=decide ((x.2:Int)<y.2) from decide_eq_decide.mpr (by omega)] at h
  exact h
 ·have e:(x.1:Int)≠y.1:=by simpa using e
  refine oneLt_int ?_
  rw [show decide (x.1 * 8+x.2<y.1 * 8+y.2)=decide ((x.1:Int)<y.1) from decide_eq_decide.mpr (by omega)] at h
  exact h
end
end
section
open PySem PySem.W PySem.Calls PyProof.Rows
theorem qI {ps:List (Nat×Nat)} (h:ps.length<2):gu ps=ps:=by
 rcases ps with _ | ⟨x,_ | ⟨y,ps⟩⟩
 ·unfold gu;simp
 ·unfold gu;simp
 ·exact absurd h (E0.mpr (Iz 2 _))
theorem qp {vs:List Value} (h2:vs.length<2):(vs.toArray.zip vs.toArray).map (·.2)=(List.map (fun i=>vs.getD i FB) (EN vs.length)).toArray:=by
 rcases vs with _ | ⟨v,_ | ⟨w,vs⟩⟩
 ·with_unfolding_all rfl
 ·with_unfolding_all rfl
 ·exact absurd h2 (E0.mpr (Iz 2 _))
section
variable {prog:Fn} {w:World} {A:Around} {E:Value->Shared->Prop} {s:Shared}
theorem rg {a:Addr} {vs:List Value} {ps:List (Nat×Nat)} {n:Nat} {P:PySem.Fin->Shared->Prop} (ho:s.heap.get? a=some (seqObj "list" vs.toArray n)) (H:cm s.heap vs ps) (h5:ps.length<=5) (h8:∀ x∈ps,x.2<8)
  (h:∀ p:List Nat,(∀ i∈p,i<ps.length)->p.map (fun i=>ps.getD i (0,0))=gu ps->P (.done (.ret .none)) {s with heap:=sortedHeap s.heap a vs (p.map fun i=>vs.getD i FB).toArray}) :
  wpAny (model prog w) A (En.«list.sort» ⟨[.ref a],[]⟩) P E s:=by
 have hl:=H.1
 have ha:a<s.heap.objs.size:=Ea ho
 rw [list_sort_plain]
 refine EA (listItems_at ho rfl ?_)
 refine EA (Ky ho rfl ?_ (by rw [Gq,EO];omega) (Ek _))
 obtain ⟨e1,ho1⟩:∃ e1,(s.heap.update a (Ey fun zz=>(#[]:Array Value))).get? a=some (seqObj "list" #[] e1):=⟨_,get?_update_seq ho fun zz=>#[]⟩
 refine EA (Lg ho1 rfl ?_)
 refine EA (wpAny_newTuple ?_ (by show vs.length<=_;rw [EO];omega))
 refine EA (wpAny_newList ?_ (Ek _))
 refine EY ?_
 have ho6:(((s.heap.update a (Ey fun zz=>(#[]:Array Value))).push (seqObj "tuple" vs.toArray 0)).push (seqObj "list" #[] 0)).get? a=some (seqObj "list" #[] e1):=EJ _ (EJ _ ho1)
 have H6:cm (((s.heap.update a (Ey fun zz=>(#[]:Array Value))).push (seqObj "tuple" vs.toArray 0)).push (seqObj "list" #[] 0)) vs ps:=H.mono fun t o ht hc=>by
  have' hne:t≠a:=by
   rintro rfl
   rw [ho] at ht
   have:=GB.inj ht
   rw [<- this] at hc
   exact absurd hc (by show ¬ F7 "list" = F7 "tuple";decide)
  exact EJ _ (EJ _ (by rw [G9 _ _ _ _ hne];exact ht))
 show wpAny (model prog w) A _ P E {s with heap:=((s.heap.update a (Ey fun zz=>(#[]:Array Value))).push (seqObj "tuple" vs.toArray 0)).push (seqObj "list" #[] 0)}
 dsimp only
 by_cases h2:vs.toArray.size<2
 ·rw [if_pos h2,if_pos h2]
  rw [Gq] at h2
  refine EA (EF ?_)
  rw [StateT.run_pure]
  refine EA (EF ?_);dsimp only;refine EA (Lg ho6 rfl ?_);have' hout:(arrOf (SortSt.mk' general' (vs.toArray.zip vs.toArray) #[] 7 none)).map (·.2)=(List.map (fun i=>vs.getD i FB) (EN vs.length)).toArray:=by
   exact qp h2
  rw [hout]
  refine EA (Ky ho6 rfl ?_ (Ek _) (by rw [Gq,EC,FR,EO];omega))
  simp only [bne_self_eq_false,F0,if_false]
  refine EF (h (EN vs.length) (fun i hi=>by rw [<- hl];exact Ec.mp hi) ?_)
  rw [qI (by omega),hl]
  refine KC (by simp) fun i h1 h2=>?_
  simp [GK,h2]
 ·rw [if_neg h2,if_neg h2]
  rw [Gq] at h2
  obtain ⟨fs,f1,f2,f3⟩:=H6.tups;refine EA (kat_kind (T:=.type "int") f1 (by omega) (fun v hv=>?_) (by decide) ?_)
  ·obtain ⟨n,t,rfl⟩:=f3 v hv
   exact .now
  rw [show (F7 "int" != F7 "tuple")=true by decide]
  obtain ⟨p,hrun,hpl,hps⟩:=uS (ps:=ps) (by omega) h5 h8
  refine EA (Ep (kat_run (κ:=tuples' true) (ks:=vs) (vs:=vs) (G:=fun p' s'=>p'=p/\s'={s with heap:=((s.heap.update a (Ey fun zz=>(#[]:Array Value))).push (seqObj "tuple" vs.toArray 0)).push (seqObj "list" #[] 0)})
   (Q:=fun st' s'=>p.size=vs.length/\arrOf st'=p.map (kas_item (vs.toArray.zip vs.toArray))/\failedOf st'=none/\s'={s with heap:=((s.heap.update a (Ey fun zz=>(#[]:Array Value))).push (seqObj "tuple" vs.toArray 0)).push (seqObj "list" #[] 0)})
   rfl (by omega) (by omega) (fun p' st' s' a1 a2 a3 a4=>by obtain ⟨rfl,rfl⟩:=a4;exact ⟨a1,a2,a3,rfl⟩) (by
    rw [hl]
    exact uE (n:=ps.length) (fun i j hi hj C hC=>uJ H6 h8 i j hi hj C hC) _ hrun ⟨rfl,rfl⟩)) ?_ fun zz zz e=>e)
  rintro ⟨⟨⟩,st'⟩ s' ⟨hp,har,hf,rfl⟩
  dsimp only;refine EA (Lg ho6 rfl ?_);have' hout:=kat_snds rfl har
  rw [hout]
  refine EA (Ky ho6 rfl ?_ (Ek _) (by rw [Gq,EC,FM,hp,EO];omega))
  rw [hf]
  simp only [bne_self_eq_false,F0,if_false]
  exact EF (h p.toList hpl hps)
theorem nZ {l:Addr} {vs:List Value} {ps:List (Nat×Nat)} {Q:Value->Shared->Prop} (hl:s.heap.IsList l vs.toArray) (H:cm s.heap vs ps) (h5:ps.length<=5) (h8:∀ x∈ps,x.2<8)
  (h:∀ p:List Nat,(∀ i∈p,i<ps.length)->p.map (fun i=>ps.getD i (0,0))=gu ps->Q (.ref (s.heap.objs.size+1)) {s with heap:=Kg s.heap vs (p.map fun i=>vs.getD i FB).toArray}) :
  wpAny (model prog w) A (call (.builtin "sorted") [.ref l]) Q E s:=by
 have hvl:=H.1
 refine Calls.call_function_entry kind_sorted plain_sorted entry_sorted (args_sorted1 _) ?_
 unfold En.«sorted»
 refine EA (m:=checkCount "sorted" 1 1 _) (EF ?_)
 refine EA (collect_list hl ?_ (by rw [EO];omega))
 refine EA (wpAny_newList ?_ (by show vs.length<=_;rw [EO];omega))
 have hsz:((s.heap.push (seqObj "list" #[] 0)).update s.heap.objs.size (Ey (· ++ vs.toArray))).objs.size=s.heap.objs.size+1:=by rw [Gg,size_push']
 have hoL:(((s.heap.push (seqObj "list" #[] 0)).update s.heap.objs.size (Ey (· ++ vs.toArray))).push (seqObj "list" vs.toArray 0)).get? (s.heap.objs.size+1)=some (seqObj "list" vs.toArray 0):=by
  rw [<- hsz];exact EP _ rfl
 have' H2:cm (((s.heap.push (seqObj "list" #[] 0)).update s.heap.objs.size (Ey (· ++ vs.toArray))).push (seqObj "list" vs.toArray 0)) vs ps:=H.mono fun t o ht zz=>by
  have' hlt:=Ea ht;exact EJ _ (by rw [G9 _ _ _ _ (FE hlt)];exact EJ _ ht)
 show wpAny _ _ _ _ _ {s with heap:=((s.heap.push (seqObj "list" #[] 0)).update s.heap.objs.size (Ey (· ++ vs.toArray))).push (seqObj "list" vs.toArray 0)}
 rw [hsz]
 refine EA (EY (Jw slot_list_sort ⟨_,hoL,rfl⟩ entry_list_sort (rg hoL H2 h5 h8 fun p a1 a2=>⟨_,rfl,?_⟩) (args_list_sort _)))
 exact EF ⟨_,rfl,h p a1 a2⟩
end
theorem mr {h:Heap} {vs:List Value} {ds:List PyData} {as:List Addr} (q:FW h vs ds as) (i:Nat) (d:PyData) (e:ds[i]? = some d):∃ v bs,vs[i]? = some v/\Reads h v d bs:=by
 induction ds generalizing vs as i with
 | nil=>cases e
 | cons d' ds ih=>cases q using RA1 with
  | cons r t=>cases i with
   | zero=>cases e;exact ⟨_,_,rfl,r⟩
   | succ i=>exact ih t i e
theorem xF {h:Heap} {α:Type} {f:α->Value} {g:α->PyData}:∀ (l:List α),(∀ x∈l,∃ bs,Reads h (f x) (g x) bs)->∃ as,FW h (l.map f) (l.map g) as:=by
 intro l
 induction l with
 | nil=>exact fun zz=>⟨_,.nil⟩
 | cons x l ih=>
  intro H;obtain ⟨bs,r⟩:=H x (.head _);obtain ⟨as,rs⟩:=ih fun y hy=>H y (.tail _ hy)
  exact ⟨_,.cons r rs⟩
theorem cm.of {h:Heap} {vs:List Value} {ps:List (Nat×Nat)} {as:List Addr} {A:List Addr} (r:FW (cK A h) vs (ps.map pD) as):cm h vs ps:=by
 refine ⟨(a9 r).trans (EC ..),fun i x hx=>?_⟩
 obtain ⟨v,bs,hv,rv⟩:=mr r i (pD x) (by rw [Ei,hx];rfl)
 unfold pD at rv
 cases rv using RT with
 | @tuple t o items m _ ho hc hd hr=>
  have hlen:items.size=2:=a9 hr;obtain ⟨v1,v2,hvs⟩:∃ v1 v2,items.toList=[v1,v2]:=by
   rcases e:items.toList with _ | ⟨v1,_ | ⟨v2,_ | ⟨v3,r⟩⟩⟩<;>rw [<- FM,e] at hlen<;>first | exact ⟨_,_,rfl⟩ | simp at hlen
  rw [hvs] at hr
  cases hr using RA1 with
  | cons r1 hr=>cases hr using RA1 with
   | cons r2 hr=>
    cases r1 using RI with
    | int t1=>cases r2 using RI with
     | int t2=>
      refine ⟨t,o,m,t1,t2,hv,Ex _ ho,hc,?_⟩
      rw [hd]
      congr 1
      exact Array.toList_inj.mp hvs
section
variable {C:Cx} {lv:Lv} {σ:aC}
theorem r8 {ps:List (Nat×Nat)} (h5:ps.length<=5) (h8:∀ x∈ps,x.2<8):fO C lv σ (.builtin "sorted") [.dat (.list (ps.map pD))] (.list ((gu ps).map pD)):=by
 intro A μ s vs Q E ok G r hQ
 obtain ⟨v,rfl,⟨as,rv⟩⟩:=r.e1
 cases rv using RL with
 | @list l o items n as ho hc hd hr=>
  have hlen:items.size=ps.length:=(a9 hr).trans (EC ..);have' hl:s.heap.IsList l items.toList.toArray:=⟨o,Ex _ ho,hc,n,by simpa using hd⟩
  refine ao (nZ hl (cm.of hr) h5 h8 fun p hp e hsz=>?_)
  obtain ⟨e1,he⟩:=sortedAll_at s.heap items.toList (p.map fun i=>items.toList.getD i FB).toArray
  have k:aL A0 NoW s {s with heap:=Kg s.heap items.toList (p.map fun i=>items.toList.getD i FB).toArray}:=ab (tk:=s.toks) hsz fun b o q=>sortedAll_old q
  obtain ⟨cs,z⟩:=xF (h:=cK μ.hid (Kg s.heap items.toList (p.map fun i=>items.toList.getD i FB).toArray)) (f:=fun i=>items.toList.getD i FB) (g:=fun i=>pD (ps.getD i (0,0))) p fun i hi=>by
   have hip:=hp i hi;obtain ⟨v,bs,hv,rv⟩:=mr hr i (pD (ps.getD i (0,0))) (by rw [Ei];simp [GK,hip])
   refine ⟨bs,?_⟩
   rw [show items.toList.getD i FB=v by rw [GK,hv];rfl]
   exact PyProof.Rows.Reads.keeps (cS k) rv
  have e2:(gu ps).map pD=p.map fun i=>pD (ps.getD i (0,0)):=by rw [<- e,EQ];rfl
  rw [e2] at hQ
  exact hQ _ _ _ k (.list (F9 _ he fun hm=>absurd (G.lt _ hm) (E0.mpr (Eg _))) rfl rfl (by simpa using z))
end
end
theorem vB:∀ {n:Nat} {l:List Nat},(∀ p,p<n->p∈l)->n<=l.length:=by
 intro n
 induction n with
 | zero=>exact fun zz=>Ek _
 | succ n ih=>
  intro l h;have hf:=ih (l:=l.filter fun i=>true && !(i==n)) fun p hp=>FV.mpr ⟨h p (HG hp),by
   have:p≠n:=FE hp
   simp [this]⟩
  have' hd:=kA (P:=fun zz=>true) (v:=n) rfl l (h n (E3 _))
  rw [show l.filter (fun zz=>true)=l from GN.mpr fun zz zz=>rfl] at hd
  omega
theorem q6 {n:Nat} {l:List Nat} (hn:l.Nodup) (hl:∀ x∈l,x<n) (hlen:l.length=n):∀ p,p<n->p∈l:=fun p hp=>by
 by_cases q:p∈l
 ·exact q
 ·have:=fR (n:=n) (l:=p :: l) (GF.mpr ⟨q,hn⟩) fun x hx=>by
   rcases ES.mp hx with rfl | hx
   ·exact hp
   ·exact hl x hx
  rw [EX] at this;omega
set_option genInjectivity false in
structure Ob where
 nds:List Nd
 rd:List Nat
 w:List (Nat×Nat)
 told:List Nat
noncomputable def obW (row:List Nat) (s:Ob):List (Nat×Nat):=gu (s.w++s.rd.map fun p=>(row.getD p 0,p))
noncomputable def gZ (row:List Nat) (s:Ob):Ob:=match obW row s with
 | []=>⟨s.rd.foldl (bO (-1)) s.nds,[],[],s.told⟩
 | x :: w=>⟨(av (s.rd.foldl (bO (-1)) s.nds,[]) x.2).1,(av (s.rd.foldl (bO (-1)) s.nds,[]) x.2).2,w,s.told++[x.2]⟩
noncomputable def bK (row:List Nat) (b:Nat->Nat->Bool):Nat->Ob
 | 0=>⟨bp row b 5,cC (bp row b 5),[],[]⟩
 | t+1=>gZ row (bK row b t)
noncomputable def dv (row:List Nat) (b:Nat->Nat->Bool):List Nat:=(bK row b 5).told.map fun p=>row.getD p 0
structure iI (row:List Nat) (b:Nat->Nat->Bool) (s:Ob):Prop where
 sj:SJ 5 (bA row b) (fun p=>s.told.contains p) (fun p=>(s.w.map (·.2)).contains p) s.nds s.rd
 wn:(s.w.map (·.2)).Nodup
 wl:∀ x∈s.w,x.1=row.getD x.2 0
 tn:s.told.Nodup
section
variable {row:List Nat} {b:Nat->Nat->Bool} {s:Ob}
theorem iI.t5 (h:iI row b s):∀ p∈s.told,p<5:=fun p hp=>(h.sj.cl p (.inl (by simpa using hp))).1
theorem iI.w5 (h:iI row b s):∀ x∈s.w,x.2<5:=fun x hx=>(h.sj.cl x.2 (.inr (by simpa using ⟨x.1,hx⟩))).1
theorem iI.all (h:iI row b s) (e1:s.w=[]) (e2:s.rd=[]):∀ p,p<5->p∈s.told:=by
 intro p
 induction p using JC with
 | ind p ih=>
  intro hp
  by_cases q:p∈s.told
  ·exact q
  ·have:p∈s.rd:=(h.sj.rd_ p).mpr ⟨hp,by simpa using q,by rw [e1];rfl,fun r hr=>by
    have hl:=(cG row b).lt _ _ hr
    simpa using ih r hl (Hp hl hp)⟩
   rw [e2] at this;cases this
theorem iI.allW (h:iI row b s):((s.w++s.rd.map fun p=>(row.getD p 0,p)).map (·.2)).Nodup/\(∀ x∈s.w++s.rd.map fun p=>(row.getD p 0,p),x.2<5/\x.1=row.getD x.2 0):=by
 refine ⟨?_,fun x hx=>?_⟩
 ·rw [Eh,EQ]
  rw [show s.rd.map ((fun x:Nat×Nat=>x.2) ∘ fun p=>(row.getD p 0,p))=s.rd by rw [show ((fun x:Nat×Nat=>x.2) ∘ fun p=>(row.getD p 0,p))=id from rfl,List.map_id]]
  rw [Fy]
  refine ⟨h.wn,h.sj.rdn,fun a ha c hc e=>?_⟩
  subst e;have:=((h.sj.rd_ a).mp hc).2.2.1
  rw [FJ.mpr ha] at this;cases this
 ·rcases ED.mp hx with hx | hx
  ·exact ⟨h.w5 x hx,h.wl x hx⟩
  ·obtain ⟨p,hp,rfl⟩:=EL.mp hx
   exact ⟨h.sj.rdlt p hp,rfl⟩
theorem iI.len5 (h:iI row b s):(s.w++s.rd.map fun p=>(row.getD p 0,p)).length<=5:=by
 have:=fR h.allW.1 fun x hx=>by
  obtain ⟨y,hy,rfl⟩:=EL.mp hx;exact (h.allW.2 y hy).1
 simpa using this
theorem iI.obW_ne (h:iI row b s) (ht:s.told.length<5):obW row s≠[]:=by
 intro e
 have' e':s.w++s.rd.map (fun p=>(row.getD p 0,p))=[]:=by
  have:=(fy (s.w++s.rd.map fun p=>(row.getD p 0,p))).length_eq
  unfold obW at e
  rw [e] at this
  exact GO this.symm
 obtain ⟨e1,e2⟩:=List.append_eq_nil_iff.mp e'
 have:=vB (h.all e1 (HS.mp e2))
 omega
theorem iI.turn (h:iI row b s) {x:Nat×Nat} {w:List (Nat×Nat)} (e:obW row s=x :: w):gZ row s=⟨(av (s.rd.foldl (bO (-1)) s.nds,[]) x.2).1,(av (s.rd.foldl (bO (-1)) s.nds,[]) x.2).2,w,s.told++[x.2]⟩/\iI row b (gZ row s) /\
  SJ 5 (bA row b) (fun p=>s.told.contains p) (fun p=>((x :: w).map (·.2)).contains p) (s.rd.foldl (bO (-1)) s.nds) []/\x.2<5/\x.1=row.getD x.2 0/\∀ y∈w,x.1<=y.1:=by
 have ht:gZ row s=⟨(av (s.rd.foldl (bO (-1)) s.nds,[]) x.2).1,(av (s.rd.foldl (bO (-1)) s.nds,[]) x.2).2,w,s.told++[x.2]⟩:=by unfold gZ;rw [e]
 have hperm:(x :: w).Perm (s.w++s.rd.map fun p=>(row.getD p 0,p)):=by rw [<- e];exact fy _
 have hsort:(x :: w).Pairwise fun x y=>eP x<=eP y:=by rw [<- e];exact iy _
 obtain ⟨a1,a2⟩:=h.allW
 have hn:((x :: w).map (·.2)).Nodup:=(hperm.map _).nodup_iff.mpr a1
 have hw:∀ y∈x :: w,y.2<5/\y.1=row.getD y.2 0:=fun y hy=>a2 y (hperm.mem_iff.mp hy)
 have So:=h.sj.out
 have' eO:(fun p=>(s.w.map (·.2)).contains p || s.rd.contains p)=fun p=>((x :: w).map (·.2)).contains p:=by
  funext p
  rw [FU,Gu,FJ,FJ,FJ,(hperm.map (·.2)).mem_iff,Eh,ED]
  refine or_congr Iff.rfl ?_
  simp
 rw [eO] at So
 have Sd:=So.done (cG row b) (i:=x.2) (by simp)
 rw [E6,GF] at hn
 have' eD:(fun p=>s.told.contains p || p==x.2)=fun p=>(s.told++[x.2]).contains p:=by
  funext p
  rw [FU];simp
 have' eO2:(fun p=>((x :: w).map (·.2)).contains p && !(p==x.2))=fun p=>(w.map (·.2)).contains p:=by
  funext p
  rw [FU,E7,FJ,FJ,E6,ES]
  constructor
  ·rintro ⟨q | q,r⟩
   ·rw [q] at r;simp at r
   ·exact q
  ·intro q
   refine ⟨.inr q,?_⟩;have:p≠x.2:=fun e=>hn.1 (e▸q)
   simpa using this
 rw [eD,eO2] at Sd
 refine ⟨ht,?_,So,(hw x (.head _)).1,(hw x (.head _)).2,fun y hy=>?_⟩
 ·rw [ht]
  refine ⟨Sd,hn.2,fun y hy=>(hw y (.tail _ hy)).2,?_⟩
  show (s.told++[x.2]).Nodup
  rw [Fy]
  refine ⟨h.tn,by simp,fun a ha c hc q=>?_⟩
  rw [show c=x.2 by simpa using hc] at q
  have:=So.dj a (by simpa using ha)
  rw [q] at this
  simp at this
 ·have:=(Fe.mp hsort).1 y hy
  have h1:=(hw x (.head _)).1;have h2:=(hw y (.tail _ hy)).1;unfold eP at this
  omega
end
theorem gT (row:List Nat) (b:Nat->Nat->Bool):∀ t,t<=5->iI row b (bK row b t)/\(bK row b t).told.length=t:=by
 intro t
 induction t with
 | zero=>
  intro _;refine ⟨⟨?_,.nil,jP,.nil⟩,rfl⟩;have e:(fun p=>(bK row b 0).told.contains p)=no:=by funext p;rfl
  have e2:(fun p=>((bK row b 0).w.map (·.2)).contains p)=no:=by funext p;rfl
  rw [e,e2];exact ij row b 5
 | succ t ih0=>
  intro ht;obtain ⟨h1,h2⟩:=ih0 (GX ht);have' hne:=h1.obW_ne (by omega)
  cases e:obW row (bK row b t) with
  | nil=>exact absurd e hne
  | cons x w=>
   obtain ⟨a,c,_⟩:=h1.turn e;refine ⟨c,?_⟩
   show (gZ row (bK row b t)).told.length=t+1
   rw [a];simp [h2]
theorem wL (row:List Nat) (b:Nat->Nat->Bool):(bK row b 5).rd=[]/\(bK row b 5).w=[]/\∀ p,p<5->p∈(bK row b 5).told:=by
 obtain ⟨h1,h2⟩:=gT row b 5 (EH _)
 have hall:=q6 h1.tn h1.t5 h2
 refine ⟨?_,?_,hall⟩
 ·refine GL.mpr fun p hp=>?_
  obtain ⟨a,c,_⟩:=(h1.sj.rd_ p).mp hp;have:=hall p a
  simp [this] at c
 ·refine GL.mpr fun x hx=>?_
  have h5:=h1.w5 x hx;have:=h1.sj.dj x.2 (by simpa using hall _ h5)
  rw [FJ.mpr (EL.mpr ⟨x,hx,rfl⟩)] at this
  cases this
theorem rJ {α:Type} {C:Cx} {lv:Lv} {N:aE} {t:Expr} {body:List Stmt} {xs:List α} {v:α->AV} {P:List α->aO} {r:List α->α->aO} {S:List α->aC} (ha:∀ pre x post,xs=pre++x :: post->c8 C lv N t (v x) (P pre) (S pre) (r pre x) (S pre))
  (hb:∀ pre x post,xs=pre++x :: post->ay C lv N body (r pre x) (S pre) .nxt (P (pre++[x])) (S (pre++[x]))):fQ C lv N t body [] (xs.map v) (P []) (S []) .nxt (P xs) (S xs):=by
 suffices h:∀ pre post,xs=pre++post->fQ C lv N t body [] (post.map v) (P pre) (S pre) .nxt (P xs) (S xs) from h [] xs rfl
 intro pre post
 induction post generalizing pre with
 | nil=>intro e;rw [FF] at e;rw [e];exact .done aG
 | cons x post ih=>
  intro e;exact .turn (ha pre x post e) (hb pre x post e) (.inl rfl) Sub.refl (ih (pre++[x]) (by rw [e];simp))
theorem A3 (l:List (Nat×Nat)):∀ d∈l.map pD,wB d=true:=fun d hd=>by
 obtain ⟨x,_,rfl⟩:=EL.mp hd;rfl
section
variable {C:Cx} (H:bH C) {fz:List Nat} {σ:aC}
include H
theorem rC {row:List Nat} {b:Nat->Nat->Bool} (hr:row.length=5) (hr4:∀ x∈row,x<4) (hfz:∀ i∈fz,i<σ.length) :
  aP C 8 fz (.ref 935) [.dat (bf row),.dat (cy b)] [] σ (.dat (bf (dv row b))) σ:=by
 have hz13:σ.length+13∉fz:=fun h=>by have:=hfz _ h;omega
 have hz14:σ.length+14∉fz:=fun h=>by have:=hfz _ h;omega
 have' hrow:bf row=.list (row.map nD):=rfl
 have hrl:(row.map nD).length<=FG:=by rw [EC,EO];omega
 obtain ⟨g,hg⟩:∃ g:Nat->AV,∀ p,g p=AV.dat (nD (row.getD p 0)):=⟨_,fun zz=>rfl⟩
 obtain ⟨S,hS⟩:∃ S:List Nat->aC,∀ q,S q=so5 σ (bK row b q.length).rd ((q.length:Int)+((bK row b q.length).w.length:Nat)) q.length (bK row b q.length).nds [.list (am (1+q.length)),.list ((bK row b q.length).told.map g)]:=⟨_,fun zz=>rfl⟩
 obtain ⟨V,hV⟩:∃ V:List Nat->PyData,∀ q,V q=.list ((bK row b q.length).w.map pD):=⟨_,fun zz=>rfl⟩
 obtain ⟨R,hR⟩:∃ R:List Nat->aO,∀ q,R q=[some (.dat (bf row)),some (.dat (cy b)),some (.ref σ.length),some (.ref (σ.length+13)),some (.dat (V q)),some (.ref (σ.length+14)),none,none,none,none,none,none]:=⟨_,fun zz=>rfl⟩
 have hL:∀ t,t<=5->(bK row b t).nds.length=5:=fun t ht=>(gT row b t ht).1.sj.len
 have hend:S (EN 5)=σ++(bd σ.length (.ref (σ.length+2+2 * (bK row b 5).nds.length)) ((5:Int)+((bK row b 5).w.length:Nat)) 5 (bK row b 5).nds++(.list ((bK row b 5).rd.map bW) :: [.list (am (1+5)),.list ((bK row b 5).told.map g)])):=by rw [hS,FR];rfl
 refine aP.pure (t:=bd σ.length (.ref (σ.length+2+2 * (bK row b 5).nds.length)) ((5:Int)+((bK row b 5).w.length:Nat)) 5 (bK row b 5).nds++(.list ((bK row b 5).rd.map bW) :: [.list (am (1+5)),.list ((bK row b 5).told.map g)])) (a:=.ref (σ.length+14)) ?_ ?_
 ·rw [<- hend]
  wtm_at "Dp"
  case hr=>exact .ret
  case h=>
   dsimp only;refine' aA (σ₁:=σ++(bd σ.length (.dat .none) 0 0 (bp row b 5)++[])) ?s1 (aA (σ₁:=so5 σ (cC (bp row b 5)) 0 0 (bp row b 5) [.list (am 1)]) ?s2 (aA (σ₁:=so5 σ (cC (bp row b 5)) 0 0 (bp row b 5) [.list (am 1)]) ?s3 (aA (σ₁:=S []) ?s4 (aA (ρ₁:=R (EN 5)) (σ₁:=S (EN 5)) ?s5 (aA (σ₁:=S (EN 5)) ?s6 (a8 (aX ?s7)))))))
   case s1=>
    refine' aB ?v ?t (by intro _;rfl) (by intro _;rfl) (by intro _;rfl)
    case v=>
     refine' ah ?f (kp_ H (by kernel_rfl)) (aZ ?l (by with_unfolding_all rfl)) (ju H hr hr4 hfz) (by show 7<=7;decide) rfl (by intro _;with_unfolding_all rfl)
     case f=>wtm_at "Me"
     case l=>wtm_at "Ml"
    case t=>wtm_at "Ma"
   case s2=>
    refine' aB (a:=.ref (σ.length+13)) (σ₁:=so5 σ (cC (bp row b 5)) 0 0 (bp row b 5) [.list (am 1)]) ?v ?t (by intro _;rfl) (by intro _;rfl) (by intro _;rfl)
    case v=>
     have' S0:=ij row b 5;have cp:=mW H (fz:=fz) (Z:=σ) (po:=0) (nf:=0) (nds:=bp row b 5) (by rw [cT];decide) (S0.ac (cG row b)) hfz
     refine' aH.st (aH.of (cI (as:=[.dat .none]) ?w ?w2) ?w3) ?w4
     case w=>
      refine' bF (bD ?ho (bC dH (bv H) (fd_ H (by kernel_rfl)) (fn_ H (by kernel_rfl)) rfl) (kp_ H (by kernel_rfl)) bZ cp (by show 3<=7;decide) rfl (by intro _;exact ⟨_,rfl⟩)) bQ (by with_unfolding_all rfl)
      case ho=>wtm_at "Me"
     case w2=>decide
     case w3=>rw [nU,cT];rfl
     case w4=>rw [nY];rfl
    case t=>wtm_at "Ma"
   case s3=>
    refine' aB (a:=.dat (V [])) ?v ?t (by intro _;rfl) (by intro _;rfl) (by intro _;rfl)
    case v=>
     rw [hV,show ((bK row b ([]:List Nat).length).w.map pD)=[] from rfl]
     refine' fZ ?k1 ?k2 ?k3
     case k1=>wtm_at "Ml"
     case k2=>wtm_at "Mdats"
     case k3=>wtm_at "Mside"
    case t=>wtm_at "Ma"
   case s4=>
    refine' aB (a:=.ref (σ.length+14)) (σ₁:=S []) ?v ?t (by intro _;rfl) (by intro _;rfl) (by intro _;rfl)
    case v=>
     refine' aH.st (aH.of (cI ?w ?w2) ?w3) ?w4
     case w=>wtm_at "Ml"
     case w2=>decide
     case w3=>rw [nU,cT];rfl
     case w4=>rw [nY,hS];rfl
    case t=>wtm_at "Ma"
   case s5=>
    refine' bq (ls:=[]) ?hi ?hf ?hfs
    case hi=>
     have h1:(5:Int)<2 ^ 62:=by decide
     have h2:-(2 ^ 62)<=(5:Int):=by decide
     wtm_at "Mi"
    case hfs=>intro _ _;rfl
    case hf=>
     rw [show ((5:Int)).toNat=5 from rfl,dF]
     dsimp only [EW]
     rw [show [some (AV.dat (bf row)),some (.dat (cy b)),some (.ref σ.length),some (.ref (σ.length+13)),some (.dat (V [])),some (.ref (σ.length+14)),none,none,none,none,none,none]=R [] from (hR []).symm]
     refine' rJ (S:=S) (P:=R) (r:=fun pre x=>[some (.dat (bf row)),some (.dat (cy b)),some (.ref σ.length),some (.ref (σ.length+13)),some (.dat (V pre)),some (.ref (σ.length+14)),some (.dat (.int (x:Int))),none,none,none,none,none]) ?ha ?hb
     case ha=>intro pre p post hx;rw [hR];wtm_at "Ma"
     case hb=>
      intro pre p post hx;obtain ⟨hpl,hp5⟩:=eJ hx;subst hpl;obtain ⟨J,hJl⟩:=gT row b pre.length (by omega)
      have' hne:=J.obW_ne (by omega)
      obtain ⟨x,w,ew⟩:∃ x w,obW row (bK row b pre.length)=x :: w:=by
       cases e:obW row (bK row b pre.length) with
       | nil=>exact absurd e hne
       | cons x w=>exact ⟨x,w,rfl⟩
      obtain ⟨eT,JT,So,x5,xr,_⟩:=J.turn ew;have hl5:=J.sj.len;have hlen5:=J.len5;have hw8:∀ y∈(bK row b pre.length).w++(bK row b pre.length).rd.map (fun p=>(row.getD p 0,p)),y.2<8:=fun y hy=>by have:=(J.allW.2 y hy).1;omega
      have hperm:=fy ((bK row b pre.length).w++(bK row b pre.length).rd.map (fun p=>(row.getD p 0,p)))
      have hT:bK row b (pre.length+1)=gZ row (bK row b pre.length):=rfl;have hT5:(bK row b (pre.length+1)).nds.length=5:=JT.sj.len
      rw [hS,hS,hR,hV,hV,EU,Ef]
      rw [hT,eT] at hT5 ⊢
      unfold obW at ew
      rw [ew] at hperm
      generalize bK row b pre.length=ob at *
      obtain ⟨nds,rd,w0,told⟩:=ob;dsimp only at *
      have' hw0:(w0.map pD).length+(rd.map fun p=>pD (row.getD p 0,p)).length<=FG:=by
       rw [EU,EC] at hlen5
       rw [EC,EC,EO];omega
      have hwl:(x :: w).length<=5:=by rw [hperm.length_eq];exact hlen5
      have hwl2:w.length+1=w0.length+rd.length:=by
       have:=hperm.length_eq
       rw [EU,EC] at this
       simpa using this
      rw [EX] at hwl
      have hrd5:=J.sj.rdl;have hl5':=eK (-1) rd nds
      rw [hl5] at hl5'
      have hst:=So.st (cG row b) (is:=[x.2]) (by simp) fun i hi=>by rw [EG.mp hi];simp
      have cg:=lP H (fz:=fz) (Z:=σ) (post:=[.list (am (1+pre.length)),.list (told.map g)]) (rd:=rd) (po:=(pre.length:Int)+(w0.length:Nat)) (nf:=pre.length) (nds:=nds) (fun p hp=>by rw [hl5];exact J.sj.rdlt p hp) (by omega) (by omega) hfz
      have' e1:(pre.length:Int)+(w0.length:Nat)+rd.length=((pre.length+1:Nat):Int)+(w.length:Nat):=by omega
      have cd:aP C 2 fz (.ref 143) [.ref σ.length,.dat (.int (x.2:Nat))] [] (so5 σ [] (((pre.length+1:Nat):Int)+(w.length:Nat)) pre.length (rd.foldl (bO (-1)) nds) [.list (am (1+pre.length)),.list (told.map g++[g x.2])]) (.dat .none) (so5 σ (av (rd.foldl (bO (-1)) nds,[]) x.2).2 (((pre.length+1:Nat):Int)+(w.length:Nat)) ((pre.length+1:Nat):Int) (av (rd.foldl (bO (-1)) nds,[]) x.2).1 [.list (am (1+pre.length)),.list (told.map g++[g x.2])]):=
       wH H (fz:=fz) (Z:=σ) (post:=[.list (am (1+pre.length)),.list (told.map g++[g x.2])]) (rd:=[]) (po:=((pre.length+1:Nat):Int)+(w.length:Nat)) (nf:=pre.length) (nds:=rd.foldl (bO (-1)) nds) (is:=[x.2]) (by simp) (by decide) (by omega) (fun x hx=>EE (So.scl x hx) (by decide)) So.scn hst hfz
      rw [e1] at cg
      refine' ay.sub (aA (σ₁:=so5 σ [] (((pre.length+1:Nat):Int)+(w.length:Nat)) pre.length (rd.foldl (bO (-1)) nds) [.list (am (1+pre.length)),.list (told.map g)]) ?a1 (aA (ρ₁:=[some (.dat (bf row)),some (.dat (cy b)),some (.ref σ.length),some (.ref (σ.length+13)),some (.dat (.list ((x :: w).map pD))),some (.ref (σ.length+14)),some (.dat (.int (pre.length:Int))),none,none,none,none,none]) (σ₁:=so5 σ (av (rd.foldl (bO (-1)) nds,[]) x.2).2 (((pre.length+1:Nat):Int)+(w.length:Nat)) ((pre.length+1:Nat):Int) (av (rd.foldl (bO (-1)) nds,[]) x.2).1 [.list (am (1+(pre.length+1))),.list ((told++[x.2]).map g)]) ?a2 (aF ?a3))) ?sb
      case a1=>
       refine' aB (a:=.dat (.list ((x :: w).map pD))) ?v9 ?t9 (by intro _;rfl) (by intro _;rfl) (by intro _;rfl)
       case v9=>
        rw [<- ew]
        refine' cq ?f ?l (r8 hlen5 hw8) (by with_unfolding_all rfl)
        case f=>wtm_at "Me"
        case l=>
         refine' bF (aH.of (ct (a:=.dat (.list (w0.map pD))) (b:=.dat (.list (rd.map fun p=>pD (row.getD p 0,p)))) ?k1 ?k2 (OpG.of2 (k8 hw0))) ?e) bQ (by with_unfolding_all rfl)
         case k1=>wtm_at "Me"
         case e=>rw [Eh,EQ];rfl
         case k2=>
          refine' dO ?ck ?hi ?hfr ?hcl ?hbl ?hc ?hz ?hfs
          case ck=>wtm_at "Mcompok"
          case hi=>
           refine' kc ?k (by with_unfolding_all rfl) (by with_unfolding_all rfl)
           case k=>
            refine' bD ?ho (bC cN (bv H) (fd_ H (by kernel_rfl)) (fn_ H (by kernel_rfl)) rfl) (kp_ H (by kernel_rfl)) bZ cg (by show 2<=7;decide) rfl (by intro _;exact ⟨_,rfl⟩)
            case ho=>wtm_at "Me"
          case hfs=>intro _ _;rfl
          case hfr=>wtm_at "Mfrees"
          case hcl=>wtm_at "Mclos"
          case hbl=>wtm_at "Mblank"
          case hz=>rw [EC,EO];omega
          case hc=>
           rw [EQ]
           refine' cM rfl ?ha ?hee ?hs
           case ha=>intro i hx;dsimp only [Function.comp];wtm_at "Ma"
           case hee=>
            intro i hx;have hi5:=J.sj.rdlt i hx;have h0:(0:Int)<=(i:Int):=E4 i;have h4:(i:Int)<2 ^ 63:=by omega
            have hd:=fc (row:=row) (p:=i) (by omega)
            rw [hrow]
            unfold pD;dsimp only [Function.comp];wtm_at "Me"
           case hs=>intro i hx;wtm_at "Msub"
       case t9=>wtm_at "Ma"
      case a2=>
       refine' bq (ls:=[]) (items:=[.dat (pD x)]) ?hi ?hf ?hfs
       case hfs=>intro _ _;rfl
       case hi=>
        have hsz:((x :: w).map pD).length<=FG:=by rw [EC,EX,EO];omega
        refine' fH (ds:=[pD x]) (aH.of (jc ?k1 ?k2 ?k3 hsz (by intro _ _;with_unfolding_all rfl)) ?e) (by with_unfolding_all rfl) (.tup (by with_unfolding_all rfl) (A3 [x]))
        case k1=>wtm_at "Me"
        case k2=>wtm_at "Mpart"
        case k3=>wtm_at "Mpart"
        case e=>rfl
       case hf=>
        dsimp only [EW];refine' fQ.turn (mL ?t1 ?t2 (by with_unfolding_all rfl) (by intro _;with_unfolding_all rfl)) (aA (σ₁:=so5 σ [] (((pre.length+1:Nat):Int)+(w.length:Nat)) pre.length (rd.foldl (bO (-1)) nds) [.list (am (1+pre.length)),.list (told.map g++[g x.2])]) ?b1 (aF ?b2)) (.inl rfl) ?sb2 (.done aG)
        case t1=>unfold nD;wtm_at "Ma"
        case t2=>unfold nD;wtm_at "Ma"
        case b1=>
         refine' aq.st (bR (bc (i:=σ.length+14) (xs:=told.map g) (a:=g x.2) ?ho ?hv ⟨_,uk hl5'⟩ (uk hl5') hz14 ?hsz) (by intro _;rfl)) (sS hl5')
         case ho=>wtm_at "Me"
         case hsz=>rw [EC,EO];omega
         case hv=>rw [hg,<- xr];unfold nD;wtm_at "Me"
        case b2=>
         refine' aq.st (bR (bc (i:=σ.length+13) (xs:=am (1+pre.length)) (a:=.dat .none) ?ho ?hv ⟨_,nX hl5'⟩ (nX hT5) hz13 ?hsz) (by intro _;rfl)) ?he
         case ho=>wtm_at "Me"
         case hsz=>unfold am;rw [Gc,EO];omega
         case he=>
          rw [nJ hT5,gP,Eh]
          rfl
         case hv=>
          refine' bD ?ho2 (bC cN (bv H) (fd_ H (by kernel_rfl)) (fn_ H (by kernel_rfl)) rfl) (kp_ H (by kernel_rfl)) (aZ ?l2 ?hn2) cd (by show 2<=7;decide) rfl (by intro _;exact ⟨_,rfl⟩)
          case ho2=>wtm_at "Me"
          case l2=>wtm_at "Ml"
          case hn2=>with_unfolding_all rfl
        case sb2=>wtm_at "Msub"
      case a3=>
       have hsz:((x :: w).map pD).length<=FG:=by rw [EC,EX,EO];omega
       refine' aB (a:=.dat (.list (w.map pD))) (aH.of (jc ?k1 ?k2 ?k3 hsz (by intro _ _;with_unfolding_all rfl)) ?e) ?t9 (by intro _;rfl) (by intro _;rfl) (by intro _;rfl)
       case k1=>wtm_at "Me"
       case k2=>wtm_at "Mpart"
       case k3=>wtm_at "Mpart"
       case e=>rfl
       case t9=>wtm_at "Ma"
      case sb=>wtm_at "Msub"
   case s6=>
    have' hl5:=hL 5 (EH _);obtain ⟨n1,n2,_⟩:=wL row b;have cb:=gB H (fz:=fz) (Z:=σ) (post:=[.list (am (1+5)),.list ((bK row b 5).told.map g)]) (rd:=(bK row b 5).rd) (po:=(5:Int)+((bK row b 5).w.length:Nat)) (nf:=5) (nds:=(bK row b 5).nds) (by rw [n1];decide)
    have eS:S (EN 5)=so5 σ (bK row b 5).rd ((5:Int)+((bK row b 5).w.length:Nat)) 5 (bK row b 5).nds [.list (am (1+5)),.list ((bK row b 5).told.map g)]:=by rw [hS,FR];rfl
    rw [eS,hR]
    have hsA:(so5 σ (bK row b 5).rd ((5:Int)+((bK row b 5).w.length:Nat)) 5 (bK row b 5).nds [.list (am (1+5)),.list ((bK row b 5).told.map g)])[σ.length+13]? = some (.list ((FK 6 Iy).map .dat)):=by rw [nX hl5];rfl
    refine' aN (aY.of (fq (aY.of (ai ?l ?r (OpG.see (ia (eG 6 (by decide)) (eG 6 (by decide))) (Frz.dats (Ek _) hsA) .dat) (by with_unfolding_all rfl)) ?e1) ?y) ?e2) aG
    case l=>wtm_at "Me"
    case r=>
     refine' aH.of (ct ?b1 ?b2 (OpG.of2 (vt (m:=6) (d:=.none) (by decide) (by decide)))) ?b3
     case b1=>
      refine' fZ ?k1 ?k2 ?k3
      case k1=>wtm_at "Ml"
      case k2=>wtm_at "Mdats"
      case k3=>wtm_at "Mside"
     case b2=>wtm_at "Me"
     case b3=>rfl
    case e1=>rw [m8 _ (by decide)];rfl
    case y=>
     refine' ai (bD ?ho (bC cN (bv H) (fd_ H (by kernel_rfl)) (fn_ H (by kernel_rfl)) rfl) (kp_ H (by kernel_rfl)) bZ cb (by show 2<=7;decide) rfl (by intro _;exact ⟨_,rfl⟩)) fF (OpG.of2 (kt rfl)) (by with_unfolding_all rfl)
     case ho=>wtm_at "Me"
    case e2=>rw [n1,n2];rfl
   case s7=>wtm_at "Me"
 ·have' e:=uk (Z:=σ) (rd:=(bK row b 5).rd) (po:=((5:Int)+((bK row b 5).w.length:Nat))) (nf:=5) (nds:=(bK row b 5).nds) (x:=.list (am (1+5))) (y:=.list ((bK row b 5).told.map g)) (hL 5 (EH _))
  refine Frz.dats (EM _ _) (e.trans ?_);unfold dv
  rw [EQ,EQ]
  congr 2
  exact FN fun q zz=>hg q
end
structure Bd (b:Nat->Nat->Bool):Prop where
 refl:∀ x,b x x=true
 symm:∀ x y,b x y=b y x
theorem iZ:∀ {a c:List Nat},a.Pairwise (· < ·)->c.Pairwise (· < ·)->(∀ x,x∈a↔x∈c)->a=c:=by
 intro a
 induction a with
 | nil=>exact fun zz zz h=>(GL.mpr fun x hx=>nomatch (h x).mpr hx).symm
 | cons x a ih=>
  intro c ha hc h
  cases c with
  | nil=>exact nomatch (h x).mp (.head _)
  | cons y c=>
  rw [Fe] at ha hc
  have' e:x=y:=by
   rcases ES.mp ((h x).mp (.head _)) with q | q
   ·exact q
   ·rcases ES.mp ((h y).mpr (.head _)) with r | r
    ·exact r.symm
    ·exact absurd (ha.1 y r) (Hq (hc.1 x q))
  subst e;refine congrArg _ (ih ha.2 hc.2 fun z=>⟨fun q=>?_,fun q=>?_⟩)
  ·exact (ES.mp ((h z).mp (.tail _ q))).resolve_left fun r=>E2 _ (r▸ha.1 z q)
  ·exact (ES.mp ((h z).mpr (.tail _ q))).resolve_left fun r=>E2 _ (r▸hc.1 z q)
theorem kC {R:Nat->Nat->Prop}:∀ {l:List Nat},(∀ A p B,l=A++p :: B->∀ q∈B,R p q)->l.Pairwise R:=by
 intro l
 induction l with
 | nil=>exact fun zz=>.nil
 | cons x l ih=>exact fun h=>.cons (h [] x l rfl) (ih fun A p B e=>h (x :: A) p B (by rw [e];rfl))
theorem mK {b:Nat->Nat->Bool} {p:Nat×Nat} (h:p∈dp b):b p.1 p.2=true:=by
 unfold dp at h
 obtain ⟨i,_,h⟩:=HW.mp h
 obtain ⟨j,hj,rfl⟩:=EL.mp h
 exact (FV.mp hj).2
theorem xR {b:Nat->Nat->Bool} {u v:Nat} (h1:u<=v) (h2:v<4) (h:b u v=true):(u,v)∈dp b:=by
 unfold dp
 refine HW.mpr ⟨u,Ec.mpr (by omega),EL.mpr ⟨v,FV.mpr ⟨EL.mpr ⟨v - u,Ec.mpr (by omega),by omega⟩,h⟩,rfl⟩⟩
structure Lin (row:List Nat) (b:Nat->Nat->Bool) (l:List Nat):Prop where
 nod:l.Nodup
 all:∀ p,p∈l↔p<5
 pre:∀ A p B,l=A++p :: B->∀ q∈bA row b p,q∈A
theorem dg {row:List Nat} {b:Nat->Nat->Bool} {p q:Nat}:q∈bA row b p↔q<p/\b (row.getD q 0) (row.getD p 0)=true:=by
 unfold bA;rw [FV,Ec]
theorem nQ {b:Nat->Nat->Bool} (B:Bd b) {u v x y:Nat} (h:b u v=true) (hx:(u==x || v==x)=true) (hy:(u==y || v==y)=true):b x y=true:=by
 simp only [Gu,beq_iff_eq] at hx hy
 rcases hx with rfl | rfl<;>rcases hy with rfl | rfl
 ·exact B.refl _
 ·exact h
 ·rw [B.symm];exact h
 ·exact B.refl _
theorem m9 {row:List Nat} (hr:row.length=5):(EN 5).map (fun p=>row.getD p 0)=row:=by
 refine KC (by simp [hr]) fun i h1 h2=>?_
 simp [Er,h2]
theorem pt {row:List Nat} {b:Nat->Nat->Bool} {l:List Nat} (B:Bd b) (hr:row.length=5) (h:Lin row b l):au (l.map fun p=>row.getD p 0) b=au row b:=by
 conv=>rhs;rw [<- m9 hr]
 unfold au
 refine FN fun p hp=>?_
 rw [KT,KT]
 refine congrArg _ (iZ ?_ (KM.filter _) fun x=>?_)
 ·rw [Kd]
  refine kC fun A x C e y hy hx' hy'=>?_
  have hn:=h.nod
  rw [e,Fy] at hn
  have' hxC:=(GF.mp hn.2.1).1;refine Nat.lt_of_not_le fun hle=>?_
  have' hlt:y<x:=JP hle fun q=>hxC (q▸hy)
  have:=h.pre A x C e y (dg.mpr ⟨hlt,nQ B (mK hp) hy' hx'⟩);exact hn.2.2 y this y (.tail _ hy) rfl
 ·rw [FV,FV,h.all,Ec]
section
variable {row:List Nat} {b:Nat->Nat->Bool}
theorem dz {t p:Nat}:p∈(bI row b t).2↔p<5/\p∉an row b t/\∀ q∈bA row b p,q∈an row b t:=by
 rw [(iL row b t).rd_]
 simp [no]
theorem x7:∀ t A p B,an row b t=A++p :: B->∀ q∈bA row b p,q∈A:=by
 intro t
 induction t with
 | zero=>intro A p B e q hq;cases A<;>cases e
 | succ t ih0=>
  intro A p B e q hq
  rw [an] at e
  rcases J8.mp e with ⟨M,e1,e2⟩ | ⟨M,e1,e2⟩
  ·have hp:p∈(bI row b t).2:=by rw [e2];simp
   rw [e1]
   exact ED.mpr (.inl ((dz.mp hp).2.2 q hq))
  ·cases M with
   | nil=>
    have hp:p∈(bI row b t).2:=by rw [EW] at e2;rw [<- e2];simp
    rw [FF] at e1
    exact e1▸(dz.mp hp).2.2 q hq
   | cons m M=>
    rw [El] at e2
    obtain ⟨rfl,rfl⟩:=HU.inj e2;exact ih0 A p M e1 q hq
theorem wX:Lin row b (an row b 5):=⟨(iC row b 5).1,fun p=>⟨(iC row b 5).2 p,o6 row b p⟩,x7 5⟩
theorem kx (B:Bd b) {t p q:Nat} (hp:p∈(bI row b t).2) (hq:q∈(bI row b t).2) (ne:p≠q):b (row.getD p 0) (row.getD q 0)=false:=by
 refine G7.mpr fun h=>?_
 rcases Nat.lt_or_gt_of_ne ne with l | l
 ·exact (dz.mp hp).2.1 ((dz.mp hq).2.2 p (dg.mpr ⟨l,h⟩))
 ·exact (dz.mp hq).2.1 ((dz.mp hp).2.2 q (dg.mpr ⟨l,by rw [B.symm];exact h⟩))
theorem zb {t p:Nat} (hp:p∈(bI row b (t+1)).2):∃ q∈(bI row b t).2,b (row.getD q 0) (row.getD p 0)=true:=by
 obtain ⟨h1,h2,h3⟩:=dz.mp hp
 have:p∉(bI row b t).2:=fun q=>h2 (by rw [an];exact ED.mpr (.inr q))
 have hf:p∉an row b t:=fun q=>h2 (by rw [an];exact ED.mpr (.inl q))
 refine Classical.byContradiction fun hno=>this (dz.mpr ⟨h1,hf,fun q hq=>?_⟩)
 have:=h3 q hq
 rw [an] at this
 rcases ED.mp this with r | r
 ·exact r
 ·exact absurd ⟨q,r,(dg.mp hq).2⟩ hno
theorem rX:∀ t,∃ k,k<=t/\(∀ i,i<k->(bI row b i).2≠[])/\(k<t->(bI row b k).2=[])/\al row b t=(EN k).map fun i=>(bI row b i).2:=by
 intro t
 induction t with
 | zero=>exact ⟨0,EH _,fun zz h=>absurd h (He _),fun h=>absurd h (He _),rfl⟩
 | succ t ih0=>
  obtain ⟨k,h1,h2,h3,h4⟩:=ih0
  rw [al,h4]
  by_cases q:(bI row b t).2=[]
  ·rw [if_pos q,FF]
   refine ⟨k,by omega,h2,fun zz=>?_,rfl⟩
   rcases Ha h1 with l | l
   ·exact h3 l
   ·rw [l];exact q
  ·have' hk:k=t:=by
    rcases Ha h1 with l | l
    ·have:=me (h3 l) (t - k)
     rw [show k+(t - k)=t by omega] at this
     exact absurd this q
    ·exact l
   subst hk
   rw [if_neg q]
   refine ⟨k+1,EH _,fun i hi=>?_,fun h=>absurd h (E2 _),?_⟩
   ·rcases Ha (GW hi) with l | l
    ·exact h2 i l
    ·rw [l];exact q
   ·rw [HF,Eh];rfl
theorem eU (row:List Nat) (b:Nat->Nat->Bool):∃ k,k<=5/\(∀ i,i<k->(bI row b i).2≠[])/\(bI row b k).2=[]/\ag row b=(EN k).map fun i=>(bI row b i).2.map fun p=>row.getD p 0:=by
 obtain ⟨k,h1,h2,h3,h4⟩:=rX (row:=row) (b:=b) 5
 refine ⟨k,h1,h2,?_,by unfold ag;rw [h4,EQ];rfl⟩
 rcases Ha h1 with l | l
 ·exact h3 l
 ·rw [l];exact sA row b
theorem gi (row:List Nat) (b:Nat->Nat->Bool):(ag row b).flatten=(an row b 5).map fun p=>row.getD p 0:=by
 unfold ag;rw [<- List.map_flatten,qC]
theorem kv (B:Bd b):hM b (ag row b)=true:=by
 obtain ⟨k,_,h2,h3,e⟩:=eU row b
 rw [e]
 unfold hM
 have hg:∀ p,p<k->((EN k).map fun i=>(bI row b i).2.map fun p=>row.getD p 0).getD p []=(bI row b p).2.map fun p=>row.getD p 0:=fun p hp=>by
  simp [Er,hp]
 rw [Gf]
 intro p hp
 rw [Ec,EC,FR] at hp
 rw [hg p hp,Gf]
 intro a ha
 rw [Ec,EC] at ha
 unfold qB
 rw [hg p hp,E7]
 have' ea:((bI row b p).2.map fun p=>row.getD p 0).getD a 0=row.getD ((bI row b p).2[a]) 0:=by simp [Er,ha]
 have hm:(bI row b p).2[a]∈(bI row b p).2:=Ge ha
 rw [ea]
 refine ⟨?_,?_⟩
 ·rw [Fz,G7]
  intro hany;obtain ⟨o,ho,hb⟩:=HA.mp hany
  rw [<- Jp] at ho
  obtain ⟨q,hq,rfl⟩:=EL.mp ho;have hn:=(iL row b p).rdn
  rw [<- Hg (a+1) (bI row b p).2,Fy] at hn
  have hne:(bI row b p).2[a]≠q:=hn.2.2 _ (by rw [I9 ha];exact ED.mpr (.inr (.head _))) q hq
  rw [kx B hm (Ho hq) hne] at hb
  cases hb
 ·rw [Gu]
  cases p with
  | zero=>exact .inl rfl
  | succ p=>
   refine .inr ?_
   rw [Nat.add_sub_cancel,hg p (by omega)]
   obtain ⟨q,hq,hb⟩:=zb hm;exact HA.mpr ⟨_,EL.mpr ⟨q,hq,rfl⟩,by rw [B.symm];exact hb⟩
theorem oW {t:Nat} (ht:t<5):∃ x w,obW row (bK row b t)=x :: w/\(bK row b (t+1)).told=(bK row b t).told++[x.2]/\(bK row b (t+1)).w=w/\(∀ q∈bA row b x.2,q∈(bK row b t).told)/\x.1=row.getD x.2 0 /\
  ∀ p,p<5->p∉(bK row b t).told->(∀ q∈bA row b p,q∈(bK row b t).told)->x.1<=row.getD p 0:=by
 obtain ⟨h1,h2⟩:=gT row b t (Ej ht)
 have' hne:=h1.obW_ne (by omega)
 match e:obW row (bK row b t),hne with
 | x :: w,_=>
  obtain ⟨a,c,So,d1,d2,d3⟩:=h1.turn e;have et:bK row b (t+1)=gZ row (bK row b t):=rfl;refine ⟨x,w,rfl,by rw [et,a],by rw [et,a],fun q hq=>?_,d2,fun p hp hn hpre=>?_⟩
  ·simpa using (So.cl x.2 (.inr (by simp))).2 q hq
  ·have:¬ (((x :: w).map (·.2)).contains p=false):=fun hf=>nomatch (So.rd_ p).mpr ⟨hp,by simpa using hn,hf,fun q hq=>by simpa using hpre q hq⟩
   rw [Bool.not_eq_false,FJ] at this
   obtain ⟨y,hy,rfl⟩:=EL.mp this
   rcases ES.mp hy with rfl | hy
   ·rw [d2];exact EH _
   ·have:=c.wl y (by rw [a];exact hy)
    rw [<- this];exact d3 y hy
theorem Av:∀ t,t<=5->∀ A p B,(bK row b t).told=A++p :: B->∀ q∈bA row b p,q∈A:=by
 intro t
 induction t with
 | zero=>intro _ A p B e q hq;cases A<;>cases e
 | succ t ih0=>
  intro ht A p B e q hq;obtain ⟨x,w,_,e1,_,h,_⟩:=oW (row:=row) (b:=b) (t:=t) ht
  rw [e1] at e
  rcases J8.mp e with ⟨M,e2,e3⟩ | ⟨M,e2,e3⟩
  ·have' hp:p=x.2:=by
    have:p∈[x.2]:=by rw [e3];simp
    simpa using this
   rw [e2]
   exact ED.mpr (.inl (h q (hp▸hq)))
  ·cases M with
   | nil=>
    rw [EW] at e3
    have' hp:p=x.2:=(HU.inj e3).1
    rw [FF] at e2
    rw [<- e2]
    exact h q (hp▸hq)
   | cons m M=>
    rw [El] at e3
    obtain ⟨rfl,rfl⟩:=HU.inj e3;exact ih0 (GX ht) A p M e2 q hq
theorem pw:Lin row b (bK row b 5).told:=by
 obtain ⟨h1,_⟩:=gT row b 5 (EH _)
 exact ⟨h1.tn,fun p=>⟨h1.t5 p,(wL row b).2.2 p⟩,Av 5 (EH _)⟩
theorem uP:∀ (n t:Nat),t+n<=5->∃ r,(bK row b (t+n)).told=(bK row b t).told++r:=by
 intro n
 induction n with
 | zero=>intro t _;exact ⟨[],by simp⟩
 | succ n ih0=>
  intro t h;obtain ⟨r,e⟩:=ih0 t (by omega)
  obtain ⟨x,w,_,e1,_⟩:=oW (row:=row) (b:=b) (t:=t+n) (by omega)
  exact ⟨r++[x.2],by rw [<- Ez,e1,e,FH]⟩
theorem rI (B:Bd b):gw b (dv row b)=true:=by
 have' hlen:=(gT row b 5 (EH _)).2
 have' hn:=(gT row b 5 (EH _)).1.tn
 have' h5:=(gT row b 5 (EH _)).1.t5
 have' hpre:=pw (row:=row) (b:=b)
 have htk:∀ t,t<=5->(bK row b t).told=(bK row b 5).told.take t:=fun t ht=>by
  obtain ⟨r,e⟩:=uP (row:=row) (b:=b) (5 - t) t (by omega)
  rw [show t+(5 - t)=5 by omega] at e
  rw [e,H3 (by rw [(gT row b t ht).2];exact EH _),Fs (by rw [(gT row b t ht).2];exact EH _)]
 unfold gw dv
 rw [EC,hlen,Gf]
 intro e he
 rw [Ec] at he
 rw [Gf]
 intro g hg
 rw [Ec] at hg
 generalize hl:(bK row b 5).told=l at *
 have eg:∀ i (h:i<l.length),(l.map fun p=>row.getD p 0).getD i 0=row.getD l[i] 0:=fun i h=>by simp [Er,h]
 unfold jB
 rw [eg e (by omega),eg g (by omega),Fz,G7]
 intro hc
 rw [E7,decide_eq_true_eq,Fz,G7] at hc
 obtain ⟨hlt,hno⟩:=hc
 obtain ⟨x,w,_,e1,_,_,e4,hmin⟩:=oW (row:=row) (b:=b) (t:=g) (by omega)
 rw [htk (g+1) (by omega),htk g (by omega),I9 (by omega)] at e1
 have ex:l[g]=x.2:=(HU.inj (List.append_cancel_left e1)).1
 have key:=hmin l[e] (h5 _ (Ge _)) ?_ fun q hq=>?_
 ·rw [e4,<- ex] at key;omega
 ·rw [htk g (by omega)]
  intro hm;have:=hn
  rw [<- Hg g l,Fy] at this
  refine this.2.2 _ hm l[e] ?_ rfl
  rw [List.mem_drop_iff_getElem]
  exact ⟨e - g,by omega,by congr 1;omega⟩
 ·rw [htk g (by omega)]
  have hq':=hpre.pre (l.take e) l[e] (l.drop (e+1)) (by rw [List.getElem_cons_drop,Hg]) q hq
  refine Classical.byContradiction fun hng=>hno (HA.mpr ⟨row.getD q 0,?_,by rw [B.symm];exact (dg.mp hq).2⟩)
  rw [<- Ip,<- Jp]
  refine EL.mpr ⟨q,?_,rfl⟩
  rw [<- Hg g (l.take e)] at hq'
  refine (ED.mp hq').resolve_left fun r=>hng ?_
  rw [List.take_take,Hb (by omega)] at r
  exact r
end
noncomputable def ka (row:List Nat) (b:Nat->Nat->Bool) (t:Nat):List Nat:=(EN 5).filter fun p=>!(an row b t).contains p
noncomputable def ed (row:List Nat) (b:Nat->Nat->Bool) (t u v:Nat):List Nat:=(ka row b t).filter fun p=>u==row.getD p 0 || v==row.getD p 0
noncomputable def gS (row:List Nat) (b:Nat->Nat->Bool) (t u v:Nat):List Nat:=(ed row b t u v).map fun p=>row.getD p 0
noncomputable def jE (b:Nat->Nat->Bool) (f:Nat->Nat->List Nat) (u:Nat):Bool:=(EN 4).all fun v=>!b u v || (f u v).head? == some u
noncomputable def xL (b:Nat->Nat->Bool) (f:Nat->Nat->List Nat) (u v:Nat):List Nat:=match f u v with
 | []=>[]
 | w :: tl=>if jE b f w then tl else w :: tl
noncomputable def gF (row:List Nat) (b:Nat->Nat->Bool) (t:Nat):List Nat:=(bI row b t).2.map fun p=>row.getD p 0
section
variable {row row':List Nat} {b:Nat->Nat->Bool}
theorem yX {t p:Nat}:p∈ka row b t↔p<5/\p∉an row b t:=by unfold ka;rw [FV,Ec];simp
theorem gG {t u v:Nat}:(ed row b t u v).Pairwise (· < ·):=(KM.filter _).filter _
theorem eB {t u v p:Nat}:p∈ed row b t u v↔(p<5/\p∉an row b t)/\(u==row.getD p 0 || v==row.getD p 0)=true:=by unfold ed;rw [FV,yX]
theorem lC (B:Bd b) {t u v h p:Nat} {T:List Nat} (hb:b u v=true) (e:ed row b t u v=h :: T) (hp:p∈(bI row b t).2) (hm:p∈ed row b t u v):p=h:=by
 have hs:=gG (row:=row) (b:=b) (t:=t) (u:=u) (v:=v)
 have hh:h∈ed row b t u v:=by rw [e];exact .head _
 rw [e] at hm hs
 refine (ES.mp hm).resolve_right fun hT=>?_
 have' hlt:=(Fe.mp hs).1 p hT
 have h1:=eB.mp hh
 have' h2:=eB.mp (e▸List.mem_cons_of_mem h hT:p∈ed row b t u v)
 exact h1.1.2 ((dz.mp hp).2.2 h (dg.mpr ⟨hlt,nQ B hb h1.2 h2.2⟩))
theorem fP (B:Bd b) (h4:∀ p,row.getD p 0<4) {t u:Nat} (hu:u<4):jE b (gS row b t) u=true↔u∈gF row b t:=by
 unfold jE gF
 rw [Gf,EL]
 constructor
 ·intro h
  have hu':=h u (Ec.mpr hu)
  rw [B.refl,Kz,Ik,beq_iff_eq] at hu'
  unfold gS at hu'
  cases e:ed row b t u u with
  | nil=>rw [e] at hu';cases hu'
  | cons p T=>
   rw [e] at hu'
   have hpu:row.getD p 0=u:=GB.inj hu';have hp:=eB.mp (e▸J4:p∈ed row b t u u);refine ⟨p,dz.mpr ⟨hp.1.1,hp.1.2,fun q hq=>?_⟩,hpu⟩
   obtain ⟨ql,qb⟩:=dg.mp hq;refine Classical.byContradiction fun hqf=>?_
   have hv:=h (row.getD q 0) (Ec.mpr (h4 q));have hbv:b u (row.getD q 0)=true:=by rw [B.symm,<- hpu];exact qb
   rw [hbv,Kz,Ik,beq_iff_eq] at hv
   unfold gS at hv
   have hqm:q∈ed row b t u (row.getD q 0):=eB.mpr ⟨⟨by omega,hqf⟩,by simp⟩
   cases e2:ed row b t u (row.getD q 0) with
   | nil=>rw [e2] at hqm;cases hqm
   | cons k T2=>
    rw [e2] at hv
    have hku:row.getD k 0=u:=GB.inj hv;have hk:=eB.mp (e2▸J4:k∈ed row b t u (row.getD q 0));have hkm:k∈ed row b t u u:=eB.mpr ⟨hk.1,by rw [hku];simp⟩
    have s1:=gG (row:=row) (b:=b) (t:=t) (u:=u) (v:=u);have s2:=gG (row:=row) (b:=b) (t:=t) (u:=u) (v:=row.getD q 0)
    rw [e] at hkm s1
    rw [e2] at hqm s2
    have a1:p<=k:=(ES.mp hkm).elim (fun r=>E9 r.symm) fun r=>Ej ((Fe.mp s1).1 k r)
    have a2:k<=q:=(ES.mp hqm).elim (fun r=>E9 r.symm) fun r=>Ej ((Fe.mp s2).1 q r)
    omega
 ·rintro ⟨p,hp,rfl⟩ v hv
  cases hb:b (row.getD p 0) v with
  | false=>rfl
  | true=>
   rw [Kz,Ik,beq_iff_eq]
   have h1:=dz.mp hp;have hm:p∈ed row b t (row.getD p 0) v:=eB.mpr ⟨⟨h1.1,h1.2.1⟩,by simp⟩
   unfold gS
   cases e:ed row b t (row.getD p 0) v with
   | nil=>rw [e] at hm;cases hm
   | cons k T=>rw [<- lC B hb e hp hm];rfl
theorem xo {t:Nat}:ka row b (t+1)=(ka row b t).filter fun p=>!(bI row b t).2.contains p:=by
 unfold ka
 rw [J5]
 refine G0 fun p zz=>?_
 rw [FU,an]
 simp
 exact And.comm
theorem sv (B:Bd b) (h4:∀ p,row.getD p 0<4) {t u v:Nat} (hb:b u v=true):gS row b (t+1) u v=xL b (gS row b t) u v:=by
 have' e1:ed row b (t+1) u v=(ed row b t u v).filter fun p=>!(bI row b t).2.contains p:=by
  unfold ed
  rw [xo,J5,J5]
  exact G0 fun p zz=>Bool.and_comm ..
 unfold xL
 unfold gS
 rw [e1]
 cases e:ed row b t u v with
 | nil=>rfl
 | cons h T=>
  have' hT:T.filter (fun p=>!(bI row b t).2.contains p)=T:=GN.mpr fun p hp=>by
   rw [Fz,G7]
   intro hc;have hm:p∈ed row b t u v:=by rw [e];exact .tail _ hp
   have:=lC B hb e (FJ.mp hc) hm;have hs:=gG (row:=row) (b:=b) (t:=t) (u:=u) (v:=v)
   rw [e] at hs
   exact E2 _ (this▸(Fe.mp hs).1 p hp)
  have' hh:=eB.mp (e▸J4:h∈ed row b t u v);have' hiff:(bI row b t).2.contains h=jE b (gS row b t) (row.getD h 0):=by
   rw [FU,fP B h4 (h4 h),FJ]
   unfold gF
   rw [EL]
   refine ⟨fun q=>⟨h,q,rfl⟩,fun qq1=>?_⟩
   obtain ⟨p,hp,hpe⟩:=qq1;have h1:=dz.mp hp;have:=lC B hb e hp (eB.mpr ⟨⟨h1.1,h1.2.1⟩,by rw [hpe];exact hh.2⟩)
   exact this▸hp
  rw [Eu,hT,hiff]
  show _=if jE b (gS row b t) (row.getD h 0)=true then _ else _
  cases jE b (gS row b t) (row.getD h 0)<;>rfl
theorem gV {f g:Nat->Nat->List Nat} {u:Nat} (hu:u<4) (h:∀ u v,u<4->v<4->b u v=true->f u v=g u v):jE b f u=jE b g u:=by
 unfold jE
 rw [FU,Gf,Gf]
 refine forall_congr' fun v=>forall_congr' fun hv=>?_
 cases hb:b u v with
 | false=>exact Iff.rfl
 | true=>rw [h u v hu (Ec.mp hv) hb]
theorem qS (hr:row.length=5) {u v:Nat}:gS row b 0 u v=row.filter fun x=>u==x || v==x:=by
 conv=>rhs;rw [<- m9 hr]
 unfold gS ed
 rw [KT]
 have:ka row b 0=EN 5:=GN.mpr fun zz zz=>rfl
 rw [this];rfl
theorem yZ (B:Bd b) (hr:row.length=5) (hr':row'.length=5) (h4:∀ p,row.getD p 0<4) (h4':∀ p,row'.getD p 0<4) (h:au row b=au row' b):∀ t u v,u<4->v<4->b u v=true->gS row b t u v=gS row' b t u v:=by
 intro t
 induction t with
 | zero=>
  intro u v hu hv hb;have key:∀ u v,u<=v->v<4->b u v=true->(row.filter fun x=>u==x || v==x)=row'.filter fun x=>u==x || v==x:=fun u v a c d=>
   List.map_inj_left.mp h (u,v) (xR a c d)
  rw [qS hr,qS hr']
  rcases IV u v with l | l
  ·exact key u v l hv hb
  ·have:=key v u l hu (by rw [B.symm];exact hb)
   simpa only [Bool.or_comm] using this
 | succ t ih=>
  intro u v hu hv hb
  rw [sv B h4 hb,sv B h4' hb]
  unfold xL
  rw [ih u v hu hv hb]
  cases e:gS row' b t u v with
  | nil=>rfl
  | cons w T=>
   have' hw:w<4:=by
    have:w∈gS row' b t u v:=by rw [e];exact .head _
    unfold gS at this
    obtain ⟨p,_,rfl⟩:=EL.mp this;exact h4' p
   show (if _ then _ else _)=if _ then _ else _
   rw [gV hw ih]
theorem sU (h4:∀ p,row.getD p 0<4) {t u:Nat} (h:u∈gF row b t):u<4:=by
 obtain ⟨p,_,rfl⟩:=EL.mp h;exact h4 p
theorem lX (B:Bd b) (t:Nat):(gF row b t).Nodup:=by
 unfold gF
 rw [List.Nodup,Hi]
 have' hn:=(iL row b t).rdn
 refine HN.imp_of_mem ?_ hn
 intro p q hp hq ne e
 have:=kx B hp hq ne
 rw [e,B.refl] at this;cases this
end
noncomputable def srt (g:List Nat):List Nat:=g.mergeSort fun a b=>decide (a<=b)
theorem eH {g:List Nat} {x:Nat}:x∈srt g↔x∈g:=(G8 ..).mem_iff
theorem hG {g:List Nat}:(srt g).length=g.length:=(G8 ..).length_eq
theorem kn (g:List Nat):(srt g).Pairwise (·<=·):=
 (IR (le:=fun (a b:Nat)=>decide (a<=b)) (fun a b c h1 h2=>by simp at *;omega) (fun a b=>by simp;omega) g).imp fun h=>by simpa using h
theorem rP {g:List Nat} (h:g.Nodup):(srt g).Pairwise (· < ·):=by
 have h2:(srt g).Nodup:=(G8 ..).nodup_iff.mpr h
 exact (kn g).imp₂ (fun a c h1 h2=>JP h1 h2) h2
theorem wT {g g':List Nat} (h:g.Nodup) (h':g'.Nodup) (e:∀ x,x∈g↔x∈g'):srt g=srt g':=
 iZ (rP h) (rP h') fun x=>by rw [eH,eH];exact e x
section
variable {row row':List Nat} {b:Nat->Nat->Bool}
theorem BU (B:Bd b) (hr:row.length=5) (hr':row'.length=5) (h4:∀ p,row.getD p 0<4) (h4':∀ p,row'.getD p 0<4) (h:au row b=au row' b):(ag row b).map srt=(ag row' b).map srt:=by
 have key:∀ t,srt (gF row b t)=srt (gF row' b t):=fun t=>by
  refine wT (lX B t) (lX B t) fun x=>?_
  have ih:=yZ B hr hr' h4 h4' h t;refine ⟨fun q=>?_,fun q=>?_⟩
  ·have hx:=sU h4 q
   rw [<- fP B h4' hx,<- gV hx ih,fP B h4 hx];exact q
  ·have hx:=sU h4' q
   rw [<- fP B h4 hx,gV hx ih,fP B h4' hx];exact q
 have hnil:∀ t,(bI row b t).2=[]↔(bI row' b t).2=[]:=fun t=>by
  have e:=congrArg Hn (key t)
  rw [hG,hG] at e
  unfold gF at e
  rw [EC,EC] at e
  rw [<- Gr,<- Gr,e]
 obtain ⟨k,_,a1,a2,e1⟩:=eU row b
 obtain ⟨k',_,c1,c2,e2⟩:=eU row' b
 have' hk:k=k':=by
  rcases Nat.lt_trichotomy k k' with l | l | l
  ·exact absurd ((hnil k).mp a2) (c1 k l)
  ·exact l
  ·exact absurd ((hnil k').mpr c2) (a1 k' l)
 rw [e1,e2,hk,EQ,EQ]
 exact FN fun t zz=>key t
theorem sG {a c:List Nat} (h:a.Perm c) (h1:a.length<=1):a=c:=by
 match a,h1 with
 | [],_=>exact (Jn.mp h).symm
 | [x],_=>exact List.singleton_perm.mp h
theorem n9 (B:Bd b) {g:List Nat} {u v:Nat} (hb:b u v=true) (hg:g.Pairwise fun x y=>b x y=false):(g.filter fun x=>u==x || v==x)=(srt g).filter fun x=>u==x || v==x:=by
 refine sG ((G8 ..).symm.filter _) ?_
 have' h2:(g.filter fun x=>u==x || v==x).Pairwise fun zz zz=>False:=by
  rw [Kd]
  exact hg.imp fun h hx hy=>by rw [nQ B hb hx hy] at h;cases h
 match g.filter (fun x=>u==x || v==x),h2 with
 | [],_=>exact Ek _
 | [_],_=>exact EH _
 | x :: y :: l,h=>exact ((Fe.mp h).1 y (.head _)).elim
theorem jv (B:Bd b):∀ g∈ag row b,g.Pairwise fun x y=>b x y=false:=by
 obtain ⟨k,_,_,_,e⟩:=eU row b
 rw [e]
 intro g hg
 obtain ⟨t,_,rfl⟩:=EL.mp hg
 rw [Hi]
 exact HN.imp_of_mem (fun hp hq ne=>kx B hp hq ne) (iL row b t).rdn
theorem pC (B:Bd b):∀ g∈ag row b,g.Nodup:=fun g hg=>(jv B g hg).imp fun h e=>by rw [e,B.refl] at h;cases h
theorem m7 (B:Bd b) (hr:row.length=5):au (ag row b).flatten b=au row b:=by
 rw [gi];exact pt B hr wX
theorem uC (B:Bd b) (hr:row.length=5):au (dv row b) b=au row b:=pt B hr pw
theorem oX (B:Bd b) (hr:row.length=5):au ((ag row b).map srt).flatten b=au row b:=by
 rw [<- m7 B hr]
 unfold au
 refine FN fun p hp=>?_
 rw [Ks,Ks,EQ]
 refine congrArg _ (FN fun g hg=>?_)
 exact (n9 B (mK hp) (jv B g hg)).symm
theorem uo (B:Bd b) (hr:row.length=5) (hr':row'.length=5) (h4:∀ p,row.getD p 0<4) (h4':∀ p,row'.getD p 0<4):(ag row b).map srt=(ag row' b).map srt↔au row b=au row' b:=
 ⟨fun h=>by rw [<- oX B hr,<- oX B hr',h],BU B hr hr' h4 h4'⟩
end
set_option tactic.hygienic true in
theorem hZ:∀ (cs:List Nat) (st:LS) (tok:Str) (q:Bool) (n:Nat) (w:Str) (quo:Bool) (R:List Nat),st≠.E->eE cs st tok q=some (n,.E,w,quo)->(!quo && w.length==0)=false->n=cs.length/\eE (cs++32 :: R) st tok q=some (n+1,.S,w,quo):=by
 intro cs
 induction cs with
 | nil=>
  intro st tok q n w quo R hst h hq
  cases st<;>simp only [eE] at h<;>cases h
  ·refine ⟨rfl,?_⟩
   rw [EW,eE,if_pos ⟨rfl,rfl⟩,if_pos]
   revert hq;cases q<;>simp
  ·exact absurd rfl hst
 | cons c cs hZ=>
  intro st tok q n w quo R hst h hq;unfold eE at h
  rw [El]
  unfold eE
  split at h
  ·split at h<;>cases h
  ·rename_i hc
   rw [if_neg hc]
   cases e:gf st c tok q with
   | none=>rw [e] at h;cases h
   | some r=>
    obtain ⟨st',tok',q'⟩:=r
    rw [e] at h
    obtain ⟨⟨m,r2⟩,h1,h2⟩:=FL.mp h
    cases h2
    obtain ⟨a1,a2⟩:=hZ st' tok' q' m w quo R (pu e).2 h1 hq;refine ⟨by rw [a1];rfl,?_⟩
    dsimp only
    rw [a2];rfl
noncomputable def oJ (q w:Str):Bool:=(eE q.cps.toList .S "" false).any (fun r=>decide (r.2.1=.E) && (decide (r.2.2.1=w) && !(!r.2.2.2 && w.length==0))) && Fl q && decide (q.length<=100)
theorem zg {q w:Str} (h:oJ q w=true):∃ quo,eE q.cps.toList .S "" false=some (q.length,.E,w,quo)/\(!quo && w.length==0)=false/\∀ R,eE (q.cps.toList++32 :: R) .S "" false=some (q.length+1,.S,w,quo):=by
 unfold oJ at h
 rw [E7,E7] at h
 obtain ⟨⟨n,st,w',quo⟩,e,h1⟩:=(Option.any_eq_true _ _).mp h.1.1
 rw [E7,E7,decide_eq_true_eq,decide_eq_true_eq,Fz] at h1
 obtain ⟨rfl,rfl,hq⟩:=h1
 have hn:=(hZ _ .S "" false n w' quo [] (by intro q;cases q) e hq).1
 have hn':n=q.length:=by rw [hn,FM];rfl
 subst hn'
 exact ⟨quo,e,hq,fun R=>(hZ _ .S "" false _ w' quo R (by intro q;cases q) e hq).2⟩
theorem md (x y:Str) (l:List Str):(I7 " " (x :: y :: l)).cps.toList=x.cps.toList++32 :: (I7 " " (y :: l)).cps.toList:=by
 show (En.Str.glued " " (x :: y :: l)).cps.toList=_++32 :: (En.Str.glued " " (y :: l)).cps.toList
 rw [StrLaws.glued_eq_join,StrLaws.glued_eq_join]
 show ((x.cps++(" " : Str).cps)++(Str.join " " (y :: l)).cps).toList=_
 rw [Hz,Hz,FH]
 rfl
theorem og (x:Str):I7 " " [x]=x:=by
 show En.Str.glued " " [x]=_
 rw [StrLaws.glued_eq_join];rfl
theorem mI:∀ (qs:List (Str×Str)) (k:Nat),qs≠[]->qs.length+1<=k->(∀ p∈qs,oJ p.1 p.2=true)->toks k (I7 " " (qs.map (·.1))).cps.toList .S=some (qs.map (·.2)):=by
 intro qs
 induction qs with
 | nil=>exact fun zz h zz zz=>absurd rfl h
 | cons p qs ih=>
  intro k _ hk h
  cases qs with
  | nil=>
  obtain ⟨k,rfl⟩:∃ j,k=j+2:=⟨k - 2,by simp at hk;omega⟩
  obtain ⟨quo,h1,h2,_⟩:=zg (h p (.head _))
  rw [J0,og,toks,h1]
  dsimp only;have hd:p.1.cps.toList.drop p.1.length=[]:=by rw [K9,FM];exact EH _
  rw [if_neg (by rw [h2];intro q;cases q),hd,toks]
  simp only [eE]
  rfl
  | cons p' qs=>
  obtain ⟨k,rfl⟩:∃ j,k=j+1:=⟨k - 1,by simp at hk;omega⟩
  obtain ⟨quo,h1,h2,h3⟩:=zg (h p (.head _));have ih:=ih k (by simp) (by simp at hk ⊢;omega) fun x hx=>h x (.tail _ hx)
  rw [E6,E6,md,toks,h3]
  dsimp only
  rw [if_neg (by rw [h2];intro q;cases q)]
  have' hd:∀ R,(p.1.cps.toList++32 :: R).drop (p.1.length+1)=R:=fun R=>by
   rw [show p.1.length+1=p.1.cps.toList.length+1 by rw [FM];rfl,List.drop_append]
   rw [Fk (by omega),E1];rfl
  rw [hd]
  rw [E6] at ih
  rw [ih];rfl
theorem ma:∀ (l:List Str),(∀ q∈l,q.length<=100)->(I7 " " l).length<=l.length * 101:=fun l h=>by
 show (En.Str.glued " " l).length<=_
 rw [StrLaws.glued_eq_join]
 refine EE (StrLaws.join_length_le " " l) ?_
 have:(l.map (·.length)).sum<=l.length * 100:=by
  induction l with
  | nil=>exact Ek _
  | cons x l ih=>
   have:=ih fun q hq=>h q (.tail _ hq)
   have:=h x (.head _)
   rw [E6,List.sum_cons,EX];omega
 have h1:(" " : Str).length=1:=by decide +kernel
 rw [h1];omega
theorem mG {l:List Str} (h:∀ q∈l,q.length<=100) (hl:l.length<=10):JoinOk " " l=true:=by
 unfold JoinOk
 rw [StrLaws.joinTotal]
 have' h1:(" " : Str).length=1:=by decide +kernel
 have:(l.map (·.length)).sum<=l.length * 100:=by
  clear hl
  induction l with
  | nil=>exact Ek _
  | cons x l ih=>
   have:=ih fun q hq=>h q (.tail _ hq)
   have:=h x (.head _)
   rw [E6,List.sum_cons,EX];omega
 unfold En.Str.tooLong
 rw [Fz,decide_eq_false_iff_not,EO,h1]
 omega
theorem rQ:∀ (l:List Str),(∀ q∈l,Fl q=true)->Fl (I7 " " l)=true:=by
 intro l
 induction l with
 | nil=>exact fun zz=>by decide +kernel
 | cons x l ih=>
  intro h
  cases l with
  | nil=>rw [og];exact h x (.head _)
  | cons y l=>
  have' ih:=ih fun q hq=>h q (.tail _ hq)
  have' hx:=h x (.head _);unfold Fl at *
  rw [<- Array.all_toList] at *
  rw [md,List.all_append,GG,ih,hx]
  rfl
noncomputable def qOk (y:Str):Bool:=(found y.cps).isSome && decide (y.cps.size<1000) && decide ((Gy y "'" "'\"'\"'").length<=100000)
theorem QOk.of {y:Str} (h:qOk y=true):QOk y:=by
 unfold qOk at h
 simp only [E7,decide_eq_true_eq] at h
 exact ⟨IA.mp h.1.1,h.1.2,h.2⟩
noncomputable def ya (a b c d:Bool):List Nat:=(if a then [0] else [])++(if b then [1] else [])++(if c then [2] else [])++if d then [3] else []
noncomputable def rY (g:List Nat):Bool:=qOk (bJ (g.map wS)) && oJ (bU (bJ (g.map wS))) (bJ (g.map wS)) && decide ((bJ (g.map wS)).length<=100)
theorem w8:∀ i,i<4->(qOk (wS i) && oJ (bU (wS i)) (wS i))=true:=by decide +kernel
theorem yC:∀ a b c d:Bool,(a || b || c || d)=true->rY (ya a b c d)=true:=by decide +kernel
noncomputable def bE (row:List Nat):List (List Nat):=row :: ([2,0,3,1].map fun p=>ek row p)
theorem vZ (g:List Nat):xm (g.map fun n:Nat=>(n:Int))=(srt g).map fun n:Nat=>(n:Int):=
 (pK ((G8 ..).map _) (Hi.mpr ((kn g).imp fun h=>by omega))).symm
noncomputable def ak (row:List Nat) (b:Nat->Nat->Bool):List (List Str):=(ag row b).map fun g=>(srt g).map wS
noncomputable def cE (s:List (List Str)):PyData:=.list (s.map fun ws=>.list (ws.map .str))
noncomputable def dX (row:List Nat) (b:Nat->Nat->Bool):List Str:=(bE row).map fun r=>bY (ak r b)
noncomputable def de (row:List Nat) (k:Nat):List Nat:=(bE row).getD k []
noncomputable def dY (row:List Nat) (b:Nat->Nat->Bool):List Nat:=(EN 5).filter fun k=>!((bE row).take k).any fun r=>au r b==au (de row k) b
structure PL (row:List Nat) (b:Nat->Nat->Bool):Prop where
 rd:∀ r∈bE row,(ag r b).length<=5/\∀ g∈ag r b,g.length<=5/\∀ x∈g,x<4
 flat:(ag row b).flatten.length<=1000
 td:(dv row b).length<=5/\∀ x∈dv row b,x<4
 h1:hM b (ag row b)=true
 h2:au (ag row b).flatten b=au row b
 h3:au (dv row b) b=au row b
 h4:gw b (dv row b)=true
 tx:∀ r∈bE row,(∀ ws∈ak r b,ws.length<=1000/\(∀ y∈ws,QOk y)/\JoinOk " " (ws.map bU)=true/\QOk (bJ ws))/\JoinOk " " (((ak r b).map bJ).map bU)=true
 sh:∀ r∈bE row,Fl (bY (ak r b))=true/\(∀ ws∈ak r b,∀ y∈ws,Fl y=true)
 h6:bM (dX row b)=(dY row b).map fun k=>bY (ak (de row k) b)
 h7:cx ((bE row).map fun r=>cE (ak r b))=(dY row b).map fun k=>cE (ak (de row k) b)
 rdb:∃ (k:Nat) (g:Str->List Str),(bY (ak row b)).length<=100000/\toks k (bY (ak row b)).cps.toList .S=some ((ak row b).map bJ)/\(∀ ws∈ak row b,(bJ ws).length<=100000/\toks k (bJ ws).cps.toList .S=some ws/\g (bJ ws)=ws/\ws.length<=1000)
 h5:(bE row).map (fun r=>ii (ag row b) (ag r b))=(bE row).map fun r=>au r b==au row b
theorem jb (x y:List (List Str)):FC (cE x) (cE y)=(x==y):=fU (fun a c=>fU (fun zz zz=>kL) a c) x y
theorem kq {α:Type} [BEq α] [LawfulBEq α] {f:α->PyData} (h:∀ x y,FC (f x) (f y)=(x==y)) (xs:List α) {ds es:List PyData} (e:ds=xs.map f) (e':es=xs.map f):(!FC (.list ds) (.list es))=false:=by
 rw [e,e',fU h,beq_self_eq_true];rfl
theorem hU {row:List Nat} {k:Nat} (h:k<5):de row k∈bE row:=by
 unfold de
 rw [Er,E8 (show k<(bE row).length from h)]
 exact Ge _
theorem nT {row:List Nat} {f:List Nat->PyData} {k:Nat} (h:k<5):((bE row).map f)[((k:Int)).toNat]? = some (f (de row k)):=by
 show ((bE row).map f)[k]? = _
 unfold de
 rw [Er,Ei,E8 (show k<(bE row).length from h)]
 rfl
theorem o9 {x:Str} (h:Fl x=true):Lay (.tuple [.str x,.none]) 1:=⟨by simp [J2,Fq,h],EH 1⟩
theorem fW {s:List (List Str)} (h:∀ ws∈s,∀ y∈ws,Fl y=true):Lay (cE s) 2:=cQ fun d hd=>by
 obtain ⟨ws,hw,rfl⟩:=EL.mp hd
 exact cQ fun e he=>by obtain ⟨y,hy,rfl⟩:=EL.mp he;exact oQ (h ws hw y hy)
theorem kg (ds:List PyData) (k:Nat):df ds none (some k)=ds.take k:=rfl
theorem zZ {α:Type} {f:α->PyData} {n:Nat} (h:∀ x,Lay (f x) n) {xs:List α}:Fq (xs.map f)=true:=by
 induction xs with
 | nil=>rfl
 | cons x xs ih=>rw [E6,Fq,(h x).lay,ih];rfl
theorem tD {row:List Nat} (hr:row.length=5) (hr4:∀ x∈row,x<4):∀ r∈bE row,r.length=5/\(∀ x∈r,x<4)/\r.length<=1000:=by
 intro r h
 have key:∀ p,p+1<5->(ek row p).length=5/\∀ x∈ek row p,x<4:=by
  intro p hp;unfold ek;refine ⟨by simp;omega,fun x hx=>?_⟩
  simp only [ED,ES,Fb,or_false] at hx
  rcases hx with (h | rfl | rfl) | h
  ·exact hr4 x (Ka h)
  ·exact gx hr4
  ·exact gx hr4
  ·exact hr4 x (Ho h)
 rcases ES.mp h with rfl | h
 ·exact ⟨hr,hr4,by omega⟩
 ·obtain ⟨p,hp,rfl⟩:=EL.mp h
  have hp5:p+1<5:=by
   simp only [ES,Fb,or_false] at hp
   rcases hp with rfl | rfl | rfl | rfl<;>omega
  exact ⟨(key p hp5).1,(key p hp5).2,by rw [(key p hp5).1];omega⟩
section
variable {C:Cx} (H:bH C) {fz:List Nat} {σ:aC} {jp:Nat}
include H
theorem rZ {row:List Nat} {b:Nat->Nat->Bool} (hr:row.length=5) (hr4:∀ x∈row,x<4) (pl:PL row b) (hfz:∀ i∈fz,i<σ.length) (hjp:σ[jp]? = some (.code 866)) (hjz:jp∉fz) :
  aP C 12 fz (.ref 977) [.dat (bf row),.dat (cy b)] [] σ (.dat (.bool true)) σ:=by
 refine aP.drop (t:=[.sdict (bM (dX row b))]) ?_
 wtm_at "Dp"
 case hr=>exact .ret
 case h=>
  dsimp only;have hr5:∀ r∈bE row,r.length=5/\(∀ x∈r,x<4)/\r.length<=1000:=fun r h=>tD hr hr4 r h
  have hmem:row∈bE row:=.head _;have a4:=pl.rd row hmem;have ht0:((bE row).map fun r=>GU ((ag r b).map bf))[(0:Int).toNat]? = some (.list ((ag row b).map bf)):=rfl
  have hr0:((bE row).map fun r=>gJ (au r b))[(0:Int).toNat]? = some (gJ (au row b)):=rfl
  have hlt:((bE row).map fun r=>GU ((ag r b).map bf)).length<=FG:=by rw [EC,EO];exact ET rfl
  have hlr:((bE row).map fun r=>gJ (au r b)).length<=FG:=by rw [EC,EO];exact ET rfl
  refine' aA ?s1 (aA ?s2 (aA ?s3 (aA (aN (aY.of (dN ?t4) ?d4) aG) (aA (aN (aY.of ?t5 ?d5) aG) ?rest))))
  case s1=>
   refine' aB ?v ?t (by intro _;rfl) (by intro _;rfl) (by intro _;rfl)
   case v=>
    refine' aH.of (a':=.dat (.list ((bE row).map bf))) (ct ?b1 ?b2 (OpG.of2 (k8 ?b3))) ?ee
    case b1=>
     refine' fZ ?k1 ?k2 ?k3
     case k1=>wtm_at "Ml"
     case k2=>wtm_at "Mdats"
     case k3=>wtm_at "Mside"
    case b2=>
     wtm_at "Dc"
     case hc=>
      refine' cM (xs:=[2,0,3,1]) (v:=fun p:Nat=>.dat (.int p)) (f:=fun p=>bf (ek row p)) rfl ?ha ?hee ?hsu
      case ha=>intro p hp;wtm_at "Ma"
      case hsu=>intro p hp;wtm_at "Msub"
      case hee=>
       intro p hp;have hp5:p+1<row.length:=by
        simp only [ES,Fb,or_false] at hp
        rcases hp with rfl | rfl | rfl | rfl<;>omega
       refine' ah ?f (kp_ H (by kernel_rfl)) (aZ ?l (by with_unfolding_all rfl)) (tW H hp5 (by omega)) (by show 2<=11;decide) rfl (by intro _;with_unfolding_all rfl)
       case f=>wtm_at "Me"
       case l=>wtm_at "Ml"
     case hz=>rw [EO];exact ET rfl
    case b3=>rw [EO];exact ET rfl
    case ee=>rfl
   case t=>wtm_at "Ma"
  case s2=>
   wtm_at "Da"
   case hc=>
    rw [EQ]
    refine' cM (f:=fun r=>.list ((ag r b).map bf)) rfl ?ha ?hee ?hsu
    case ha=>intro r hr';dsimp only [Function.comp];wtm_at "Ma"
    case hsu=>intro r hr';wtm_at "Msub"
    case hee=>
     intro r hr';obtain ⟨a1,a2,a3⟩:=hr5 r hr';refine' ah ?f (kp_ H (by kernel_rfl)) (aZ ?l (by with_unfolding_all rfl)) (q5 H a1 a2 hfz) (by show 8<=11;decide) rfl (by intro _;with_unfolding_all rfl)
     case f=>wtm_at "Me"
     case l=>wtm_at "Ml"
   case hz=>rw [EC,EO];exact ET rfl
  case s3=>
   wtm_at "Da"
   case hc=>
    rw [EQ]
    refine' cM (f:=fun r=>gJ (au r b)) rfl ?ha ?hee ?hsu
    case ha=>intro r hr';dsimp only [Function.comp];wtm_at "Ma"
    case hsu=>intro r hr';wtm_at "Msub"
    case hee=>
     intro r hr';obtain ⟨a1,a2,a3⟩:=hr5 r hr';refine' ah ?f (kp_ H (by kernel_rfl)) (aZ ?l (by with_unfolding_all rfl)) (rU H a3) (by show 2<=11;decide) rfl (by intro _;with_unfolding_all rfl)
     case f=>wtm_at "Me"
     case l=>wtm_at "Ml"
   case hz=>rw [EC,EO];exact ET rfl
  case t4=>
   refine' b7 (ah ?f (kp_ H (by kernel_rfl)) (aZ ?l (by with_unfolding_all rfl)) (tP H (fun g hg=>(a4.2 g hg).2) (by omega) (fun g hg=>by have:=(a4.2 g hg).1;omega)) (by show 2<=11;decide) rfl (by intro _;with_unfolding_all rfl)) dT (by intro _;with_unfolding_all rfl)
   case f=>wtm_at "Me"
   case l=>wtm_at "Ml"
  case d4=>rw [pl.h1];rfl
  case t5=>
   refine' ai (ah ?f (kp_ H (by kernel_rfl)) (aZ (bF ?c (bF ?bb bQ (by with_unfolding_all rfl)) (by with_unfolding_all rfl)) (by with_unfolding_all rfl)) (rU H (row:=(ag row b).flatten) pl.flat) (by show 2<=11;decide) rfl (by intro _;with_unfolding_all rfl)) ?r0 (OpG.of2 (ia ((dK _).shaped (by decide)) ((dK _).shaped (by decide)))) (by with_unfolding_all rfl)
   case f=>wtm_at "Me"
   case c=>
    refine' aH.of (a:=.dat (.list ((ag row b).flatMap fun g=>g.map nD))) ?comp ?ee
    case ee=>unfold bf;rw [List.map_flatten,List.flatMap_def]
    case comp=>
     wtm_at "Dc"
     case hc=>
      rw [EQ]
      refine' sQ (ys:=fun g:List Nat=>g) (w:=fun x:Nat=>AV.dat (nD x)) (ds:=fun g:List Nat=>g.map nD) rfl ?ha ?hi2 (by intro _ _;rfl) ?hcc ?hsu
      case ha=>intro g hg;dsimp only [Function.comp,bf];wtm_at "Ma"
      case hsu=>intro g hg;wtm_at "Msub"
      case hi2=>
       intro g hg
       rw [<- dP]
       refine' fH ?k1 (by with_unfolding_all rfl) (.name (by with_unfolding_all rfl))
       case k1=>wtm_at "Me"
      case hcc=>
       intro g hg;refine' cM rfl ?ha ?hee ?hsu
       case ha=>intro x hx;wtm_at "Ma"
       case hsu=>intro x hx;wtm_at "Msub"
       case hee=>intro x hx;wtm_at "Me"
     case hz=>
      have:=pl.flat
      rw [List.length_flatten] at this
      rw [List.length_flatMap,EO]
      simp only [EC]
      exact EE this (by decide)
   case bb=>wtm_at "Me"
   case r0=>wtm_at "Me"
  case d5=>rw [pl.h2,iA];simp
  case rest=>
   refine' aA ?s6 (aA (aN (fq (aY.of ?t7 ?d7) (aY.of (dN ?t8) ?d8)) aG) (aA (aN (aY.of ?t9 ?d9) aG) ?rest2))
   case s6=>
    refine' aB (ah ?f (kp_ H (by kernel_rfl)) (aZ ?l (by with_unfolding_all rfl)) (rC H hr hr4 hfz) (by show 8<=11;decide) rfl (by intro _;with_unfolding_all rfl)) ?t (by intro _;rfl) (by intro _;rfl) (by intro _;rfl)
    case f=>wtm_at "Me"
    case l=>wtm_at "Ml"
    case t=>wtm_at "Ma"
   case t7=>
    refine' ai (ah ?f (kp_ H (by kernel_rfl)) (aZ ?l (by with_unfolding_all rfl)) (rU H (row:=dv row b) (by have:=pl.td.1;omega)) (by show 2<=11;decide) rfl (by intro _;with_unfolding_all rfl)) ?r0 (OpG.of2 (ia ((dK _).shaped (by decide)) ((dK _).shaped (by decide)))) (by with_unfolding_all rfl)
    case f=>wtm_at "Me"
    case l=>wtm_at "Ml"
    case r0=>wtm_at "Me"
   case d7=>rw [pl.h3,iA];simp
   case t8=>
    refine' b7 (ah ?f (kp_ H (by kernel_rfl)) (aZ ?l (by with_unfolding_all rfl)) (yS H (row:=dv row b) pl.td.2 (by have:=pl.td.1;omega)) (by show 2<=11;decide) rfl (by intro _;with_unfolding_all rfl)) dT (by intro _;with_unfolding_all rfl)
    case f=>wtm_at "Me"
    case l=>wtm_at "Ml"
   case d8=>rw [pl.h4];rfl
   case t9=>
    refine' ai (dO (ds:=((bE row).map fun r=>ii (ag row b) (ag r b)).map .bool) ?ck ?hi ?hfr ?hcl ?hbl ?hc ?hz ?hf) (dO (ds:=((bE row).map fun r=>au r b==au row b).map .bool) ?ck2 ?hi2 ?hfr2 ?hcl2 ?hbl2 ?hc2 ?hz2 ?hf2) (OpG.of2 (ia ?y1 ?y2)) (by with_unfolding_all rfl)
    case ck=>wtm_at "Mcompok"
    case hi=>wtm_at "Mi"
    case hf=>(intro _ _;rfl)
    case hfr=>wtm_at "Mfrees"
    case hcl=>wtm_at "Mclos"
    case hbl=>wtm_at "Mblank"
    case ck2=>wtm_at "Mcompok"
    case hi2=>wtm_at "Mi"
    case hf2=>(intro _ _;rfl)
    case hfr2=>wtm_at "Mfrees"
    case hcl2=>wtm_at "Mclos"
    case hbl2=>wtm_at "Mblank"
    case hz=>rw [EC,EC,EO];exact ET rfl
    case hz2=>rw [EC,EC,EO];exact ET rfl
    case y1=>exact (cQ fun d hd=>by obtain ⟨x,_,rfl⟩:=EL.mp hd;exact pT x).shaped (by decide:1<=64)
    case y2=>exact (cQ fun d hd=>by obtain ⟨x,_,rfl⟩:=EL.mp hd;exact pT x).shaped (by decide:1<=64)
    case hc=>
     dsimp only [EW]
     rw [EQ,EQ]
     refine' cM (v:=fun r=>AV.dat (.list ((ag r b).map bf))) (f:=fun r=>.bool (ii (ag row b) (ag r b))) rfl ?ha ?hee ?hsu
     case ha=>intro r hr';wtm_at "Ma"
     case hsu=>intro r hr';wtm_at "Msub"
     case hee=>
      intro r hr';have a5:=pl.rd r hr';refine' ah ?f (kp_ H (by kernel_rfl)) (aZ ?l (by with_unfolding_all rfl)) (zS H (fun g hg=>(a4.2 g hg).2) (fun g hg=>(a5.2 g hg).2) (by omega) (by omega) (fun g hg=>by have:=(a4.2 g hg).1;omega) (fun g hg=>by have:=(a5.2 g hg).1;omega) hfz) (by show 4<=11;decide) rfl (by intro _;with_unfolding_all rfl)
      case f=>wtm_at "Me"
      case l=>wtm_at "Ml"
    case hc2=>
     dsimp only [EW]
     rw [EQ,EQ]
     refine' cM (v:=fun r=>AV.dat (gJ (au r b))) (f:=fun r=>.bool (au r b==au row b)) rfl ?ha ?hee ?hsu
     case ha=>intro r hr';wtm_at "Ma"
     case hsu=>intro r hr';wtm_at "Msub"
     case hee=>
      intro r hr';refine' aH.of (oF ?k1 ?k2 (OpG.of2 (wg ((dK _).shaped (by decide)) ((dK _).shaped (by decide)))) (by with_unfolding_all rfl)) ?ee
      case k1=>wtm_at "Me"
      case k2=>wtm_at "Me"
      case ee=>rw [iA]
   case d9=>rw [pl.h5];rw [vL];simp
   case rest2=>
    have hsh:∀ r,cE (ak r b)=.list ((ag r b).map fun g=>.list (((srt g).map wS).map .str)):=fun r=>by unfold cE ak;rw [EQ];rfl
    have hts:(bE row).map (fun r=>FY (bY (ak r b)))=(dX row b).map .str:=by unfold dX;rw [EQ];rfl
    have hzt:(dX row b).length<=1000:=by unfold dX;rw [EC];exact ET rfl
    have hf5:(dY row b).length<=5:=EE (FI _ _) (by rw [FR];decide)
    have hzd:(bM (dX row b)).length<=1000:=by rw [pl.h6,EC];exact EE hf5 (by decide)
    have hfm:∀ k∈dY row b,k<5:=fun k hk=>Ec.mp (FV.mp hk).1
    have' hok6:∀ x∈bM (dX row b),Fl x=true:=fun x hx=>by
     rw [pl.h6] at hx
     obtain ⟨k,hk,rfl⟩:=EL.mp hx;exact (pl.sh _ (hU (hfm k hk))).1
    refine' aA ?s7 (aA ?s8 (aA ?s9 (aA ?s10 (aA (aN (fq (aY.of (dN ?t11) ?d11) (aY.of ?t12 ?d12)) aG) (aA (aN (aY.of ?t13 ?d13) aG) (a8 (aX ?r14)))))))
    case s7=>
     wtm_at "Da"
     case hc=>
      rw [EQ]
      refine' cM (f:=fun r=>cE (ak r b)) rfl ?ha ?hee ?hsu
      case ha=>intro r hr';dsimp only [Function.comp];wtm_at "Ma"
      case hsu=>intro r hr';wtm_at "Msub"
      case hee=>
       intro r hr';have a5:=pl.rd r hr';refine' aH.of (a':=.dat (cE (ak r b))) ?cc (by rw [hsh])
       case cc=>
        refine' dO ?ck3 ?hi3 ?hfr3 ?hcl3 ?hbl3 ?hc3 ?hz3 ?hf3
        case ck3=>wtm_at "Mcompok"
        case hi3=>wtm_at "Mi"
        case hf3=>(intro _ _;rfl)
        case hfr3=>wtm_at "Mfrees"
        case hcl3=>wtm_at "Mclos"
        case hbl3=>wtm_at "Mblank"
        case hz3=>rw [EC,EO];omega
        case hc3=>
         dsimp only [EW]
         rw [dP]
         refine' cM (f:=fun g=>.list (((srt g).map wS).map .str)) rfl ?ha3 ?he3 ?hs3
         case ha3=>intro g hg;wtm_at "Ma"
         case hs3=>intro g hg;wtm_at "Msub"
         case he3=>
          intro g hg;have g4:∀ x∈srt g,x<4:=fun x hx=>(a5.2 g hg).2 x (eH.mp hx)
          refine' aH.of (ah ?f4 (kp_ H (by kernel_rfl)) (aZ (bF (aH.of (cq ?k1 (bF ?k2 bQ (by with_unfolding_all rfl)) (uW (ns:=g.map fun n:Nat=>(n:Int)) ?z)) ?k3) bQ (by with_unfolding_all rfl)) (by with_unfolding_all rfl)) (kI H (is:=srt g) g4 ?z2) (by show 2<=11;decide) rfl (by intro _;with_unfolding_all rfl)) (by rw [sy g4])
          case f4=>wtm_at "Me"
          case k1=>wtm_at "Me"
          case k2=>refine' aH.of (a:=.dat (bf g)) ?k4 (by unfold bf;rw [EQ];rfl);wtm_at "Me"
          case k3=>rw [vZ,EQ];rfl
          case z=>rw [EC];have:=(a5.2 g hg).1;omega
          case z2=>rw [hG];have:=(a5.2 g hg).1;omega
     case hz=>rw [EC,EO];exact ET rfl
    case s8=>
     wtm_at "Da"
     case hc=>
      rw [EQ]
      refine' cM (f:=fun r=>.str (bY (ak r b))) rfl ?ha ?hee ?hsu
      case ha=>intro r hr';dsimp only [Function.comp];wtm_at "Ma"
      case hsu=>intro r hr';wtm_at "Msub"
      case hee=>
       intro r hr';obtain ⟨b1,b2⟩:=pl.tx r hr';have a5:=pl.rd r hr';refine' ah ?f (kp_ H (by kernel_rfl)) (aZ ?l (by with_unfolding_all rfl)) (tr H hjp hjz ?bz b1 b2) (by show 7<=11;decide) rfl (by intro _;with_unfolding_all rfl)
       case f=>wtm_at "Me"
       case l=>unfold cE;wtm_at "Ml"
       case bz=>unfold ak;rw [EC];omega
     case hz=>rw [EC,EO];exact ET rfl
    case s9=>
     wtm_at "Da"
     case hc=>
      rw [show jF 0 (Hs 5)=(EN 5).map fun k:Nat=>AV.dat (nD k) from rfl]
      refine' cV (p:=fun k=>!((bE row).take k).any fun r=>au r b==au (de row k) b) (f:=fun k=>nD k) ?ha ?htt ?hee ?hsu
      case ha=>intro k hk;wtm_at "Ma"
      case hsu=>intro k hk;wtm_at "Msub"
      case hee=>intro k hk hp;wtm_at "Me"
      case htt=>
       intro k hk;have' hk5:k<5:=by simpa using hk
       have h0:(0:Int)<=(k:Int):=E4 k;have h1:(k:Int)<2 ^ 63:=by omega
       have hd:=nT (row:=row) (f:=fun r=>gJ (au r b)) hk5
       refine' ci (aY.of (ai ?k1 ?k2 (OpG.of2 (fA ((dK (au (de row k) b)).shaped (by decide)) ?y2)) (by with_unfolding_all rfl)) ?e9)
       case k1=>wtm_at "Me"
       case k2=>wtm_at "Me"
       case y2=>rw [kg,<- Ip];exact zZ fun r=>dK _
       case e9=>
        rw [kg,<- Ip,LW]
        congr 2
        funext r
        exact iA _ _
     case hz=>rw [EC,EO];exact EE (FI _ _) (by rw [FR];decide)
    case s10=>
     refine' aB (ah ?fz (kp_ H (by kernel_rfl)) (aZ (bF (aH.of (a:=.dat (.list ((bE row).map fun r=>.str (bY (ak r b))))) ?k1z (by rw [hts])) bQ (by with_unfolding_all rfl)) (by with_unfolding_all rfl)) (mC H (ws:=dX row b) hzt) (by show 1<=11;decide) rfl (by intro _;with_unfolding_all rfl)) ?tz (by intro _;rfl) (by intro _;rfl) (by intro _;rfl)
     case fz=>wtm_at "Me"
     case k1z=>wtm_at "Me"
     case tz=>wtm_at "Ma"
    case t11=>
     refine' b7 (cq ?k1z ?k2z (qq (bo rfl)) (by with_unfolding_all rfl)) dT (by intro _;with_unfolding_all rfl)
     case k1z=>wtm_at "Me"
     case k2z=>wtm_at "Ml"
    case d11=>rfl
    case t12=>
     refine' ai (lu ?k1z ?k2z (bo rfl) hzd rfl (by intro _;with_unfolding_all rfl) (by with_unfolding_all rfl)) (dO (ds:=(dY row b).map fun k=>.tuple [.str (bY (ak (de row k) b)),.none]) ?ck4 ?hi4 ?hfr4 ?hcl4 ?hbl4 ?hc4 ?hz4 ?hf4) (OpG.of2 (ia ?y1z ?y2z)) (by with_unfolding_all rfl)
     case k1z=>wtm_at "Me"
     case k2z=>wtm_at "Me"
     case ck4=>wtm_at "Mcompok"
     case hi4=>wtm_at "Mi"
     case hf4=>(intro _ _;rfl)
     case hfr4=>wtm_at "Mfrees"
     case hcl4=>wtm_at "Mclos"
     case hbl4=>wtm_at "Mblank"
     case hz4=>rw [EC,EO];exact EE hf5 (by decide)
     case hc4=>
      dsimp only [EW]
      rw [EQ]
      refine' cM (v:=fun k:Nat=>AV.dat (nD k)) (f:=fun k=>.tuple [.str (bY (ak (de row k) b)),.none]) rfl ?ha4 ?he4 ?hs4
      case ha4=>intro k hk;wtm_at "Ma"
      case hs4=>intro k hk;wtm_at "Msub"
      case he4=>
       intro k hk;have' hk5:=hfm k hk;have h0:(0:Int)<=(k:Int):=E4 k;have h1:(k:Int)<2 ^ 63:=by omega
       have hd:=nT (row:=row) (f:=fun r=>FY (bY (ak r b))) hk5
       wtm_at "Me"
     case y1z=>exact (cQ fun d hd=>by obtain ⟨x,hx,rfl⟩:=EL.mp hd;exact o9 (hok6 x hx)).shaped (by decide:2<=64)
     case y2z=>exact (cQ fun d hd=>by obtain ⟨x,hx,rfl⟩:=EL.mp hd;exact o9 (pl.sh _ (hU (hfm x hx))).1).shaped (by decide:2<=64)
    case d12=>
     rw [pl.h6]
     exact kq (f:=fun x:Str=>.tuple [.str x,.none]) (fun x y=>by simp [FC,PyData.eqvAll]) ((dY row b).map fun k=>bY (ak (de row k) b)) rfl (by rw [EQ];rfl)
    case t13=>
     refine' ai (ah ?fx (kp_ H (by kernel_rfl)) (aZ ?lx (by with_unfolding_all rfl)) (nW H ?dsx ?dzx ?dfzx) (by show 2<=11;decide) rfl (by intro _;with_unfolding_all rfl)) (dO (ds:=(dY row b).map fun k=>cE (ak (de row k) b)) ?ck5 ?hi5 ?hfr5 ?hcl5 ?hbl5 ?hc5 ?hz5 ?hf5) (OpG.of2 (ia ?y1x ?y2x)) (by with_unfolding_all rfl)
     case fx=>wtm_at "Me"
     case lx=>wtm_at "Ml"
     case dsx=>exact fun d hd=>by obtain ⟨r,hr',rfl⟩:=EL.mp hd;exact (fW (pl.sh r hr').2).shaped (by decide)
     case dzx=>rw [EC];exact ET rfl
     case dfzx=>intro i hi;rw [EU];exact E5 (hfz i hi) (EM _ _)
     case ck5=>wtm_at "Mcompok"
     case hi5=>wtm_at "Mi"
     case hf5=>(intro _ _;rfl)
     case hfr5=>wtm_at "Mfrees"
     case hcl5=>wtm_at "Mclos"
     case hbl5=>wtm_at "Mblank"
     case hz5=>rw [EC,EO];exact EE hf5 (by decide)
     case hc5=>
      dsimp only [EW]
      rw [EQ]
      refine' cM (v:=fun k:Nat=>AV.dat (nD k)) (f:=fun k=>cE (ak (de row k) b)) rfl ?ha5 ?he5 ?hs5
      case ha5=>intro k hk;wtm_at "Ma"
      case hs5=>intro k hk;wtm_at "Msub"
      case he5=>
       intro k hk;have' hk5:=hfm k hk;have h0:(0:Int)<=(k:Int):=E4 k;have h1:(k:Int)<2 ^ 63:=by omega
       have hd:=nT (row:=row) (f:=fun r=>cE (ak r b)) hk5
       wtm_at "Me"
     case y1x=>rw [pl.h7];exact (cQ fun d hd=>by obtain ⟨x,hx,rfl⟩:=EL.mp hd;exact fW (pl.sh _ (hU (hfm x hx))).2).shaped (by decide:3<=64)
     case y2x=>exact (cQ fun d hd=>by obtain ⟨x,hx,rfl⟩:=EL.mp hd;exact fW (pl.sh _ (hU (hfm x hx))).2).shaped (by decide:3<=64)
    case d13=>
     rw [pl.h7]
     exact kq (f:=cE) jb ((dY row b).map fun k=>ak (de row k) b) (by rw [EQ];rfl) (by rw [EQ];rfl)
    case r14=>
     obtain ⟨k,g,r1,r2,r3⟩:=pl.rdb;have hs0:((bE row).map fun r=>cE (ak r b))[(0:Int).toNat]? = some (cE (ak row b)):=rfl
     have htx0:((bE row).map fun r=>FY (bY (ak r b)))[(0:Int).toNat]? = some (.str (bY (ak row b))):=rfl
     have hls:((ak row b).map bJ).length<=1000:=by rw [EC];unfold ak;rw [EC];omega
     have' hback:GU (((ak row b).map bJ).map fun l=>GU ((g l).map .str))=cE (ak row b):=by
      unfold cE
      rw [EQ]
      exact congrArg _ (FN fun ws hw=>by show GU ((g (bJ ws)).map .str)=_;rw [(r3 ws hw).2.2.1])
     refine' aH.of (oF (aH.of (a':=.dat (cE (ak row b))) (ah ?fw (kp_ H (by kernel_rfl)) (aZ ?lw (by with_unfolding_all rfl)) (vM H (g:=g) ?dfzw r1 r2 hls ?hlw) (by show 9<=11;decide) rfl (by intro _;with_unfolding_all rfl)) (by rw [hback])) ?k2w (OpG.of2 (wg (a:=cE (ak row b)) (b:=cE (ak row b)) ?y1w ?y2w)) (by with_unfolding_all rfl)) ?eew
     case fw=>wtm_at "Me"
     case lw=>wtm_at "Ml"
     case k2w=>wtm_at "Me"
     case dfzw=>intro i hi;rw [EU];exact E5 (hfz i hi) (EM _ _)
     case hlw=>
      intro l hl;obtain ⟨ws,hw,rfl⟩:=EL.mp hl;obtain ⟨q1,q2,q3,q4⟩:=r3 ws hw
      rw [q3];exact ⟨q1,q2,q4⟩
     case y1w=>exact (fW (pl.sh row hmem).2).shaped (by decide)
     case y2w=>exact (fW (pl.sh row hmem).2).shaped (by decide)
     case eew=>rw [jb];simp
end
theorem nA:∀ i,i<4->∀ j,j<4->wS i=wS j->i=j:=by decide +kernel
theorem rR:∀ {g g':List Nat},(∀ x∈g,x<4)->(∀ x∈g',x<4)->g.map wS=g'.map wS->g=g':=by
 intro g
 induction g with
 | nil=>exact fun zz zz h=>(HS.mp h.symm).symm
 | cons x g ih=>
  intro g' h1 h2 h
  cases g' with
  | nil=>cases h
  | cons y g'=>
  rw [E6,E6] at h
  obtain ⟨a,c⟩:=HU.inj h
  rw [nA x (h1 x (.head _)) y (h2 y (.head _)) a,ih (fun z hz=>h1 z (.tail _ hz)) (fun z hz=>h2 z (.tail _ hz)) c]
theorem py {g:List Nat} (h4:∀ x∈g,x<4) (h:g.Nodup):(g.map wS).Nodup:=by
 rw [List.Nodup,Hi]
 exact HN.imp_of_mem (fun hx hy ne e=>ne (nA _ (h4 _ hx) _ (h4 _ hy) e)) h
theorem jG (ws:List Str):ws.Nodup->bM ws=ws:=by
 refine fX (P:=fun ws=>ws.Nodup->bM ws=ws) (fun zz=>rfl) (fun ws w ih h=>?_) ws
 rw [Fy] at h
 rw [ev,ih h.1,if_neg]
 intro hany
 obtain ⟨y,hy,e⟩:=HA.mp hany
 exact h.2.2 y hy w (.head _) (by simpa using e)
theorem mw:∀ (ws t:List Str),cY t ws=some []↔ws.Perm t:=by
 intro ws
 induction ws with
 | nil=>
  intro t
  rw [cY,Jn]
  exact ⟨fun h=>GB.inj h,fun h=>by rw [h]⟩
 | cons w ws ih=>
  intro t
  rw [cY,List.cons_perm_iff_perm_erase]
  by_cases h:w∈t
  ·rw [if_pos h,ih]
   exact ⟨fun q=>⟨h,q⟩,fun q=>q.2⟩
  ·rw [if_neg h]
   exact ⟨fun q=>(nomatch q),fun q=>absurd q.1 h⟩
theorem lY {g g':List Nat} (h4:∀ x∈g,x<4) (h4':∀ x∈g',x<4) (hn:g.Nodup) (hn':g'.Nodup):b8 (g.map wS) (g'.map wS)=true↔srt g=srt g':=by
 have n1:=py h4 hn
 have n2:=py h4' hn'
 have' e1:b8 (g.map wS) (g'.map wS)=true↔cY (g'.map wS) (g.map wS)=some []:=by
  unfold b8
  rw [jG _ n1,jG _ n2]
  cases cY (g'.map wS) (g.map wS) with
  | none=>exact ⟨fun q=>(nomatch q),fun q=>(nomatch q)⟩
  | some t=>cases t with
   | nil=>exact ⟨fun zz=>rfl,fun zz=>rfl⟩
   | cons a t=>exact ⟨fun q=>(nomatch q),fun q=>(nomatch q)⟩
 rw [e1,mw,List.perm_ext_iff_of_nodup n1 n2]
 constructor
 ·intro h
  refine wT hn hn' fun x=>⟨fun q=>?_,fun q=>?_⟩
  ·obtain ⟨y,hy,e⟩:=EL.mp ((h (wS x)).mp (EL.mpr ⟨x,q,rfl⟩))
   exact nA y (h4' y hy) x (h4 x q) e▸hy
  ·obtain ⟨y,hy,e⟩:=EL.mp ((h (wS x)).mpr (EL.mpr ⟨x,q,rfl⟩))
   exact nA y (h4 y hy) x (h4' x q) e▸hy
 ·intro h w
  have' hm:∀ x,x∈g↔x∈g':=fun x=>by rw [<- eH,h,eH]
  rw [EL,EL]
  exact exists_congr fun x=>by rw [hm x]
theorem vO:∀ {R R':List (List Nat)},(∀ g∈R,g.Nodup/\∀ x∈g,x<4)->(∀ g∈R',g.Nodup/\∀ x∈g,x<4)->(ii R R'=true↔R.map srt=R'.map srt):=by
 intro R
 induction R with
 | nil=>
  intro R' _ _
  cases R' with
  | nil=>exact ⟨fun zz=>rfl,fun zz=>rfl⟩
  | cons _ _=>exact ⟨fun h=>(nomatch h),fun h=>(nomatch h)⟩
 | cons g R ih0=>
  intro R' h h'
  cases R' with
  | nil=>exact ⟨fun h=>(nomatch h),fun h=>(nomatch h)⟩
  | cons g' R'=>
   have' ih:=ih0 (fun x hx=>h x (.tail _ hx)) fun x hx=>h' x (.tail _ hx)
   have' o:=lY (h g (.head _)).2 (h' g' (.head _)).2 (h g (.head _)).1 (h' g' (.head _)).1;have' e:ii (g :: R) (g' :: R')=(b8 (g.map wS) (g'.map wS) && ii R R'):=by
    unfold ii
    rw [EX,EX,F5,GG]
    have:(R.length+1==R'.length+1)=(R.length==R'.length):=by rw [FU,beq_iff_eq,beq_iff_eq];omega
    rw [this]
    cases R.length==R'.length<;>cases b8 (g.map wS) (g'.map wS)<;>rfl
   rw [e,E7,ih,o,E6,E6]
   exact ⟨fun ⟨a,c⟩=>by rw [a,c],fun q=>HU.inj q⟩
set_option tactic.hygienic true in
theorem yn {g:List Nat} (h:∀ x∈g,x<4) (hn:g.Nodup):srt g=ya (g.contains 0) (g.contains 1) (g.contains 2) (g.contains 3):=by
 refine iZ (rP hn) ?_ fun x=>?_
 ·generalize g.contains 0=a,g.contains 1=c,g.contains 2=d,g.contains 3=e
  revert a c d e;decide
 ·rw [eH]
  constructor
  ·intro hx
   have:=h x hx;have:x=0\/x=1\/x=2\/x=3:=by omega
   rcases this with rfl | rfl | rfl | rfl<;>simp [ya,hx]
  ·intro hx
   unfold ya at hx
   simp only [ED] at hx
   rcases hx with ((hx | hx) | hx) | hx<;>split at hx<;>first | (cases hx;done) | (rename_i q;obtain rfl:=EG.mp hx;exact FJ.mp q)
theorem zC {g:List Nat} (h:∀ x∈g,x<4) (hn:g.Nodup) (h0:g≠[]):rY (srt g)=true:=by
 rw [yn h hn]
 refine yC _ _ _ _ ?_
 cases g with
 | nil=>exact absurd rfl h0
 | cons x g=>
  have:=h x (.head _);have:x=0\/x=1\/x=2\/x=3:=by omega
  rcases this with rfl | rfl | rfl | rfl<;>simp
theorem wW {q w:Str} (h:oJ q w=true):q.length<=100/\Fl q=true:=by
 unfold oJ at h
 simp only [E7,decide_eq_true_eq] at h
 exact ⟨h.2,h.1.2⟩
theorem lJ {is:List Nat} (h:∀ i∈is,i<4) (hl:is.length<=5) (h0:is≠[]):(∀ y∈is.map wS,QOk y)/\JoinOk " " ((is.map wS).map bU)=true/\(bJ (is.map wS)).length<=100000/\toks 6 (bJ (is.map wS)).cps.toList .S=some (is.map wS):=by
 have hw:∀ i∈is,qOk (wS i)=true/\oJ (bU (wS i)) (wS i)=true:=fun i hi=>by
  have:=w8 i (h i hi)
  rwa [E7] at this
 have hq:∀ q∈(is.map wS).map bU,q.length<=100:=fun q hq=>by
  obtain ⟨w,hw',rfl⟩:=EL.mp hq;obtain ⟨i,hi,rfl⟩:=EL.mp hw';exact (wW (hw i hi).2).1
 refine ⟨fun y hy=>?_,mG hq (by simp;omega),?_,?_⟩
 ·obtain ⟨i,hi,rfl⟩:=EL.mp hy
  exact .of (hw i hi).1
 ·have:=ma _ hq
  rw [EC,EC] at this
  unfold bJ;omega
 ·have:=mI (is.map fun i=>(bU (wS i),wS i)) 6 (by simpa using h0) (by simp;omega) fun p hp=>by
   obtain ⟨i,hi,rfl⟩:=EL.mp hp;exact (hw i hi).2
  rw [EQ,EQ] at this
  unfold bJ
  rw [EQ];exact this
structure Tab (R:List (List Nat)):Prop where
 len:R.length<=5
 ne:R≠[]
 gr:∀ g∈R,g≠[]/\g.Nodup/\g.length<=5/\∀ x∈g,x<4
noncomputable def gM (R:List (List Nat)):List (List Str):=R.map fun g=>(srt g).map wS
theorem Tab.line {R:List (List Nat)} (T:Tab R) {ws:List Str} (h:ws∈gM R):qOk (bJ ws)=true/\oJ (bU (bJ ws)) (bJ ws)=true/\(bJ ws).length<=100/\ws.length<=1000/\(∀ y∈ws,QOk y)/\JoinOk " " (ws.map bU)=true/\toks 6 (bJ ws).cps.toList .S=some ws/\∀ y∈ws,Fl y=true:=by
 obtain ⟨g,hg,rfl⟩:=EL.mp h
 obtain ⟨g0,gn,gl,g4⟩:=T.gr g hg
 have hl:=zC g4 gn g0
 unfold rY at hl
 simp only [E7,decide_eq_true_eq] at hl
 have s4:∀ i∈srt g,i<4:=fun i hi=>g4 i (eH.mp hi)
 obtain ⟨b1,b2,b3,b4⟩:=lJ (is:=srt g) s4 (by rw [hG];exact gl) fun e=>g0 (GO (by rw [<- hG,e];rfl))
 refine ⟨hl.1.1,hl.1.2,hl.2,by rw [EC,hG];omega,b1,b2,b4,fun y hy=>?_⟩
 obtain ⟨i,hi,rfl⟩:=EL.mp hy
 exact pY (s4 i hi)
theorem Tab.text {R:List (List Nat)} (T:Tab R):JoinOk " " (((gM R).map bJ).map bU)=true/\(bY (gM R)).length<=100000/\Fl (bY (gM R))=true/\toks 6 (bY (gM R)).cps.toList .S=some ((gM R).map bJ):=by
 have hq:∀ q∈((gM R).map bJ).map bU,q.length<=100/\Fl q=true:=fun q hq=>by
  obtain ⟨w,hw',rfl⟩:=EL.mp hq;obtain ⟨ws,hi,rfl⟩:=EL.mp hw';exact wW (T.line hi).2.1
 have hl:(((gM R).map bJ).map bU).length=R.length:=by unfold gM;rw [EC,EC,EC]
 have h5:=T.len
 refine ⟨mG (fun q h=>(hq q h).1) (by omega),?_,rQ _ fun q h=>(hq q h).2,?_⟩
 ·have:=ma _ fun q h=>(hq q h).1
  unfold bY bJ at *;omega
 ·have:=mI ((gM R).map fun ws=>(bU (bJ ws),bJ ws)) 6 (by unfold gM;simpa using T.ne) (by unfold gM;simp;omega) fun p hp=>by
   obtain ⟨ws,hi,rfl⟩:=EL.mp hp;exact (T.line hi).2.1
  rw [EQ,EQ] at this
  unfold bY
  rw [bJ,EQ];exact this
theorem iY {α β:Type} {f:α->β}:∀ {xs ys:List α},(∀ x∈xs,∀ y∈ys,f x=f y->x=y)->xs.map f=ys.map f->xs=ys:=by
 intro xs
 induction xs with
 | nil=>exact fun zz h=>(HS.mp h.symm).symm
 | cons x xs ih=>
  intro ys h e
  cases ys with
  | nil=>cases e
  | cons y ys=>
  obtain ⟨a,c⟩:=HU.inj e
  rw [h x (.head _) y (.head _) a,ih (fun x hx y hy=>h x (.tail _ hx) y (.tail _ hy)) c]
theorem mo {R R':List (List Nat)} (T:Tab R) (T':Tab R'):gM R=gM R'↔R.map srt=R'.map srt:=by
 have e:∀ R,gM R=(R.map srt).map fun g=>g.map wS:=fun R=>by unfold gM;rw [EQ];rfl
 refine ⟨fun h=>?_,fun h=>by rw [e,e,h]⟩
 rw [e,e] at h
 refine iY (fun x hx y hy q=>?_) h
 obtain ⟨g,hg,rfl⟩:=EL.mp hx
 obtain ⟨g',hg',rfl⟩:=EL.mp hy
 exact rR (fun z hz=>(T.gr g hg).2.2.2 z (eH.mp hz)) (fun z hz=>(T'.gr g' hg').2.2.2 z (eH.mp hz)) q
theorem vU {R R':List (List Nat)} (T:Tab R) (T':Tab R'):bY (gM R)=bY (gM R')↔R.map srt=R'.map srt:=by
 rw [<- mo T T']
 refine ⟨fun h=>?_,fun h=>by rw [h]⟩
 have h1:=T.text.2.2.2
 have' h2:=T'.text.2.2.2
 rw [h,h2] at h1
 refine iY (fun ws hw ws' hw' q=>?_) (GB.inj h1).symm
 have a:=(T.line hw).2.2.2.2.2.2.1
 have' c:=(T'.line hw').2.2.2.2.2.2.1
 rw [q,c] at a
 exact (GB.inj a).symm
theorem oz {α κ:Type} [BEq κ] [LawfulBEq κ] [Inhabited α] (f:α->PyData) (k:α->κ):∀ (xs:List α),(∀ x∈xs,∀ y∈xs,FC (f x) (f y)=(k x==k y))->cx (xs.map f)=((EN xs.length).filter fun i=>!((xs.take i).any fun y=>k y==k (xs.getD i default))).map fun i=>f (xs.getD i default):=by
 refine fX (fun zz=>rfl) fun xs x ih h=>?_
 have ih:=ih fun y hy z hz=>h y (ED.mpr (.inl hy)) z (ED.mpr (.inl hz))
 have hx:x∈xs++[x]:=ED.mpr (.inr (.head _))
 have hat:∀ i,i<xs.length->(xs++[x]).getD i default=xs.getD i default:=fun i hi=>by
  rw [Er,Er,Ed hi]
 have' hlast:(xs++[x]).getD xs.length default=x:=by simp [Er]
 have' hany:(cx (xs.map f)).any (fun d=>FC d (f x))=xs.any fun y=>k y==k x:=by
  rw [FU,HA,HA]
  constructor
  ·rintro ⟨d,hd,e⟩
   obtain ⟨y,hy,rfl⟩:=EL.mp (m6 _ d hd);exact ⟨y,hy,by rw [<- h y (ED.mpr (.inl hy)) x hx];exact e⟩
  ·rintro ⟨y,hy,e⟩
   have' key:∀ n,(∀ i,i<n->∀ hi:i<xs.length,k xs[i]≠k x)\/∃ i,∃ hi:i<xs.length,k xs[i]=k x/\∀ j,j<i->∀ hj:j<xs.length,k xs[j]≠k x:=by
    intro n
    induction n with
    | zero=>exact .inl fun i hi=>absurd hi (He _)
    | succ n ihn=>
     rcases ihn with l | r
     ·by_cases hn:∃ hn:n<xs.length,k xs[n]=k x
      ·obtain ⟨hn,e⟩:=hn
       exact .inr ⟨n,hn,e,l⟩
      ·refine .inl fun i hi hl e=>?_
       rcases Ha (GW hi) with q | q
       ·exact l i q hl e
       ·subst q;exact hn ⟨hl,e⟩
     ·exact .inr r
   rcases key xs.length with l | ⟨i,hi,e1,e2⟩
   ·obtain ⟨i,hi,rfl⟩:=List.getElem_of_mem hy
    exact absurd (by simpa using e) (l i hi hi)
   ·refine ⟨f xs[i],?_,by rw [h _ (ED.mpr (.inl (Ge hi))) x hx,e1];exact beq_self_eq_true _⟩
    rw [ih]
    have hgi:xs.getD i default=xs[i]:=by simp [Er,hi]
    refine EL.mpr ⟨i,FV.mpr ⟨Ec.mpr hi,?_⟩,by rw [hgi]⟩
    rw [Fz,G7,hgi]
    intro q;obtain ⟨y,hy,e⟩:=HA.mp q;obtain ⟨j,hj,rfl⟩:=List.mem_take_iff_getElem.mp hy
    rw [Nat.lt_min] at hj
    exact e2 j hj.1 hj.2 (by rw [<- e1];simpa using e)
 rw [Eh,J0,di,hany,EU,Ef,HF,IK,Eh,ih]
 have e1:((EN xs.length).filter fun i=>!((xs++[x]).take i).any fun y=>k y==k ((xs++[x]).getD i default))=(EN xs.length).filter fun i=>!((xs.take i).any fun y=>k y==k (xs.getD i default)):=
  G0 fun i hi=>by
   have hi:=Ec.mp hi
   rw [hat i hi,H3 (Ej hi)]
 have e2:((EN xs.length).filter fun i=>!((xs.take i).any fun y=>k y==k (xs.getD i default))).map (fun i=>f ((xs++[x]).getD i default))=((EN xs.length).filter fun i=>!((xs.take i).any fun y=>k y==k (xs.getD i default))).map fun i=>f (xs.getD i default):=
  FN fun i hi=>by rw [hat i (Ec.mp (FV.mp hi).1)]
 rw [e1,e2,Eu,KS,hlast,H3 (EH _),Fs (EH _)]
 cases xs.any fun y=>k y==k x with
 | true=>simp
 | false=>simp
section
variable {row:List Nat} {b:Nat->Nat->Bool}
theorem sJ (h:∀ x∈row,x<4):∀ p,row.getD p 0<4:=fun p=>by
 rw [Er]
 cases e:row[p]? with
 | none=>exact Nat.zero_lt_succ _
 | some x=>exact h x (EK e)
theorem zq (B:Bd b) (hr:row.length=5) (h:∀ x∈row,x<4):Tab (ag row b):=by
 obtain ⟨k,h1,h2,h3,e⟩:=eU row b
 refine ⟨by rw [e,EC,FR];exact h1,fun q=>?_,fun g hg=>?_⟩
 ·have h0:0∈an row b 5:=o6 row b 0 (by omega)
  have e2:=gi row b
  rw [q] at e2
  have' e3:an row b 5=[]:=HS.mp e2.symm
  rw [e3] at h0;cases h0
 ·have hn:=pC B g hg
  rw [e] at hg
  obtain ⟨t,ht,rfl⟩:=EL.mp hg;have h4:∀ x∈(bI row b t).2.map fun p=>row.getD p 0,x<4:=fun x hx=>by
   obtain ⟨p,_,rfl⟩:=EL.mp hx;exact sJ h p
  exact ⟨fun q=>h2 t (Ec.mp ht) (HS.mp q),hn,EE (fR hn h4) (by decide),h4⟩
theorem Ay (B:Bd b) (hr:row.length=5) (h4:∀ x∈row,x<4):PL row b:=by
 have hrows:=tD hr h4
 have tabs:∀ r∈bE row,Tab (ag r b):=fun r hm=>zq B (hrows r hm).1 (hrows r hm).2.1
 have hself:row∈bE row:=.head _
 have same:∀ r∈bE row,∀ r'∈bE row,((ag r b).map srt=(ag r' b).map srt↔au r b=au r' b):=fun r h r' h'=>
  uo B (hrows r h).1 (hrows r' h').1 (sJ (hrows r h).2.1) (sJ (hrows r' h').2.1)
 have hd:∀ (f:List Nat->PyData),(∀ x∈bE row,∀ y∈bE row,FC (f x) (f y)=(au x b==au y b))->cx ((bE row).map f)=(dY row b).map fun k=>f (de row k):=fun f hf=>
  oz f (fun r=>au r b) (bE row) hf
 have hbeq:∀ {α β:Type} [BEq α] [LawfulBEq α] [BEq β] [LawfulBEq β] {a a':α} {c c':β},(a=a'↔c=c')->(a==a')=(c==c'):=fun h=>by rw [FU,beq_iff_eq,beq_iff_eq];exact h
 refine ⟨fun r h=>⟨(tabs r h).len,fun g hg=>((tabs r h).gr g hg).2.2⟩,?_,⟨?_,fun x hx=>?_⟩,kv B,m7 B hr,uC B hr,rI B,fun r h=>⟨fun ws hw=>?_,(tabs r h).text.1⟩,fun r h=>⟨(tabs r h).text.2.2.1,fun ws hw=>((tabs r h).line hw).2.2.2.2.2.2.2⟩,?_,?_,⟨6,fun l=>(toks 6 l.cps.toList .S).getD [],(tabs row hself).text.2.1,(tabs row hself).text.2.2.2,fun ws hw=>?_⟩,?_⟩
 ·rw [gi,EC]
  exact EE (fR (iC row b 5).1 (iC row b 5).2) (by decide)
 ·unfold dv
  rw [EC,(gT row b 5 (EH _)).2];exact EH _
 ·obtain ⟨p,_,rfl⟩:=EL.mp hx
  exact sJ h4 p
 ·have:=(tabs r h).line hw
  exact ⟨this.2.2.2.1,this.2.2.2.2.1,this.2.2.2.2.2.1,.of this.1⟩
 ·have h:=hd (fun r=>.str (bY (ak r b))) fun x hx y hy=>by
   rw [kL];exact hbeq ((vU (tabs x hx) (tabs y hy)).trans (same x hx y hy))
  have e1:(bE row).map (fun r=>FY (bY (ak r b)))=(dX row b).map .str:=by unfold dX;rw [EQ];rfl
  have e2:(dY row b).map (fun k=>FY (bY (ak (de row k) b)))=((dY row b).map fun k=>bY (ak (de row k) b)).map .str:=by rw [EQ];rfl
  rw [e1,e2,jW] at h
  exact iY (fun x zz y zz q=>FY.inj q) h
 ·exact hd _ fun x hx y hy=>by rw [jb];exact hbeq ((mo (tabs x hx) (tabs y hy)).trans (same x hx y hy))
 ·have:=(tabs row hself).line hw
  exact ⟨by omega,this.2.2.2.2.2.2.1,by dsimp only;rw [this.2.2.2.2.2.2.1];rfl,this.2.2.2.1⟩
 ·refine FN fun r h=>?_
  rw [FU,beq_iff_eq,vO (fun g hg=>⟨((tabs row hself).gr g hg).2.1,((tabs row hself).gr g hg).2.2.2⟩) fun g hg=>⟨((tabs r h).gr g hg).2.1,((tabs r h).gr g hg).2.2.2⟩,same row hself r h]
  exact eq_comm
end
theorem tR (free:Int):Bd (gO free):=by
 have' hf:∀ i j,dy i j=dy j i:=fun i j=>by
  unfold dy
  rcases Nat.lt_trichotomy i j with h | h | h
  ·rw [if_neg (Hq h),if_pos h,if_pos h,if_neg (Hq h)]
  ·rw [h]
  ·rw [if_pos h,if_neg (Hq h),if_neg (Hq h),if_pos h]
 refine ⟨fun x=>by unfold gO;simp,fun x y=>?_⟩
 unfold gO
 rw [hf x y,show (x==y)=(y==x) from Bool.beq_comm ..]
noncomputable def iN (script:List Int):List Nat:=((dG script).take 5).map fun c=>(c.fmod 4).toNat
theorem tc (script:List Int):(iN script).length=5:=by unfold iN dG;rw [EC,Ii,gc];rfl
theorem w9 (script:List Int):∀ x∈iN script,x<4:=fun x hx=>by
 obtain ⟨c,_,rfl⟩:=EL.mp hx
 have h1:=KN c (b:=4) (by decide)
 have h2:=Int.fmod_lt_of_pos c (b:=4) (by decide)
 omega
theorem uA (script:List Int):(bf (iN script))=.list (((dG script).take 5).map fun c=>.int (c.fmod 4)):=by
 unfold bf iN
 rw [EQ]
 refine congrArg _ (FN fun c zz=>?_)
 show Fw _=_
 rw [Kk (KN c (by decide))]
section
variable {C:Cx} (H:bH C) {fz:List Nat} {σ:aC} {jp:Nat}
include H
theorem Bj {script:List Int} (hs:script.length<=1000) (hfz:∀ i∈fz,i<σ.length) (hjp:σ[jp]? = some (.code 866)) (hjz:jp∉fz) :
  aP C 13 fz (.ref 982) [.dat (.list (script.map .int))] [] σ (.dat (.bool true)) σ:=by
 have hr:=tc script
 have hr4:=w9 script
 obtain ⟨w1,w2,w3,w4⟩:=lJ hr4 (E9 hr) fun e=>by rw [e] at hr;cases hr
 have' h6:(dG script).length=6:=gc _ _
 have hz6:((dG script).map Fw).length<=FG:=by rw [EC,h6,EO];decide
 wtm_at "Dp"
 case hr=>exact .ret
 case h=>
  dsimp only;refine' aA ?s1 (aA ?s2 (aA ?s3 (aA (aN (aY.of ?t4 ?d4) aG) (a8 (aX ?r5)))))
  case s1=>
   refine' aB (ah ?f (kp_ H (by kernel_rfl)) (aZ ?l (by with_unfolding_all rfl)) (yl H hs hfz) (by show 2<=12;decide) rfl (by intro _;with_unfolding_all rfl)) ?t (by intro _;rfl) (by intro _;rfl) (by intro _;rfl)
   case f=>wtm_at "Me"
   case l=>wtm_at "Ml"
   case t=>wtm_at "Ma"
  case s2=>
   refine' dw (ds:=(iN script).map nD) ?ck ?hi ?hfr ?hcl ?hbl ?hc ?hz ?ht ?hsw ?hf ?he ?hw
   case ck=>wtm_at "Mcompok"
   case hi=>
    refine' fH ?kk (by with_unfolding_all rfl) (.name (by with_unfolding_all rfl))
    case kk=>wtm_at "Me"
   case hf=>(intro _ _;rfl)
   case he=>(intro _;rfl)
   case hw=>(intro _;rfl)
   case hsw=>(intro _;exact ⟨_,rfl⟩)
   case hfr=>wtm_at "Mfrees"
   case hcl=>wtm_at "Mclos"
   case hbl=>wtm_at "Mblank"
   case ht=>wtm_at "Ma"
   case hz=>rw [EC,hr,EO];decide
   case hc=>
    dsimp only [EW]
    rw [kg,<- Ip,EQ]
    refine' Cl.of (cM (v:=fun c:Int=>AV.dat (.int c)) (f:=fun c=>.int (c.fmod 4)) rfl ?ha ?hee ?hsu) ?hq
    case ha=>intro c hc';wtm_at "Ma"
    case hsu=>intro c hc';wtm_at "Msub"
    case hee=>intro c hc';wtm_at "Me"
    case hq=>exact (GU.inj (uA script)).symm
  case s3=>
   refine' aB (aH.of (ah ?f3 (kp_ H (by kernel_rfl)) (aZ (bF (aH.of (a:=.dat (.list ((iN script).map nD))) ?l3 rfl) bQ (by with_unfolding_all rfl)) (by with_unfolding_all rfl)) (kI H (is:=iN script) hr4 (by omega)) (by show 2<=12;decide) rfl (by intro _;with_unfolding_all rfl)) (by rw [sy hr4])) ?t3 (by intro _;rfl) (by intro _;rfl) (by intro _;rfl)
   case f3=>wtm_at "Me"
   case l3=>wtm_at "Me"
   case t3=>wtm_at "Ma"
  case t4=>
   refine' ai (ah ?f4 (kp_ H (by kernel_rfl)) (aZ (bF ?x4 bQ (by with_unfolding_all rfl)) (by with_unfolding_all rfl)) (my H hfz w3 w4 ?z4) (by show 7<=12;decide) rfl (by intro _;with_unfolding_all rfl)) ?r4 (OpG.of2 (ia ?y1 ?y2)) (by with_unfolding_all rfl)
   case f4=>wtm_at "Me"
   case x4=>
    refine' ah ?f5 (kp_ H (by kernel_rfl)) (aZ ?l5 (by with_unfolding_all rfl)) (nB H (ys:=(iN script).map wS) hjp hjz w1 ?z5 w2) (by show 5<=12;decide) rfl (by intro _;with_unfolding_all rfl)
    case f5=>wtm_at "Me"
    case l5=>wtm_at "Ml"
    case z5=>rw [EC];omega
   case z4=>rw [EC];omega
   case r4=>wtm_at "Me"
   case y1=>exact (cQ fun d hd=>by obtain ⟨x,hx,rfl⟩:=EL.mp hd;obtain ⟨i,hi,rfl⟩:=EL.mp hx;exact oQ (pY (hr4 i hi))).shaped (by decide:1<=64)
   case y2=>exact (cQ fun d hd=>by obtain ⟨x,hx,rfl⟩:=EL.mp hd;obtain ⟨i,hi,rfl⟩:=EL.mp hx;exact oQ (pY (hr4 i hi))).shaped (by decide:1<=64)
  case d4=>exact kq (f:=FY) (fun zz zz=>kL) _ rfl rfl
  case r5=>
   have h0:(0:Int)<=5:=by decide
   have h1:(5:Int)<2 ^ 63:=by decide
   have hd:((dG script).map Fw)[((5:Int)).toNat]? = some (.int ((dG script).getD 5 0)):=by
    show ((dG script).map Fw)[5]? = _
    rw [Ei,Er,E8 (show 5<(dG script).length by omega)];rfl
   refine' ah ?f6 (kp_ H (by kernel_rfl)) (aZ (bF (aH.of (a:=.dat (.list ((iN script).map nD))) ?a6 rfl) (bF ?b6 bQ (by with_unfolding_all rfl)) (by with_unfolding_all rfl)) (by with_unfolding_all rfl)) (rZ H hr hr4 (Ay (tR ((dG script).getD 5 0)) hr hr4) hfz hjp hjz) (by show 12<=12;decide) rfl (by intro _;with_unfolding_all rfl)
   case f6=>wtm_at "Me"
   case a6=>wtm_at "Me"
   case b6=>
    refine' ah ?f7 (kp_ H (by kernel_rfl)) (aZ ?l7 (by with_unfolding_all rfl)) (yx H hfz) (by show 2<=12;decide) rfl (by intro _;with_unfolding_all rfl)
    case f7=>wtm_at "Me"
    case l7=>wtm_at "Ml"
end
theorem jJ {h:Heap} {b:Addr} {o:Obj} (e:h.get? b=some o) (hb:b≠866):(cK [866] h).get? b=some o:=F9 _ e fun q=>hb (EG.mp q)
theorem zH {h:Heap} {b:Addr} {m:Str->Option Value} (hn:h.Ns b m) (hb:b≠866):(cK [866] h).Ns b m:=let ⟨o,es,ep,e,r⟩:=hn;⟨o,es,ep,jJ e hb,r⟩
theorem sI {R:WRecords} {cl:Str->Option Addr} {h h':Heap}:∀ {ns:List Int} {vs:List Value} {as:List Addr},ReadsAllW R cl h vs (ns.map WData.int) as->∃ bs,FW h' vs (ns.map Fw) bs:=by
 intro ns
 induction ns with
 | nil=>intro _ _ r;cases r;exact ⟨_,.nil⟩
 | cons n ns ih=>
  intro _ _ r
  cases r with
  | cons r rs=>
   cases r
   obtain ⟨bs,z⟩:=ih rs;exact ⟨_,.cons (.int n _) z⟩
theorem wK {args:List WData} (h:Et.row.toRowW.claim.pre args=true):∃ ns:List Int,args=[.list (ns.map .int)]/\ns.length<=63:=by
 obtain ⟨h1,h2⟩:=pre_splitW h
 obtain ⟨d,r,rfl,hd,hr⟩:=hasAllW_cons (R:=[]) (e:=.list .int) (es:=[]) h1
 obtain rfl:=hasAllW_nil hr
 obtain ⟨ds,rfl,hi⟩:=hasW_list hd
 obtain ⟨ns,rfl⟩:=items_int hi
 refine ⟨ns,rfl,?_⟩
 have h2:WTm.holds [] (.and (.not (.lt (.lit (.int 63)) (.len (.arg 0)))) (.lit (.bool true))) {args:=[.list (ns.map .int)]}=true:=h2
 simp [WTm.holds,WTm.value] at h2
 rw [show less? (WData.int 63) (WData.int (ns.length:Int))=some (decide ((63:Int)<(ns.length:Int))) from rfl] at h2
 by_cases hc:(63:Int)<(ns.length:Int)
 ·rw [decide_eq_true hc] at h2
  exact absurd h2 (by decide)
 ·omega
theorem wc0 {b:Addr} (h:WC ⟨[866],[(866,[866])],[]⟩ b):b=866:=by
 obtain ⟨i,p,hp,_,hb⟩:=h
 cases i with
 | zero=>cases hp;exact EG.mp hb
 | succ i=>cases hp
theorem B7 (P:Params):(Kw P).lookup 866=none:=by kernel_rfl
theorem holds_all:Et.Holds:=hd fun w s₀ s₁ mg mb G Y a o pm cd doc dV kV hget hfd hcr hdf hmg hgens args vals as hpre hlay hrd hwell hlow=>by
 obtain ⟨ns,rfl,hlen⟩:=wK hpre
 obtain ⟨y1,⟨oy,y2⟩,y3⟩:=Y
 have y3:(Kw w.params).In s₁.heap:=y3
 have hsta:∀ {b:Addr} {m:Str->Option Value},s₁.heap.Ns b m->(cK [866] s₁.heap).Ns b m:=fun hn=>zH hn fun q=>by
  obtain ⟨o,es,ep,e,hd,_⟩:=hn
  rw [q,y1] at e;cases e;cases hd
 have ok:Cx.Ok ⟨Et.prog,w,Kw w.params,cK [866] s₁.heap,mg,mb⟩:=by
  obtain ⟨bm,ob,BM⟩:=bmod_of_top G.T;refine ⟨fun b o e=>jJ (y3 b o e) fun q=>?_,hsta G.T.g,hsta G.T.b,?_,⟨oy,jJ y2 (by decide)⟩,⟨bm,ob,hsta BM.ns,BM.name,BM.ne,jJ BM.obj fun q=>?_,BM.cls,BM.dict,BM.data⟩,G.T.builtins⟩
  ·rw [q,B7] at e;cases e
  ·obtain ⟨mc,h1,h2⟩:=G.T.nolimit
   exact ⟨mc,hsta h1,h2⟩
  ·have:=BM.obj
   rw [q,y1] at this;cases this;cases BM.data
 have H:bH ⟨Et.prog,w,Kw w.params,cK [866] s₁.heap,mg,mb⟩:=⟨ok,rfl,rfl⟩
 obtain rfl:a=982:=by
  have' h1:mg (EB "law")=some (.ref 982):=(H.glob _).trans (by kernel_rfl)
  have h2:mg (EB "law")=some (.ref a):=hmg
  rw [h1] at h2;cases h2;rfl
 have' hlt:866<s₁.heap.objs.size:=Ea y1
 have Gd:aT ⟨Et.prog,w,Kw w.params,cK [866] s₁.heap,mg,mb⟩ ⟨true,13,[]⟩ callerA ⟨[866],[(866,[866])],[]⟩ [.code 866] s₁:=by
  refine ⟨fun zz=>rfl,rfl,by decide,by decide,by rw [hideAll_size];exact EH _,fun b o e=>Ex _ e,fun b hb=>Ht _ hb,fun b hb=>by rw [EG.mp hb];exact hlt,⟨rfl,fun i p o hp ho=>?_,fun b hb=>?_,?_,fun p hp=>?_⟩,⟨[],rfl,jP⟩⟩
  ·cases i with
   | zero=>cases hp;cases ho;exact ⟨rfl,rfl,#[],y1,trivial⟩
   | succ i=>cases hp
  ·exact hb
  ·exact Gp ..
  ·rw [EG.mp hp];exact .head _
 have rv:aw ⟨[866],[(866,[866])],[]⟩ s₁.heap [.dat (.list (ns.map .int))] vals:=by
  cases hrd with
  | cons r rs=>
   cases rs
   cases r with
   | list e hc hd ra=>
    obtain ⟨bs,z⟩:=sI (h':=cK [866] s₁.heap) ra;exact ⟨⟨_,.list (jJ e fun q=>by rw [q,y1] at e;cases e;cases hd) hc hd z⟩,trivial⟩
 refine enter_call ?_
 refine Bj H (fz:=[]) (jp:=0) (by omega) jP rfl (fun h=>nomatch h) callerA _ s₁ vals [] _ ok Gd rv trivial fun v μ' s' G' x k r=>?_
 obtain ⟨bs,r⟩:=r
 cases r
 have hos:s'.os=s₁.os:=by obtain ⟨_,_,_,rfl,_⟩:=k;rfl
 have h866:∃ ps:Array Value,s'.heap.get? 866=some {cls:=.none,data:=.fields ps}:=by
  have' hp:μ'.objs[0]? = some (866,[866]):=x.get rfl;obtain ⟨_,_,ps,ho,_⟩:=G'.sim.rep 0 _ _ hp rfl;exact ⟨ps,ho⟩
 have old:∀ b o,s₁.heap.get? b=some o->b≠866->s'.heap.get? b=some o:=fun b o e hb=>k.at (fun q=>hb (wc0 q)) (fun ⟨l,e,env,hm,_⟩=>by cases e;cases hm) e
 refine ⟨.inl ⟨_,.bool true,[],rfl,fun zz=>rfl,.bool _,by kernel_rfl,fun zz=>⟨.nil,jP⟩⟩,⟨fun b o e=>?_,fun b o e=>?_⟩,hos,k.bare (hgens▸Ke.empty)⟩
 ·by_cases hb:b=866
  ·subst hb
   obtain ⟨ps,hps⟩:=h866
   rw [y1] at e;cases e
   obtain ⟨_,oc,vs,_,_,_,_,_,_,_,c1,c2,c3,c4,_⟩:=tJ (P:=w.params);exact .inr (.inl ⟨⟨870,oc,vs,y3 _ _ c1,c2,c4,c3⟩,rfl,#[],ps,rfl,by rw [hps];simp [qG]⟩)
  ·exact .inl (old b o e hb)
 ·by_cases hb:b=866
  ·subst hb
   obtain ⟨ps,hps⟩:=h866;exact ⟨_,hps⟩
  ·exact ⟨o,old b o e hb⟩
end
end
end Mine.Internal
theorem PySem.Challenge.cw_op0287_02_holds : PySem.Challenge.rw_op0287_02.Holds :=
 Mine.Internal.holds_all
