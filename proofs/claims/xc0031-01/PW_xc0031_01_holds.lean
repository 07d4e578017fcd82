import PyProof.Rows.All
import Wide.All
import OpenK.AllK
import Wide.FinOn
import PySem.Challenge.RW_xc0031_01
set_option Elab.async false
set_option maxRecDepth 100000
set_option linter.all false
set_option maxHeartbeats 8000000
set_option compiler.extract_closed false
set_option genInjectivity false
set_option bootstrap.genMatcherCode false
set_option hygiene false
open Array renaming length_toList->A6, getElem?_eq_getElem->Bu, getElem?_eq_some_iff->BD, getElem?_toList->C5, toList_append->E1, toList_inj->FO, find?_toList->G3, toList_push->Hj
open Bool renaming and_eq_true->AJ, and_eq_true_iff->Bg, false_eq_true->Cz, or_eq_true->CJ, false_ne_true->CX, eq_iff_iff->EW, eq_false_iff->Hk, not_eq_true'->Hl, beq_comm->IR
open Int renaming toNat_natCast->Ap, self_le_toNat->BG, le_refl->BV, natCast_nonneg->BW, le_trans->Cs, lt_trans->CP, ofNat_le->CQ, mul_add->CS, ofNat_lt->Db, zero_add->Dc, sub_nonneg->Do, not_lt->DN, min_eq_left->Ea, add_nonneg->Ep, add_zero->Er, mul_comm->Et, zero_mul->E7, add_lt_add_of_lt_of_le->Fa, fdiv_eq_ediv_of_nonneg->Fb, fmod_eq_emod_of_nonneg->Fc, le_add_of_sub_right_le->Fd, lt_irrefl->FE, mul_assoc->FF, fmod_nonneg_of_pos->F5, le_of_eq->F7, ne_of_lt->F8, le_antisymm->Gj, neg_one_mul->Gk, add_le_add_right->Gx, mul_one->Gy, neg_lt_neg->Gz, sub_le_sub_right->GA, toNat_of_nonneg->GU, fmod_lt_of_pos->G6, le_of_lt->Hp, mul_left_comm->Hq, pow_succ->Hr, max_eq_right->HK, min_eq_right->HL, ediv_nonneg->H4, natCast_pos->H5, mul_nonneg->Iq, not_le->Ir, toNat_zero->It, add_assoc->IU, ofNat_inj->IV, sub_zero->Jc, add_mul->Jt
open LT renaming lt->Iw
open Lean renaming Syntax->BQ, mkIdent->Jd
open List renaming range->Aa, length_map->Ac, mem_append_right->Ad, length_append->Af, getElem?_eq_getElem->Ah, length_range->Al, map_map->An, length_cons->Aq, getElem?_map->Ar, replicate->As, map_congr_left->Av, getElem?_eq_some_iff->Aw, map_append->Ax, mem_append_left->Ay, filter_eq_self->Az, mem_of_getElem?->AB, map_cons->AC, length_take->AE, append_assoc->AG, size_toArray->AH, flatMap_cons->AL, mem_cons->AP, length_nil->AQ, pairwise_singleton->AS, range_succ->AT, zipWith->AU, length_drop->AW, mem_map->AY, append_nil->AZ, all_eq_true->A8, mem_range->Bb, mem_filter->Bf, getElem?_drop->Bj, length_take_of_le->Bm, pairwise_cons->Bn, take_append_drop->Bs, drop_eq_getElem_cons->Bv, getElem?_append_left->Bw, getElem?_eq_none->BB, getElem?_append_right->BF, take_of_length_le->BJ, mem_append->BM, length_filter_le->BS, flatten_cons->BU, mem_iff_getElem->BX, find?_cons->BY, sum_append->BZ, flatten_append->B5, getElem?_range->B7, mem_map_of_mem->B8, getElem?_toArray->Ca, length_replicate->Cb, flatMap_def->Ck, mem_flatMap->Cm, mem_of_mem_take->Cn, sum_cons->Co, nodup_append->Cu, flatMap_append->Cw, nil_append->Cx, contains_iff_mem->Cy, map_take->CC, take_add_one->CI, foldl_cons->CL, mem_singleton->C1, foldl_append->Dd, length->De, any_eq_true->Dp, flatMap_map->Dq, map_flatMap->Ds, find?_eq_none->DA, replicate_succ'->DO, take_length->DQ, isEmpty_eq_false_iff->DW, mem_take_iff_getElem->DY, length_pos_iff->D3, replicate_succ->D4, filter_map->Eb, nodup_cons->Ec, getElem?_take->Eg, getElem_range->Eh, getElem?_cons_succ->Ek, length_eq_zero_iff->El, findIdx?_eq_some_iff_getElem->Eo, filter_eq_nil_iff->Ex, find?_append->Ey, map_nil->Ez, reverse_cons->EA, replicate_append_replicate->EE, filterMap_append->EF, perm_append_comm->EG, flatMap_nil->EK, getElem_mem->EL, nodup_range->EM, reverse_reverse->ET, length_set->EZ, length_zipWith->E2, forIn_nil->Fe, getElem?_eq_none_iff->Fl, getLast?_eq_getElem?->Fm, pairwise_iff_getElem->Fo, ext_getElem?->Fu, map_id->Fv, all_cons->FH, getElem_append_left->FI, map_drop->FJ, flatten_nil->FQ, getElem?_cons_zero->FR, lookup_cons->FS, map->FT, not_mem_nil->FU, any_map->F9, append_eq_nil_iff->Ga, forIn_cons->Gm, take_range->Gn, drop_drop->GD, getElem_toArray->GE, length_eraseIdx->GF, mem_of_mem_drop->GG, pairwise_append->GH, filterMap_cons->GV, length_reverse->GW, map_eq_nil_iff->GX, contains_cons->G8, filter_append->G9, map_filterMap->Ha, map_id'->Hs, pairwise_map->Ht, drop_length->HM, getElem_map->HN, idxOf?_cons->HO, isEmpty_iff->HP, map_flatten->HQ, mem_reverse->HR, zipIdx_cons->HS, all_append->H6, length_zip->H7, zipIdx_nil->H8, drop_left->Ix, sum->Iy, take_left->Iz, any_cons->IX, findIdx?->IY, take_nil->IZ, filter->Ju, idxOf?->Jv
open List.Pairwise renaming map->Eu
open List.Perm renaming append_right->Ew
open List.Sublist renaming append_right->IP
open List.cons renaming injEq->Gl
open Nat renaming le_refl->Am, le_trans->Ao, sub_le->AD, min_le_left->AN, ne_of_lt->Bi, lt_of_le_of_lt->Bp, le_add_right->BP, min_eq_left->B1, lt_or_gt_of_ne->Cj, min_le_right->CA, not_lt->CB, add_comm->CG, add_le_add_left->CN, le_of_lt->CR, lt_irrefl->CT, div_eq_of_lt->CU, lt_of_lt_of_le->C3, zero_le->Df, ne_of_gt->DB, le_max_right->DR, le_of_eq->DS, succ_le_succ->DT, zero_add->DU, le_max_left->Ed, not_lt_zero->Ee, le_of_succ_le_succ->EB, lt_of_succ_lt_succ->ED, div_add_mod->E0, lt_succ_of_lt->Fw, lt_trichotomy->Fy, add_lt_add_iff_left->FV, lt_succ_self->FW, min_eq_right->FX, add_zero->Gb, mod_lt->Gc, pow_le_pow_right->GI, mul_le_mul_left->GY, add_right_comm->Hb, add_sub_cancel->Hc, max_le->Hd, sub_add_cancel->He, add_mod_right->Hu, le_of_succ_le->Hv, lt_of_succ_le->Hw, pow_succ->Hx, succ_pos->Hy, mod_eq_of_lt->HT, succ_ne_self->HU, one_mul->HY, div_le_self->H9, le_add_left->Ia, mul_eq_zero->Ib, two_pow_pos->Ic, add_le_add->IB, add_assoc->I7, le_total->Je, pow_zero->Jf, sub_self->Jg, le_succ->Jw, mod_mod->Jx, one_pos->Jy, mod_le->JR
open Nat.succ renaming inj->Jh
open Option renaming isSome_iff_exists->CH, getD_some->CV, getD_none->Dt, map_eq_some_iff->Ge
open Option.some renaming inj->BC
open Or renaming elim->BH
open Prod renaming snd->IC
open Prod.mk renaming injEq->I8
open PyProof renaming noPylong_small->A5
open PyProof.Rows renaming subscriptTail->Cg, tail_any->DK, slot_tuple_getitem->Ei, sortedS->EU, Subscript_->Gf, Assign_Tuple_swapped->Gv, Attribute_any_->Gw, AllBare->Hi, ilshift_int_small->HV, lshift_int_small->HZ, strKind_oneLt->ID, slicePart_none->IJ, floordiv_int->IQ, len_tuple->Ji, iadd_int->Jn, isub_int->Jo, ixor_int->Jp, mod_int'->Jq, sub_bool->Jr, sub_int'->Js, add_int->Jz, add_str->JA, and_int->JB, ior_int->JC, mul_int->JD, neg_int->JE, pow_int->JF, eq_int->JJ, eq_str->JK, ge_int->JM, gt_int->JN, le_int->JO, lt_int->JP, ne_int->JQ
open PySem renaming wpAny_bind->Ab, Value->Ag, wpAny_pure->Aj, Shared->Ak, wpAny->Au, starEach->AF, model->AI, Expr->AO, mainGlobals->AR, wpAny_newObj_type->AV, wpAny_callSpecial?_slot->AX, Keeps->A0, wpAny_call_entry->A9, Around->Ba, builtinLookup_eq_fast->Bc, foldedSetIterable->Be, rawInt->Bh, World->Bl, wpAny_field->Bt, wpAny_Assign_Name->By, wpAny_holding->BA, FuncData->BE, intKind->BL, typeLookup_type->BN, Arguments->BO, sliceBounds->BR, wpAny_standAt->B2, compareOp->B3, wpAny_mono->B9, swapsWith->Cd, Params->Cf, wpAny_setField->Ci, sysModules->Cv, wpAny_getItem_of->CW, intKind_is->C4, Scope->C6, wpAny_items_nil->C9, baseText->Dg, binaryOp->Dh, getMethod_builtin->Di, wpAny_of_eq->Dj, wpAny_truthy_bool->Dk, intBits_le_64->Dm, wpAny_setEntries_of->Dn, isSubtype_type->Dv, wpAny_items_cons->Dw, wpAny_seqItems->Dx, Builtin->Dy, wpAny_Assign_Subscript->DD, wpAny_allTrue_And_cons->DE, wpAny_setField_rec->DG, NameKind->DJ, wpAny_setState_of->DM, wpAny_setItem_pairs->D6, wpAny_attempt->D8, wpAny_ite_split->Ef, wpAny_rule->Ej, wpAny_isTrue_Compare1->EJ, call_meets->EN, sliceRange->EO, typeIs_str->EP, wpAny_isInstance->EQ, sizeLine_eq->EV, wpAny_isTrue_BoolOp->E3, bootBuiltins->E8, SetTable->Ff, strKind_is->Fh, wpAny_fieldsOf->Fi, wpAny_pyIter_tuple->Fj, slot_list_getitem->Fz, wpAny_pyIter_slot->FA, IsPart->FG, behindInMarks->FM, wpAny_handled->FN, wpAny_askSetting->F3, wpAny_unpackItems_tuple->F4, codeAny_mono->Gg, wpAny_List->Gh, wpAny_load->Gi, pushCells_keeps->Go, wpAny_execs_nil->Gp, wpAny_specialOf->Gq, wpAny_allTrue_And_nil->Gr, wpAny_allTrue_Or_cons->Gs, IntMulOk->GC, entryFor_alias->GK, isSubtype_stop->GL, sliceRange_one->GM, wpAny_Dict_any->GN, wpAny_storeAll->GO, wpAny_throw->GP, wpAny_updateSeq_pair->GQ, wpAny_call_obj_init->G0, plainId_quiet->G1, wpAny_onRaise->G2, IsPair->G7, typeLookup->Hg, wpAny_assign_Tuple->Hh, Program->Hz, call_meetsIn->HA, fits_of_scanBound->HB, slot_list_setitem->HC, wpAny_Return_some->HD, wpAny_pyIter_list->HE, wpAny_sequenceKey->HF, wpAny_setEpoch_of->HG, wpAny_storeSet_of->HH, wpAny_typeOf->HI, wpAny_pyIter_zip->HW, wpAny_Tuple->H1, codeAny_builtin->Ie, wpAny_updateSeq->Ig, IsRange->Ii, IsZip->Iu, Model->IA, evalPairs_cons->IH, wpAny_Expr_any->IK, wpAny_is_plain->IL, wpAny_newTuple->IM, DictEntry->Ja, small_one->Jb, Within->Jj, stored->Jk, pick_run->JI, Walks->JW
open PySem.Around renaming frames_deeper->ER, under_plainId->Gu
open PySem.Builtin renaming bitAnd->Bk, bitXor->CY, divisionGoesByPylong->DH, bitOr->FD
open PySem.Builtin.Frozenset renaming sizeOf->FB, oneOther->Il, addrOf->IS, slot0->I9
open PySem.Builtin.Int renaming intBits->CM
open PySem.Builtin.List renaming listExtendWith->E4, listLengthHint->E5, listSameRef->FC, listSubscript?->Ih, listFitsIndex->Im, listTooLong->IT
open PySem.Builtin.Range renaming rangeSize->AM, small->GR
open PySem.Builtin.Slice renaming slicePlaces->C7, sliceAdjust->Fk, sliceApplied->Io, sliceFields->IN
open PySem.Builtin.SmallTypes renaming nextOf->BI, ownedTupleIsFree->Ce, ownedTupleHandOut->DZ
open PySem.Builtin.Str renaming tooLong->B4, strKind->GS, glued->JU
open PySem.Builtin.Tuple renaming tupleExact->Dl, tupleItemsOf->Ip
open PySem.Calls renaming call_function_entry->D5
open PySem.F renaming slot_tuple_iterator_next->CZ, slot_dict_getitem->C8, slot_str_join->EH, type_str_join->EI, slot_dict_itemiterator_iter->ES, args_tuple_iterator_next_1->EX, slot_zip_next->EY, entry_tuple_iterator_next->E6, args_str_split_2->E9, plain_extend_loop->Fq, entry_str_split->Fs, plainAttrs_dict->Ft, slot_list_append->FK, type_list_append->FL, slot_str_split->FP, plain_list_iadd->FY, slot_list_index->FZ, type_list_index->F0, slot_dict_getitem->GT, slot_dict_values->G4, slot_str_getitem->G5, args_zip_next_1->Hm, plainAttrs_list->Hn, slot_dict_items->Ho, entry_zip_next->HJ, slot_dict_get->H2, slot_int_rmul->H3, objNew->IF
open PySem.Heap renaming get?_push_size->Ae, get?_push_of_some->Ai, lt_size->AK, SameBut->A4, get?_update_self->Br, IsTuple->Cp, size_push->Cr, get?_update_other->Dz, ExtBut->HX
open PySem.Heap.DictOf renaming new->D9
open PySem.Heap.ExtBut renaming refl->JX
open PySem.Heap.SameBut renaming update->A7, refl->JV
open PySem.IntBool renaming mul_int_bool->IG
open PySem.IntMulOk renaming of_left->Bx, of_right->F2
open PySem.Obj renaming data_mapFields->Bq, mapFields->Bz, isFreed_of_fields->Cc, cls_mapFields->DL, mapSeq->Gd
open PySem.SetTable renaming grown->Du, orStandIn->Hf
open PySem.Shared renaming heap->JG
open PySem.Str renaming ofString->BK, join->CO, cps_append->GJ, ext'->JH, length->JS
open PySem.StrLaws renaming occ_length_le->Ij
open PySem.Txt renaming slice->DV, split->En, mul->Ik, slice_le->Jl
open PySem.Value renaming isInt->DP, isStrOf_shape->GZ
open PySem.W renaming callWith_of->H0, kdk_entry_next->II
open PySem.W.KBw renaming IsBytesIter->CK, iter_typeIs->DI, slot_next->D7, entry_next->Iv, args_next->IW
open PySem.Walks renaming list->JT
open PySem.Within renaming nil->Fg
open PySem.pickOrder renaming go->Jm
namespace Mine.Internal
open PySem PySem.W PySem.Calls PyProof.Rows
def pn (k:String) (l:List BQ):BQ:=.node .none k.toName l.toArray
def pa (s:String):BQ:=.atom .none s
def px (k:String) (l:List BQ):BQ:=pn ("Lean.Parser.T"++k) l
def pj:List BQ→List BQ
 | []=>[]
 | a::l=>a::pa ";"::pj l
def ps (l:List BQ):BQ:=px "actic.tacticSeq" [px "actic.tacticSeq1Indented" [pn "null" (pj l)]]
def tk (c:Char):BQ:=
 match (("aLean.Parser.Tactic.assumption assumption|qLean.Parser.Tactic.tacticRfl rfl|rPySem.W.tacticKtr_rel ktr_rel|iPySem.W.tacticKcj_in kcj_in|mPySem.W.tacticKcj_m kcj_m|sPySem.W.tacticKct_strs kct_strs|fPySem.W.tacticKcf_m kcf_m|oPySem.W.tacticLcg_off lcg_off|nPySem.W.tacticCell_call cell_call|tPySem.W.tacticTb_rel tb_rel|xPySem.W.tacticTb_start tb_start|uPySem.W.tacticLsm_bools lsm_bools|ktacticKernel_rfl kernel_rfl|bPyProof.Rows.tacticBoot_fact boot_fact".splitOn "|").find? (·.startsWith (String.singleton c))) with
 | some r=>match ((r.drop 1).copy.splitOn " ") with
  | k::a::_=>pn k [pa a]
  | _=>.missing
 | _=>.missing
def pp (x:String):List Char→List BQ×List BQ
 | []=>([],[])
 | d::l=>let (a,c):=pp (x++"'") l
  if d='_' then (px "erm.hole" [pa "_"]::a,c)
  else if d.isUpper then (px "erm.byTactic" [pa "by",ps [tk d.toLower]]::a,c)
  else let i:=Jd x.toName
   (px "erm.syntheticHole" [pa "?",i]::a,px "actic.case" [pa "case",pn "null" [px "actic.caseArg" [pn "Lean.binderIdent" [i],pn "null" []]],pa "=>",ps [tk d]]::c)
def rk (x s:String):BQ:=
 match s.splitOn " " with
 | n::r=>if n.startsWith ":" then ps [tk (n.toList.getLastD 'a')] else
  let i:=Jd n.toName
  match r with
  | []=>ps [px "actic.exact" [pa "exact",i]]
  | c::_=>
   let (a,c):=pp x c.toList
   let t:=px "erm.app" [i,pn "null" a]
   if c.isEmpty then ps [px "actic.exact" [pa "exact",t]] else ps (px "actic.refine'" [pa "refine'",t]::c)
 | _=>.missing
def pq (x s:String):Lean.TSyntax `tactic:=⟨px "actic.first" [pa "first",pn "null" ((s.splitOn "|").map fun r=>pn "group" [pa "|",rk x r])]⟩
def pt (s:String):Lean.MacroM BQ:=do return pq s!"z{← Lean.getCurrMacroScope}" s
def aq:BQ:=ps [tk 'q']
def ad:BQ:=ps [pn "Lean.Parser.Tactic.decide" [pa "decide",pn "Lean.Parser.Tactic.optConfig" [pn "null" []]]]
def ak:BQ:=ps [pn "PySem.W.tacticKrn_off" [pa "krn_off"]]
local macro_rules | `(tactic| lia) => `(tactic| first | (with_reducible $(pq "" "Nat.le_refl _|Nat.zero_le _|Nat.succ_pos _|Int.natCast_nonneg _|Nat.le_add_right __|Nat.le_add_left __|Nat.le_succ _|Nat.not_le.mp A|Nat.not_lt.mp A"):tactic) | $(pq "" ":a|Nat.le_of_lt A|Nat.succ_le_succ A|Nat.le_succ_of_le A|Nat.lt_of_lt_of_le AA|Nat.lt_of_le_of_lt AA|Nat.lt_trans AA|Nat.le_trans AA|Nat.lt_of_succ_lt A"):tactic | (with_reducible $(pq "" "Nat.ne_of_gt A|Nat.ne_of_lt A|Int.ofNat_le.mpr A|Nat.sub_lt_of_lt A"):tactic) | lia (splits := 9))
local macro_rules | `(tactic| krn_off) => `(tactic| first | $(pq "" "Nat.le_of_ble_eq_true Q"):tactic | (intros; rfl) | exact fun _ _ => ⟨_, rfl⟩ | exact .inl rfl | exact .inr ⟨rfl, _, rfl, by show _ < _; lia⟩ | (intro q; cases q; done) | exact fun _ => ⟨_, _, _, rfl⟩ | decide | (simp; done))
noncomputable def vx:List Nat→Nat→Nat
 | [],_=>0
 | x::_,0=>x
 | _::r,i+1=>vx r i
noncomputable def vy:List Int→Nat→Int
 | [],_=>0
 | x::_,0=>x
 | _::r,i+1=>vy r i
inductive NE where
 | n (k:Nat)
 | v (i:Nat)
 | a (x y:NE)
 | m (k:Nat) (x:NE)
 | w (x:NE) (k:Nat)
inductive IE where
 | n (k:Int)
 | v (i:Nat)
 | a (x y:IE)
 | s (x y:IE)
 | g (x:IE)
 | m (k:Int) (x:IE)
 | w (x:IE) (k:Int)
 | c (x:NE)
noncomputable def NE.d (xs:List Nat):NE→Nat
 | n k=>k
 | v i=>vx xs i
 | a x y=>x.d xs+y.d xs
 | m k x=>k*x.d xs
 | w x k=>x.d xs*k
noncomputable def IE.d (xs:List Nat) (ys:List Int):IE→Int
 | n k=>k
 | v i=>vy ys i
 | a x y=>x.d xs ys+y.d xs ys
 | s x y=>x.d xs ys - y.d xs ys
 | g x=>-x.d xs ys
 | m k x=>k*x.d xs ys
 | w x k=>x.d xs ys*k
 | c x=>((x.d xs:Nat):Int)
noncomputable def rY:List Int→List Int→List Int
 | [],b=>b
 | a,[]=>a
 | x::a,y::b=>(x+y)::rY a b
noncomputable def sm1 (k:Int):List Int→List Int
 | []=>[]
 | x::a=>(k*x)::sm1 k a
noncomputable def un1:Nat→List Int
 | 0=>[1]
 | i+1=>0::un1 i
noncomputable def ev:List Int→List Int→Int
 | c::cs,v::vs=>c*v+ev cs vs
 | _,_=>0
theorem a4 {a b c d:Int}:a+b+(c+d)=a+c+(b+d):=by rw [IU,IU,Int.add_left_comm b]
theorem yR:∀ a b v,ev (rY a b) v=ev a v+ev b v
 | [],b,v=>by cases v <;> simp [rY,ev]
 | x::a,[],v=>by cases v <;> simp [rY,ev]
 | x::a,y::b,[]=>by simp [rY,ev]
 | x::a,y::b,v::vs=>by
  show (x+y)*v+ev (rY a b) vs=x*v+ev a vs+(y*v+ev b vs);rw [yR a b vs,Jt];exact a4
theorem aCU (k:Int):∀ a v,ev (sm1 k a) v=k*ev a v
 | [],v=>by cases v <;> simp [sm1,ev]
 | x::a,[]=>by simp [sm1,ev]
 | x::a,v::vs=>by
  show k*x*v+ev (sm1 k a) vs=k*(x*v+ev a vs);rw [aCU k a vs,CS,FF]
noncomputable def yG (xs:List Nat):List Int:=xs.map fun (x:Nat)=>(x:Int)
theorem aCV:∀ (xs:List Nat) i,ev (un1 i) (yG xs)=((vx xs i:Nat):Int)
 | [],i=>by cases i <;> rfl
 | x::r,0=>by
  show 1*(x:Int)+ev [] (yG r)=_;cases r <;> simp [ev,yG,vx]
 | x::r,i+1=>by
  show 0*(x:Int)+ev (un1 i) (yG r)=_;rw [aCV r i,E7,Dc];rfl
theorem aCW:∀ (ys:List Int) i,ev (un1 i) ys=vy ys i
 | [],i=>by cases i <;> rfl
 | x::r,0=>by
  show 1*x+ev [] r=_;cases r <;> simp [ev,vy]
 | x::r,i+1=>by
  show 0*x+ev (un1 i) r=_;rw [aCW r i,E7,Dc];rfl
noncomputable def LF:Type:=List Int×List Int
noncomputable def LF.e (f:LF) (xs:List Nat) (ys:List Int):Int:=ev f.1 (1::yG xs)+ev f.2 ys
noncomputable def LF.add (f g:LF):LF:=(rY f.1 g.1,rY f.2 g.2)
noncomputable def LF.sm (k:Int) (f:LF):LF:=(sm1 k f.1,sm1 k f.2)
theorem LF.add_e {f g:LF} {xs ys}:(f.add g).e xs ys=f.e xs ys+g.e xs ys:=by
 show ev (rY f.1 g.1) _+ev (rY f.2 g.2) _=_;rw [yR,yR];exact a4
theorem LF.sm_e {k:Int} {f:LF} {xs ys}:(f.sm k).e xs ys=k*f.e xs ys:=by
 show ev (sm1 k f.1) _+ev (sm1 k f.2) _=_;rw [aCU,aCU];unfold LF.e;rw [CS]
noncomputable def LF.k (c:Int):LF:=([c],[])
theorem LF.k_e {c:Int} {xs ys}:(LF.k c).e xs ys=c:=by
 show c*1+ev [] (yG xs)+ev [] ys=c;have:∀ l,ev [] l=0:=fun l=>by cases l <;> rfl
 rw [this,this,Er,Er,Gy]
noncomputable def NE.l:NE→LF
 | n k=>LF.k k
 | v i=>(0::un1 i,[])
 | a x y=>x.l.add y.l
 | m k x=>x.l.sm k
 | w x k=>x.l.sm k
theorem uM:∀ l,ev [] l=0:=fun l=>by cases l <;> rfl
theorem NE.l_e {xs ys} (e:NE):e.l.e xs ys=((e.d xs:Nat):Int):=by
 induction e with
 | n k=>exact LF.k_e
 | v i=>
  show 0*1+ev (un1 i) (yG xs)+ev [] ys=_;rw [aCV,uM,E7,Dc,Er];rfl
 | a x y hx hy=>exact LF.add_e.trans (by rw [hx,hy];rfl)
 | m k x hx=>exact LF.sm_e.trans (by rw [hx];rfl)
 | w x k hx=>exact LF.sm_e.trans (by rw [hx,Et];rfl)
noncomputable def IE.l:IE→LF
 | n k=>LF.k k
 | v i=>([],un1 i)
 | a x y=>x.l.add y.l
 | s x y=>x.l.add (y.l.sm (-1))
 | g x=>x.l.sm (-1)
 | m k x=>x.l.sm k
 | w x k=>x.l.sm k
 | c x=>x.l
theorem IE.l_e {xs ys} (e:IE):e.l.e xs ys=e.d xs ys:=by
 induction e with
 | n k=>exact LF.k_e
 | v i=>
  show ev [] (1::yG xs)+ev (un1 i) ys=_;rw [aCW,uM,Dc];rfl
 | a x y hx hy=>exact LF.add_e.trans (by rw [hx,hy];rfl)
 | s x y hx hy=>
  refine LF.add_e.trans ?_;rw [LF.sm_e,hx,hy,Gk];rfl
 | g x hx=>
  refine LF.sm_e.trans ?_;rw [hx];exact Gk _
 | m k x hx=>exact LF.sm_e.trans (by rw [hx];rfl)
 | w x k hx=>exact LF.sm_e.trans (by rw [hx,Et];rfl)
 | c x=>exact NE.l_e x
noncomputable def rn (a b:Nat):Nat→Prop
 | 0=>a≤b
 | 1=>a<b
 | 2=>a=b
 | 3=>¬ a≤b
 | 4=>¬ a<b
 | _=>¬ a=b
noncomputable def ri (a b:Int):Nat→Prop
 | 0=>a≤b
 | 1=>a<b
 | 2=>a=b
 | 3=>¬ a≤b
 | 4=>¬ a<b
 | _=>¬ a=b
theorem aFJ {a b:Nat}:∀ {k},rn a b k↔ri a b k
 | 0=>CQ.symm
 | 1=>Db.symm
 | 2=>IV.symm
 | 3=>not_congr CQ.symm
 | 4=>not_congr Db.symm
 | _+5=>not_congr IV.symm
inductive RL where
 | r (k:Nat) (x y:NE)
 | i (k:Nat) (x y:IE)
noncomputable def RL.d (xs:List Nat) (ys:List Int):RL→Prop
 | r k x y=>rn (x.d xs) (y.d xs) k
 | i k x y=>ri (x.d xs ys) (y.d xs ys) k
noncomputable def sub (x y:LF):LF:=x.add (y.sm (-1))
theorem rQ {x y:LF} {xs ys}:(sub x y).e xs ys=x.e xs ys - y.e xs ys:=by unfold sub;rw [LF.add_e,LF.sm_e,Gk];rfl
noncomputable def su1 (x y:LF):LF:=(sub x y).add (LF.k (-1))
theorem yA {x y:LF} {xs ys}:(su1 x y).e xs ys=x.e xs ys - y.e xs ys+-1:=by unfold su1;rw [LF.add_e,rQ,LF.k_e]
noncomputable def hf (x y:LF):Nat→List LF
 | 0=>[sub y x]
 | 1=>[su1 y x]
 | 2=>[sub y x,sub x y]
 | 3=>[su1 x y]
 | 4=>[sub x y]
 | _=>[]
noncomputable def rf (x y:LF):Nat→List LF
 | 0=>[su1 x y]
 | 1=>[sub x y]
 | 2=>[su1 x y,su1 y x]
 | 3=>[sub y x]
 | 4=>[su1 y x]
 | _=>[LF.k 0]
theorem i1 {a b:Int}:0≤a - b+-1↔b<a:=by show 0≤a - b - 1↔_;rw [Int.sub_sub];exact Do
theorem aFF {xs ys} {x y:LF}:∀ {k},ri (x.e xs ys) (y.e xs ys) k→∀ f∈hf x y k,0≤f.e xs ys
 | 0,h,f,m=>by rw [C1.mp m,rQ];exact Do.mpr h
 | 1,h,f,m=>by rw [C1.mp m,yA];exact i1.mpr h
 | 2,h,f,m=>by
  refine (AP.mp m).elim (fun e=>?_) fun m=>?_
  ·rw [e,rQ];exact Do.mpr (F7 h)
  ·rw [C1.mp m,rQ];exact Do.mpr (F7 (Eq.symm h))
 | 3,h,f,m=>by rw [C1.mp m,yA];exact i1.mpr (Ir.mp h)
 | 4,h,f,m=>by rw [C1.mp m,rQ];exact Do.mpr (DN.mp h)
 | _+5,_,_,m=>nomatch m
theorem aFI {xs ys} {x y:LF}:∀ {k},(∀ f∈rf x y k,¬ 0≤f.e xs ys)→ri (x.e xs ys) (y.e xs ys) k
 | 0,h=>by have:=h _ (.head _);rw [yA,i1] at this;exact DN.mp this
 | 1,h=>by have:=h _ (.head _);rw [rQ] at this;exact Ir.mp fun q=>this (Do.mpr q)
 | 2,h=>by
  have a:=h _ (.head _);have b:=h _ (.tail _ (.head _));rw [yA,i1] at a b;exact Gj (DN.mp a) (DN.mp b)
 | 3,h=>by have:=h _ (.head _);rw [rQ] at this;exact fun q=>this (Do.mpr q)
 | 4,h=>by have:=h _ (.head _);rw [yA,i1] at this;exact this
 | _+5,h=>by have:=h _ (.head _);rw [LF.k_e] at this;exact absurd (BV 0) this
noncomputable def RL.h:RL→List LF
 | r k x y=>hf x.l y.l k
 | i k x y=>hf x.l y.l k
noncomputable def RL.r':RL→List LF
 | r k x y=>rf x.l y.l k
 | i k x y=>rf x.l y.l k
theorem RL.h_ok {xs ys} (r:RL) (h:r.d xs ys):∀ f∈r.h,0≤f.e xs ys:=by
 cases r with
 | r k x y=>exact aFF (by rw [NE.l_e,NE.l_e];exact aFJ.mp h)
 | i k x y=>exact aFF (by rw [IE.l_e,IE.l_e];exact h)
theorem RL.r_ok {xs ys} (r:RL) (h:∀ f∈r.r',¬ 0≤f.e xs ys):r.d xs ys:=by
 cases r with
 | r k x y=>have:=aFI h;rw [NE.l_e,NE.l_e] at this;exact aFJ.mpr this
 | i k x y=>have:=aFI h;rw [IE.l_e,IE.l_e] at this;exact this
noncomputable def aEh:List Nat→List LF→LF
 | k::ks,f::fs=>(f.sm (k:Int)).add (aEh ks fs)
 | _,_=>LF.k 0
theorem aCG {xs ys}:∀ (ks:List Nat) (fs:List LF),(∀ f∈fs,0≤f.e xs ys)→0≤(aEh ks fs).e xs ys
 | [],_,_=>by show 0≤(LF.k 0).e xs ys;rw [LF.k_e];decide
 | _::_,[],_=>by show 0≤(LF.k 0).e xs ys;rw [LF.k_e];decide
 | k::ks,f::fs,h=>by
  show 0≤((f.sm (k:Int)).add (aEh ks fs)).e xs ys;rw [LF.add_e,LF.sm_e];exact Ep (Iq (BW _) (h f (.head _))) (aCG ks fs fun g m=>h g (.tail _ m))
noncomputable def aCe:List Int→Bool
 | []=>true
 | x::r=>decide (x≤0)&&aCe r
noncomputable def aFN:List Int→Bool
 | []=>true
 | x::r=>decide (x=0)&&aFN r
noncomputable def neg (f:LF):Bool:=match f.1 with | []=>false | c::r=>decide (c<0)&&aCe r&&aFN f.2
theorem vS:∀ (a:List Int) (xs:List Nat),aCe a=true→ev a (yG xs)≤0
 | [],xs,_=>by rw [uM];decide
 | x::r,[],_=>by show (0:Int)≤0;decide
 | x::r,v::vs,h=>by
  have h:=Bg.mp h;show x*(v:Int)+ev r (yG vs)≤0;exact Int.add_nonpos (Int.mul_nonpos_of_nonpos_of_nonneg (of_decide_eq_true h.1) (BW _)) (vS r vs h.2)
theorem aAh:∀ (a ys:List Int),aFN a=true→ev a ys=0
 | [],ys,_=>uM ys
 | x::r,[],_=>rfl
 | x::r,v::vs,h=>by
  have h:=Bg.mp h;show x*v+ev r vs=0;rw [aAh r vs h.2,of_decide_eq_true h.1,E7,Dc]
theorem aF2 {f:LF} {xs ys} (h:neg f=true):¬ 0≤f.e xs ys:=by
 obtain ⟨a,b⟩:=f;cases a with
 | nil=>cases h
 | cons c r=>
  have h:=Bg.mp h;have h1:=Bg.mp h.1;have k1:=of_decide_eq_true h1.1;have k2:=vS r xs h1.2;have k3:=aAh b ys h.2;show ¬ 0≤c*1+ev r (yG xs)+ev b ys;rw [k3,Er,Gy];exact Ir.mpr (Int.add_neg_of_neg_of_nonpos k1 k2)
noncomputable def ok (hs:List RL) (g:RL) (ks:List (List Nat)):Bool:=all2 g.r' ks (hs.flatMap RL.h)
where all2:List LF→List (List Nat)→List LF→Bool
 | [],_,_=>true
 | f::fs,k::ks,hs=>neg (aEh k (f::hs))&&all2 fs ks hs
 | _::_,[],_=>false
theorem aAg {xs ys}:∀ (fs:List LF) (ks:List (List Nat)) (hs:List LF),ok.all2 fs ks hs=true→(∀ f∈hs,0≤f.e xs ys)→∀ f∈fs,¬ 0≤f.e xs ys
 | [],_,_,_,_=>fun _ m=>nomatch m
 | f::fs,[],hs,h,_=>nomatch h
 | f::fs,k::ks,hs,h,hh=>by
  have h:=Bg.mp h;intro g m;rcases AP.mp m with rfl | m
  ·intro q
   exact aF2 h.1 (aCG k _ fun x m=>by
    rcases AP.mp m with rfl | m
    ·exact q
    ·exact hh x m)
  ·exact aAg fs ks hs h.2 hh g m
noncomputable def den (xs:List Nat) (ys:List Int) (g:Prop):List RL→Prop
 | []=>g
 | h::hs=>h.d xs ys→den xs ys g hs
theorem aCK {xs ys} {g:Prop}:∀ (hs:List RL),((∀ h∈hs,h.d xs ys)→g)→den xs ys g hs
 | [],k=>k fun _ m=>nomatch m
 | h::hs,k=>fun q=>aCK hs fun z=>k fun x m=>by
  rcases AP.mp m with rfl | m
  ·exact q
  ·exact z x m
noncomputable abbrev v0:NE:=.v 0
noncomputable abbrev v1:NE:=.v 1
noncomputable abbrev v2:NE:=.v 2
noncomputable abbrev v3:NE:=.v 3
noncomputable abbrev v4:NE:=.v 4
noncomputable abbrev v5:NE:=.v 5
noncomputable abbrev v6:NE:=.v 6
noncomputable abbrev v7:NE:=.v 7
noncomputable abbrev v8:NE:=.v 8
noncomputable abbrev v9:NE:=.v 9
noncomputable abbrev y0:IE:=.v 0
noncomputable abbrev y1:IE:=.v 1
noncomputable abbrev y2:IE:=.v 2
noncomputable abbrev y3:IE:=.v 3
noncomputable abbrev y4:IE:=.v 4
noncomputable abbrev y5:IE:=.v 5
noncomputable abbrev y6:IE:=.v 6
structure Ct where
 h:List RL
 g:RL
 k:List (List Nat)
noncomputable def ck (c:Ct):Bool:=ok c.h c.g c.k
noncomputable def gt {α:Type} (d:α) (l:List α):Nat→α:=List.rec (fun _=>d) (fun a _ f n=>Nat.rec a (fun m _=>f m) n) l
noncomputable def cg (i j:Nat) (l:List (List Ct)):Ct:=gt ⟨[],.r 0 (.n 0) (.n 0),[[1]]⟩ (gt [] l i) j
theorem gtk {α:Type} {d:α} {p:α→Bool} (e:p d=true):∀ {l:List α},l.all p=true→∀ n,p (gt d l n)=true
 | [],_,_=>e
 | _::_,h,0=>(Bg.mp h).1
 | _::_,h,n+1=>gtk e (Bg.mp h).2 n
theorem cgk {l:List (List Ct)} (e:l.all (fun r=>r.all ck)=true) (i j:Nat):ck (cg i j l)=true:=gtk (by decide +kernel) (gtk (p:=fun r:List Ct=>r.all ck) rfl e i) j
theorem nl (xs:List Nat) (ys:List Int) {hs:List RL} {g:RL} {ks:List (List Nat)} (u:ok hs g ks=true):den xs ys (g.d xs ys) hs:=
 aCK hs fun z=>RL.r_ok g (aAg _ ks _ u fun f m=>by
  obtain ⟨r,mr,mf⟩:=Cm.mp m;exact RL.h_ok r (z r mr) f mf)
theorem eB {a b:Nat}:a≤a - b+b:=Nat.sub_le_iff_le_add.mp (Am _)
theorem cY {a b:Nat} (h:b≤a):a - b+b≤a:=DS (He h)
theorem mx1 {a b:Int}:b≤if a > b then a else b:=by
 split
 ·exact Hp (by assumption)
 ·exact BV _
theorem mx2 {a b:Int}:a≤if a > b then a else b:=by
 split
 ·exact BV _
 ·exact DN.mp (by assumption)
theorem sb0 {a b:Nat} (h:a≤b):a - b≤0:=DS (Nat.sub_eq_zero_of_le h)
theorem tn1 {a:Int} (h:0≤a):(a.toNat:Int)≤a:=F7 (GU h)
theorem tn0 {a:Int} (h:a≤0):a.toNat≤0:=DS (Int.toNat_eq_zero.mpr h)
theorem mxa {a b:Nat} (h:b≤a):max a b≤a:=Hd.mpr ⟨Am _,h⟩
theorem mxb {a b:Nat} (h:a≤b):max a b≤b:=Hd.mpr ⟨h,Am _⟩
theorem tG {a b:Nat} (h:a≤b):a≤min a b:=DS (B1 h).symm
theorem mn2 {a b:Nat} (h:b≤a):b≤min a b:=DS (FX h).symm
theorem oV {a k:Nat} (h:autoParam (0<k) ad):a % k<k:=Gc _ h
theorem dv1 {a k:Nat}:a / k*k≤a:=Nat.div_mul_le_self _ _
theorem dv2 {a k:Nat} (h:autoParam (0<k) ad):a<a / k*k+k:=Nat.lt_div_mul_add h
noncomputable def KL:List (List Ct):=[
 [⟨[.r 0 v0 v1,.r 0 (.a v2 (.m 4 v1)) (.n 900)],.r 0 (.a v2 (.m 4 v0)) (.n 900),[[1,4,1]]⟩,
  ⟨[.r 0 v0 v1,.r 0 (.a v2 (.m 60 v1)) (.n 9000)],.r 0 (.a v2 (.m 60 v0)) (.n 9000),[[1,60,1]]⟩,
  ⟨[.r 0 (.a v0 (.m 4 v1)) (.n 900)],.r 1 v0 (.n 1000),[[1,1]]⟩,
  ⟨[.r 0 (.a v0 (.m 4 (.a v1 (.n 1)))) (.n 900)],.r 0 (.a (.a v0 (.n 1)) (.m 4 v1)) (.n 900),[[1,1]]⟩,
  ⟨[.r 0 (.a v0 (.m 60 (.a v1 (.n 1)))) (.n 9000)],.r 0 (.a (.a v0 (.n 3)) (.m 60 v1)) (.n 9000),[[1,1]]⟩,
  ⟨[.i 0 (.n 0) y0],.i 0 (.n 0) (.a y0 (.n 1)),[[1,1]]⟩,
  ⟨[.r 1 v0 v1],.r 0 (.a v0 (.n 1)) v1,[[1,1]]⟩,
  ⟨[.r 0 v0 (.a v1 v2),.r 0 (.a v3 (.a v2 (.n 1))) v0],.r 1 v3 v1,[[1,1,1]]⟩,
  ⟨[.r 0 v0 v1,.r 4 v0 v1],.r 2 v0 v1,[[1,1],[1,0,1]]⟩,
  ⟨[.r 1 v0 v1],.i 0 (.g (.c v1)) (.g (.n 1)),[[1,1]]⟩,
  ⟨[.i 0 (.n 0) y0],.i 4 y0 (.n 0),[[1,1]]⟩,
  ⟨[.i 0 (.n 0) y0],.i 0 (.g (.n (2^63))) y0,[[1,1]]⟩,
  ⟨[],.i 4 (.c v0) (.n 0),[[1]]⟩,
  ⟨[.r 0 v0 (.n 100000)],.i 1 (.c v0) (.n (2^63)),[[1,1]]⟩,
  ⟨[.r 0 v0 (.n 100000)],.i 3 (.n (2^63)) (.c v0),[[1,1]]⟩,
  ⟨[],.r 1 v0 (.a v0 (.a v1 (.n 1))),[[1]]⟩,
  ⟨[.r 1 (.a v0 (.a v1 (.n 1))) v2],.r 1 (.a (.a v0 (.n 1)) v1) v2,[[1,1]]⟩,
  ⟨[.r 0 v0 (.n 500),.r 0 (.a v1 (.m 60 v2)) (.n 9000)],.r 1 (.a v1 v0) (.n 9900),[[1,1,1]]⟩,
  ⟨[.r 0 v0 (.n 400)],.r 0 (.a v0 (.n 1)) (.n 500),[[1,1]]⟩,
  ⟨[.r 1 (.n 0) v0],.r 0 (.n 1) v0,[[1,1]]⟩,
  ⟨[.r 0 v0 v1,.r 0 (.a v1 (.n 1)) v2],.r 1 v0 v2,[[1,1,1]]⟩,
  ⟨[.r 1 v0 v1,.r 0 v1 (.a v2 (.n 1))],.r 0 v0 v2,[[1,1,1]]⟩,
  ⟨[.r 0 v0 (.n 100000),.r 1 v1 v0],.i 1 (.c v1) (.s (.n (2^63)) (.n 1)),[[1,1,1]]⟩],
 [⟨[],.r 0 (.a v0 v1) (.a v0 (.a v1 v2)),[[1]]⟩,
  ⟨[.r 0 (.a v0 (.m 60 (.a v1 (.n 1)))) (.n 9000),.r 0 v2 (.n 50)],.r 0 (.a (.a v0 v2) (.m 60 v1)) (.n 9000),[[1,1,1]]⟩,
  ⟨[.i 2 y0 (.c v0)],.i 0 (.n 0) y0,[[1,0,1]]⟩,
  ⟨[.i 2 y0 (.c v0),.r 1 v0 v1,.r 0 v1 (.n 100000)],.i 1 y0 (.n (2^63)),[[1,1,0,1,1]]⟩,
  ⟨[.r 2 v0 v1,.r 1 v2 v1],.r 1 v2 v0,[[1,0,1,1]]⟩,
  ⟨[.r 2 v0 (.a v1 (.n 1)),.r 1 v2 v1],.r 1 v2 v0,[[1,0,1,1]]⟩,
  ⟨[.r 2 v0 (.a v1 (.n 1)),.r 1 v2 v1,.r 1 v3 v2],.r 1 v3 v0,[[1,0,1,1,1]]⟩,
  ⟨[.r 2 v0 v1,.r 1 v0 v1],.r 3 v2 (.n 1000),[[0,0,1,1]]⟩,
  ⟨[.r 0 v0 (.a v1 v2),.r 0 v1 (.a v3 (.n 1))],.r 0 v0 (.a v3 (.a v2 (.n 1))),[[1,1,1]]⟩,
  ⟨[.r 2 v0 v1,.r 0 v0 v2],.r 0 v1 v2,[[1,0,1,1]]⟩,
  ⟨[.r 0 v0 v1],.r 0 v0 v1,[[1,1]]⟩,
  ⟨[.r 0 v0 v1,.r 0 v1 v0],.r 2 v0 v1,[[1,1],[1,0,1]]⟩,
  ⟨[.r 1 (.n 0) v0],.i 0 (.n 0) (.a (.g (.n 1)) (.c v0)),[[1,1]]⟩,
  ⟨[],.i 1 (.a (.g (.n 1)) (.c v0)) (.c v0),[[1]]⟩,
  ⟨[.r 0 (.a v0 (.n 1)) v1],.r 1 v0 v1,[[1,1]]⟩,
  ⟨[.r 0 v0 (.a (.n 2) (.m 5 v1)),.r 0 v2 (.n 5),.r 0 (.a v1 (.n 1)) v3],.r 0 (.a v0 v2) (.a (.n 2) (.m 5 v3)),[[1,1,1,5]]⟩,
  ⟨[.i 2 (.c v0) (.c v1)],.r 2 v0 v1,[[1,1],[1,0,1]]⟩,
  ⟨[.i 2 y0 y1,.i 2 y1 (.c v0),.i 2 y0 (.c v1)],.r 2 v1 v0,[[1,1,0,1,0,0,1],[1,0,1,0,1,1]]⟩,
  ⟨[],.i 2 (.a (.n 1) y0) (.a y0 (.n 1)),[[1],[1]]⟩,
  ⟨[],.i 2 (.a (.w y0 1) y1) (.a y1 (.w y0 1)),[[1],[1]]⟩,
  ⟨[],.i 2 (.a (.w (.g (.c v0)) 1) y0) (.a y0 (.w (.g (.c v0)) 1)),[[1],[1]]⟩,
  ⟨[.i 2 y0 (.c v0),.i 2 y0 (.c v1)],.r 2 v1 v0,[[1,1,0,0,1],[1,0,1,1]]⟩,
  ⟨[],.i 2 (.a (.a y0 (.w y1 1)) (.a y2 y3)) (.a (.a y0 y2) (.a y1 y3)),[[1],[1]]⟩],
 [⟨[],.i 2 (.a (.a y0 (.n 1)) (.a y1 (.c v0))) (.a (.a y0 y1) (.a (.c v0) (.n 1))),[[1],[1]]⟩,
  ⟨[],.i 2 (.a y0 y1) (.a y1 y0),[[1],[1]]⟩,
  ⟨[],.i 2 (.a (.a y0 y1) (.a y2 y3)) (.a (.a y3 y2) (.a y1 y0)),[[1],[1]]⟩,
  ⟨[],.i 2 (.a (.a y0 y1) (.a (.c v0) (.c v1))) (.a (.a (.c v1) (.c v0)) (.a y1 y0)),[[1],[1]]⟩,
  ⟨[],.i 2 (.a (.c v0) (.c v1)) (.a (.c v1) (.c v0)),[[1],[1]]⟩,
  ⟨[.r 0 v0 (.m 6 v1),.r 0 v2 (.n 6)],.r 0 (.a v2 v0) (.m 6 (.a v1 (.n 1))),[[1,1,1]]⟩,
  ⟨[.i 2 y0 (.a (.n 128) y1),.i 0 (.n 0) y1],.i 0 (.n 0) y0,[[1,0,1,1]]⟩,
  ⟨[.i 2 y0 (.a (.n 128) y1),.i 1 y1 (.n 128)],.i 1 y0 (.n 256),[[1,1,0,1]]⟩,
  ⟨[.i 0 (.n 0) y0],.i 0 (.n 0) y0,[[1,1]]⟩,
  ⟨[.i 1 y0 (.n 128)],.i 1 y0 (.n 256),[[1,1]]⟩,
  ⟨[.r 0 v0 (.m 18 v1),.r 0 v2 (.m 6 v3),.r 0 v3 (.n 3)],.r 0 (.a v2 v0) (.m 18 (.a v1 (.n 1))),[[1,1,1,6]]⟩,
  ⟨[.r 2 v0 (.a v1 (.n 1))],.r 0 (.n 1) v0,[[1,0,1]]⟩,
  ⟨[.r 2 v0 (.a v1 (.n 1)),.r 0 v0 (.a v2 (.n 1)),.r 0 (.a v2 (.n 1)) v0],.r 2 v2 v1,[[1,1,0,0,1],[1,0,1,1]]⟩,
  ⟨[.r 2 v0 (.a v1 (.n 1))],.r 1 (.n 0) v0,[[1,0,1]]⟩,
  ⟨[.r 0 v0 (.n 4096),.r 2 v1 v0],.r 0 v1 (.n 4096),[[1,1,1]]⟩,
  ⟨[.r 0 v0 (.n 4096)],.r 0 v0 (.n 16777216),[[1,1]]⟩,
  ⟨[.r 0 v0 v1,.r 2 v0 (.a v1 v2)],.r 2 v2 (.n 0),[[1,1,0,1],[1]]⟩,
  ⟨[.r 2 v0 v1,.r 2 v0 (.n 0)],.r 3 (.n 2) v1,[[1,0,1,1]]⟩,
  ⟨[.r 0 (.n 2) v0,.r 2 v1 v0],.r 0 (.n 2) v1,[[1,1,0,1]]⟩,
  ⟨[.r 1 v0 (.n 64)],.r 0 v0 (.n 16777216),[[1,1]]⟩,
  ⟨[.r 1 v0 (.n 64),.r 2 v1 v0],.r 1 v1 (.n 64),[[1,1,1]]⟩,
  ⟨[.r 1 v0 v1,.r 0 v1 (.n 1000),.r 0 v2 v0],.r 0 v2 (.n 16777216),[[1,1,1,1]]⟩,
  ⟨[.r 0 v0 (.n 1000)],.r 0 v0 (.n 16777216),[[1,1]]⟩],
 [⟨[.r 0 v0 (.n 300)],.r 0 (.a v0 (.n 1)) (.n 500),[[1,1]]⟩,
  ⟨[.r 0 v0 (.n 300)],.r 0 (.a v0 (.n 2)) (.n 500),[[1,1]]⟩,
  ⟨[.r 1 (.a v0 (.a v1 (.n 2))) v2],.r 1 (.a (.a (.a v0 (.n 1)) (.n 1)) v1) v2,[[1,1]]⟩,
  ⟨[.r 2 v0 v1,.r 1 v2 v0],.r 1 v2 v1,[[1,1,0,1]]⟩,
  ⟨[.r 4 v0 v1,.r 1 v0 (.a v1 (.n 1))],.r 2 v0 v1,[[1,0,1],[1,1]]⟩,
  ⟨[.r 0 (.n 6) (.a v0 v1),.r 1 v1 (.n 5)],.r 0 (.n 2) v0,[[1,1,1]]⟩,
  ⟨[.r 0 v0 (.n 6)],.r 0 v0 (.n 6),[[1,1]]⟩,
  ⟨[],.r 2 (.a (.m 3 v0) (.n 3)) (.m 3 (.a v0 (.n 1))),[[1],[1]]⟩,
  ⟨[.r 1 v0 (.n 3),.r 1 v1 v2],.r 1 (.a (.m 3 v1) v0) (.m 3 v2),[[1,1,3]]⟩,
  ⟨[.r 1 v0 (.a v1 (.n 1)),.r 4 v0 v1],.r 2 v0 v1,[[1,1],[1,0,1]]⟩,
  ⟨[],.r 0 (.m 3 v0) (.a (.m 3 v0) v1),[[1]]⟩,
  ⟨[.r 0 (.a (.m 3 v0) v1) (.a v2 (.m 3 v0)),.r 0 (.a v2 (.m 3 v0)) (.a (.m 3 v0) v1)],.r 2 v2 v1,[[1,0,1],[1,1]]⟩,
  ⟨[.i 4 (.c v0) (.n 1)],.i 1 (.n 0) (.c v0),[[1,1]]⟩,
  ⟨[.r 1 v0 (.n 8)],.i 0 (.m 1 (.c v0)) (.s (.n (2^63)) (.n 1)),[[1,1]]⟩,
  ⟨[.i 0 (.n 1) y0],.i 4 y0 (.c (.n 1)),[[1,1]]⟩,
  ⟨[.r 1 v0 (.n 32)],.i 1 (.c v0) (.n (2^63)),[[1,1]]⟩,
  ⟨[.r 0 v0 (.n 90000)],.r 0 v0 (.n 100000),[[1,1]]⟩,
  ⟨[],.i 0 (.g (.n (2^62))) (.c v0),[[1]]⟩,
  ⟨[.r 0 v0 (.n 1000)],.i 1 (.c v0) (.n (2^62)),[[1,1]]⟩,
  ⟨[.r 0 v0 (.n 6)],.r 0 v0 (.n 1000),[[1,1]]⟩,
  ⟨[.r 0 v0 (.n 6)],.r 0 v0 (.n 100000),[[1,1]]⟩,
  ⟨[.r 0 v0 (.n 6),.r 1 v1 v0],.i 1 (.c v1) (.n (2^63)),[[1,1,1]]⟩,
  ⟨[.r 0 v0 (.n 100)],.r 0 v0 (.n 1000),[[1,1]]⟩],
 [⟨[.r 0 v0 (.n 100),.r 1 v1 v0],.i 1 (.c v1) (.n (2^63)),[[1,1,1]]⟩,
  ⟨[.r 0 v0 (.n 100),.r 0 v1 v0],.r 1 v1 (.n (2^63)),[[1,1,1]]⟩,
  ⟨[.r 0 v0 (.n 0)],.r 2 v0 (.n 0),[[1,1],[1]]⟩,
  ⟨[.r 3 v0 (.n 1)],.r 0 (.n 1) v0,[[1,1]]⟩,
  ⟨[.r 0 v0 (.a v1 (.n 1)),.r 1 v2 v3,.r 0 (.a v3 (.n 1)) v0],.r 0 (.a v2 (.n 1)) v1,[[1,1,1,1]]⟩,
  ⟨[.r 1 v0 v1,.r 0 v1 v2],.r 0 (.a v0 (.n 1)) v2,[[1,1,1]]⟩,
  ⟨[.r 0 v0 (.a v1 (.n 1)),.r 0 (.a v2 (.a v3 (.n 1))) v0],.r 0 v2 v1,[[1,1,1]]⟩,
  ⟨[.r 0 v0 (.n 8),.r 1 v1 v2,.r 0 v2 v0],.r 0 (.a v1 (.n 1)) (.n 8),[[1,1,1,1]]⟩,
  ⟨[.r 0 v0 (.n 8),.r 0 v1 v0],.r 0 v1 (.n 8),[[1,1,1]]⟩,
  ⟨[],.i 2 (.a (.n 1) (.w (.c v0) 1)) (.a (.c v0) (.n 1)),[[1],[1]]⟩,
  ⟨[.r 0 v0 (.n 6)],.r 0 (.a v0 (.n 1)) (.n 1000),[[1,1]]⟩,
  ⟨[.r 0 v0 (.n 6),.r 0 v1 v0],.r 0 v1 (.n 1000),[[1,1,1]]⟩,
  ⟨[.r 1 v0 v1],.r 0 v0 v1,[[1,1]]⟩,
  ⟨[.r 0 v0 (.a v1 v2),.r 0 (.a v1 v2) v0],.i 2 (.c v1) (.a (.s (.c v0) (.a (.c v2) (.n 1))) (.n 1)),[[1,0,1],[1,1]]⟩,
  ⟨[.r 0 v0 (.n 6),.r 1 v1 v0],.r 0 (.a v1 (.n 1)) (.n 1000),[[1,1,1]]⟩,
  ⟨[.r 0 v0 (.n 6),.r 1 v1 v0],.r 0 v1 (.n 1000),[[1,1,1]]⟩,
  ⟨[.r 1 v0 v1,.r 1 v2 v3,.r 0 (.a v1 v3) v4],.r 0 (.a v0 (.a v2 (.n 1))) v4,[[1,1,1,1]]⟩,
  ⟨[.r 1 v0 v1,.r 0 (.a v1 (.n 1)) (.a v2 (.a v0 (.n 1)))],.r 0 (.n 1) v2,[[1,1,1]]⟩,
  ⟨[.r 1 v0 v1],.r 0 (.a v0 (.n 1)) (.a v1 (.n 1)),[[1,1]]⟩,
  ⟨[.r 1 v0 v1,.r 0 (.a v2 (.a v3 (.n 1))) (.a v4 (.n 1)),.r 0 (.a v1 v4) v5],.r 0 (.a (.a v0 (.a v3 (.n 1))) v2) v5,[[1,1,1,1]]⟩,
  ⟨[.r 0 (.a v0 (.a v1 (.n 1))) (.a v2 (.n 1))],.r 0 v0 v2,[[1,1]]⟩,
  ⟨[.r 0 (.a v0 (.n 1)) (.a v1 (.a v2 (.n 1))),.r 0 (.a v1 (.a v2 (.n 1))) (.a v0 (.n 1))],.i 2 (.s (.a (.m 8 (.a (.c v3) (.c (.a v2 (.n 1))))) (.c (.a v0 (.n 1)))) (.c (.a v2 (.n 1)))) (.a (.m 8 (.c (.a v3 (.a v2 (.n 1))))) (.c v1)),[[1,1],[1,0,1]]⟩,
  ⟨[.r 0 v0 (.n 6),.r 1 v1 v0],.r 0 (.a v1 (.n 1)) (.n 8),[[1,1,1]]⟩],
 [⟨[.r 0 v0 (.n 6),.r 1 v1 v0,.r 0 v2 (.a (.m 100 v1) v3),.r 1 v3 v4,.r 0 v4 v0],.r 0 v2 (.n 100000),[[1,101,100,1,1,1]]⟩,
  ⟨[],.r 0 v0 (.a v0 (.a v1 (.n 1))),[[1]]⟩,
  ⟨[.r 0 (.a v0 (.a v1 (.n 1))) (.a v2 v0),.r 0 (.a v2 v0) (.a v0 (.a v1 (.n 1)))],.r 2 (.a v1 (.n 1)) v2,[[1,1],[1,0,1]]⟩,
  ⟨[.r 1 v0 v1,.r 0 (.a v1 v2) v3],.r 0 (.a v0 (.a v2 (.n 1))) v3,[[1,1,1]]⟩,
  ⟨[.r 2 v0 (.n 0)],.r 0 (.a v0 (.n 1)) (.n 1),[[1,1]]⟩,
  ⟨[.r 0 v0 (.a (.m 100 v1) v2),.r 0 v3 (.a v0 (.n 1))],.r 0 v3 (.a (.m 100 v1) (.a v2 (.n 1))),[[1,1,1]]⟩,
  ⟨[.r 0 v0 (.n 6),.r 0 v1 (.a (.m 100 v2) v3),.r 0 v3 v0],.r 0 v1 (.m 100 (.a v2 (.n 1))),[[1,1,1,1]]⟩,
  ⟨[],.r 0 (.a (.n 0) v0) v0,[[1]]⟩,
  ⟨[],.i 2 (.c v0) (.a (.m 8 (.c (.n 0))) (.c v0)),[[1],[1]]⟩,
  ⟨[.r 1 v0 (.n 28),.r 1 v1 (.n 5)],.r 1 (.a v0 v1) (.n 32),[[1,1,1]]⟩,
  ⟨[.r 1 v0 (.n 32)],.i 0 (.c v0) (.n 1000000),[[1,1]]⟩,
  ⟨[.r 0 v0 v1,.r 1 v1 (.n 32)],.r 0 v0 (.n 100000),[[1,1,1]]⟩,
  ⟨[.r 0 v0 (.n 32)],.r 0 v0 (.n 100000),[[1,1]]⟩,
  ⟨[.r 0 v0 (.n 1000)],.r 0 v0 (.n 100000),[[1,1]]⟩,
  ⟨[.r 0 v0 (.n 1000)],.r 0 v0 (.n 1000),[[1,1]]⟩,
  ⟨[.r 0 v0 (.n 1000),.r 0 v1 (.n 1000),.r 1 v2 v3,.r 0 v3 v0],.i 1 (.c (.a v1 v2)) (.n (2^63)),[[1,1,1,1,1]]⟩,
  ⟨[],.i 1 (.g (.n (2^64))) (.c v0),[[1]]⟩,
  ⟨[.r 0 v0 (.n 1000)],.i 1 (.c v0) (.n (2^64)),[[1,1]]⟩,
  ⟨[.i 0 y0 (.n 101),.i 2 y0 (.c v0)],.r 0 (.a v0 (.n 1)) (.n 1000),[[1,1,0,1]]⟩,
  ⟨[.i 2 y0 (.c v0)],.i 2 (.c (.a v0 (.n 1))) (.a y0 (.n 1)),[[1,0,1],[1,1]]⟩,
  ⟨[],.r 0 (.n 2) (.a (.n 2) v0),[[1]]⟩,
  ⟨[.i 0 y0 (.n 101),.i 2 y0 (.c v0),.r 1 v1 v2,.r 0 v2 (.a v0 (.n 1))],.r 0 (.a (.n 2) v1) (.n 1000),[[1,1,0,1,1,1]]⟩,
  ⟨[.i 0 (.n 1) y0,.i 2 y0 (.c v0)],.r 0 (.n 2) (.a v0 (.n 1)),[[1,1,1]]⟩],
 [⟨[.i 0 (.n 1) y0,.i 2 y0 (.c v0)],.r 0 (.n 1) v0,[[1,1,1]]⟩,
  ⟨[.r 0 (.a v0 (.n 1)) (.a v1 (.n 2)),.r 0 v0 (.a v2 (.n 1)),.r 0 (.a v1 (.n 2)) (.a v0 (.n 1)),.r 0 (.a v2 (.n 1)) v0],.r 2 v1 v2,[[1,0,1,1],[1,1,0,0,1]]⟩,
  ⟨[.r 1 v0 v1,.r 0 v1 (.n 1000)],.i 1 (.c v0) (.n (2^63)),[[1,1,1]]⟩,
  ⟨[.r 0 v0 (.n 90)],.r 0 v0 (.n 100000),[[1,1]]⟩,
  ⟨[.i 2 (.c v0) (.c v1),.i 0 (.c v0) (.c v2)],.r 0 v1 v2,[[1,0,1,1]]⟩,
  ⟨[.r 0 v0 (.n 90),.r 0 v1 (.n 90),.r 0 v2 v1],.r 0 (.a v0 (.a v2 (.n 1))) (.n 100000),[[1,1,1,1]]⟩,
  ⟨[.i 0 (.c v0) (.c v1)],.i 0 (.n 0) (.a (.s (.c v1) (.c v0)) (.n 1)),[[1,1]]⟩,
  ⟨[.r 0 v0 (.n 90)],.i 0 (.a (.s (.c v0) (.c v1)) (.n 1)) (.n 1000),[[1,1]]⟩,
  ⟨[.r 0 v0 (.a v1 v2)],.r 1 v0 (.a v2 (.a v1 (.n 1))),[[1,1]]⟩,
  ⟨[.r 0 v0 (.n 90),.r 0 v1 (.n 90),.r 0 v2 v1],.r 0 (.a v0 (.a v2 (.n 1))) (.n 1000),[[1,1,1,1]]⟩,
  ⟨[.i 2 (.c v0) (.c v1),.i 3 (.c v0) (.c v2)],.r 3 v1 v2,[[1,1,0,1]]⟩,
  ⟨[.r 0 v0 (.n 90)],.r 0 v0 (.n 1000),[[1,1]]⟩,
  ⟨[.r 0 v0 (.n 90),.r 0 v1 v0],.r 0 v1 (.n 1000),[[1,1,1]]⟩,
  ⟨[.r 0 v0 v1,.r 1 v1 (.n 90)],.r 0 v0 (.n 90),[[1,1,1]]⟩,
  ⟨[.r 0 v0 (.a (.a v1 (.n 1)) v2)],.r 0 v0 (.a v1 (.a v2 (.n 1))),[[1,1]]⟩,
  ⟨[.r 0 v0 v1],.r 0 v0 (.a v1 (.a v2 (.n 1))),[[1,1]]⟩,
  ⟨[.r 0 v0 (.n 90),.r 0 v1 (.a (.n 0) v0)],.r 0 v1 (.n 100),[[1,1,1]]⟩,
  ⟨[.r 0 v0 (.n 90),.r 0 v1 (.a (.n 0) v0)],.i 0 (.c v1) (.n 100),[[1,1,1]]⟩,
  ⟨[.r 0 v0 (.n 12)],.r 0 v0 (.n 100000),[[1,1]]⟩,
  ⟨[.r 1 (.a v0 (.n 1)) v1,.r 0 v1 (.a v2 (.n 1))],.r 1 v0 v2,[[1,1,1]]⟩,
  ⟨[.r 0 v0 (.n 5)],.r 0 v0 (.n 1000),[[1,1]]⟩,
  ⟨[.r 1 v0 (.n 4)],.i 1 (.c v0) (.n (2^63)),[[1,1]]⟩,
  ⟨[.r 0 v0 (.a (.n 2) (.m 5 v1)),.r 0 v1 (.n 5),.r 0 v2 (.n 5)],.r 0 (.a v0 v2) (.n 1000),[[1,1,5,1]]⟩],
 [⟨[.r 1 v0 v1,.r 0 v1 (.a v2 (.n 1))],.r 1 v0 (.a v2 (.n 1)),[[1,1,1]]⟩,
  ⟨[.r 1 v0 v1,.r 0 v1 v2],.r 0 (.n 1) v2,[[1,1,1]]⟩,
  ⟨[.r 1 v0 v1,.r 0 (.a v1 (.n 1)) v2],.r 1 (.a v0 (.n 1)) v2,[[1,1,1]]⟩,
  ⟨[.r 1 v0 v1,.r 1 v2 (.a v0 (.n 1)),.r 0 v1 v3],.r 1 v2 v3,[[1,1,1,1]]⟩,
  ⟨[.r 0 v0 (.a v1 (.n 1))],.r 0 v0 (.a v1 (.n 1)),[[1,1]]⟩,
  ⟨[.r 0 v0 (.n 27)],.r 0 (.a v0 (.n 3)) (.n 90),[[1,1]]⟩,
  ⟨[.r 0 v0 (.n 12)],.r 0 v0 (.n 1000),[[1,1]]⟩,
  ⟨[.r 0 v0 (.n 27)],.r 0 (.a v0 (.n 3)) (.n 1000),[[1,1]]⟩,
  ⟨[.r 1 v0 v1,.r 0 (.a v1 (.n 1)) v2],.r 1 (.a (.n 1) v0) v2,[[1,1,1]]⟩,
  ⟨[.r 0 (.a v0 (.n 1)) (.n 12),.r 0 v1 (.a v0 (.n 1)),.r 0 v2 (.m 12 v0)],.r 0 (.a v2 v1) (.m 12 (.a v0 (.n 1))),[[1,1,1,1]]⟩,
  ⟨[.r 0 v0 (.n 12),.r 1 v1 v2,.r 0 v2 v0],.r 0 v1 (.n 12),[[1,1,1,1]]⟩,
  ⟨[.r 0 v0 (.n 12),.r 1 v1 v2,.r 2 (.a v3 v4) (.a v5 v6),.r 0 v6 (.a (.n 1) v1),.r 0 v5 (.m 12 v1),.r 0 v2 v0],.r 0 v3 (.n 200),[[1,13,13,1,0,1,1,13]]⟩,
  ⟨[.i 1 (.n 0) (.c v0)],.r 0 (.n 1) v0,[[1,1]]⟩,
  ⟨[.r 0 v0 (.a v1 (.n 1)),.r 0 (.a v1 (.n 1)) v0],.r 2 v0 (.a v1 (.n 1)),[[1,1],[1,0,1]]⟩,
  ⟨[],.i 2 (.s (.c (.a v0 (.n 1))) (.n 1)) (.c v0),[[1],[1]]⟩,
  ⟨[.r 1 v0 v1,.r 0 (.a v2 (.n 1)) (.a (.n 1) v0),.r 0 v1 v3],.r 1 v2 v3,[[1,1,1,1]]⟩,
  ⟨[],.i 0 (.n 0) (.c v0),[[1]]⟩,
  ⟨[.r 0 v0 (.n 12),.r 1 v1 v2,.r 0 (.a v3 (.n 1)) (.a (.n 1) v1),.r 0 v2 v0],.i 1 (.c v3) (.n (2^63)),[[1,1,1,1,1]]⟩,
  ⟨[],.i 0 (.n 0) (.c (.a (.n 1) v0)),[[1]]⟩,
  ⟨[.r 0 v0 (.n 12),.r 1 v1 v2,.r 0 v2 v0],.i 1 (.c (.a (.n 1) v1)) (.n (2^63)),[[1,1,1,1]]⟩,
  ⟨[.r 0 v0 (.n 1000),.r 0 v1 (.n 200)],.r 0 (.a v0 v1) (.n 100000),[[1,1,1]]⟩,
  ⟨[.r 0 v0 (.n 5)],.r 0 v0 (.n 100000),[[1,1]]⟩,
  ⟨[],.r 1 v0 (.a v0 (.n 1)),[[1]]⟩],
 [⟨[.r 0 v0 (.n 12),.r 1 v1 v2,.r 0 v2 v0],.r 0 v1 (.n 99999),[[1,1,1,1]]⟩,
  ⟨[.i 4 (.n 0) (.c v0)],.r 2 v0 (.n 0),[[1,1],[1]]⟩,
  ⟨[.r 0 v0 (.n 100),.r 0 v1 v2,.r 0 v2 v0],.r 0 v1 (.n 100000),[[1,1,1,1]]⟩,
  ⟨[.r 0 v0 (.n 100),.r 0 v1 (.n 100),.r 0 v2 (.a v3 v4),.r 0 v3 v0,.r 0 v4 v1],.r 0 v2 (.n 300),[[1,1,1,1,1,1]]⟩,
  ⟨[.r 0 v0 (.n 300)],.r 0 v0 (.n 100000),[[1,1]]⟩,
  ⟨[.i 1 y0 y1],.i 4 y1 y0,[[1,1]]⟩,
  ⟨[.r 0 v0 (.n 6)],.r 0 (.a (.n 0) (.m 20 v0)) (.n 120),[[1,20]]⟩,
  ⟨[.r 2 v0 v1,.r 0 v1 (.n 6)],.r 0 v0 (.n 100000),[[1,1,0,1]]⟩,
  ⟨[.r 4 (.n 1) v0],.i 4 (.n 1) (.c v0),[[1,1]]⟩,
  ⟨[.r 2 v0 v1,.r 0 (.n 1) v1,.r 4 (.n 1) v0],.r 2 v0 (.n 1),[[1,0,0,0,1],[1,0,1,1]]⟩,
  ⟨[.r 0 (.a v0 (.m 20 v1)) (.n 120)],.r 0 v0 (.n 200),[[1,1]]⟩,
  ⟨[.r 1 (.n 1) v0],.i 1 (.n 1) (.c v0),[[1,1]]⟩,
  ⟨[],.r 2 (.a (.n 0) v0) v0,[[1],[1]]⟩,
  ⟨[.r 2 v0 v1,.r 0 v1 (.n 6),.r 2 v2 v0],.r 0 v2 (.n 100000),[[1,1,0,1,1]]⟩,
  ⟨[.i 1 (.a (.c (.a v0 (.n 1))) (.n 1)) (.c v1)],.r 1 (.a v0 (.n 2)) v1,[[1,1]]⟩,
  ⟨[.r 0 v0 (.n 1000),.r 2 v1 v2,.r 0 (.a v3 (.m 20 v2)) (.n 120),.r 1 (.a v4 (.n 1)) v1],.r 0 (.a v0 (.a v3 v4)) (.n 90000),[[1,1,20,0,1,20]]⟩,
  ⟨[.r 2 v0 v1,.r 0 v1 (.n 6),.r 1 (.a v2 (.n 1)) v0],.i 1 (.s (.c (.a v2 (.n 1))) (.n 1)) (.n (2^63)),[[1,1,0,1,1]]⟩,
  ⟨[],.i 2 (.a (.c (.a v0 (.n 1))) (.n 1)) (.c (.a v0 (.n 2))),[[1],[1]]⟩,
  ⟨[.r 2 v0 v1,.r 0 v1 (.n 6),.r 1 (.a v2 (.n 1)) v0],.i 1 (.a (.c (.a v2 (.n 1))) (.n 1)) (.n (2^63)),[[1,1,0,1,1]]⟩,
  ⟨[.i 4 (.a (.c (.a v0 (.n 1))) (.n 1)) (.c v1),.r 1 (.a v0 (.n 2)) v1],.i 0 y0 y1,[[0,1,1]]⟩,
  ⟨[.i 4 y0 y1],.i 0 y1 y0,[[1,1]]⟩,
  ⟨[.r 2 (.a v0 v1) v2,.r 1 (.a v0 (.n 1)) v2],.r 0 (.n 1) v1,[[1,0,1,1]]⟩,
  ⟨[.r 2 (.a v0 v1) v2,.r 0 v1 (.a v3 (.n 1)),.r 0 (.a v3 (.n 1)) v1],.r 2 (.a (.a v0 (.n 1)) v3) v2,[[1,1,0,0,1],[1,0,1,1]]⟩],
 [⟨[.r 0 v0 (.n 50),.r 2 v0 (.a v1 (.a (.a v2 v3) v4))],.r 0 (.a v2 v3) (.n 50),[[1,1,0,1]]⟩,
  ⟨[.r 1 (.a v0 (.n 1)) v1],.r 0 v0 v1,[[1,1]]⟩,
  ⟨[.r 1 (.a v0 (.n 1)) v1],.r 0 (.a v0 (.n 2)) v1,[[1,1]]⟩,
  ⟨[.r 0 v0 (.a v1 (.a v2 (.n 2))),.r 0 (.a v1 (.a v2 (.n 2))) v0],.r 2 (.a (.a v2 v1) (.n 2)) v0,[[1,0,1],[1,1]]⟩,
  ⟨[.r 0 (.a v0 v1) (.n 50)],.r 0 v0 (.n 100),[[1,1]]⟩,
  ⟨[.r 0 (.a v0 v1) (.n 50)],.r 0 v1 (.n 100),[[1,1]]⟩,
  ⟨[],.i 2 (.c (.a v0 (.n 1))) (.c (.a v0 (.n 1))),[[1],[1]]⟩,
  ⟨[.r 2 v0 v1,.r 0 v1 (.n 6),.r 1 (.a v2 (.n 1)) v0],.i 1 (.c (.a v2 (.n 1))) (.n (2^63)),[[1,1,0,1,1]]⟩,
  ⟨[.r 0 (.a v0 v1) (.n 50)],.r 0 (.a v0 v1) (.n 100),[[1,1]]⟩,
  ⟨[],.i 2 (.a (.n 0) (.a (.c v0) (.c v1))) (.a (.c v0) (.c v1)),[[1],[1]]⟩,
  ⟨[],.i 2 (.a (.n 0) (.a y0 y1)) (.a y0 y1),[[1],[1]]⟩,
  ⟨[.r 0 (.a v0 v1) (.n 50)],.r 0 (.a v0 v1) (.n 1000),[[1,1]]⟩,
  ⟨[.r 1 (.a v0 (.n 1)) v1,.r 2 v2 v1],.r 0 v0 v2,[[1,1,0,1]]⟩,
  ⟨[.r 2 v0 v1,.r 0 v1 (.n 6),.r 1 (.a v2 (.n 1)) v0,.r 2 v3 v0,.r 0 v4 v3],.r 0 (.a v2 v4) (.n 100000),[[1,2,0,2,1,1,0,1]]⟩,
  ⟨[.r 1 (.a v0 (.n 1)) v1,.r 2 (.a v2 (.n 2)) v1,.r 0 v3 v0,.r 0 (.a v4 (.n 1)) v3],.r 1 v4 v2,[[1,1,0,1,1,1]]⟩,
  ⟨[.r 0 v0 (.n 1000),.r 2 v1 v2,.r 0 (.a v3 (.m 20 v2)) (.n 120),.r 1 (.a v4 (.n 1)) v1,.r 0 v5 (.a (.a v3 v4) (.n 1)),.r 0 (.a v6 v7) (.a v5 v4)],.r 0 (.a v0 v6) (.n 90000),[[1,1,20,0,1,20,1,1]]⟩,
  ⟨[.r 0 v0 (.a v1 (.n 1)),.r 0 (.a v1 (.n 1)) v0],.i 2 (.s (.c v0) (.n 1)) (.c v1),[[1,1],[1,0,1]]⟩,
  ⟨[.r 2 v0 v1,.r 0 v1 (.n 6),.r 1 (.a v2 (.n 1)) v0,.r 0 v3 v2],.i 1 (.s (.c v3) (.n 1)) (.n (2^63)),[[1,1,0,1,1,1]]⟩,
  ⟨[.i 4 (.n 0) (.c v0),.r 1 (.n 0) v0],.i 0 y0 y1,[[0,1,1]]⟩,
  ⟨[.i 1 (.n 0) (.c v0)],.r 1 (.n 0) v0,[[1,1]]⟩,
  ⟨[.r 0 v0 v1,.r 0 v2 v0],.r 0 v2 v1,[[1,1,1]]⟩,
  ⟨[.r 0 (.a v0 v1) (.a v2 v3),.r 0 v4 (.a v0 (.n 1)),.r 0 (.a v5 (.n 1)) v1],.r 0 (.a v4 v5) (.a v2 v3),[[1,1,1,1]]⟩,
  ⟨[.r 0 v0 v1,.r 1 v1 v2,.r 0 v2 (.a v0 (.n 1))],.r 2 v1 v0,[[1,0,1,1],[1,1]]⟩],
 [⟨[.r 2 v0 v1,.r 0 v1 (.n 6),.r 2 (.a v2 (.n 2)) v0,.r 2 v3 v2],.r 0 v3 (.n 100000),[[1,1,0,1,1,0,1]]⟩,
  ⟨[.r 1 (.a v0 (.n 1)) v1,.r 2 (.a v2 (.n 2)) v1,.r 0 v3 v0,.r 2 v4 v2],.r 0 v3 v4,[[1,1,0,1,1,0,1]]⟩,
  ⟨[.r 2 v0 v1,.r 0 v1 (.n 6),.r 1 (.a v2 (.n 1)) v0,.r 0 v3 v2],.r 0 (.a v3 (.a (.n 0) (.n 1))) (.n 100000),[[1,1,0,1,1,1]]⟩,
  ⟨[.r 2 v0 v1,.r 0 v1 (.n 6),.r 1 (.a v2 (.n 1)) v0,.r 2 (.a v3 (.n 2)) v0,.r 0 v4 v2,.r 2 v5 v3,.r 0 v6 v5],.r 0 (.a (.a v4 (.a (.n 0) (.n 1))) v6) (.n 100000),[[1,2,0,2,1,1,0,1,1,0,1]]⟩,
  ⟨[.r 0 (.n 1) v0],.r 0 (.n 1) v0,[[1,1]]⟩,
  ⟨[.r 2 v0 v1,.r 1 (.n 1) v0,.r 0 v1 (.a v2 (.n 1))],.r 0 (.n 1) v2,[[1,1,0,1,1]]⟩,
  ⟨[.r 0 v0 (.n 6),.r 0 v1 v0],.r 0 v1 (.n 6),[[1,1,1]]⟩,
  ⟨[.r 2 v0 v1,.r 0 (.a v2 (.m 20 v1)) (.n 120),.r 1 (.a v3 (.n 1)) v0,.r 0 v4 (.a (.a v2 v3) (.n 1)),.r 0 (.a v5 v6) (.a v4 v3),.r 0 v7 (.a v5 (.n 1)),.r 0 (.a v8 (.n 1)) v1],.r 0 (.a v7 (.m 20 v8)) (.n 120),[[10,20,0,11,20,10,10,10,200]]⟩,
  ⟨[.r 1 (.a v0 (.n 1)) v1,.r 2 (.a v2 (.n 2)) v1,.r 0 v3 v0],.r 0 v3 v2,[[1,1,0,1,1]]⟩,
  ⟨[.r 2 v0 v1,.r 2 (.a v2 (.n 2)) v0,.r 0 v2 (.a v3 v4),.r 0 v1 (.a v5 (.n 1)),.r 0 (.a v3 v4) v2,.r 0 (.a v5 (.n 1)) v1],.r 2 (.a (.a v4 (.a (.n 0) (.n 1))) v3) v5,[[1,1,0,1,0,0,1,1],[1,0,1,0,1,1,0,0,1]]⟩,
  ⟨[.r 0 v0 (.n 50),.r 2 v1 v0],.r 0 v1 (.n 50),[[1,1,1]]⟩,
  ⟨[.r 0 v0 (.a v1 v2),.r 0 (.a v1 v2) v0],.r 2 (.a (.a v2 (.n 1)) v1) (.a v0 (.n 1)),[[1,0,1],[1,1]]⟩,
  ⟨[.r 2 (.a v0 v1) (.a v2 (.n 1)),.r 0 v0 v2],.r 0 (.n 1) v1,[[1,0,1,1]]⟩,
  ⟨[.r 2 (.a v0 v1) (.a v2 (.n 1)),.r 0 v1 (.a v3 (.n 1)),.r 0 (.a v3 (.n 1)) v1],.r 2 (.a (.a v0 (.n 1)) v3) (.a v2 (.n 1)),[[1,1,0,0,1],[1,0,1,1]]⟩,
  ⟨[],.r 2 (.a (.n 6) (.m 6 v0)) (.m 6 (.a v0 (.n 1))),[[1],[1]]⟩,
  ⟨[.r 0 v0 (.n 3)],.r 0 (.m 6 v0) (.n 1000),[[1,6]]⟩,
  ⟨[.i 0 y0 (.n 5)],.i 0 (.m 7 y0) (.n (2^27)),[[1,7]]⟩,
  ⟨[.r 0 v0 (.n 3),.r 0 (.a v1 (.n 1)) (.m 6 v0)],.r 1 v1 (.n 18),[[1,6,1]]⟩,
  ⟨[.r 0 v0 (.n 6),.r 0 v1 (.m 18 v2),.r 0 v2 v0],.r 0 v1 (.n 108),[[1,18,1,18]]⟩,
  ⟨[.r 0 v0 (.n 108)],.r 0 (.a v0 (.a (.n 0) (.n 1))) (.n 100000),[[1,1]]⟩,
  ⟨[.r 1 v0 (.n 18)],.r 0 (.a v0 (.n 1)) (.n 100000),[[1,1]]⟩,
  ⟨[.r 1 v0 (.n 18),.r 0 v1 (.n 108),.r 0 v2 (.a v0 (.n 1))],.r 0 (.a (.a v1 (.a (.n 0) (.n 1))) v2) (.n 100000),[[1,1,1,1]]⟩,
  ⟨[.r 0 v0 (.n 6),.r 0 v1 (.m 18 v0)],.r 0 v1 (.n 108),[[1,18,1]]⟩],
 [⟨[.r 0 v0 (.n 2),.r 0 v1 v0],.r 0 v1 (.n 2),[[1,1,1]]⟩,
  ⟨[.r 0 v0 (.n 108),.r 0 v1 (.n 2)],.r 0 (.a v0 v1) (.n 100000),[[1,1,1]]⟩,
  ⟨[.r 0 v0 (.n 108)],.r 0 (.a v0 (.n 1)) (.n 1000),[[1,1]]⟩,
  ⟨[],.i 2 (.c (.a v0 (.n 1))) (.a (.c v0) (.n 1)),[[1],[1]]⟩,
  ⟨[.r 0 v0 (.n 108)],.r 0 v0 (.n 100000),[[1,1]]⟩,
  ⟨[.r 0 v0 v1,.r 0 v1 (.n 108),.r 2 v0 (.a v2 v3)],.r 0 v2 (.n 1000),[[1,1,1,0,1]]⟩,
  ⟨[.r 1 v0 (.n 5)],.r 0 v0 (.n 6),[[1,1]]⟩,
  ⟨[.r 0 (.n 6) (.a v0 v1),.r 0 (.a v0 v1) (.n 6)],.i 2 (.s (.n 6) (.c v1)) (.c v0),[[1,1],[1,0,1]]⟩,
  ⟨[.r 0 v0 (.n 6)],.r 0 v0 (.n 7),[[1,1]]⟩,
  ⟨[.r 1 v0 (.n 3)],.r 0 v0 (.n 2),[[1,1]]⟩,
  ⟨[.r 0 v0 (.n 6)],.r 0 (.m 3 v0) (.n 1000),[[1,3]]⟩,
  ⟨[],.r 1 (.n 1) (.n 3),[[1]]⟩,
  ⟨[],.r 1 (.n 2) (.n 3),[[1]]⟩,
  ⟨[],.i 0 (.n 0) (.a (.m 3 (.c v0)) (.n 1)),[[1]]⟩,
  ⟨[.r 0 v0 (.n 6),.r 1 v1 v0],.i 1 (.a (.m 3 (.c v1)) (.n 1)) (.n (2^63)),[[1,3,3]]⟩,
  ⟨[],.i 0 (.n 0) (.a (.m 3 (.c v0)) (.n 2)),[[1]]⟩,
  ⟨[.r 0 v0 (.n 6),.r 1 v1 v0],.i 1 (.a (.m 3 (.c v1)) (.n 2)) (.n (2^63)),[[1,3,3]]⟩,
  ⟨[],.i 2 (.a y0 (.a y1 y2)) (.a y1 (.a y0 y2)),[[1],[1]]⟩,
  ⟨[.r 0 (.n 2) v0],.r 0 (.n 1) v0,[[1,1]]⟩,
  ⟨[.r 0 v0 (.n 6)],.r 0 v0 (.n 50),[[1,1]]⟩,
  ⟨[.r 0 v0 (.n 200)],.r 0 (.a v0 (.n 1)) (.n 100000),[[1,1]]⟩,
  ⟨[.r 0 v0 (.n 5)],.r 0 (.a v0 (.n 1)) (.n 500),[[1,1]]⟩,
  ⟨[.r 0 v0 (.n 200)],.r 0 (.a (.a v0 (.n 1)) (.n 1)) (.n 100000),[[1,1]]⟩],
 [⟨[.r 0 v0 (.n 6)],.r 0 (.a (.m 3 v0) v0) (.n 100000),[[1,4]]⟩,
  ⟨[.r 0 v0 (.n 6)],.r 0 (.a (.a (.m 3 v0) v0) (.a (.a (.a (.a (.n 0) (.n 1)) (.n 1)) (.n 1)) (.n 1))) (.n 100000),[[1,4]]⟩,
  ⟨[.r 2 v0 (.n 4)],.r 0 (.n 4) v0,[[1,0,1]]⟩,
  ⟨[.r 2 v0 (.n 4)],.r 0 v0 (.n 4),[[1,1]]⟩,
  ⟨[.r 0 v0 (.n 6)],.r 0 (.a (.a (.m 3 v0) v0) (.a (.a (.a (.a (.n 0) (.n 1)) (.n 1)) (.n 1)) (.n 1))) (.n 1000),[[1,4]]⟩,
  ⟨[.r 1 v0 (.a v1 (.n 1)),.r 1 v2 v0],.r 1 v2 v1,[[1,1,1]]⟩,
  ⟨[.r 1 v0 (.a v1 (.n 1))],.r 0 v0 v1,[[1,1]]⟩,
  ⟨[.r 0 v0 (.n 6),.r 1 v1 (.a v0 (.n 1))],.r 0 v1 (.n 1000),[[1,1,1]]⟩,
  ⟨[.r 0 v0 (.n 6)],.i 1 (.c v0) (.n (2^63)),[[1,1]]⟩,
  ⟨[],.i 0 (.g (.n 2)) (.s (.c v0) (.n 2)),[[1]]⟩,
  ⟨[.r 1 v0 (.n 5)],.i 0 (.s (.c v0) (.n 2)) (.n 2),[[1,1]]⟩,
  ⟨[.r 1 v0 (.n 28)],.r 1 v0 (.n 28),[[1,1]]⟩,
  ⟨[.r 1 v0 (.n 32)],.r 0 v0 (.n 1000),[[1,1]]⟩,
  ⟨[.r 1 v0 (.n 28)],.i 0 (.m 2 (.c v0)) (.n (2^27)),[[1,2]]⟩,
  ⟨[.i 0 (.g (.n 2)) y0],.i 1 (.g (.n (2^64))) y0,[[1,1]]⟩,
  ⟨[.i 0 y0 (.n 2)],.i 1 y0 (.n (2^64)),[[1,1]]⟩,
  ⟨[.r 0 v0 (.n 200)],.r 0 (.a (.a (.a v0 (.n 1)) (.n 1)) (.n 1)) (.n 100000),[[1,1]]⟩,
  ⟨[.r 0 v0 (.n 0)],.r 0 (.a v0 (.n 1)) (.n 500),[[1,1]]⟩,
  ⟨[.r 0 v0 (.n 200)],.r 0 (.a (.a (.a (.a v0 (.n 1)) (.n 1)) (.n 1)) (.n 1)) (.n 300),[[1,1]]⟩,
  ⟨[.r 0 v0 (.n 5),.r 1 v1 v0],.r 0 v1 (.n 4),[[1,1,1]]⟩,
  ⟨[.r 0 (.n 4) (.a v0 v1),.r 0 (.a v0 v1) (.n 4)],.i 2 (.s (.a (.c v2) (.n 4)) (.c v1)) (.c (.a v2 v0)),[[1,1],[1,0,1]]⟩,
  ⟨[.r 1 v0 (.n 28),.r 0 v1 (.n 4)],.r 1 (.a v0 v1) (.n 32),[[1,1,1]]⟩,
  ⟨[.r 0 v0 (.n 6)],.r 0 (.m 6 v0) (.n 1000),[[1,6]]⟩],
 [⟨[.r 0 v0 (.n 5)],.r 0 (.a v0 (.n 1)) (.n 1000),[[1,1]]⟩,
  ⟨[.r 0 v0 (.n 300)],.r 0 v0 (.n 1000),[[1,1]]⟩,
  ⟨[.r 0 v0 (.n 6)],.r 0 (.m 3 v0) (.n 100000),[[1,3]]⟩,
  ⟨[.r 0 v0 (.n 6)],.r 0 (.a v0 (.a (.n 0) (.n 1))) (.n 100000),[[1,1]]⟩,
  ⟨[.r 0 v0 (.n 5)],.r 0 (.a v0 (.n 1)) (.n 16777216),[[1,1]]⟩,
  ⟨[],.r 2 (.a (.a (.a (.n 0) (.n 1)) (.n 1)) (.m 2 v0)) (.m 2 (.a v0 (.n 1))),[[1],[1]]⟩,
  ⟨[.r 0 v0 (.n 6)],.r 0 (.m 2 v0) (.n 1000),[[1,2]]⟩,
  ⟨[],.i 0 (.n 0) (.a (.c v0) (.n 1)),[[1]]⟩,
  ⟨[.r 0 v0 (.n 6),.r 1 v1 v0],.i 1 (.a (.c v1) (.n 1)) (.n (2^63)),[[1,1,1]]⟩,
  ⟨[.r 0 v0 (.n 12)],.r 0 v0 (.n 100),[[1,1]]⟩,
  ⟨[.r 0 v0 (.n 6)],.r 0 (.m 2 v0) (.n 12),[[1,2]]⟩,
  ⟨[.r 0 v0 (.n 1)],.r 0 (.a v0 (.n 1)) (.n 500),[[1,1]]⟩,
  ⟨[],.i 2 (.a (.a y0 y1) (.a y2 y3)) (.a (.a y0 y2) (.a y1 y3)),[[1],[1]]⟩,
  ⟨[],.i 2 (.a (.s y0 y1) (.s y2 y3)) (.s (.a y0 y2) (.a y1 y3)),[[1],[1]]⟩,
  ⟨[],.i 2 (.n 0) (.w y0 0),[[1],[1]]⟩,
  ⟨[],.i 2 (.a (.n 0) (.m 0 y0)) (.n 0),[[1],[1]]⟩,
  ⟨[],.i 2 (.a (.n 0) (.m 1 y0)) y0,[[1],[1]]⟩,
  ⟨[],.i 2 (.a y0 (.m 0 y1)) y0,[[1],[1]]⟩,
  ⟨[.i 0 (.n 1) y0],.i 0 (.n 0) (.s y0 (.n 1)),[[1,1]]⟩,
  ⟨[.r 1 (.a v0 (.n 1)) v1,.r 1 v2 v0],.r 1 v2 (.a v1 (.n 1)),[[1,1,1]]⟩,
  ⟨[.r 1 (.a v0 (.n 1)) v1,.r 1 v2 v0],.r 1 (.a v2 (.n 2)) (.a v1 (.n 1)),[[1,1,1]]⟩,
  ⟨[.i 1 y0 y1],.i 0 (.n 0) (.s (.s y1 y0) (.n 1)),[[1,1]]⟩,
  ⟨[.r 1 (.a v0 (.n 1)) v1],.r 1 v0 (.a v1 (.n 1)),[[1,1]]⟩],
 [⟨[.i 0 y0 y1],.i 0 (.n 0) (.s y1 y0),[[1,1]]⟩,
  ⟨[.r 1 (.a v0 (.n 1)) v1,.r 1 v2 v3,.r 0 (.a v3 v4) v0],.r 1 (.a v4 v2) (.a v1 (.n 1)),[[1,1,1,1]]⟩,
  ⟨[.r 1 v0 v1,.r 0 (.a v1 v2) v3],.r 1 (.a v2 v0) v3,[[1,1,1]]⟩,
  ⟨[.i 1 y0 (.a y1 y2)],.i 0 (.n 0) (.s (.s (.a y1 y2) y0) (.n 1)),[[1,1]]⟩,
  ⟨[.r 1 (.a v0 (.n 1)) v1,.r 0 v2 v0,.r 0 v3 v2],.r 1 v3 (.a v1 (.n 1)),[[1,1,1,1]]⟩,
  ⟨[.i 0 (.a y0 y1) y2],.i 0 (.n 0) (.s (.s y2 y0) y1),[[1,1]]⟩,
  ⟨[.i 1 (.a y0 y1) (.n 0),.i 0 (.n 0) (.a (.n 0) (.w (.a y0 y1) 1))],.r 4 v0 v1,[[0,1,1]]⟩,
  ⟨[.r 1 v0 v1,.r 0 v1 v2],.r 1 v0 v2,[[1,1,1]]⟩,
  ⟨[.r 1 (.a v0 (.n 1)) (.n 2)],.r 1 v0 (.n 1),[[1,1]]⟩,
  ⟨[.r 1 (.a v0 (.n 1)) (.n 3)],.r 1 v0 (.n 2),[[1,1]]⟩,
  ⟨[.r 1 (.a v0 (.n 1)) (.n 4)],.r 1 v0 (.n 3),[[1,1]]⟩,
  ⟨[.r 1 (.a v0 (.n 1)) (.n 5)],.r 1 v0 (.n 4),[[1,1]]⟩,
  ⟨[.r 1 (.a v0 (.n 1)) (.n 6)],.r 1 v0 (.n 5),[[1,1]]⟩,
  ⟨[],.i 2 (.a (.a y0 (.n 1)) (.c v0)) (.a y0 (.a (.c v0) (.n 1))),[[1],[1]]⟩,
  ⟨[],.i 2 (.a y0 (.c (.n 0))) y0,[[1],[1]]⟩,
  ⟨[.r 0 v0 v1,.r 2 (.a v2 (.n 1)) v3,.r 1 (.a v1 (.n 1)) v3],.r 1 v0 v2,[[1,1,0,1,1]]⟩,
  ⟨[.r 0 v0 v1,.r 2 (.a v2 (.n 1)) v3,.r 1 (.a v1 (.n 1)) v3],.r 0 (.a v0 (.n 1)) v2,[[1,1,0,1,1]]⟩,
  ⟨[.r 2 (.a v0 (.n 1)) v1,.r 2 (.a v2 (.n 2)) v1,.r 0 v0 (.a v3 (.a v4 (.n 1))),.r 0 (.a v3 (.a v4 (.n 1))) v0],.r 2 (.a v4 v3) v2,[[1,1,0,0,1,0,1],[1,0,1,1,0,1]]⟩,
  ⟨[.r 0 v0 v1,.r 2 (.a v2 (.n 1)) v3,.r 1 (.a v1 (.n 1)) v3],.r 0 v0 v2,[[1,1,0,1,1]]⟩,
  ⟨[.r 0 v0 v1,.r 1 (.a v1 (.n 1)) v2,.r 2 (.a v3 (.n 2)) v2],.r 0 v0 v3,[[1,1,1,0,1]]⟩,
  ⟨[.r 0 v0 v1,.r 0 v2 v1,.r 0 v1 v0,.r 0 v1 v2],.r 2 (.a v0 (.a (.n 0) (.n 1))) (.a v2 (.a (.n 0) (.n 1))),[[1,1,0,0,1],[1,0,1,1]]⟩,
  ⟨[.r 0 v0 v1,.r 0 v2 v1,.r 0 v1 v0,.r 0 v1 v2],.r 2 v0 v2,[[1,1,0,0,1],[1,0,1,1]]⟩,
  ⟨[.r 1 (.a v0 (.n 1)) v1,.r 2 (.a v2 (.n 2)) v1,.r 2 v3 v2],.r 0 v0 v3,[[1,1,0,1,0,1]]⟩],
 [⟨[.r 0 v0 v1,.r 0 v2 v1,.r 0 v1 v0,.r 0 v1 v2],.r 2 (.a v0 (.a (.a (.n 0) (.n 1)) (.n 1))) (.a v2 (.a (.a (.n 0) (.n 1)) (.n 1))),[[1,1,0,0,1],[1,0,1,1]]⟩,
  ⟨[.r 4 v0 v1,.r 0 v2 v1],.r 0 v2 v0,[[1,1,1]]⟩,
  ⟨[.r 0 v0 (.a v1 v2),.r 0 v2 v3,.r 0 (.a v1 v2) v0,.r 0 v3 v2],.r 2 (.a (.a v3 (.n 2)) v1) (.a v0 (.n 2)),[[1,0,0,1,1],[1,1,1]]⟩,
  ⟨[.r 1 (.a v0 (.n 1)) v1],.r 0 (.n 1) v1,[[1,1]]⟩,
  ⟨[.r 2 (.a v0 (.n 2)) v1,.r 0 v0 (.a v2 v3),.r 0 v1 (.a v4 (.n 1)),.r 0 (.a v2 v3) v0,.r 0 (.a v4 (.n 1)) v1],.r 2 (.a (.a v3 (.a (.n 0) (.n 1))) v2) v4,[[1,1,0,0,1,1],[1,0,1,1,0,0,1]]⟩,
  ⟨[.r 0 v0 (.n 6),.r 2 v1 v2,.r 0 v2 v0],.r 0 v1 (.n 6),[[1,1,1,0,1]]⟩,
  ⟨[.i 0 (.n 1) y0,.i 0 (.n 1) y1],.i 0 (.n 1) (.a y0 y1),[[1,1,1]]⟩,
  ⟨[.r 2 v0 v1,.r 1 (.a v2 (.n 1)) v1],.r 0 v2 v0,[[1,0,1,1]]⟩,
  ⟨[.r 1 (.a v0 (.n 1)) v1,.r 1 v2 v0],.r 1 (.a v2 (.n 2)) v1,[[1,1,1]]⟩,
  ⟨[.r 1 (.a v0 (.n 1)) v1,.r 1 v2 v0],.r 1 v2 v1,[[1,1,1]]⟩,
  ⟨[.r 0 v0 v1,.r 1 (.a v1 (.n 1)) v2,.r 0 v3 v0],.r 1 v3 v2,[[1,1,1,1]]⟩,
  ⟨[.r 0 v0 v1,.r 0 (.a v2 (.n 1)) v0],.r 1 v2 v1,[[1,1,1]]⟩,
  ⟨[.r 1 (.a v0 (.n 1)) v1,.r 0 v1 (.a v2 (.n 1))],.r 0 (.n 1) v2,[[1,1,1]]⟩,
  ⟨[.r 0 v0 v1,.r 1 (.a v1 (.n 1)) v2,.r 1 v3 v0],.r 1 v3 (.a v2 (.n 1)),[[1,1,1,1]]⟩,
  ⟨[.r 0 v0 v1,.r 1 (.a v1 (.n 1)) v2,.r 1 v3 v0],.r 1 v3 v2,[[1,1,1,1]]⟩,
  ⟨[.r 2 v0 v1,.r 0 v1 (.a v2 (.n 1)),.r 0 (.a v2 (.n 1)) v1],.r 2 (.a v2 (.n 1)) v0,[[1,0,1,0,1],[1,1,0,1]]⟩,
  ⟨[],.i 2 y0 (.a y0 (.n 0)),[[1],[1]]⟩,
  ⟨[],.i 2 (.a (.a y0 y1) y2) (.a y0 (.a y1 y2)),[[1],[1]]⟩,
  ⟨[],.r 0 v0 (.a v0 v1),[[1]]⟩,
  ⟨[.r 0 (.a v0 v1) (.a v2 v0),.r 0 (.a v2 v0) (.a v0 v1)],.r 2 v2 v1,[[1,0,1],[1,1]]⟩,
  ⟨[],.i 2 (.a y0 (.n 0)) (.m 1 y0),[[1],[1]]⟩,
  ⟨[.r 0 (.n 1) v0,.r 0 v0 (.a (.n 0) (.n 1))],.r 2 v0 (.n 1),[[1,0,1],[1,1]]⟩,
  ⟨[],.i 2 (.a (.m 0 y0) (.n 0)) (.n 0),[[1],[1]]⟩],
 [⟨[.r 0 (.n 1) v0,.r 0 v0 (.n 1)],.r 2 v0 (.n 1),[[1,0,1],[1,1]]⟩,
  ⟨[.r 0 v0 (.a (.a v1 (.n 1)) (.n 1)),.r 1 v2 v3,.r 0 (.a v3 (.n 1)) v0],.r 0 (.a v2 (.n 1)) (.a v1 (.n 1)),[[1,1,1,1]]⟩,
  ⟨[.r 1 v0 v1,.r 0 v2 (.a v3 (.a v0 (.n 1))),.r 0 (.a v1 (.n 1)) v2],.r 0 (.n 1) v3,[[1,1,1,1]]⟩,
  ⟨[.r 0 v0 (.a (.a v1 (.n 1)) (.n 1)),.r 0 (.a v2 (.a v3 (.n 1))) v0],.r 0 v2 (.a v1 (.n 1)),[[1,1,1]]⟩,
  ⟨[.r 2 v0 (.a v1 (.n 1)),.r 2 v2 v3,.r 0 v4 (.a v3 (.a v1 (.n 1))),.r 0 (.a v3 (.a v1 (.n 1))) v4],.r 2 (.a v0 v2) v4,[[1,1,0,1,0,0,1],[1,0,1,0,1,1]]⟩,
  ⟨[.r 0 v0 (.a v1 (.a v2 (.n 1))),.r 0 (.a v1 (.a v2 (.n 1))) v0],.r 2 (.a (.a v2 (.n 1)) v1) v0,[[1,0,1],[1,1]]⟩,
  ⟨[.i 0 y0 y1,.i 0 y2 y3,.i 0 y4 (.a y0 y2)],.i 0 (.a y4 y5) (.a (.a y1 y3) y5),[[1,1,1,1]]⟩,
  ⟨[.r 3 v0 (.n 1),.r 2 v1 (.n 0),.r 0 v0 (.a v1 (.n 1))],.r 3 (.n 1) v0,[[0,1,1,0,1]]⟩,
  ⟨[.r 2 v0 v1],.r 0 v0 v1,[[1,1]]⟩,
  ⟨[.r 2 v0 v1,.r 0 v2 v0,.r 0 v0 v2],.r 2 v2 v1,[[1,1,0,1],[1,0,1,0,1]]⟩,
  ⟨[.r 0 v0 (.n 6),.r 2 v1 v0],.r 0 v1 (.n 6),[[1,1,1]]⟩,
  ⟨[.r 0 v0 (.n 6)],.r 0 v0 (.a (.n 9) (.n 1)),[[1,1]]⟩,
  ⟨[.r 1 v0 (.n 32)],.r 0 v0 (.n 31),[[1,1]]⟩,
  ⟨[.r 0 (.n 31) (.a v0 v1),.r 0 (.a v0 v1) (.n 31)],.r 2 (.n 32) (.a v1 (.a v0 (.n 1))),[[1,1],[1,0,1]]⟩,
  ⟨[.r 1 (.m 4294967296 v0) (.n 4294967296)],.r 2 v0 (.n 0),[[4294967296,1],[1]]⟩,
  ⟨[],.i 2 (.a (.m (2^32) (.c (.n 0))) (.w y0 (2^32))) (.w y0 (2^32)),[[1],[1]]⟩,
  ⟨[.r 2 (.a v0 (.a v1 (.n 1))) (.n 32)],.r 1 v0 (.n 32),[[1,1]]⟩,
  ⟨[.r 0 (.w v0 2) v1],.r 0 (.m 2 v0) v1,[[1,1]]⟩,
  ⟨[.r 1 v0 (.n 4294967296),.r 0 v1 v0,.i 2 (.a (.c v1) (.w y0 4294967296)) (.n 0)],.i 2 y0 (.n 0),[[4294967296,0,0,1],[4294967296,1,1,0,1]]⟩,
  ⟨[.i 2 (.a (.c v0) (.m 0 (.n 4294967296))) (.n 0)],.r 2 v0 (.n 0),[[1,1],[1]]⟩,
  ⟨[.r 2 (.a v0 (.a v1 (.n 1))) (.n 32)],.r 2 (.a (.a v0 (.n 1)) v1) (.n 32),[[1,1],[1,0,1]]⟩,
  ⟨[.r 1 v0 (.n 28)],.r 0 v0 (.n 27),[[1,1]]⟩,
  ⟨[.r 0 v0 (.a (.a (.a v1 v2) v3) (.m 22 v4)),.r 0 v2 (.n 20),.r 2 v3 (.n 2)],.r 0 v0 (.a v1 (.m 22 (.a v4 (.n 1)))),[[1,1,1,1]]⟩],
 [⟨[.r 0 v0 (.m 20 v1),.r 0 v2 (.n 20)],.r 0 (.a v2 v0) (.m 20 (.a v1 (.n 1))),[[1,1,1]]⟩,
  ⟨[.r 0 v0 (.n 6),.r 0 v1 (.a v2 (.w v0 2)),.r 0 v2 (.m 20 v0)],.r 0 v1 (.n 132),[[1,22,1,1]]⟩,
  ⟨[.r 0 v0 (.n 6),.r 0 v1 (.a (.n 0) (.m 22 v0)),.r 0 (.n 1000) v2],.r 4 v2 v1,[[1,22,1,1]]⟩,
  ⟨[.r 0 v0 (.n 20)],.r 0 v0 (.n 1000),[[1,1]]⟩,
  ⟨[.r 0 v0 (.a v1 v2),.r 0 (.a v1 v2) v0],.r 2 v0 (.a v2 v1),[[1,1],[1,0,1]]⟩,
  ⟨[.r 1 v0 (.a v1 v2),.r 0 (.a v3 v1) v0],.r 1 v3 v2,[[1,1,1]]⟩,
  ⟨[.r 2 v0 v1],.r 0 v0 (.a v1 v2),[[1,1]]⟩,
  ⟨[.r 0 (.a v0 v1) v2],.r 4 v2 v1,[[1,1]]⟩,
  ⟨[],.r 4 (.n 1) (.n 1),[[1]]⟩,
  ⟨[.r 0 v0 (.n 132)],.r 0 v0 (.n 1000),[[1,1]]⟩,
  ⟨[.r 0 v0 (.n 132),.r 0 v1 (.a v0 (.n 1)),.r 0 v2 (.a v1 (.n 1))],.r 0 v2 (.n 1000),[[1,1,1,1]]⟩,
  ⟨[.r 0 v0 (.n 4)],.r 1 v0 (.n 5),[[1,1]]⟩,
  ⟨[.r 2 (.a v0 v1) (.a v0 v2)],.r 2 v1 v2,[[1,1],[1,0,1]]⟩,
  ⟨[.r 1 (.n 0) v0],.i 1 (.n 0) (.c v0),[[1,1]]⟩,
  ⟨[.r 4 (.n 0) v0],.i 4 (.n 0) (.c v0),[[1,1]]⟩,
  ⟨[.r 0 (.n (64^5)) v0],.r 0 (.n (64^4)) v0,[[1,1]]⟩,
  ⟨[.r 0 (.n (64^5)) v0],.r 0 (.n (64^3)) v0,[[1,1]]⟩,
  ⟨[.r 0 (.n (64^5)) v0],.r 0 (.n (64^2)) v0,[[1,1]]⟩,
  ⟨[.r 0 (.n (64^5)) v0],.r 0 (.n (64^1)) v0,[[1,1]]⟩,
  ⟨[.r 0 (.n 1073741824) v0],.r 0 (.n 1073741824) v0,[[1,1]]⟩,
  ⟨[.r 0 (.n 1073741824) v0],.r 0 (.n 16777216) v0,[[1,1]]⟩,
  ⟨[.r 0 (.n 1073741824) v0],.r 0 (.n 262144) v0,[[1,1]]⟩,
  ⟨[.r 0 (.n 1073741824) v0],.r 0 (.n 4096) v0,[[1,1]]⟩],
 [⟨[.r 0 (.n 1073741824) v0],.r 0 (.n 64) v0,[[1,1]]⟩,
  ⟨[.r 0 (.n (64^4)) v0],.r 0 (.n 262144) v0,[[1,1]]⟩,
  ⟨[.r 0 (.n (64^4)) v0],.r 0 (.n 4096) v0,[[1,1]]⟩,
  ⟨[.r 0 (.n (64^4)) v0],.r 0 (.n 64) v0,[[1,1]]⟩,
  ⟨[.r 0 (.n (64^3)) v0],.r 0 (.n 4096) v0,[[1,1]]⟩,
  ⟨[.r 0 (.n (64^3)) v0],.r 0 (.n 64) v0,[[1,1]]⟩,
  ⟨[.r 0 (.n (64^2)) v0],.r 0 (.n 64) v0,[[1,1]]⟩,
  ⟨[],.i 2 (.w (.c v0) 64) (.c (.m 64 v0)),[[1],[1]]⟩,
  ⟨[],.i 2 (.s (.a (.c (.m 64 v0)) (.c v1)) (.c (.n 0))) (.c (.a (.m 64 v0) v1)),[[1],[1]]⟩,
  ⟨[.r 1 v0 (.n (64^6)),.r 0 v1 v0],.r 1 v1 (.n (2^64)),[[1,1,1]]⟩,
  ⟨[.r 1 v0 (.n 64)],.r 1 v0 (.n 64),[[1,1]]⟩,
  ⟨[],.r 2 (.a (.a v0 (.n 1)) v1) (.a v0 (.a v1 (.n 1))),[[1],[1]]⟩,
  ⟨[.r 1 v0 v1,.r 0 (.a v1 (.n 1)) (.a v2 (.n 1))],.r 0 (.a v0 (.n 1)) v2,[[1,1,1]]⟩,
  ⟨[],.r 0 (.n 1) (.a v0 (.n 1)),[[1]]⟩,
  ⟨[.r 1 v0 v1],.r 0 (.n 1) v1,[[1,1]]⟩,
  ⟨[.r 0 v0 (.a v1 (.a v2 (.n 1))),.r 0 (.a v3 (.n 1)) (.a v0 (.n 1)),.r 0 v4 (.a v5 v2),.r 0 v3 (.a v4 (.n 1)),.r 0 (.a v1 (.a v2 (.n 1))) v0,.r 0 (.a v0 (.n 1)) (.a v3 (.n 1)),.r 0 (.a v5 v2) v4,.r 0 (.a v4 (.n 1)) v3],.r 2 v1 v5,[[1,0,0,1,1,1,1],[1,1,1,0,0,0,0,1,1]]⟩,
  ⟨[],.r 2 (.a v0 (.a v1 (.n 1))) (.a (.a v0 (.n 1)) v1),[[1],[1]]⟩,
  ⟨[],.r 2 (.a (.a v0 (.n 1)) v1) (.a v0 (.a (.n 1) v1)),[[1],[1]]⟩,
  ⟨[],.r 2 (.a (.n 1) v0) (.a v0 (.n 1)),[[1],[1]]⟩,
  ⟨[],.i 2 (.c v0) (.a (.c (.n 0)) (.c v0)),[[1],[1]]⟩,
  ⟨[.r 0 v0 (.n 6),.r 1 v1 v0],.r 1 v1 (.n 6),[[1,1,1]]⟩,
  ⟨[.r 0 v0 v1,.r 1 (.n 0) v2],.r 0 (.a v0 (.n 1)) (.a v2 v1),[[1,1,1]]⟩,
  ⟨[.r 0 v0 v1,.r 0 v2 v3],.r 0 (.a v2 v0) (.a v3 v1),[[1,1,1]]⟩],
 [⟨[.r 0 v0 (.a v1 v2),.r 0 (.a v1 v2) v0],.r 2 (.a v2 v1) v0,[[1,0,1],[1,1]]⟩,
  ⟨[.r 3 v0 v1],.r 0 v1 v0,[[1,1]]⟩,
  ⟨[],.r 4 v0 (.n 0),[[1]]⟩,
  ⟨[],.r 4 v0 v0,[[1]]⟩,
  ⟨[],.i 2 (.a (.a y0 (.n 0)) (.a y1 (.w (.c v0) 1))) (.a (.a y0 y1) (.c v0)),[[1],[1]]⟩,
  ⟨[],.i 2 (.a (.a y0 (.c v0)) (.a y1 (.w (.c v1) 0))) (.a (.a y0 y1) (.c v0)),[[1],[1]]⟩,
  ⟨[],.i 2 (.a (.a y0 (.n 0)) (.a y1 (.w (.c v0) 0))) (.a (.a y0 y1) (.n 0)),[[1],[1]]⟩,
  ⟨[],.i 2 (.a (.a y0 (.c v0)) (.a y1 (.n 1))) (.a (.a y0 y1) (.a (.c v0) (.n 1))),[[1],[1]]⟩,
  ⟨[.i 1 y0 y1],.i 3 y1 y0,[[1,1]]⟩,
  ⟨[.i 0 (.c v0) (.n 1)],.r 0 v0 (.n 1),[[1,1]]⟩,
  ⟨[.r 0 (.n 2) v0],.r 0 (.n 2) v0,[[1,1]]⟩,
  ⟨[.r 0 v0 (.a v1 (.n 2)),.r 0 (.a v1 (.n 2)) v0],.r 2 (.a v1 (.n 2)) v0,[[1,0,1],[1,1]]⟩,
  ⟨[],.i 2 (.a (.c (.n 0)) (.a y0 y1)) (.a y0 y1),[[1],[1]]⟩,
  ⟨[],.i 2 (.a (.c (.a v0 (.n 1))) y0) (.a (.a (.c v0) y0) (.n 1)),[[1],[1]]⟩,
  ⟨[],.i 2 (.a y0 (.w (.c v0) 1)) (.a y0 (.c v0)),[[1],[1]]⟩,
  ⟨[.r 2 (.a v0 v1) v2,.r 1 v1 v3],.i 1 (.a (.c v2) y0) (.a y0 (.a (.c v0) (.c v3))),[[1,0,1,1]]⟩,
  ⟨[],.i 1 y0 (.a y0 (.n 1)),[[1]]⟩,
  ⟨[],.i 0 y0 (.a y0 (.n 1)),[[1]]⟩,
  ⟨[],.i 1 y0 (.a (.a y0 (.n 1)) (.n 1)),[[1]]⟩,
  ⟨[],.i 1 y0 (.a (.a (.a (.a y0 (.n 1)) (.n 1)) (.n 1)) (.n 1)),[[1]]⟩,
  ⟨[],.i 1 y0 (.a (.a (.a (.a (.a y0 (.n 1)) (.n 1)) (.n 1)) (.n 1)) (.n 1)),[[1]]⟩,
  ⟨[.i 1 (.a y0 (.n 1)) y1],.i 0 (.a y0 (.n 1)) y1,[[1,1]]⟩,
  ⟨[],.i 3 (.a y0 (.n 1)) y0,[[1]]⟩],
 [⟨[],.r 1 v0 (.a v0 (.n 2)),[[1]]⟩,
  ⟨[],.i 0 (.a y0 (.n 1)) (.a y0 (.n 1)),[[1]]⟩,
  ⟨[.r 0 (.a v0 (.n 3)) v1,.r 0 v2 (.n 1),.r 0 v1 v2],.i 3 y0 y1,[[0,1,1,1]]⟩,
  ⟨[.r 0 (.a v0 (.n 3)) v1,.r 0 v1 v2],.r 0 (.a v0 (.n 3)) v2,[[1,1,1]]⟩,
  ⟨[],.r 1 (.a v0 (.n 2)) (.a v0 (.n 3)),[[1]]⟩,
  ⟨[.r 0 (.a v0 (.n 2)) v1,.r 0 v1 (.n 1)],.i 3 y0 y1,[[0,1,1]]⟩,
  ⟨[],.r 1 (.a v0 (.n 1)) (.a v0 (.n 2)),[[1]]⟩,
  ⟨[.r 1 v0 (.n 3)],.r 1 v0 (.n 3),[[1,1]]⟩,
  ⟨[],.r 0 (.a v0 (.n 1)) (.a (.a v0 v1) (.n 1)),[[1]]⟩,
  ⟨[.r 0 (.a v0 v1) v2],.r 0 (.a v1 v0) v2,[[1,1]]⟩,
  ⟨[.r 1 (.a v0 (.n 1)) v1,.r 0 v1 (.a v2 (.n 1))],.r 0 (.a v0 (.n 1)) v2,[[1,1,1]]⟩,
  ⟨[.r 1 (.a v0 (.n 1)) v1],.r 0 (.a (.a v0 (.n 1)) (.n 1)) v1,[[1,1]]⟩,
  ⟨[.r 0 (.a (.a v0 (.n 1)) (.n 1)) v1],.r 1 (.a v0 (.n 1)) v1,[[1,1]]⟩,
  ⟨[.r 1 (.a v0 (.n 1)) v1,.r 0 v1 (.a v2 (.n 1))],.r 0 v0 v2,[[1,1,1]]⟩,
  ⟨[.r 1 (.a v0 (.n 1)) (.a v1 (.n 1)),.r 1 v2 v3,.r 0 v3 (.a v0 (.n 1))],.r 1 v2 v1,[[1,1,1,1]]⟩,
  ⟨[.r 1 v0 (.n 4)],.r 1 v0 (.n 4),[[1,1]]⟩,
  ⟨[.r 0 (.a v0 (.n 1)) v1,.r 0 v1 v2],.r 0 (.n 1) v2,[[1,1,1]]⟩,
  ⟨[.r 0 (.a v0 (.n 1)) v1,.r 0 (.a v1 (.n 1)) v2],.r 1 (.a v0 (.n 1)) v2,[[1,1,1]]⟩,
  ⟨[.r 0 (.a v0 (.n 1)) v1,.r 0 v2 (.w v0 12),.r 0 v3 (.a v0 (.n 1)),.r 0 v4 (.n 12),.r 0 v1 v4],.r 0 (.a v2 v3) (.w (.a v0 (.n 1)) 12),[[1,1,1,1,1,1]]⟩,
  ⟨[.r 0 v0 (.w v1 12),.r 0 v2 (.n 12),.r 0 v1 v2],.r 0 v0 (.n 300),[[1,1,12,12]]⟩,
  ⟨[.r 0 v0 (.n 6),.r 3 v0 (.n 5)],.r 2 v0 (.n 6),[[1,1],[1,0,1]]⟩,
  ⟨[.r 1 v0 v1],.r 3 v1 v0,[[1,1]]⟩,
  ⟨[.r 0 v0 v1],.r 0 v0 (.a v1 (.a (.n 1) v2)),[[1,1]]⟩],
 [⟨[],.r 1 v0 (.a v0 (.a (.n 1) v1)),[[1]]⟩,
  ⟨[],.i 4 (.m 3 (.c v0)) (.n 0),[[1]]⟩,
  ⟨[.r 2 v0 v1,.r 0 v0 (.n 60)],.r 0 v1 (.n 60),[[1,0,1,1]]⟩,
  ⟨[.i 0 (.n 0) y0,.i 0 (.n 0) y1],.i 0 (.n 0) (.a y1 y0),[[1,1,1]]⟩,
  ⟨[.i 0 y0 (.m 10000000000 (.c v0)),.i 1 y1 (.n 10000000000)],.i 0 (.a y1 y0) (.m 10000000000 (.a (.c v0) (.n 1))),[[1,1,1]]⟩,
  ⟨[.i 0 (.n 3) y0,.i 0 (.n 0) y1],.i 0 (.n 3) (.a y0 y1),[[1,1,1]]⟩,
  ⟨[.i 0 y0 (.n 1915),.i 0 y1 (.m 10000000000 (.c v0)),.r 0 v0 v1,.r 0 v1 (.n 60)],.i 1 (.a y0 y1) (.n 1000000000000),[[1,1,1,10000000000,10000000000]]⟩,
  ⟨[.r 0 v0 (.n 12)],.r 1 v0 (.n 64),[[1,1]]⟩,
  ⟨[.r 0 v0 v1],.r 0 (.m 3 v0) (.m 3 v1),[[1,3]]⟩,
  ⟨[.r 0 v0 (.a v1 (.n 1)),.r 0 (.a v1 (.n 1)) v0],.r 2 (.a v1 (.n 1)) v0,[[1,0,1],[1,1]]⟩,
  ⟨[.r 2 v0 (.a v1 (.a (.n 1) v2))],.r 0 (.n 1) v0,[[1,0,1]]⟩,
  ⟨[.r 0 v0 (.n 6),.r 1 v1 v0],.r 1 v1 (.n 7),[[1,1,1]]⟩,
  ⟨[.i 2 (.c v0) (.c v1)],.r 2 v1 v0,[[1,0,1],[1,1]]⟩,
  ⟨[.i 4 (.c (.n 63)) (.c v0)],.r 0 v0 (.n 1000),[[1,1]]⟩,
  ⟨[],.i 2 (.a (.a (.w y0 1) (.n 0)) (.n 0)) y0,[[1],[1]]⟩,
  ⟨[.i 0 y0 (.n 0),.i 0 y1 (.n 0)],.i 0 (.a y1 y0) (.n 0),[[1,1,1]]⟩,
  ⟨[.i 1 y0 (.n 0),.i 0 y1 (.n 0),.i 2 y2 (.n 0)],.i 3 (.n 0) (.a (.a (.w y0 1) y1) y2),[[1,1,1,1]]⟩,
  ⟨[.r 0 v0 (.a v1 v2)],.r 0 v0 (.a v1 v2),[[1,1]]⟩,
  ⟨[.r 0 v0 (.a v1 v2),.r 2 v1 v3],.r 0 v0 (.a v3 (.a v2 (.n 1))),[[1,1,1]]⟩,
  ⟨[.r 0 v0 (.a v1 v2),.r 2 v1 (.a v3 (.n 1))],.r 0 v0 (.a v3 (.a v2 (.n 1))),[[1,1,1]]⟩,
  ⟨[.i 1 (.n 0) y0],.i 0 (.n 0) y0,[[1,1]]⟩,
  ⟨[.i 4 (.n 0) y0],.i 0 (.n 0) (.g y0),[[1,1]]⟩,
  ⟨[.i 0 y0 (.n 1000),.r 0 v0 (.m 1 v1),.i 0 (.c v1) y0],.r 0 v0 (.n 1000),[[1,1,1,1]]⟩],
 [⟨[.i 0 (.n 0) y0],.i 0 (.g (.n 9223372036854775808)) y0,[[1,1]]⟩,
  ⟨[.i 0 y0 (.n 1000)],.i 1 y0 (.n 9223372036854775808),[[1,1]]⟩,
  ⟨[.r 0 v0 (.n 1000),.r 1 v1 (.a (.w v2 8) (.n 8)),.r 0 (.n (2^63)) (.a v1 (.n 1))],.r 4 v2 v0,[[8,8,1,1]]⟩,
  ⟨[.r 2 (.a v0 (.n 4)) (.a v0 (.n 2))],.r 4 v1 v0,[[0,1]]⟩,
  ⟨[.r 2 (.a v0 (.n 4)) (.a v0 (.n 3))],.r 4 v1 v0,[[0,1]]⟩,
  ⟨[.r 2 (.a v0 (.n 4)) v0],.r 4 v1 v0,[[0,1]]⟩,
  ⟨[.r 2 (.a v0 (.n 4)) (.a v0 (.n 1))],.r 4 v1 v0,[[0,1]]⟩,
  ⟨[.r 2 (.a v0 (.n 2)) (.a v0 (.n 3))],.r 4 v1 v0,[[0,0,1]]⟩,
  ⟨[.r 2 (.a v0 (.n 2)) v0],.r 4 v1 v0,[[0,1]]⟩,
  ⟨[.r 2 (.a v0 (.n 2)) (.a v0 (.n 1))],.r 4 v1 v0,[[0,1]]⟩,
  ⟨[.r 2 (.a v0 (.n 3)) v0],.r 4 v1 v0,[[0,1]]⟩,
  ⟨[.r 2 (.a v0 (.n 3)) (.a v0 (.n 1))],.r 4 v1 v0,[[0,1]]⟩,
  ⟨[.r 2 v0 (.a v1 (.n 4))],.r 4 v0 v1,[[1,0,1]]⟩,
  ⟨[.r 2 v0 (.a v1 (.n 2))],.r 4 v0 v1,[[1,0,1]]⟩,
  ⟨[.r 2 v0 (.a v1 (.n 3))],.r 4 v0 v1,[[1,0,1]]⟩,
  ⟨[.r 2 v0 v1],.r 4 v0 v1,[[1,0,1]]⟩,
  ⟨[.r 2 v0 (.a v1 (.n 1))],.r 4 v0 v1,[[1,0,1]]⟩,
  ⟨[.r 1 v0 v1,.r 2 v0 (.a v1 (.n 4))],.r 4 v2 v1,[[0,1,0,1]]⟩,
  ⟨[.r 1 v0 v1,.r 2 v0 (.a v1 (.n 2))],.r 4 v2 v1,[[0,1,0,1]]⟩,
  ⟨[.r 1 v0 v1,.r 2 v0 (.a v1 (.n 3))],.r 4 v2 v1,[[0,1,0,1]]⟩,
  ⟨[.r 1 v0 v1,.r 2 v0 v1],.r 4 v2 v1,[[0,1,0,1]]⟩,
  ⟨[.r 1 v0 v1,.r 2 v0 (.a v1 (.n 1))],.r 4 v2 v1,[[0,1,0,1]]⟩,
  ⟨[.i 0 (.c v0) (.c v1),.i 0 (.c v1) (.c v0)],.r 2 v1 v0,[[1,0,1],[1,1]]⟩],
 [⟨[],.i 0 (.n 0) (.n 0),[[1]]⟩,
  ⟨[.r 4 (.n 0) v0,.i 0 (.c v1) (.n 0)],.r 2 v1 v0,[[1,0,1],[1,1]]⟩,
  ⟨[.i 4 (.n 1) (.c (.a v0 (.n 1)))],.r 2 v0 (.n 0),[[1,1],[1]]⟩,
  ⟨[.r 1 v0 (.n 0)],.r 3 (.a v0 (.n 1)) (.n 1),[[0,1]]⟩,
  ⟨[.r 1 (.n 0) v0],.r 3 (.a v0 (.n 1)) (.n 1),[[1,1]]⟩,
  ⟨[.r 1 v0 v1],.i 0 (.n 0) (.s (.c v1) (.c v0)),[[1,1]]⟩,
  ⟨[.i 0 (.s (.c v0) (.c v1)) (.c v2),.r 0 v0 (.a v3 v1),.i 0 (.c v2) (.s (.c v0) (.c v1)),.r 0 (.a v3 v1) v0],.r 2 v2 v3,[[1,0,1,1],[1,1,0,0,1]]⟩,
  ⟨[.r 4 v0 v1],.r 0 v1 v0,[[1,1]]⟩,
  ⟨[.i 0 (.c v0) (.n 0),.r 0 v1 (.n 0)],.r 2 v0 v1,[[1,1],[1,0,1]]⟩,
  ⟨[.r 0 (.n 2) v0],.i 1 (.n 0) (.c v0),[[1,1]]⟩,
  ⟨[.i 0 (.n 0) y0,.i 4 (.s (.c v0) (.n 1)) y0],.i 0 (.n 0) (.s (.c v0) (.n 1)),[[1,1,1]]⟩,
  ⟨[.r 0 v0 (.n 100)],.i 0 (.s (.c v0) (.n 1)) (.n 100),[[1,1]]⟩,
  ⟨[.i 0 (.n 0) y0],.i 0 (.n 1) (.a y0 (.n 1)),[[1,1]]⟩,
  ⟨[.i 0 y0 (.n 100)],.i 0 (.a y0 (.n 1)) (.n 101),[[1,1]]⟩,
  ⟨[.i 0 (.n 1) y0],.i 0 (.n 0) y0,[[1,1]]⟩,
  ⟨[.i 0 y0 (.c v0),.i 0 (.c v0) y0],.i 2 y0 (.c v0),[[1,1],[1,0,1]]⟩,
  ⟨[.i 2 (.c v0) (.c v1),.i 0 (.c v0) (.c v2)],.i 0 (.n 0) (.a (.s (.c v2) (.c v1)) (.n 1)),[[1,0,1,1]]⟩,
  ⟨[.r 0 v0 (.a v1 v2),.i 0 (.a (.s (.c v0) (.c v2)) (.n 1)) (.c v3),.r 0 (.a v1 v2) v0,.i 0 (.c v3) (.a (.s (.c v0) (.c v2)) (.n 1))],.r 2 (.a v1 (.n 1)) v3,[[1,0,1,1],[1,1,0,0,1]]⟩,
  ⟨[.r 0 v0 v1,.r 0 (.a v2 v3) v0],.r 0 (.a v3 (.a v2 (.n 1))) (.a v1 (.n 1)),[[1,1,1]]⟩,
  ⟨[.r 0 v0 (.a (.n 2) (.m 5 v1)),.r 0 v1 (.n 5)],.r 0 v0 (.n 27),[[1,1,5]]⟩,
  ⟨[],.i 2 (.w (.m 1 y0) 1) y0,[[1],[1]]⟩,
  ⟨[.i 0 (.a (.m 3 (.c v0)) (.n 1)) (.c v1),.i 0 (.c v1) (.a (.m 3 (.c v0)) (.n 1))],.r 2 v1 (.a (.m 3 v0) (.n 1)),[[1,0,1],[1,1]]⟩,
  ⟨[.i 0 (.a (.m 3 (.c v0)) (.n 2)) (.c v1),.i 0 (.c v1) (.a (.m 3 (.c v0)) (.n 2))],.r 2 v1 (.a (.m 3 v0) (.n 2)),[[1,0,1],[1,1]]⟩],
 [⟨[.r 1 v0 v1],.i 1 (.c v0) (.c v1),[[1,1]]⟩,
  ⟨[.r 0 v0 (.m 6 v1),.r 0 v2 (.n 5)],.r 0 (.a (.a v2 (.n 1)) v0) (.m 6 (.a v1 (.n 1))),[[1,1,1]]⟩,
  ⟨[.i 0 (.a (.c v0) (.n 1)) (.c v1),.i 0 (.c v1) (.a (.c v0) (.n 1))],.r 2 v1 (.a v0 (.n 1)),[[1,0,1],[1,1]]⟩,
  ⟨[.r 1 v0 v1],.r 1 v0 v1,[[1,1]]⟩,
  ⟨[.r 1 v0 (.a v1 (.n 1)),.r 1 v1 v0],.r 1 v0 v1,[[0,1,1]]⟩,
  ⟨[.r 1 v0 v1,.r 2 v2 v1],.r 1 v0 v2,[[1,1,0,1]]⟩,
  ⟨[.r 2 v0 v1],.r 0 v1 v0,[[1,0,1]]⟩,
  ⟨[.i 2 y0 (.a (.a y1 y2) y3),.i 0 (.n 0) (.s (.s (.s y4 y2) y3) y5),.i 0 y1 y5],.i 0 y0 y4,[[1,1,0,1,1]]⟩,
  ⟨[.r 4 v0 v1,.r 1 v0 v1],.r 0 (.a v2 (.a (.n 0) (.n 1))) v0,[[0,1,1]]⟩,
  ⟨[.r 1 v0 v1,.r 0 v2 v0],.r 0 (.a v2 (.a (.n 0) (.n 1))) v1,[[1,1,1]]⟩,
  ⟨[.r 4 v0 v1,.r 1 v0 v1],.r 0 (.a v1 (.n 1)) v0,[[0,1,1]]⟩,
  ⟨[.i 1 (.n 0) y0],.i 1 (.n 0) y0,[[1,1]]⟩,
  ⟨[.r 2 v0 (.n 1),.r 0 v0 v1],.r 1 (.n 0) v1,[[1,0,1,1]]⟩,
  ⟨[.r 1 v0 (.n 1)],.r 2 v0 (.n 0),[[1,1],[1]]⟩,
  ⟨[.r 1 (.n 1) v0,.r 1 v0 (.n 2)],.r 2 v0 (.n 0),[[0,1,1],[1]]⟩,
  ⟨[.r 1 v0 (.n 0)],.r 4 v1 (.n 4294967296),[[0,1]]⟩,
  ⟨[.r 1 v0 (.n 0)],.i 4 (.n 0) y0,[[0,1]]⟩,
  ⟨[.r 1 v0 (.n 0)],.r 3 v1 v2,[[0,1]]⟩,
  ⟨[],.r 4 (.n 2) (.n 1),[[1]]⟩,
  ⟨[],.r 4 (.n 4) (.n 1),[[1]]⟩,
  ⟨[.r 1 v0 (.n 70)],.r 1 (.a (.n 1) v0) (.n 68719476736),[[1,1]]⟩,
  ⟨[.r 1 v0 (.n 100)],.r 1 v0 (.n 68719476736),[[1,1]]⟩,
  ⟨[.r 1 v0 (.n 1000000000000),.r 0 (.w v1 100) v0],.r 1 v1 (.n 68719476736),[[100,1,1]]⟩],
 [⟨[.r 0 v0 (.n 0)],.r 0 (.a v1 v0) v1,[[1,1]]⟩,
  ⟨[.r 0 v0 (.a v1 v2),.r 0 (.a v1 v2) v0],.r 2 (.a v2 (.a v1 (.n 1))) (.a v0 (.n 1)),[[1,0,1],[1,1]]⟩,
  ⟨[.r 1 v0 v1],.r 4 v1 (.a v0 (.n 1)),[[1,1]]⟩,
  ⟨[.r 4 v0 v1,.r 1 v0 v1],.r 4 v0 (.a v1 (.n 1)),[[0,1,1]]⟩,
  ⟨[.i 0 (.c v0) y0,.r 0 v1 (.a v2 (.n 1)),.i 0 y0 (.c v1),.r 0 (.a v3 (.n 2)) v0],.r 1 v3 v2,[[1,1,1,1,1]]⟩,
  ⟨[.r 0 (.a (.a v0 (.n 3)) (.n 1)) (.a v1 (.n 1))],.r 0 (.a v0 (.n 3)) v1,[[1,1]]⟩,
  ⟨[.r 3 v0 (.a v1 (.n 3)),.r 0 v0 (.a v2 (.n 1))],.r 0 (.a v1 (.n 3)) v2,[[1,1,1]]⟩,
  ⟨[.r 3 v0 (.a v1 (.n 1))],.r 0 (.a v1 (.n 2)) v0,[[1,1]]⟩,
  ⟨[.i 0 (.n 3) y0],.i 0 (.n 0) y0,[[1,1]]⟩,
  ⟨[.i 0 (.n 3) y0,.i 0 y0 (.c v0)],.r 0 (.n 3) v0,[[1,1,1]]⟩,
  ⟨[.i 1 y0 (.n 1000000000000),.i 0 (.c v0) y0],.r 1 v0 (.n 1000000000000),[[1,1,1]]⟩]]
theorem kl (i j:Nat):ck (cg i j KL)=true:=cgk (by decide +kernel) i j
noncomputable abbrev dn (i j:Nat) (xs:List Nat) (ys:List Int):Prop:=den xs ys ((cg i j KL).g.d xs ys) (cg i j KL).h
theorem N0 (i j:Nat):dn i j [] []:=nl _ _ (kl i j)
theorem cO (i j:Nat) {y0:Int}:dn i j [] [y0]:=nl _ _ (kl i j)
theorem gK (i j:Nat) {y0 y1:Int}:dn i j [] [y0,y1]:=nl _ _ (kl i j)
theorem aB7 (i j:Nat) {y0 y1 y2:Int}:dn i j [] [y0,y1,y2]:=nl _ _ (kl i j)
theorem aD4 (i j:Nat) {y0 y1 y2 y3:Int}:dn i j [] [y0,y1,y2,y3]:=nl _ _ (kl i j)
theorem aGP (i j:Nat) {y0 y1 y2 y3 y4 y5:Int}:dn i j [] [y0,y1,y2,y3,y4,y5]:=nl _ _ (kl i j)
theorem N1 (i j:Nat) {x0:Nat}:dn i j [x0] []:=nl _ _ (kl i j)
theorem nS (i j:Nat) {x0:Nat} {y0:Int}:dn i j [x0] [y0]:=nl _ _ (kl i j)
theorem aA6 (i j:Nat) {x0:Nat} {y0 y1:Int}:dn i j [x0] [y0,y1]:=nl _ _ (kl i j)
theorem N2 (i j:Nat) {x0 x1:Nat}:dn i j [x0,x1] []:=nl _ _ (kl i j)
theorem aD5 (i j:Nat) {x0 x1:Nat} {y0:Int}:dn i j [x0,x1] [y0]:=nl _ _ (kl i j)
theorem yI (i j:Nat) {x0 x1:Nat} {y0 y1:Int}:dn i j [x0,x1] [y0,y1]:=nl _ _ (kl i j)
theorem N3 (i j:Nat) {x0 x1 x2:Nat}:dn i j [x0,x1,x2] []:=nl _ _ (kl i j)
theorem aGQ (i j:Nat) {x0 x1 x2:Nat} {y0:Int}:dn i j [x0,x1,x2] [y0]:=nl _ _ (kl i j)
theorem aHR (i j:Nat) {x0 x1 x2:Nat} {y0 y1:Int}:dn i j [x0,x1,x2] [y0,y1]:=nl _ _ (kl i j)
theorem N4 (i j:Nat) {x0 x1 x2 x3:Nat}:dn i j [x0,x1,x2,x3] []:=nl _ _ (kl i j)
theorem aGR (i j:Nat) {x0 x1 x2 x3:Nat} {y0:Int}:dn i j [x0,x1,x2,x3] [y0]:=nl _ _ (kl i j)
theorem N5 (i j:Nat) {x0 x1 x2 x3 x4:Nat}:dn i j [x0,x1,x2,x3,x4] []:=nl _ _ (kl i j)
theorem N6 (i j:Nat) {x0 x1 x2 x3 x4 x5:Nat}:dn i j [x0,x1,x2,x3,x4,x5] []:=nl _ _ (kl i j)
theorem N7 (i j:Nat) {x0 x1 x2 x3 x4 x5 x6:Nat}:dn i j [x0,x1,x2,x3,x4,x5,x6] []:=nl _ _ (kl i j)
theorem N8 (i j:Nat) {x0 x1 x2 x3 x4 x5 x6 x7:Nat}:dn i j [x0,x1,x2,x3,x4,x5,x6,x7] []:=nl _ _ (kl i j)
theorem N9 (i j:Nat) {x0 x1 x2 x3 x4 x5 x6 x7 x8:Nat}:dn i j [x0,x1,x2,x3,x4,x5,x6,x7,x8] []:=nl _ _ (kl i j)
section
noncomputable def prog:Hz:=PySem.Challenge.pw_xc0031_01
theorem aIo {P:Prop} (k:∀ G:Prop,(P→G)→G):P:=k P fun x=>x
theorem bM {p0 p1 G:Prop} (h:p0∧p1) (k:p0→p1→G):G:=k h.1 h.2
theorem gM {p0 p1 p2 G:Prop} (h:p0∧p1∧p2) (k:p0→p1→p2→G):G:=k h.1 h.2.1 h.2.2
theorem eG {p0 p1 p2 p3 G:Prop} (h:p0∧p1∧p2∧p3) (k:p0→p1→p2→p3→G):G:=k h.1 h.2.1 h.2.2.1 h.2.2.2
theorem aF4 {p0 p1 p2 p3 p4 G:Prop} (h:p0∧p1∧p2∧p3∧p4) (k:p0→p1→p2→p3→p4→G):G:=k h.1 h.2.1 h.2.2.1 h.2.2.2.1 h.2.2.2.2
theorem aHh {p0 p1 p2 p3 p4 p5 G:Prop} (h:p0∧p1∧p2∧p3∧p4∧p5) (k:p0→p1→p2→p3→p4→p5→G):G:=k h.1 h.2.1 h.2.2.1 h.2.2.2.1 h.2.2.2.2.1 h.2.2.2.2.2
theorem aF5 {p0 p1 p2 p3 p4 p5 p6 G:Prop} (h:p0∧p1∧p2∧p3∧p4∧p5∧p6) (k:p0→p1→p2→p3→p4→p5→p6→G):G:=k h.1 h.2.1 h.2.2.1 h.2.2.2.1 h.2.2.2.2.1 h.2.2.2.2.2.1 h.2.2.2.2.2.2
theorem aDm {p0 p1 p2 p3 p4 p5 p6 p7 p8 p9 G:Prop} (h:p0∧p1∧p2∧p3∧p4∧p5∧p6∧p7∧p8∧p9) (k:p0→p1→p2→p3→p4→p5→p6→p7→p8→p9→G):G:=k h.1 h.2.1 h.2.2.1 h.2.2.2.1 h.2.2.2.2.1 h.2.2.2.2.2.1 h.2.2.2.2.2.2.1 h.2.2.2.2.2.2.2.1 h.2.2.2.2.2.2.2.2.1 h.2.2.2.2.2.2.2.2.2
theorem ob11.{u} {T0:Sort u} {p0:T0→Prop} {G:Prop} (h:∃ x0,p0 x0) (k:∀ x0,p0 x0→G):G:=h.elim fun x0 h=>k x0 h
theorem ob12.{u} {T0:Sort u} {p0 p1:T0→Prop} {G:Prop} (h:∃ x0,p0 x0∧p1 x0) (k:∀ x0,p0 x0→p1 x0→G):G:=h.elim fun x0 h=>k x0 h.1 h.2
theorem kY {T0 T1 T2 T3 T4 T5 T6 T7 T8 T9 T10 T11:Type} {p0:T0→T1→T2→T3→T4→T5→T6→T7→T8→T9→T10→T11→Prop} {G:Prop} (h:∃ x0 x1 x2 x3 x4 x5 x6 x7 x8 x9 x10 x11,p0 x0 x1 x2 x3 x4 x5 x6 x7 x8 x9 x10 x11) (k:∀ x0 x1 x2 x3 x4 x5 x6 x7 x8 x9 x10 x11,p0 x0 x1 x2 x3 x4 x5 x6 x7 x8 x9 x10 x11→G):G:=h.elim fun x0 h=>h.elim fun x1 h=>h.elim fun x2 h=>h.elim fun x3 h=>h.elim fun x4 h=>h.elim fun x5 h=>h.elim fun x6 h=>h.elim fun x7 h=>h.elim fun x8 h=>h.elim fun x9 h=>h.elim fun x10 h=>h.elim fun x11 h=>k x0 x1 x2 x3 x4 x5 x6 x7 x8 x9 x10 x11 h
theorem ob13.{u} {T0:Sort u} {p0 p1 p2:T0→Prop} {G:Prop} (h:∃ x0,p0 x0∧p1 x0∧p2 x0) (k:∀ x0,p0 x0→p1 x0→p2 x0→G):G:=h.elim fun x0 h=>k x0 h.1 h.2.1 h.2.2
theorem ob14.{u} {T0:Sort u} {p0 p1 p2 p3:T0→Prop} {G:Prop} (h:∃ x0,p0 x0∧p1 x0∧p2 x0∧p3 x0) (k:∀ x0,p0 x0→p1 x0→p2 x0→p3 x0→G):G:=h.elim fun x0 h=>k x0 h.1 h.2.1 h.2.2.1 h.2.2.2
theorem ob15.{u} {T0:Sort u} {p0 p1 p2 p3 p4:T0→Prop} {G:Prop} (h:∃ x0,p0 x0∧p1 x0∧p2 x0∧p3 x0∧p4 x0) (k:∀ x0,p0 x0→p1 x0→p2 x0→p3 x0→p4 x0→G):G:=h.elim fun x0 h=>k x0 h.1 h.2.1 h.2.2.1 h.2.2.2.1 h.2.2.2.2
theorem ob16.{u} {T0:Sort u} {p0 p1 p2 p3 p4 p5:T0→Prop} {G:Prop} (h:∃ x0,p0 x0∧p1 x0∧p2 x0∧p3 x0∧p4 x0∧p5 x0) (k:∀ x0,p0 x0→p1 x0→p2 x0→p3 x0→p4 x0→p5 x0→G):G:=h.elim fun x0 h=>k x0 h.1 h.2.1 h.2.2.1 h.2.2.2.1 h.2.2.2.2.1 h.2.2.2.2.2
theorem ob17.{u} {T0:Sort u} {p0 p1 p2 p3 p4 p5 p6:T0→Prop} {G:Prop} (h:∃ x0,p0 x0∧p1 x0∧p2 x0∧p3 x0∧p4 x0∧p5 x0∧p6 x0) (k:∀ x0,p0 x0→p1 x0→p2 x0→p3 x0→p4 x0→p5 x0→p6 x0→G):G:=h.elim fun x0 h=>k x0 h.1 h.2.1 h.2.2.1 h.2.2.2.1 h.2.2.2.2.1 h.2.2.2.2.2.1 h.2.2.2.2.2.2
theorem aEP {T0 T1:Type} {p0:T0→T1→Prop} {G:Prop} (h:∃ x0 x1,p0 x0 x1) (k:∀ x0 x1,p0 x0 x1→G):G:=h.elim fun x0 h=>h.elim fun x1 h=>k x0 x1 h
theorem fP {T0 T1:Type} {p0 p1:T0→T1→Prop} {G:Prop} (h:∃ x0 x1,p0 x0 x1∧p1 x0 x1) (k:∀ x0 x1,p0 x0 x1→p1 x0 x1→G):G:=h.elim fun x0 h=>h.elim fun x1 h=>k x0 x1 h.1 h.2
theorem bI {T0 T1:Type} {p0 p1 p2:T0→T1→Prop} {G:Prop} (h:∃ x0 x1,p0 x0 x1∧p1 x0 x1∧p2 x0 x1) (k:∀ x0 x1,p0 x0 x1→p1 x0 x1→p2 x0 x1→G):G:=h.elim fun x0 h=>h.elim fun x1 h=>k x0 x1 h.1 h.2.1 h.2.2
theorem jS {T0 T1:Type} {p0 p1 p2 p3:T0→T1→Prop} {G:Prop} (h:∃ x0 x1,p0 x0 x1∧p1 x0 x1∧p2 x0 x1∧p3 x0 x1) (k:∀ x0 x1,p0 x0 x1→p1 x0 x1→p2 x0 x1→p3 x0 x1→G):G:=h.elim fun x0 h=>h.elim fun x1 h=>k x0 x1 h.1 h.2.1 h.2.2.1 h.2.2.2
theorem aEQ {T0 T1:Type} {p0 p1 p2 p3 p4:T0→T1→Prop} {G:Prop} (h:∃ x0 x1,p0 x0 x1∧p1 x0 x1∧p2 x0 x1∧p3 x0 x1∧p4 x0 x1) (k:∀ x0 x1,p0 x0 x1→p1 x0 x1→p2 x0 x1→p3 x0 x1→p4 x0 x1→G):G:=h.elim fun x0 h=>h.elim fun x1 h=>k x0 x1 h.1 h.2.1 h.2.2.1 h.2.2.2.1 h.2.2.2.2
theorem aHi {T0 T1:Type} {p0 p1 p2 p3 p4 p5:T0→T1→Prop} {G:Prop} (h:∃ x0 x1,p0 x0 x1∧p1 x0 x1∧p2 x0 x1∧p3 x0 x1∧p4 x0 x1∧p5 x0 x1) (k:∀ x0 x1,p0 x0 x1→p1 x0 x1→p2 x0 x1→p3 x0 x1→p4 x0 x1→p5 x0 x1→G):G:=h.elim fun x0 h=>h.elim fun x1 h=>k x0 x1 h.1 h.2.1 h.2.2.1 h.2.2.2.1 h.2.2.2.2.1 h.2.2.2.2.2
theorem aDn {T0 T1:Type} {p0 p1 p2 p3 p4 p5 p6 p7 p8 p9:T0→T1→Prop} {G:Prop} (h:∃ x0 x1,p0 x0 x1∧p1 x0 x1∧p2 x0 x1∧p3 x0 x1∧p4 x0 x1∧p5 x0 x1∧p6 x0 x1∧p7 x0 x1∧p8 x0 x1∧p9 x0 x1) (k:∀ x0 x1,p0 x0 x1→p1 x0 x1→p2 x0 x1→p3 x0 x1→p4 x0 x1→p5 x0 x1→p6 x0 x1→p7 x0 x1→p8 x0 x1→p9 x0 x1→G):G:=h.elim fun x0 h=>h.elim fun x1 h=>k x0 x1 h.1 h.2.1 h.2.2.1 h.2.2.2.1 h.2.2.2.2.1 h.2.2.2.2.2.1 h.2.2.2.2.2.2.1 h.2.2.2.2.2.2.2.1 h.2.2.2.2.2.2.2.2.1 h.2.2.2.2.2.2.2.2.2
theorem aF6 {T0 T1:Type} {p0 p1 p2 p3 p4 p5 p6 p7 p8 p9 p10:T0→T1→Prop} {G:Prop} (h:∃ x0 x1,p0 x0 x1∧p1 x0 x1∧p2 x0 x1∧p3 x0 x1∧p4 x0 x1∧p5 x0 x1∧p6 x0 x1∧p7 x0 x1∧p8 x0 x1∧p9 x0 x1∧p10 x0 x1) (k:∀ x0 x1,p0 x0 x1→p1 x0 x1→p2 x0 x1→p3 x0 x1→p4 x0 x1→p5 x0 x1→p6 x0 x1→p7 x0 x1→p8 x0 x1→p9 x0 x1→p10 x0 x1→G):G:=h.elim fun x0 h=>h.elim fun x1 h=>k x0 x1 h.1 h.2.1 h.2.2.1 h.2.2.2.1 h.2.2.2.2.1 h.2.2.2.2.2.1 h.2.2.2.2.2.2.1 h.2.2.2.2.2.2.2.1 h.2.2.2.2.2.2.2.2.1 h.2.2.2.2.2.2.2.2.2.1 h.2.2.2.2.2.2.2.2.2.2
theorem aH6 {T0 T1 T2:Type} {p0:T0→T1→T2→Prop} {G:Prop} (h:∃ x0 x1 x2,p0 x0 x1 x2) (k:∀ x0 x1 x2,p0 x0 x1 x2→G):G:=h.elim fun x0 h=>h.elim fun x1 h=>h.elim fun x2 h=>k x0 x1 x2 h
theorem fW {T0 T1 T2:Type} {p0 p1:T0→T1→T2→Prop} {G:Prop} (h:∃ x0 x1 x2,p0 x0 x1 x2∧p1 x0 x1 x2) (k:∀ x0 x1 x2,p0 x0 x1 x2→p1 x0 x1 x2→G):G:=h.elim fun x0 h=>h.elim fun x1 h=>h.elim fun x2 h=>k x0 x1 x2 h.1 h.2
theorem xJ {T0 T1 T2:Type} {p0 p1 p2:T0→T1→T2→Prop} {G:Prop} (h:∃ x0 x1 x2,p0 x0 x1 x2∧p1 x0 x1 x2∧p2 x0 x1 x2) (k:∀ x0 x1 x2,p0 x0 x1 x2→p1 x0 x1 x2→p2 x0 x1 x2→G):G:=h.elim fun x0 h=>h.elim fun x1 h=>h.elim fun x2 h=>k x0 x1 x2 h.1 h.2.1 h.2.2
theorem pH {T0 T1 T2:Type} {p0 p1 p2 p3:T0→T1→T2→Prop} {G:Prop} (h:∃ x0 x1 x2,p0 x0 x1 x2∧p1 x0 x1 x2∧p2 x0 x1 x2∧p3 x0 x1 x2) (k:∀ x0 x1 x2,p0 x0 x1 x2→p1 x0 x1 x2→p2 x0 x1 x2→p3 x0 x1 x2→G):G:=h.elim fun x0 h=>h.elim fun x1 h=>h.elim fun x2 h=>k x0 x1 x2 h.1 h.2.1 h.2.2.1 h.2.2.2
theorem aH7 {T0 T1 T2:Type} {p0 p1 p2 p3 p4:T0→T1→T2→Prop} {G:Prop} (h:∃ x0 x1 x2,p0 x0 x1 x2∧p1 x0 x1 x2∧p2 x0 x1 x2∧p3 x0 x1 x2∧p4 x0 x1 x2) (k:∀ x0 x1 x2,p0 x0 x1 x2→p1 x0 x1 x2→p2 x0 x1 x2→p3 x0 x1 x2→p4 x0 x1 x2→G):G:=h.elim fun x0 h=>h.elim fun x1 h=>h.elim fun x2 h=>k x0 x1 x2 h.1 h.2.1 h.2.2.1 h.2.2.2.1 h.2.2.2.2
theorem aER {T0 T1 T2:Type} {p0 p1 p2 p3 p4 p5:T0→T1→T2→Prop} {G:Prop} (h:∃ x0 x1 x2,p0 x0 x1 x2∧p1 x0 x1 x2∧p2 x0 x1 x2∧p3 x0 x1 x2∧p4 x0 x1 x2∧p5 x0 x1 x2) (k:∀ x0 x1 x2,p0 x0 x1 x2→p1 x0 x1 x2→p2 x0 x1 x2→p3 x0 x1 x2→p4 x0 x1 x2→p5 x0 x1 x2→G):G:=h.elim fun x0 h=>h.elim fun x1 h=>h.elim fun x2 h=>k x0 x1 x2 h.1 h.2.1 h.2.2.1 h.2.2.2.1 h.2.2.2.2.1 h.2.2.2.2.2
theorem aF7 {T0 T1 T2:Type} {p0 p1 p2 p3 p4 p5 p6:T0→T1→T2→Prop} {G:Prop} (h:∃ x0 x1 x2,p0 x0 x1 x2∧p1 x0 x1 x2∧p2 x0 x1 x2∧p3 x0 x1 x2∧p4 x0 x1 x2∧p5 x0 x1 x2∧p6 x0 x1 x2) (k:∀ x0 x1 x2,p0 x0 x1 x2→p1 x0 x1 x2→p2 x0 x1 x2→p3 x0 x1 x2→p4 x0 x1 x2→p5 x0 x1 x2→p6 x0 x1 x2→G):G:=h.elim fun x0 h=>h.elim fun x1 h=>h.elim fun x2 h=>k x0 x1 x2 h.1 h.2.1 h.2.2.1 h.2.2.2.1 h.2.2.2.2.1 h.2.2.2.2.2.1 h.2.2.2.2.2.2
theorem vF {T0 T1 T2 T3:Type} {p0 p1:T0→T1→T2→T3→Prop} {G:Prop} (h:∃ x0 x1 x2 x3,p0 x0 x1 x2 x3∧p1 x0 x1 x2 x3) (k:∀ x0 x1 x2 x3,p0 x0 x1 x2 x3→p1 x0 x1 x2 x3→G):G:=h.elim fun x0 h=>h.elim fun x1 h=>h.elim fun x2 h=>h.elim fun x3 h=>k x0 x1 x2 x3 h.1 h.2
theorem aF8 {T0 T1 T2 T3:Type} {p0 p1 p2:T0→T1→T2→T3→Prop} {G:Prop} (h:∃ x0 x1 x2 x3,p0 x0 x1 x2 x3∧p1 x0 x1 x2 x3∧p2 x0 x1 x2 x3) (k:∀ x0 x1 x2 x3,p0 x0 x1 x2 x3→p1 x0 x1 x2 x3→p2 x0 x1 x2 x3→G):G:=h.elim fun x0 h=>h.elim fun x1 h=>h.elim fun x2 h=>h.elim fun x3 h=>k x0 x1 x2 x3 h.1 h.2.1 h.2.2
theorem aH8 {T0 T1 T2 T3:Type} {p0 p1 p2 p3:T0→T1→T2→T3→Prop} {G:Prop} (h:∃ x0 x1 x2 x3,p0 x0 x1 x2 x3∧p1 x0 x1 x2 x3∧p2 x0 x1 x2 x3∧p3 x0 x1 x2 x3) (k:∀ x0 x1 x2 x3,p0 x0 x1 x2 x3→p1 x0 x1 x2 x3→p2 x0 x1 x2 x3→p3 x0 x1 x2 x3→G):G:=h.elim fun x0 h=>h.elim fun x1 h=>h.elim fun x2 h=>h.elim fun x3 h=>k x0 x1 x2 x3 h.1 h.2.1 h.2.2.1 h.2.2.2
theorem aF9 {T0 T1 T2 T3:Type} {p0 p1 p2 p3 p4:T0→T1→T2→T3→Prop} {G:Prop} (h:∃ x0 x1 x2 x3,p0 x0 x1 x2 x3∧p1 x0 x1 x2 x3∧p2 x0 x1 x2 x3∧p3 x0 x1 x2 x3∧p4 x0 x1 x2 x3) (k:∀ x0 x1 x2 x3,p0 x0 x1 x2 x3→p1 x0 x1 x2 x3→p2 x0 x1 x2 x3→p3 x0 x1 x2 x3→p4 x0 x1 x2 x3→G):G:=h.elim fun x0 h=>h.elim fun x1 h=>h.elim fun x2 h=>h.elim fun x3 h=>k x0 x1 x2 x3 h.1 h.2.1 h.2.2.1 h.2.2.2.1 h.2.2.2.2
theorem aHj {T0 T1 T2 T3:Type} {p0 p1 p2 p3 p4 p5 p6 p7:T0→T1→T2→T3→Prop} {G:Prop} (h:∃ x0 x1 x2 x3,p0 x0 x1 x2 x3∧p1 x0 x1 x2 x3∧p2 x0 x1 x2 x3∧p3 x0 x1 x2 x3∧p4 x0 x1 x2 x3∧p5 x0 x1 x2 x3∧p6 x0 x1 x2 x3∧p7 x0 x1 x2 x3) (k:∀ x0 x1 x2 x3,p0 x0 x1 x2 x3→p1 x0 x1 x2 x3→p2 x0 x1 x2 x3→p3 x0 x1 x2 x3→p4 x0 x1 x2 x3→p5 x0 x1 x2 x3→p6 x0 x1 x2 x3→p7 x0 x1 x2 x3→G):G:=h.elim fun x0 h=>h.elim fun x1 h=>h.elim fun x2 h=>h.elim fun x3 h=>k x0 x1 x2 x3 h.1 h.2.1 h.2.2.1 h.2.2.2.1 h.2.2.2.2.1 h.2.2.2.2.2.1 h.2.2.2.2.2.2.1 h.2.2.2.2.2.2.2
theorem aH9 {T0 T1 T2 T3 T4:Type} {p0 p1 p2 p3:T0→T1→T2→T3→T4→Prop} {G:Prop} (h:∃ x0 x1 x2 x3 x4,p0 x0 x1 x2 x3 x4∧p1 x0 x1 x2 x3 x4∧p2 x0 x1 x2 x3 x4∧p3 x0 x1 x2 x3 x4) (k:∀ x0 x1 x2 x3 x4,p0 x0 x1 x2 x3 x4→p1 x0 x1 x2 x3 x4→p2 x0 x1 x2 x3 x4→p3 x0 x1 x2 x3 x4→G):G:=h.elim fun x0 h=>h.elim fun x1 h=>h.elim fun x2 h=>h.elim fun x3 h=>h.elim fun x4 h=>k x0 x1 x2 x3 x4 h.1 h.2.1 h.2.2.1 h.2.2.2
theorem aHk {T0 T1 T2 T3 T4:Type} {p0 p1 p2 p3 p4 p5 p6 p7 p8:T0→T1→T2→T3→T4→Prop} {G:Prop} (h:∃ x0 x1 x2 x3 x4,p0 x0 x1 x2 x3 x4∧p1 x0 x1 x2 x3 x4∧p2 x0 x1 x2 x3 x4∧p3 x0 x1 x2 x3 x4∧p4 x0 x1 x2 x3 x4∧p5 x0 x1 x2 x3 x4∧p6 x0 x1 x2 x3 x4∧p7 x0 x1 x2 x3 x4∧p8 x0 x1 x2 x3 x4) (k:∀ x0 x1 x2 x3 x4,p0 x0 x1 x2 x3 x4→p1 x0 x1 x2 x3 x4→p2 x0 x1 x2 x3 x4→p3 x0 x1 x2 x3 x4→p4 x0 x1 x2 x3 x4→p5 x0 x1 x2 x3 x4→p6 x0 x1 x2 x3 x4→p7 x0 x1 x2 x3 x4→p8 x0 x1 x2 x3 x4→G):G:=h.elim fun x0 h=>h.elim fun x1 h=>h.elim fun x2 h=>h.elim fun x3 h=>h.elim fun x4 h=>k x0 x1 x2 x3 x4 h.1 h.2.1 h.2.2.1 h.2.2.2.1 h.2.2.2.2.1 h.2.2.2.2.2.1 h.2.2.2.2.2.2.1 h.2.2.2.2.2.2.2.1 h.2.2.2.2.2.2.2.2
theorem aIa {T0 T1 T2 T3 T4 T5 T6 T7 T8:Type} {p0 p1:T0→T1→T2→T3→T4→T5→T6→T7→T8→Prop} {G:Prop} (h:∃ x0 x1 x2 x3 x4 x5 x6 x7 x8,p0 x0 x1 x2 x3 x4 x5 x6 x7 x8∧p1 x0 x1 x2 x3 x4 x5 x6 x7 x8) (k:∀ x0 x1 x2 x3 x4 x5 x6 x7 x8,p0 x0 x1 x2 x3 x4 x5 x6 x7 x8→p1 x0 x1 x2 x3 x4 x5 x6 x7 x8→G):G:=h.elim fun x0 h=>h.elim fun x1 h=>h.elim fun x2 h=>h.elim fun x3 h=>h.elim fun x4 h=>h.elim fun x5 h=>h.elim fun x6 h=>h.elim fun x7 h=>h.elim fun x8 h=>k x0 x1 x2 x3 x4 x5 x6 x7 x8 h.1 h.2
theorem aDo {T0 T1 T2 T3 T4 T5 T6 T7 T8:Type} {p0 p1 p2 p3 p4 p5 p6 p7 p8 p9:T0→T1→T2→T3→T4→T5→T6→T7→T8→Prop} {G:Prop} (h:∃ x0 x1 x2 x3 x4 x5 x6 x7 x8,p0 x0 x1 x2 x3 x4 x5 x6 x7 x8∧p1 x0 x1 x2 x3 x4 x5 x6 x7 x8∧p2 x0 x1 x2 x3 x4 x5 x6 x7 x8∧p3 x0 x1 x2 x3 x4 x5 x6 x7 x8∧p4 x0 x1 x2 x3 x4 x5 x6 x7 x8∧p5 x0 x1 x2 x3 x4 x5 x6 x7 x8∧p6 x0 x1 x2 x3 x4 x5 x6 x7 x8∧p7 x0 x1 x2 x3 x4 x5 x6 x7 x8∧p8 x0 x1 x2 x3 x4 x5 x6 x7 x8∧p9 x0 x1 x2 x3 x4 x5 x6 x7 x8) (k:∀ x0 x1 x2 x3 x4 x5 x6 x7 x8,p0 x0 x1 x2 x3 x4 x5 x6 x7 x8→p1 x0 x1 x2 x3 x4 x5 x6 x7 x8→p2 x0 x1 x2 x3 x4 x5 x6 x7 x8→p3 x0 x1 x2 x3 x4 x5 x6 x7 x8→p4 x0 x1 x2 x3 x4 x5 x6 x7 x8→p5 x0 x1 x2 x3 x4 x5 x6 x7 x8→p6 x0 x1 x2 x3 x4 x5 x6 x7 x8→p7 x0 x1 x2 x3 x4 x5 x6 x7 x8→p8 x0 x1 x2 x3 x4 x5 x6 x7 x8→p9 x0 x1 x2 x3 x4 x5 x6 x7 x8→G):G:=h.elim fun x0 h=>h.elim fun x1 h=>h.elim fun x2 h=>h.elim fun x3 h=>h.elim fun x4 h=>h.elim fun x5 h=>h.elim fun x6 h=>h.elim fun x7 h=>h.elim fun x8 h=>k x0 x1 x2 x3 x4 x5 x6 x7 x8 h.1 h.2.1 h.2.2.1 h.2.2.2.1 h.2.2.2.2.1 h.2.2.2.2.2.1 h.2.2.2.2.2.2.1 h.2.2.2.2.2.2.2.1 h.2.2.2.2.2.2.2.2.1 h.2.2.2.2.2.2.2.2.2
theorem fmn {α:Type u} {P:α→Prop}:∀ b∈([]:List α),P b:=nofun
theorem qQ {α:Type u} {P:α→Prop} {a:α} {l:List α} (h:P a) (k:∀ b∈l,P b):∀ b∈a::l,P b:=List.forall_mem_cons.mpr ⟨h,k⟩
theorem cK {α:Type u} {x a:α} {l:List α} {G:Prop} (m:x∈a::l) (h:x=a→G) (k:x∈l→G):G:=(AP.mp m).elim h k
theorem gJ {α:Type u} {x:α} {l r:List α} {G:Prop} (m:x∈l++r) (h:x∈l→G) (k:x∈r→G):G:=(BM.mp m).elim h k
theorem bH {α:Type u} {x a:α} (m:x∈[a]):x=a:=C1.mp m
theorem cX {α:Type u} {β:Type v} {f:α→β} {y:β} {l:List α} {G:Prop} (m:y∈l.map f) (k:∀ x,x∈l→f x=y→G):G:=(AY.mp m).elim fun x z=>k x z.1 z.2
theorem mpL {α β:Type} {f:α→β} {xs:List α} {i:Nat} {d:β} {G:Prop} (h:(xs.map f)[i]?=some d) (k:∀ c,xs[i]?=some c→d=f c→G):G:=by
 rw [Ar] at h;exact (Ge.mp h).elim fun c q=>k c q.1 q.2.symm
theorem mpR {β:Type} {f:Nat→β} {m i:Nat} {d:β} {G:Prop} (h:((Aa m).map f)[i]?=some d) (k:i<m→d=f i→G):G:=mpL h fun c e q=>by
 have e:=Aw.mp e;exact e.elim fun a b=>k (C3 a (DS Al)) (by rw [q,← b,Eh])
theorem fN {i n:Nat} (m:i∈Aa n):i<n:=Bb.mp m
theorem zmn {a b:Nat}:max 0 (min (a:Int) (b:Int))=((min a b:Nat):Int):=by
 rcases Je a b with h | h
 ·rw [B1 h,Ea (CQ.mpr h)];exact HK (BW _)
 ·rw [FX h,HL (CQ.mpr h)];exact HK (BW _)
theorem z63 {k c:Nat} (h:k≤c) (d:autoParam (c<9223372036854775808) ad):(k:Int)<2 ^ 63:=Db.mpr (Bp h d)
theorem box {P:Prop} (h:∀ G:Prop,(P→G)→G):P:=h P id
noncomputable abbrev aZ (h h':Heap):Prop:=∀ b o,h.get? b=some o→h'.get? b=some o
theorem aZ.rfl {h:Heap}:aZ h h:=fun _ _ e=>e
theorem aZ.trans {a b c:Heap} (x:aZ a b) (y:aZ b c):aZ a c:=fun _ _ e=>y _ _ (x _ _ e)
noncomputable def hx (X:List Addr) (h:Heap):Heap:=hideAll h X
theorem aR {X h}:aZ (hx X h) h:=fun _ _ e=>of_hideAll X e
theorem bU {X h b o} (e:h.get? b=some o) (n:b∉X):(hx X h).get? b=some o:=hideAll_get X e n
theorem uX {X h b} (m:b∈X):(hx X h).get? b=none:=hideAll_none X m
theorem iD {X h b o} (e:(hx X h).get? b=some o):b∉X:=fun m=>by rw [uX m] at e;cases e
theorem aL {X h h'} (k:aZ h h'):aZ (hx X h) (hx X h'):=fun _ _ e=>bU (k _ _ (aR _ _ e)) (iD e)
theorem aJ {X Y h h'} (k:∀ b o,b∉X→h.get? b=some o→h'.get? b=some o) (hY:∀ y∈Y,y∈X∨h.get? y=none):aZ (hx X h) (hx Y h'):=fun b o e=>by
 have e':=aR _ _ e;refine bU (k b o (iD e) e') fun m=>?_;refine BH (hY b m) (fun q=>?_) fun q=>?_
 ·exact iD e q
 ·rw [q] at e';cases e'
theorem bV {X Y h} (hY:∀ y∈Y,y∈X):aZ (hx X h) (hx Y h):=aJ (fun _ _ _ e=>e) fun y m=>.inl (hY y m)
noncomputable def aK:Addr:=58
noncomputable def XL (X:List Addr) (h:Heap):Prop:=(∀ x∈X,∃ o,h.get? x=some o)∧∃ o,h.get? aK=some o
theorem XL.mono {X h h'} (x:XL X h) (k:aZ h h'):XL X h':=⟨fun a m=>let ⟨o,e⟩:=x.1 a m;⟨o,k _ _ e⟩,let ⟨o,e⟩:=x.2;⟨o,k _ _ e⟩⟩
theorem XL.fresh {X h} (x:XL X h) {a:Addr} (q:h.objs.size≤a):a∉X:=fun m=>by
 refine ob11 (x.1 a m) fun o e=>?_;exact absurd (AK e) (CB.mpr q)
theorem aH {h:Heap} {a:Addr} (q:h.objs.size≤a):h.get? a=none:=by
 cases e:h.get? a with
 | none=>rfl
 | some o=>exact absurd (AK e) (CB.mpr q)
noncomputable def mR (xs:List Str) (x:Str):List Str:=if x∈xs then xs else xs++[x]
theorem aC8 {xs:List Str} {x k:Str}:k∈mR xs x↔k∈xs∨k=x:=by
 unfold mR;split
 ·constructor
  ·exact .inl
  ·rintro (m | rfl)
   ·exact m
   ·assumption
 ·simp
theorem wY {xs:List Str} {x:Str}:(mR xs x).length=if decide (x∈xs)=true then xs.length else xs.length+1:=by
 unfold mR
 by_cases h:x∈xs <;> simp [h]
theorem zE {xs:List Str} {x:Str} (n:xs.Nodup):(mR xs x).Nodup:=by
 unfold mR;split
 ·exact n
 ·rename_i h
  rw [Cu];refine ⟨n,by simp,fun a ma b mb=>?_⟩;rw [bH mb];exact fun e=>h (e▸ma)
noncomputable def fO (xs:List Str):List Str:=xs.foldl mR []
theorem aBl {xs:List Str} {x:Str}:fO (xs++[x])=mR (fO xs) x:=by unfold fO;rw [Dd];rfl
theorem kW {k:Str}:∀ (xs b:List Str),k∈xs.foldl mR b↔k∈b∨k∈xs
 | [],b=>by simp
 | x::xs,b=>by rw [CL,kW xs,aC8,AP,or_assoc]
theorem wB {xs:List Str} {k:Str}:k∈fO xs↔k∈xs:=by unfold fO;rw [kW];simp
theorem iY:∀ (xs b:List Str),b.Nodup→(xs.foldl mR b).Nodup
 | [],b,n=>n
 | x::xs,b,n=>iY xs _ (zE n)
theorem yQ {xs:List Str}:(fO xs).Nodup:=iY xs [] .nil
theorem kU:∀ (xs b:List Str),(xs.foldl mR b).length≤b.length+xs.length
 | [],b=>Am _
 | x::xs,b=>by
  rw [CL,Aq];have h1:=kU xs (mR b x);have h2:=wY (xs:=b) (x:=x);split at h2 <;> (first | exact N4 21 18 h1 h2 | exact N4 21 19 h1 h2)
theorem aCI {xs:List Str}:(fO xs).length≤xs.length:=by have:=kU xs [];unfold fO;simpa using this
noncomputable def NP (h:Heap) (a:Addr):Prop:=∃ o es ep t,h.get? a=some o∧o.data=.set es ep t∧(t.plain=false∨es.size=0)
inductive D where
 | none
 | bool (b:Bool)
 | int (i:Int)
 | str (s:Str)
 | tup (l:List D)
 | list (l:List D)
 | idict (l:List (Int×D))
 | sdict (l:List (Str×D))
 | obj (C:Addr) (l:List (Str×D))
 | val (v:Ag)
 | rng (a b c:Int)
 | sset (xs:List Str)
 | bytes (b:Array UInt8)
 | biter (b:Array UInt8) (i:Nat)
 | vview (l:List D)
 | iview (l:List (Int×D))
 | slc (l u st:Option Int)
 | ctab
deriving Inhabited
noncomputable def D.frz:D→Bool
 | .list _=>true
 | .idict _=>true
 | .sdict _=>true
 | .sset _=>true
 | _=>false
section
variable (w:Bl)
mutual
inductive Rp (h:Heap):Ag→D→Prop
 | none:Rp h .none .none
 | bool (b:Bool):Rp h (.bool b) (.bool b)
 | int (i:Int) (t:Tok):Rp h (.int i t) (.int i)
 | str (s:Str) (t:Tok):Rp h (.str s t) (.str s)
 | tup {a:Addr} {vs:List Ag} {ds:List D}:h.IsTuple a vs.toArray→cG h vs ds→Rp h (.ref a) (.tup ds)
 | list {a:Addr} {vs:List Ag} {ds:List D}:h.PlainList a vs.toArray→cG h vs ds→Rp h (.ref a) (.list ds)
 | idict {a:Addr} {kvs:List (Int×Ag)} {ds:List (Int×D)}:(a==Cv)=false→h.DictOf (BL prog w) a kvs→cP h kvs ds→Rp h (.ref a) (.idict ds)
 | sdict {a:Addr} {kvs:List (Str×Ag)} {ds:List (Str×D)}:(a==Cv)=false→h.DictOf (strKind prog w) a kvs→cZ h kvs ds→Rp h (.ref a) (.sdict ds)
 | obj {a C:Addr} {m:Str→Option Ag} {ds:List (Str×D)}:h.Inst a C m→(∀ n,ds.lookup n=Option.none→m n=Option.none)→uB h m ds→Rp h (.ref a) (.obj C ds)
 | val (v:Ag):Rp h v (.val v)
 | rng {r:Addr} {a b c:Int} {t u v:Tok}:Ii h r a b c t u v→Rp h (.ref r) (.rng a b c)
 | sset {a:Addr} {S:Str→Bool} {n:Nat} {xs:List Str}:h.SetOf (strKind prog w) a S n→(∀ k,S k=decide (k∈xs))→n≤(fO xs).length→NP h a→Rp h (.ref a) (.sset xs)
 | bytes (b:Array UInt8) (t:Tok):Rp h (.bytes b t) (.bytes b)
 | vviewS {v a:Addr} {kvs:List (Str×Ag)} {ep:Nat} {ds:List D}:h.IsValuesView v a→h.DictAt (strKind prog w) a kvs ep→cG h (kvs.map (·.2)) ds→Rp h (.ref v) (.vview ds)
 | slc {a:Addr} {vl vu vs:Ag} {l u st:Option Int}:h.IsSliceOf a vl vu vs→FG vl l→FG vu u→FG vs st→Rp h (.ref a) (.slc l u st)
 | iview {v a:Addr} {kvs:List (Int×Ag)} {ep:Nat} {ds:List (Int×D)}:h.IsItemsView v a→h.DictAt (BL prog w) a kvs ep→cP h kvs ds→Rp h (.ref v) (.iview ds)
inductive cG (h:Heap):List Ag→List D→Prop
 | nil:cG h [] []
 | cons {v vs d ds}:Rp h v d→cG h vs ds→cG h (v::vs) (d::ds)
inductive cP (h:Heap):List (Int×Ag)→List (Int×D)→Prop
 | nil:cP h [] []
 | cons {k v vs d ds}:Rp h v d→cP h vs ds→cP h ((k,v)::vs) ((k,d)::ds)
inductive cZ (h:Heap):List (Str×Ag)→List (Str×D)→Prop
 | nil:cZ h [] []
 | cons {k v vs d ds}:Rp h v d→cZ h vs ds→cZ h ((k,v)::vs) ((k,d)::ds)
inductive uB (h:Heap):(Str→Option Ag)→List (Str×D)→Prop
 | nil {m}:uB h m []
 | cons {m k v d ds}:m k=some v→Rp h v d→uB h m ds→uB h m ((k,d)::ds)
end
end
section
variable {w:Bl} {h h':Heap}
theorem Cp.keep' {a items} (x:h.IsTuple a items) (k:aZ h h'):h'.IsTuple a items:=let ⟨o,ho,r⟩:=x;⟨o,k _ _ ho,r⟩
theorem Heap.Inst.keep' {a C m} (x:h.Inst a C m) (k:aZ h h'):h'.Inst a C m:=by
 refine ob14 x fun o ho hc hn r=>?_;clear x;refine ⟨o,k _ _ ho,hc,hn,?_⟩;rcases r with r | ⟨d,hd,hne,ns⟩
 ·exact .inl r
 ·exact .inr ⟨d,hd,hne,ns.at fun o e=>k _ o e⟩
theorem Heap.SetOf.keep' {a S n} (x:h.SetOf (strKind prog w) a S n) (k:aZ h h'):h'.SetOf (strKind prog w) a S n:=by
 refine vF x fun o es ep t ho r=>?_;clear x;exact ⟨o,es,ep,t,k _ _ ho,r⟩
theorem NP.keep' {a} (n:NP h a) (k:aZ h h'):NP h' a:=by
 refine vF n fun o es ep t ho r=>?_;clear n;exact ⟨o,es,ep,t,k _ _ ho,r⟩
theorem Rp.mono (k:aZ h h') {v d} (r:Rp w h v d):Rp w h' v d:=
 Rp.rec (motive_1:=fun v d _=>Rp w h' v d) (motive_2:=fun v d _=>cG w h' v d) (motive_3:=fun v d _=>cP w h' v d) (motive_4:=fun v d _=>cZ w h' v d) (motive_5:=fun v d _=>uB w h' v d)
  .none .bool .int .str (fun x _ i=>.tup (Cp.keep' x k) i) (fun x _ i=>.list (x.at fun o e=>k _ o e) i) (fun q x _ i=>.idict q (x.keep k) i) (fun q x _ i=>.sdict q (x.keep k) i) (fun x q _ i=>.obj (Heap.Inst.keep' x k) q i) .val (fun x=>.rng (k _ _ x))
  (fun x p q n=>.sset (Heap.SetOf.keep' x k) p q (NP.keep' n k)) .bytes (fun x y _ i=>.vviewS (by refine ob12 x fun o e r=>?_;clear x;exact ⟨o,k _ _ e,r⟩) (y.at fun o e=>k _ o e) i) (fun x a b c=>.slc (by refine ob12 x fun o e r=>?_;clear x;exact ⟨o,k _ _ e,r⟩) a b c)
  (fun x y _ i=>.iview (by refine ob12 x fun o e r=>?_;clear x;exact ⟨o,k _ _ e,r⟩) (y.at fun o e=>k _ o e) i) .nil (fun _ _ i j=>.cons i j) .nil (fun _ _ i j=>.cons i j) .nil (fun _ _ i j=>.cons i j) .nil (fun e _ _ i j=>.cons e i j) r
theorem cG.c0 {vs} (r:cG w h vs []):vs=[]:=by cases r;rfl
theorem cG.c1 {vs d} (r:cG w h vs [d]):∃ v,vs=[v]∧Rp w h v d:=by
 cases r with | cons a b=>exact ⟨_,by rw [b.c0],a⟩
theorem cG.cc {vs d ds} (r:cG w h vs (d::ds)):∃ v us,vs=v::us∧Rp w h v d∧cG w h us ds:=by
 cases r with | cons a b=>exact ⟨_,_,rfl,a,b⟩
theorem cG.c2 {vs d e} (r:cG w h vs [d,e]):∃ v u,vs=[v,u]∧Rp w h v d∧Rp w h u e:=by
 refine bI r.cc ?_;rintro v us rfl a b;refine ob12 b.c1 ?_;rintro u rfl c;exact ⟨v,u,rfl,a,c⟩
theorem cG.c3 {vs d e f} (r:cG w h vs [d,e,f]):∃ v u t,vs=[v,u,t]∧Rp w h v d∧Rp w h u e∧Rp w h t f:=by
 refine bI r.cc ?_;rintro v us rfl a b;refine bI b.c2 ?_;rintro u t rfl c i;exact ⟨v,u,t,rfl,a,c,i⟩
theorem cG.ind {M:List Ag→List D→Prop} (n:M [] []) (c:∀ {v vs d ds},Rp w h v d→cG w h vs ds→M vs ds→M (v::vs) (d::ds)):∀ {ds vs},cG w h vs ds→M vs ds:=by
 intro ds
 induction ds with
 | nil=>intro vs r;rw [r.c0];exact n
 | cons d ds ih=>intro vs r;refine bI r.cc fun v us e a b=>?_;rw [e];exact c a b (ih b)
theorem cP.cc {vs k d ds} (r:cP w h vs ((k,d)::ds)):∃ v us,vs=(k,v)::us∧Rp w h v d∧cP w h us ds:=by
 cases r with | cons a b=>exact ⟨_,_,rfl,a,b⟩
theorem cP.ind {M:List (Int×Ag)→List (Int×D)→Prop} (n:M [] []) (c:∀ {k v vs d ds},Rp w h v d→cP w h vs ds→M vs ds→M ((k,v)::vs) ((k,d)::ds)):∀ {ds vs},cP w h vs ds→M vs ds:=by
 intro ds
 induction ds with
 | nil=>
  intro vs r;have:vs=[]:=by cases r;rfl
  rw [this];exact n
 | cons d ds ih=>intro vs r;refine bI r.cc fun v us e a b=>?_;rw [e];exact c a b (ih b)
theorem cZ.cc {vs k d ds} (r:cZ w h vs ((k,d)::ds)):∃ v us,vs=(k,v)::us∧Rp w h v d∧cZ w h us ds:=by
 cases r with | cons a b=>exact ⟨_,_,rfl,a,b⟩
theorem cZ.ind {M:List (Str×Ag)→List (Str×D)→Prop} (n:M [] []) (c:∀ {k v vs d ds},Rp w h v d→cZ w h vs ds→M vs ds→M ((k,v)::vs) ((k,d)::ds)):∀ {ds vs},cZ w h vs ds→M vs ds:=by
 intro ds
 induction ds with
 | nil=>
  intro vs r;have:vs=[]:=by cases r;rfl
  rw [this];exact n
 | cons d ds ih=>intro vs r;refine bI r.cc fun v us e a b=>?_;rw [e];exact c a b (ih b)
theorem cG.mono (k:aZ h h') {v d} (r:cG w h v d):cG w h' v d:=r.ind (M:=fun v d=>cG w h' v d) .nil fun a _ i=>.cons (a.mono k) i
theorem cP.mono (k:aZ h h') {v d} (r:cP w h v d):cP w h' v d:=r.ind (M:=fun v d=>cP w h' v d) .nil fun a _ i=>.cons (a.mono k) i
theorem cZ.mono (k:aZ h h') {v d} (r:cZ w h v d):cZ w h' v d:=r.ind (M:=fun v d=>cZ w h' v d) .nil fun a _ i=>.cons (a.mono k) i
theorem cG.length {vs ds} (r:cG w h vs ds):vs.length=ds.length:=r.ind (M:=fun vs ds=>vs.length=ds.length) rfl fun _ _ i=>congrArg Nat.succ i
theorem cG.append {vs ds vs' ds'} (r:cG w h vs ds) (q:cG w h vs' ds'):cG w h (vs++vs') (ds++ds'):=r.ind (M:=fun vs ds=>cG w h (vs++vs') (ds++ds')) q fun a _ i=>.cons a i
theorem cG.get {vs ds} (r:cG w h vs ds):∀ {i:Nat} {d},ds[i]?=some d→∃ v,vs[i]?=some v∧Rp w h v d:=by
 refine r.ind (M:=fun vs ds=>∀ {i:Nat} {d},ds[i]?=some d→∃ v,vs[i]?=some v∧Rp w h v d) (fun e=>by cases e) fun a _ ih i d e=>?_;cases i with
 | zero=>cases e;exact ⟨_,rfl,a⟩
 | succ i=>exact ih e
theorem cG.at {vs ds} (r:cG w h vs ds):∀ {i:Nat} {v},vs[i]?=some v→∃ d,ds[i]?=some d∧Rp w h v d:=by
 refine r.ind (M:=fun vs ds=>∀ {i:Nat} {v},vs[i]?=some v→∃ d,ds[i]?=some d∧Rp w h v d) (fun e=>by cases e) fun a _ ih i v e=>?_;cases i with
 | zero=>cases e;exact ⟨_,rfl,a⟩
 | succ i=>exact ih e
theorem cG.take {vs ds} (r:cG w h vs ds):∀ (i:Nat),cG w h (vs.take i) (ds.take i):=by
 refine r.ind (M:=fun vs ds=>∀ i:Nat,cG w h (vs.take i) (ds.take i)) (fun i=>by rw [IZ,IZ];exact .nil) fun a b ih i=>?_;cases i with
 | zero=>exact .nil
 | succ i=>exact .cons a (ih i)
noncomputable def aGU (w:Bl) (h:Heap) (v:Ag):D→Prop
 | .int i=>∃ t,v=.int i t
 | .str i=>∃ t,v=.str i t
 | .bool i=>v=.bool i
 | .rng a b c=>∃ x t u z,v=.ref x∧Ii h x a b c t u z
 | .sset xs=>∃ a S n,v=.ref a∧h.SetOf (strKind prog w) a S n∧(∀ k,S k=decide (k∈xs))∧n≤(fO xs).length∧NP h a
 | .bytes i=>∃ t,v=.bytes i t
 | .val u=>v=u
 | .slc i j k=>∃ a vl vu vs,v=.ref a∧h.IsSliceOf a vl vu vs∧FG vl i∧FG vu j∧FG vs k
 | .tup ds=>∃ a vs,v=.ref a∧h.IsTuple a vs.toArray∧cG w h vs ds
 | .list ds=>∃ a vs,v=.ref a∧h.PlainList a vs.toArray∧cG w h vs ds
 | .idict ds=>∃ a kvs,v=.ref a∧(a==Cv)=false∧h.DictOf (BL prog w) a kvs∧cP w h kvs ds
 | .sdict ds=>∃ a kvs,v=.ref a∧(a==Cv)=false∧h.DictOf (strKind prog w) a kvs∧cZ w h kvs ds
 | .obj C ds=>∃ a m,v=.ref a∧h.Inst a C m∧(∀ n,ds.lookup n=Option.none→m n=Option.none)∧uB w h m ds
 | .none=>v=.none
 | _=>True
theorem Rp.inv {v d} (r:Rp w h v d):aGU w h v d:=by
 cases r with
 | none=>exact rfl
 | bool=>exact rfl
 | int i t=>exact ⟨t,rfl⟩
 | str i t=>exact ⟨t,rfl⟩
 | tup a b=>exact ⟨_,_,rfl,a,b⟩
 | list a b=>exact ⟨_,_,rfl,a,b⟩
 | idict q a b=>exact ⟨_,_,rfl,q,a,b⟩
 | sdict q a b=>exact ⟨_,_,rfl,q,a,b⟩
 | obj q a b=>exact ⟨_,_,rfl,q,a,b⟩
 | val=>exact rfl
 | rng x=>exact ⟨_,_,_,_,rfl,x⟩
 | sset x p q m=>exact ⟨_,_,_,rfl,x,p,q,m⟩
 | bytes b t=>exact ⟨t,rfl⟩
 | vviewS=>exact trivial
 | slc a b c d=>exact ⟨_,_,_,_,rfl,a,b,c,d⟩
 | iview=>exact trivial
theorem Rp.ofInt {v i} (r:Rp w h v (.int i)):∃ t,v=.int i t:=r.inv
theorem Rp.ofStr {v i} (r:Rp w h v (.str i)):∃ t,v=.str i t:=r.inv
theorem Rp.ofBool {v i} (r:Rp w h v (.bool i)):v=.bool i:=r.inv
theorem Rp.ofRng {v a b c} (r:Rp w h v (.rng a b c)):∃ x t u z,v=.ref x∧Ii h x a b c t u z:=r.inv
theorem Rp.ofSset {v xs} (r:Rp w h v (.sset xs)):∃ a S n,v=.ref a∧h.SetOf (strKind prog w) a S n∧(∀ k,S k=decide (k∈xs))∧n≤(fO xs).length∧NP h a:=r.inv
theorem Rp.ofBytes {v i} (r:Rp w h v (.bytes i)):∃ t,v=.bytes i t:=r.inv
theorem Rp.ofVal {v u} (r:Rp w h v (.val u)):v=u:=r.inv
theorem Rp.ofSlc {v i j k} (r:Rp w h v (.slc i j k)):∃ a vl vu vs,v=.ref a∧h.IsSliceOf a vl vu vs∧FG vl i∧FG vu j∧FG vs k:=r.inv
theorem Rp.ofTup {v ds} (r:Rp w h v (.tup ds)):∃ a vs,v=.ref a∧h.IsTuple a vs.toArray∧cG w h vs ds:=r.inv
theorem Rp.ofList {v ds} (r:Rp w h v (.list ds)):∃ a vs,v=.ref a∧h.PlainList a vs.toArray∧cG w h vs ds:=r.inv
theorem Rp.ofIdict {v ds} (r:Rp w h v (.idict ds)):∃ a kvs,v=.ref a∧(a==Cv)=false∧h.DictOf (BL prog w) a kvs∧cP w h kvs ds:=r.inv
theorem Rp.ofSdict {v ds} (r:Rp w h v (.sdict ds)):∃ a kvs,v=.ref a∧(a==Cv)=false∧h.DictOf (strKind prog w) a kvs∧cZ w h kvs ds:=r.inv
theorem Rp.ofObj {v C ds} (r:Rp w h v (.obj C ds)):∃ a m,v=.ref a∧h.Inst a C m∧(∀ n,ds.lookup n=Option.none→m n=Option.none)∧uB w h m ds:=r.inv
theorem Rp.ofNone {v} (r:Rp w h v .none):v=.none:=r.inv
structure Ev (w:Bl) (X:List Addr) (A:Ba) (env:Env) (h:Heap) (e:AO) (d:D):Prop where
 go: ∀ s:Ak,XL X s.heap→aZ h s.heap→Au (AI prog w) A (eval e env) (fun v s'=>Rp w (hx X s'.heap) v d∧A0 s s') (fun _ _=>False) s
structure Tv (w:Bl) (X:List Addr) (A:Ba) (h:Heap) (t:Sem Ag) (d:D):Prop where
 go: ∀ s:Ak,XL X s.heap→aZ h s.heap→Au (AI prog w) A t (fun v s'=>Rp w (hx X s'.heap) v d∧A0 s s') (fun _ _=>False) s
theorem dM {s:Ak}:A0 s s:=⟨s.heap,s.toks,rfl,fun _ _ e=>e⟩
theorem aD {a b c:Ak} (x:A0 a b) (y:A0 b c):A0 a c:=by
 refine fP x ?_;clear x;rintro h1 t1 rfl k1;refine fP y ?_;clear y;rintro h2 t2 rfl k2;exact ⟨h2,t2,rfl,fun b o e=>k2 b o (k1 b o e)⟩
theorem aN {a b:Ak} (x:A0 a b):aZ a.heap b.heap:=by refine fP x ?_;clear x;rintro h1 t1 rfl k1;exact k1
theorem dG {s:Ak} {n:Nat}:A0 s { s with toks:=n }:=⟨s.heap,n,rfl,fun _ _ e=>e⟩
theorem bT {s:Ak} {o:Obj}:A0 s { s with heap:=s.heap.push o }:=⟨_,s.toks,rfl,fun _ _ e=>Ai _ e⟩
theorem wpF {α:Type} {M:IA} {A:Ba} {t:Sem α} {Q:α→Ak→Prop} {s:Ak} {E:Ag→Ak→Prop} (x:Au M A t Q (fun _ _=>False) s):Au M A t Q E s:=
 B9 x (fun _ _ q=>q) fun _ _ f=>f.elim
theorem cF {α:Type} {M:IA} {A:Ba} {t:Sem α} {Q Q':α→Ak→Prop} {s:Ak} {E:Ag→Ak→Prop} (x:Au M A t Q (fun _ _=>False) s) (k:∀ v s',Q v s'→Q' v s'):Au M A t Q' E s:=
 B9 x k fun _ _ f=>f.elim
theorem Ev.use {X:List Addr} {A:Ba} {env:Env} {e:AO} {d:D} {s:Ak} {Q:Ag→Ak→Prop} {E:Ag→Ak→Prop} (x:Ev w X A env h e d) (hX:XL X s.heap) (k:aZ h s.heap)
  (q:∀ v s',Rp w (hx X s'.heap) v d→A0 s s'→Q v s'):Au (AI prog w) A (eval e env) Q E s:=
 cF (x.go s hX k) fun v s' r=>q v s' r.1 r.2
theorem Rp.kp {X:List Addr} {v d} {s s':Ak} (r:Rp w (hx X s.heap) v d) (k:A0 s s'):Rp w (hx X s'.heap) v d:=r.mono (aL (aN k))
noncomputable def vQ (env:Env) (h:Heap) (x:Str) (v:Ag):Prop:=
 ∀ {M:IA} {A:Ba} {E:Ag→Ak→Prop} {s:Ak} {Q:Ag→Ak→Prop},aZ h s.heap→Q v s→Au M A (loadName env x) Q E s
noncomputable def Nm (w:Bl) (X:List Addr) (env:Env) (h:Heap) (x:Str) (d:D):Prop:=∃ v,vQ env h x v∧Rp w (hx X h) v d
end
end
section
variable {w:Bl} {A:Ba} {E:Ag→Ak→Prop} {s:Ak}
theorem uZ {t:Ff} {es:Array (Int×Ag)} {h:Int} {x:Ag} (p:t.plain=false):(layNew t es h x).2.1.plain=false:=by
 unfold layNew;split
 ·show (Hf _ _).plain=false
  unfold Hf;split
  ·exact p
  ·rfl
 ·rfl
theorem rG {t:Ff} {es:Array (Int×Ag)} {n:Nat} (p:t.plain=false):(relayAll t es n).2.1.plain=false:=by
 unfold relayAll;split
 ·rename_i t' order e
  dsimp only;split
  ·unfold SetTable.relaid SetTable.laid at e
   simp only [Option.bind_eq_bind,Option.bind_eq_some_iff] at e;refine ob12 e ?_;clear e;intro ow _ e;cases e;exact p
  ·rfl
 ·rfl
theorem vR {g:Bool→Sem Unit} (hg:∀ (b:Bool) (s₁:Ak) (Q':Unit→Ak→Prop),Q' () s₁→Au (AI prog w) A (g b) Q' E s₁)
  {a:Addr} {o:Obj} {es:Array (Int×Ag)} {ep:Nat} {t:Ff} (ho:s.heap.get? a=some o) (hex:o.ExactSet) (hd:o.data=.set es ep t)
  {es1:Array (Int×Ag)} {t2:Ff} {S':Str→Bool} (hel1:ElemsOf (strKind prog w) es1.toList) (hmem1:∀ k',S' k'=true↔∃ e∈es1.toList,(strKind prog w).is k' e.2=true)
  (hb1:es1.size<scanBound) (hf2:t2.fits es1.size=true) (hp2:t2.plain=false) {wasDummy:Bool} {R:Option Bool→Ak→Prop}
  (h:∀ h',A4 a s.heap h'→h'.SetOf (strKind prog w) a S' es1.size→NP h' a→R (some true) { s with heap:=h' }) :
  Au (AI prog w) A (do
    storeSet a es1 t2
    if (!wasDummy&&t2.tooFull)=true then do
      g (relayAll t2 es1 (Du es1.size)).2.2
      storeSet a (relayAll t2 es1 (Du es1.size)).1 (relayAll t2 es1 (Du es1.size)).2.1
      pure (some true)
     else pure (some true)) R E s:=by
 refine Ab (HH ho hd ?_ (HB hb1));refine bM (SetOf_store (knd:=strKind prog w) ho hex hd hel1 hmem1 hb1 hf2) fun g1 set1=>?_;have sb:=A7 s.heap a (Obj.putSet es1 t2);split
 ·have perm:=relayAll_perm t2 es1 (Du es1.size)
  have fit:=relayAll_fits t2 es1 (Du es1.size);have pl:=rG (es:=es1) (n:=Du es1.size) hp2;generalize relayAll t2 es1 (Du es1.size)=Z at perm fit pl ⊢;obtain ⟨es2,t3,gv⟩:=Z;dsimp only at perm fit pl ⊢;have sz:es2.size=es1.size:=by rw [← A6,perm.length_eq,A6]
  refine Ab (hg _ _ _ (Ab (HH g1 rfl ?_ (HB (by rw [sz];exact hb1)))));refine bM (SetOf_store (knd:=strKind prog w) (es':=es2) (t':=t3) (S':=S') g1 hex rfl (hel1.perm perm) (fun k'=>(hmem1 k').trans ⟨fun ⟨e,he,q⟩=>⟨e,perm.mem_iff.mpr he,q⟩,fun ⟨e,he,q⟩=>⟨e,perm.mem_iff.mp he,q⟩⟩) (by rw [sz];exact hb1) fit) fun g2 set2=>?_;rw [sz] at set2;exact Aj (h _ (sb.trans (A7 _ a _)) set2 ⟨_,_,_,_,g2,rfl,.inl pl⟩)
 ·exact Aj (h _ sb set1 ⟨_,_,_,_,g1,rfl,.inl hp2⟩)
theorem zS {a:Addr} {S:Str→Bool} {n:Nat} {k:Str} {x:Ag} {Q:Bool→Ak→Prop} (hkey:(strKind prog w).is k x=true) (hsc:x.scannable=true) (hpk:plainKind x=false) (hS:s.heap.SetOf (strKind prog w) a S n) (np:NP s.heap a)
  (hroom:n+1<scanBound)
  (h:∀ h',A4 a s.heap h'→h'.SetOf (strKind prog w) a (fun k'=>S k' || decide (k'=k)) (if S k then n else n+1)→NP h' a→Q (!S k) { s with heap:=h' }) :
  Au (AI prog w) A (setAddHashed a x ((strKind prog w).hash k)) Q E s:=by
 refine aHj hS fun o es ep t ho hex hd hel hmem hb hf hn=>?_;clear hS;refine aF8 (id np) fun o' es' ep' t' ho' hd' hpl=>?_;rw [ho] at ho';cases ho';rw [hd] at hd';cases hd';unfold setAddHashed setAddHashedIn;refine BA (Ab (DM ho hd hf ?_));dsimp only;rw [byScan_of hsc hb hel];simp only [↓reduceIte];unfold setAddByScan;refine Ab (Ab (Ej (Ab (wpAny_setScan_of hkey ho hd hf hel ?_))));cases hr:IY (fun e=>(strKind prog w).is k e.2) es.toList with
 | some j=>
  dsimp only;refine ob12 (Eo.mp hr) fun hj hpj _=>?_;have hSk:S k=true:=(hmem k).mpr ⟨es.toList[j],EL hj,hpj⟩;have e:s={ s with heap:=s.heap }:=by cases s;rfl
  have z:=h s.heap (JV a s.heap) ⟨o,es,ep,t,ho,hex,hd,hel,fun k'=>by
   rw [CJ,decide_eq_true_eq,← hmem k'];exact ⟨fun q=>q.elim id fun e=>e▸hSk,.inl⟩,hb,hf,by rw [hSk];exact hn⟩ np
  rw [hSk] at z;refine Aj (Aj ?_);rw [e];exact z
 | none=>
  dsimp only;have hSk:S k=false:=by
   cases hk:S k with
   | false=>rfl
   | true=>
    refine ob12 ((hmem k).mp hk) fun e he hp=>?_;have:=List.findIdx?_eq_none_iff.mp hr e he;rw [hp] at this;cases this
  have perm:=layNew_perm t es ((strKind prog w).hash k) x;have fit:=layNew_fits t es ((strKind prog w).hash k) x;have pln:t.plain=false→(layNew t es ((strKind prog w).hash k) x).2.1.plain=false:=uZ;generalize layNew t es ((strKind prog w).hash k) x=L at perm fit pln ⊢;obtain ⟨es1,t1,wd,gave⟩:=L;dsimp only at perm fit pln ⊢;rw [Hj] at perm;have hel1:ElemsOf (strKind prog w) es1.toList:=(hel.push hkey hsc).perm perm;have hmem1:∀ k',(S k' || decide (k'=k))=true↔∃ e∈es1.toList,(strKind prog w).is k' e.2=true:=mem_push_iff hkey hmem perm;have hsz1:es1.size=n+1:=by rw [← A6,perm.length_eq,Af,A6,hn];rfl
  have hb1:es1.size<scanBound:=by rw [hsz1];exact hroom
  have fin:∀ h',A4 a s.heap h'→h'.SetOf (strKind prog w) a (fun k'=>S k' || decide (k'=k)) es1.size→NP h' a→Q true { s with heap:=h' }:=by
   intro h' sb st np';have z:=h h' sb;rw [hSk] at z;rw [hsz1] at st;exact z st np'
  have gw:∀ (b:Bool) (s₁:Ak) (Q':Unit→Ak→Prop),Q' () s₁→Au (AI prog w) A (match b with | true=>rule "set.scan.the-table-gave-way" | false=>pure ()) Q' E s₁:=fun b s₁ Q' q=>by
   cases b <;> first | exact Aj q | exact Ej q
  refine Ab (gw _ _ _ ?_);split
  ·refine Ab ?_
   rw [hashByValue_scannable 8 hsc,hpk];refine Aj ?_;refine vR gw ho hex hd hel1 hmem1 hb1 (SetTable.fits_plain_off fit) rfl fun h' sb st np'=>?_;exact Aj (fin h' sb st np')
  ·rename_i hp1
   refine Ab (Aj ?_);simp only [↓reduceIte];refine vR gw ho hex hd hel1 hmem1 hb1 fit ?_ fun h' sb st np'=>?_
   ·simpa using hp1
   ·exact Aj (fin h' sb st np')
theorem pC {a:Addr} {S:Str→Bool} {n:Nat} {k:Str} {key:Ag} {Q:Ag→Ak→Prop} (hkey:(strKind prog w).is k key=true) (hsc:key.scannable=true) (hpk:plainKind key=false) (hS:s.heap.SetOf (strKind prog w) a S n) (np:NP s.heap a) (hroom:n+1<scanBound)
  (h:∀ h',A4 a s.heap h'→h'.SetOf (strKind prog w) a (fun k'=>S k' || decide (k'=k)) (if S k then n else n+1)→NP h' a→Q .none { s with heap:=h',toks:=s.toks+1 }) :
  Au (AI prog w) A (call (.builtin "set.add") [.ref a,key]) Q E s:=by
 refine A9 PySem.F.slot_set_add hS.typeIs PySem.F.entry_set_add ?_ (PySem.F.args_set_add_2 _ _);unfold Dy.«set.add» Il;simp only [List.isEmpty_nil,bind_assoc];unfold IS setAdd;refine Ab (Aj ?_)
 try dsimp only
 refine Ab (Aj ?_)
 try dsimp only
 refine Ab (BA (Ab ((strKind prog w).pyHash hkey ?_)));refine zS (s:={ s with toks:=s.toks+1 }) hkey hsc hpk hS np hroom fun h' sb st np'=>?_;show Au _ _ (ret Ag.none) _ _ _;exact Aj ⟨_,rfl,h h' sb st np'⟩
end
section
variable {w:Bl} {X:List Addr} {A:Ba} {env:Env} {h h':Heap}
structure Bo (w:Bl) (X:List Addr) (A:Ba) (h:Heap) (t:Ag→Ag→Sem Ag) (d1 d2 d:D):Prop where
 go: ∀ (s:Ak) v1 v2,XL X s.heap→aZ h s.heap→Rp w (hx X s.heap) v1 d1→Rp w (hx X s.heap) v2 d2→
  Au (AI prog w) A (t v1 v2) (fun v s'=>Rp w (hx X s'.heap) v d∧A0 s s') (fun _ _=>False) s
structure Uo (w:Bl) (X:List Addr) (A:Ba) (h:Heap) (t:Ag→Sem Ag) (d1 d:D):Prop where
 go: ∀ (s:Ak) v1,XL X s.heap→aZ h s.heap→Rp w (hx X s.heap) v1 d1→
  Au (AI prog w) A (t v1) (fun v s'=>Rp w (hx X s'.heap) v d∧A0 s s') (fun _ _=>False) s
structure Tt (w:Bl) (X:List Addr) (A:Ba) (h:Heap) (d1:D) (b:Bool):Prop where
 go: ∀ (s:Ak) v1,XL X s.heap→aZ h s.heap→Rp w (hx X s.heap) v1 d1→
  Au (AI prog w) A (truthy v1) (fun r s'=>r=b∧A0 s s') (fun _ _=>False) s
structure Tr (w:Bl) (X:List Addr) (A:Ba) (env:Env) (h:Heap) (e:AO) (b:Bool):Prop where
 go: ∀ (s:Ak),XL X s.heap→aZ h s.heap→Au (AI prog w) A (isTrue e env (eval e env)) (fun r s'=>r=b∧A0 s s') (fun _ _=>False) s
structure Es (w:Bl) (X:List Addr) (A:Ba) (env:Env) (h:Heap) (es:List AO) (ds:List D):Prop where
 go: ∀ (s:Ak) pos,XL X s.heap→aZ h s.heap→Au (AI prog w) A (spliced (backTo pos (AF es env))) (fun vs s'=>cG w (hx X s'.heap) vs ds∧A0 s s') (fun _ _=>False) s
structure Cl (w:Bl) (X:List Addr) (A:Ba) (h:Heap) (f:Ag) (first:List D) (ds:List D) (d:D):Prop where
 go: ∀ (s:Ak) fs vs,XL X s.heap→aZ h s.heap→cG w (hx X s.heap) fs first→cG w (hx X s.heap) vs ds→
  Au (AI prog w) A (call f (fs++vs) []) (fun v s'=>Rp w (hx X s'.heap) v d∧A0 s s') (fun _ _=>False) s
theorem Tr.use {e b} {s:Ak} {Q:Bool→Ak→Prop} {E} (x:Tr w X A env h e b) (hX:XL X s.heap) (k:aZ h s.heap)
  (q:∀ s',A0 s s'→Q b s'):Au (AI prog w) A (isTrue e env (eval e env)) Q E s:=
 cF (x.go s hX k) fun v s' r=>r.1▸q s' r.2
theorem Ev.name {x pos d} (n:Nm w X env h x d) (hd:autoParam ((x==("__debug__":Str))=false) ad):Ev w X A env h (.Name x pos) d:=.mk fun s _ k=>by
 refine ob12 n fun v l r=>?_;clear n;exact wpAny_Name (l k ⟨r.mono (aL k),dM⟩) hd
theorem Ev.int {i k pos}:Ev w X A env h (.Constant (.int i) k pos) (.int i):=.mk fun _ _ _=>wpAny_Constant_int ⟨.int _ _,dG⟩
theorem Ev.str {x k pos}:Ev w X A env h (.Constant (.str x) k pos) (.str x):=.mk fun _ _ _=>wpAny_Constant_str ⟨.str _ _,dG⟩
theorem Ev.bool {b k pos}:Ev w X A env h (.Constant (.bool b) k pos) (.bool b):=.mk fun _ _ _=>wpAny_Constant_bool ⟨.bool _,dM⟩
theorem Ev.none {k pos}:Ev w X A env h (.Constant .none k pos) .none:=.mk fun _ _ _=>wpAny_Constant_none ⟨.none,dM⟩
theorem Ev.bin {op l r p d1 d2 d} (hl:Ev w X A env h l d1) (hr:Ev w X A env h r d2) (ho:Bo w X A h (Dh op) d1 d2 d):Ev w X A env h (.BinOp l op r p) d:=.mk fun _ hX k=>
 wpAny_BinOp (hl.use hX k fun v1 s1 r1 k1=>hr.use (hX.mono (aN k1)) (k.trans (aN k1)) fun v2 s2 r2 k2=>
  cF (ho.go s2 v1 v2 (hX.mono ((aN k1).trans (aN k2))) ((k.trans (aN k1)).trans (aN k2)) (r1.kp k2) r2) fun v s3 z=>⟨z.1,aD (aD k1 k2) z.2⟩)
theorem Ev.cmp {op l r p d1 d2 d} (hl:Ev w X A env h l d1) (hr:Ev w X A env h r d2) (ho:Bo w X A h (B3 op) d1 d2 d) (hm:FM op r=false:=by with_unfolding_all rfl) :
  Ev w X A env h (.Compare l [op] [r] p) d:=.mk fun _ hX k=>
 wpAny_Compare1 (hl.use hX k fun v1 s1 r1 k1=>hr.use (hX.mono (aN k1)) (k.trans (aN k1)) fun v2 s2 r2 k2=>
  cF (ho.go s2 v1 v2 (hX.mono ((aN k1).trans (aN k2))) ((k.trans (aN k1)).trans (aN k2)) (r1.kp k2) r2) fun v s3 z=>⟨z.1,aD (aD k1 k2) z.2⟩) hm
theorem Tr.cmp {op l r p d1 d2 b} (hl:Ev w X A env h l d1) (hr:Ev w X A env h r d2) (ho:Bo w X A h (B3 op) d1 d2 (.bool b)) (hm:FM op r=false:=by with_unfolding_all rfl) :
  Tr w X A env h (.Compare l [op] [r] p) b:=.mk fun _ hX k=>
 EJ (hl.use hX k fun v1 s1 r1 k1=>hr.use (hX.mono (aN k1)) (k.trans (aN k1)) fun v2 s2 r2 k2=>
  cF (ho.go s2 v1 v2 (hX.mono ((aN k1).trans (aN k2))) ((k.trans (aN k1)).trans (aN k2)) (r1.kp k2) r2) fun v s3 z=>by
   rw [Rp.ofBool z.1];exact Dk ⟨rfl,aD (aD k1 k2) z.2⟩) hm
theorem sC (op x pos):eval (.UnaryOp op x pos) env=(do let v ← eval x env;standAt pos;holding [v] (unaryOp op v)):=rfl
theorem Ev.un {op e p d1 d} (hl:Ev w X A env h e d1) (ho:Uo w X A h (unaryOp op) d1 d):Ev w X A env h (.UnaryOp op e p) d:=.mk fun _ hX k=>by
 rw [sC];exact Ab (hl.use hX k fun v1 s1 r1 k1=>Ab (B2 (BA
  (cF (ho.go s1 v1 (hX.mono (aN k1)) (k.trans (aN k1)) r1) fun v s3 z=>⟨z.1,aD k1 z.2⟩))))
theorem Tr.val {e d b} (hl:Ev w X A env h e d) (ht:Tt w X A h d b) (he:autoParam (∀ whole,isTrue e env whole=(do let v ← whole;standAt e.pos;holding [v] (truthy v))) ak) :
  Tr w X A env h e b:=.mk fun _ hX k=>
 wpAny_isTrue_value (hl.use hX k fun v1 s1 r1 k1=>cF (ht.go s1 v1 (hX.mono (aN k1)) (k.trans (aN k1)) r1) fun v s3 z=>⟨z.1,aD k1 z.2⟩) (he _)
theorem Tr.not {x p b} (hl:Tr w X A env h x b):Tr w X A env h (.UnaryOp .Not x p) (!b):=.mk fun s hX k=>by
 show Au _ _ (do return !(← isTrue x env (eval x env))) _ _ _;exact Ab (hl.use hX k fun s1 k1=>Aj ⟨rfl,k1⟩)
theorem Tr.and2 {x y p b c} (hx':Tr w X A env h x b) (hy:b=true→Tr w X A env h y c):Tr w X A env h (.BoolOp .And [x,y] p) (b&&c):=.mk fun s hX k=>by
 refine E3 (DE (hx'.use hX k fun s1 k1=>?_));cases b with
 | false=>exact ⟨rfl,k1⟩
 | true=>exact DE ((hy rfl).use (hX.mono (aN k1)) (k.trans (aN k1)) fun s2 k2=>by
   cases c with
   | false=>exact ⟨rfl,aD k1 k2⟩
   | true=>exact Gr ⟨rfl,aD k1 k2⟩)
theorem Ev.ite {t x y p b d} (ht:Tr w X A env h t b) (h1:b=true→Ev w X A env h x d) (h2:b=false→Ev w X A env h y d):Ev w X A env h (.IfExp t x y p) d:=.mk fun s hX k=>by
 show Au _ _ (do if ← isTrue t env (eval t env) then eval x env else eval y env) _ _ _;refine Ab (ht.use hX k fun s1 k1=>?_);cases b with
 | true=>exact (h1 rfl).use (hX.mono (aN k1)) (k.trans (aN k1)) fun v s2 r k2=>⟨r,aD k1 k2⟩
 | false=>exact (h2 rfl).use (hX.mono (aN k1)) (k.trans (aN k1)) fun v s2 r k2=>⟨r,aD k1 k2⟩
theorem Es.nil:Es w X A env h [] []:=.mk fun s p _ _=>C9 ⟨.nil,dM⟩
theorem Es.cons {e es d ds} (a:Ev w X A env h e d) (b:Es w X A env h es ds) (he:autoParam (AF (e::es) env=(false,eval e env)::AF es env) aq):Es w X A env h (e::es) (d::ds):=.mk fun s p hX k=>
 Dw (a.use hX k fun v s1 r1 k1=>cF (b.go s1 p (hX.mono (aN k1)) (k.trans (aN k1))) fun vs s2 z=>⟨.cons (r1.kp z.2) z.1,aD k1 z.2⟩) he
theorem Es.one {e d} (a:Ev w X A env h e d) (he:autoParam (AF [e] env=(false,eval e env)::AF [] env) aq):Es w X A env h [e] [d]:=.cons a .nil he
theorem IsTuple.new {s:Ak} {X:List Addr} {vs:List Ag} (hX:XL X s.heap):(hx X (s.heap.push { cls:=.type "tuple",data:=.seq vs.toArray })).IsTuple s.heap.objs.size vs.toArray:=
 ⟨_,bU (Ae _ rfl) (hX.fresh (Am _)),rfl,0,rfl⟩
theorem PlainList.new {s:Ak} {X:List Addr} {vs:List Ag} (hX:XL X s.heap):(hx X (s.heap.push { cls:=.type "list",data:=.seq vs.toArray })).PlainList s.heap.objs.size vs.toArray:=
 ⟨_,bU (Ae _ rfl) (hX.fresh (Am _))⟩
theorem bD:1000≤sizeLine:=by decide
theorem Ev.tup {es x1 p ds} (a:Es w X A env h es ds) (hl:autoParam (ds.length≤1000) ak):Ev w X A env h (.Tuple es x1 p) (.tup ds):=.mk fun s hX k=>
 H1 (cF (a.go s p hX k) fun vs s1 z=>⟨by rw [z.1.length];exact Ao hl bD,.tup (IsTuple.new (hX.mono (aN z.2))) (z.1.mono (aL (aN bT))),aD z.2 bT⟩)
theorem Ev.list {es p ds} (a:Es w X A env h es ds) (hl:autoParam (ds.length≤1000) ak):Ev w X A env h (.List es p) (.list ds):=.mk fun s hX k=>
 Gh (cF (a.go s p hX k) fun vs s1 z=>⟨by rw [z.1.length];exact Ao hl bD,.list (PlainList.new (hX.mono (aN z.2))) (z.1.mono (aL (aN bT))),aD z.2 bT⟩)
theorem Bo.add {a b}:Bo w X A h (Dh .Add) (.int a) (.int b) (.int (a+b)):=.mk fun s v1 v2 _ _ r1 r2=>by
 refine ob11 r1.ofInt ?_;rintro t rfl;refine ob11 r2.ofInt ?_;rintro u rfl;exact Jz ⟨.int _ _,dG⟩
theorem Bo.sub {a b}:Bo w X A h (Dh .Sub) (.int a) (.int b) (.int (a - b)):=.mk fun s v1 v2 _ _ r1 r2=>by
 refine ob11 r1.ofInt ?_;rintro t rfl;refine ob11 r2.ofInt ?_;rintro u rfl;exact Js ⟨.int _ _,dG⟩
theorem Bo.mul {a b} (hm:GC a b:=by mul_fits):Bo w X A h (Dh .Mult) (.int a) (.int b) (.int (a*b)):=.mk fun s v1 v2 _ _ r1 r2=>by
 refine ob11 r1.ofInt ?_;rintro t rfl;refine ob11 r2.ofInt ?_;rintro u rfl;exact JD ⟨.int _ _,dG⟩ hm
theorem Bo.band {a b}:Bo w X A h (Dh .BitAnd) (.int a) (.int b) (.int (Bk a b)):=.mk fun s v1 v2 _ _ r1 r2=>by
 refine ob11 r1.ofInt ?_;rintro t rfl;refine ob11 r2.ofInt ?_;rintro u rfl;exact JB ⟨.int _ _,dG⟩
theorem Bo.lt {a b}:Bo w X A h (B3 .Lt) (.int a) (.int b) (.bool (decide (a<b))):=.mk fun s v1 v2 _ _ r1 r2=>by
 refine ob11 r1.ofInt ?_;rintro t rfl;refine ob11 r2.ofInt ?_;rintro u rfl;exact JP ⟨.bool _,dM⟩
theorem Bo.gt {a b}:Bo w X A h (B3 .Gt) (.int a) (.int b) (.bool (decide (b<a))):=.mk fun s v1 v2 _ _ r1 r2=>by
 refine ob11 r1.ofInt ?_;rintro t rfl;refine ob11 r2.ofInt ?_;rintro u rfl;exact JN ⟨.bool _,dM⟩
theorem Bo.le {a b}:Bo w X A h (B3 .LtE) (.int a) (.int b) (.bool (decide (a≤b))):=.mk fun s v1 v2 _ _ r1 r2=>by
 refine ob11 r1.ofInt ?_;rintro t rfl;refine ob11 r2.ofInt ?_;rintro u rfl;exact JO ⟨.bool _,dM⟩
theorem Bo.eqi {a b}:Bo w X A h (B3 .Eq) (.int a) (.int b) (.bool (a==b)):=.mk fun s v1 v2 _ _ r1 r2=>by
 refine ob11 r1.ofInt ?_;rintro t rfl;refine ob11 r2.ofInt ?_;rintro u rfl;exact JJ ⟨.bool _,dM⟩
theorem Bo.eqs {a b}:Bo w X A h (B3 .Eq) (.str a) (.str b) (.bool (a==b)):=.mk fun s v1 v2 _ _ r1 r2=>by
 refine ob11 r1.ofStr ?_;rintro t rfl;refine ob11 r2.ofStr ?_;rintro u rfl;exact JK ⟨.bool _,dM⟩
theorem Bo.adds {a b} (hs:a.length+b.length≤sizeLine):Bo w X A h (Dh .Add) (.str a) (.str b) (.str (a++b)):=.mk fun s v1 v2 _ _ r1 r2=>by
 refine ob11 r1.ofStr ?_;rintro t rfl;refine ob11 r2.ofStr ?_;rintro u rfl;exact JA (fun t' tk=>⟨.str _ _,dG⟩) hs
theorem Uo.neg {a}:Uo w X A h (unaryOp .USub) (.int a) (.int (-a)):=.mk fun s v1 _ _ r1=>by
 refine ob11 r1.ofInt ?_;rintro t rfl;exact JE ⟨.int _ _,dG⟩
theorem Tt.bool {b}:Tt w X A h (.bool b) b:=.mk fun s v1 _ _ r1=>by
 rw [r1.ofBool];exact Dk ⟨rfl,dM⟩
end
noncomputable def Ch (F:List Addr) (s s':Ak):Prop:=∃ h' tk,∃ g':Array GenState×Drawn,s'={ s with heap:=h',toks:=tk,gens:=g'.1,drawn:=g'.2 }∧(∀ b o,b∉F→s.heap.get? b=some o→h'.get? b=some o)∧
 ((∃ o,s.heap.get? aK=some o)→aK∉F→g'=(s.gens,s.drawn))∧(Hi s.gens→Hi g'.1)
theorem Ch.rfl {F s}:Ch F s s:=⟨s.heap,s.toks,(s.gens,s.drawn),Eq.refl _,fun _ _ _ e=>e,fun _ _=>Eq.refl _,id⟩
theorem Ch.get {F a b} (x:Ch F a b) {c o} (n:c∉F) (e:a.heap.get? c=some o):b.heap.get? c=some o:=by refine xJ x ?_;clear x;rintro h1 t1 g1 rfl k1 _;exact k1 _ _ n e
theorem Ch.trans {F a b c} (x:Ch F a b) (y:Ch F b c):Ch F a c:=by
 refine pH x ?_;clear x;rintro h1 t1 g1 rfl k1 q1 b1;refine pH y ?_;clear y;rintro h2 t2 g2 rfl k2 q2 b2;exact ⟨h2,t2,g2,Eq.refl _,fun b o n e=>k2 b o n (k1 b o n e),fun ⟨o,e⟩ n=>(q2 ⟨o,k1 _ _ n e⟩ n).trans (q1 ⟨o,e⟩ n),fun z=>b2 (b1 z)⟩
theorem Ch.of_keeps {F a b} (x:A0 a b):Ch F a b:=by refine fP x ?_;clear x;rintro h1 t1 rfl k1;exact ⟨h1,t1,(a.gens,a.drawn),Eq.refl _,fun b o _ e=>k1 b o e,fun _ _=>Eq.refl _,id⟩
theorem Ch.keeps {a b} (x:Ch [] a b) (p:∃ o,a.heap.get? aK=some o):A0 a b:=by
 refine pH x ?_;clear x;rintro h1 t1 g1 rfl k1 q1 _;cases q1 p (fun m=>nomatch m);exact ⟨h1,t1,Eq.refl _,fun b o e=>k1 b o (fun m=>nomatch m) e⟩
theorem Ch.step {F G a b c} (x:Ch F a b) (y:Ch G b c) (k:∀ g∈G,g∈F∨a.heap.get? g=none):Ch F a c:=by
 refine pH x ?_;clear x;rintro h1 t1 g1 rfl k1 q1 b1;refine pH y ?_;clear y;rintro h2 t2 g2 rfl k2 q2 b2;have off:∀ {z o},z∉F→a.heap.get? z=some o→z∉G:=fun n e m=>(k _ m).elim n fun q=>by rw [q] at e;cases e
 exact ⟨h2,t2,g2,Eq.refl _,fun b o n e=>k2 b o (off n e) (k1 b o n e),fun ⟨o,e⟩ n=>(q2 ⟨o,k1 _ _ n e⟩ (off n e)).trans (q1 ⟨o,e⟩ n),fun z=>b2 (b1 z)⟩
theorem Ch.same {F a s h'} {tk:Nat} (hs:A4 a s.heap h') (m:a∈F):Ch F s { s with heap:=h',toks:=tk }:=
 ⟨h',tk,(s.gens,s.drawn),Eq.refl _,fun b o n e=>hs.extBut b o (fun q=>n (q▸m)) e,fun _ _=>Eq.refl _,id⟩
theorem Ch.heap {F s h'} {tk:Nat} (k:∀ b o,b∉F→s.heap.get? b=some o→h'.get? b=some o):Ch F s { s with heap:=h',toks:=tk }:=
 ⟨h',tk,(s.gens,s.drawn),Eq.refl _,k,fun _ _=>Eq.refl _,id⟩
theorem Ch.os {F a b} (x:Ch F a b):b.os=a.os:=by refine fW x ?_;clear x;rintro h1 t1 g1 rfl _;exact Eq.refl _
theorem Ch.bare {F a b} (x:Ch F a b) (z:Hi a.gens):Hi b.gens:=by refine pH x ?_;clear x;rintro h1 t1 g1 rfl _ _ b1;exact b1 z
noncomputable def oc (env:Env):List (Str×Addr):=env.cells.filter fun p=>decide (env.locals<p.2)
noncomputable def Fp (env:Env):List Addr:=env.locals::(oc env).map (·.2)
theorem vG {env:Env} {x:Str} {c:Addr} (hc:env.cells.lookup x=some c) (hl:env.locals<c):(x,c)∈oc env:=Bf.mpr ⟨mem_of_lookup hc,decide_eq_true hl⟩
theorem xK {env:Env} {x:Str} {c:Addr} (hc:env.cells.lookup x=some c) (hl:env.locals<c):c∈Fp env:=.tail _ (AY.mpr ⟨_,vG hc hl,rfl⟩)
noncomputable def nB (env:Env) (x:Str):Prop:=env.kindOf x=some .local∨(env.kindOf x=some .cell∧∃ c,env.cells.lookup x=some c∧env.locals<c)
structure lU where
 gt:Str→Option Ag
 fr:List Str
 fns:List (Addr×BE)
 cls:List (Addr×Addr×List (Str×Ag))
 vals:List (Ag×D)
 K:Frag
structure FnH (h:Heap) (a:Addr) (fd:BE):Prop where
 obj:∃ o,h.get? a=some o∧o.cls=.type "function"∧o.data=.func fd
 code:h.CodeRec fd.code fd.qualname
theorem FnH.mono {h h' a fd} (x:FnH h a fd) (k:aZ h h'):FnH h' a fd:=⟨let ⟨o,e,r⟩:=x.obj;⟨o,k _ _ e,r⟩,x.code.keeps k⟩
structure Wd (w:Bl) (T:lU) (h:Heap):Prop where
 glob:∃ mg,h.Ns AR mg∧∀ x v,T.gt x=some v→mg x=some v
 free:∃ mg,h.Ns AR mg∧∀ x∈T.fr,mg x=none
 boot:∃ mb,h.Ns builtinsNs mb∧∀ x:Str,x≠"__name__"→mb x=E8 x
 nolimit:h.NoLimit
 nodigits:∃ mc,h.Ns cStatics mc∧mc "sys.int_max_str_digits"=none
 fns:∀ p∈T.fns,FnH h p.1 p.2
 cls:∀ p∈T.cls,ClsAt h p.1 p.2.1 fun n=>p.2.2.lookup n
 vals:∀ p∈T.vals,Rp w h p.1 p.2
 frag:T.K.In h
 bmod:∃ mg bm ob,h.Ns AR mg∧mg "__builtins__"=some (.ref bm)∧bm≠builtinsNs∧h.get? bm=some ob∧ob.cls=.type "module"∧ob.dict=some builtinsNs∧ob.data=.plain
theorem Wd.mono {w T h h'} (W:Wd w T h) (k:aZ h h'):Wd w T h' where
 glob:=ob12 W.glob fun m a b=>⟨m,a.keeps k,b⟩
 free:=ob12 W.free fun m a b=>⟨m,a.keeps k,b⟩
 boot:=ob12 W.boot fun m a b=>⟨m,a.keeps k,b⟩
 nolimit:=W.nolimit.keeps k
 nodigits:=ob12 W.nodigits fun m a b=>⟨m,a.keeps k,b⟩
 fns:=fun p m=>(W.fns p m).mono k
 cls:=fun p m=>(W.cls p m).keeps k
 vals:=fun p m=>(W.vals p m).mono k
 frag:=W.frag.keeps k
 bmod:=aF7 W.bmod fun mg bm ob a b c d e f g=>⟨mg,bm,ob,a.keeps k,b,c,k _ _ d,e,f,g⟩
inductive cN (w:Bl) (X:List Addr) (h:Heap) (a:Addr):D→Prop
 | list {vs ds}:h.PlainList a (List.toArray vs)→cG w (hx X h) vs ds→cN w X h a (.list ds)
 | idict {kvs ds}:(a==Cv)=false→h.DictOf (BL prog w) a kvs→cP w (hx X h) kvs ds→cN w X h a (.idict ds)
 | sdict {kvs ds}:(a==Cv)=false→h.DictOf (strKind prog w) a kvs→cZ w (hx X h) kvs ds→cN w X h a (.sdict ds)
 | sset {S:Str→Bool} {n:Nat} {xs:List Str}:h.SetOf (strKind prog w) a S n→(∀ k,S k=decide (k∈xs))→n≤(fO xs).length→NP h a→cN w X h a (.sset xs)
 | ctab {ps:Array Ag} {op:Obj}:CodeHd (hx X h) 62 a→h.get? a=some op→op=tabObj ps→TriplesOk ps.toList→cN w X h a .ctab
 | biter {b:Array UInt8} {t:Tok} {i:Nat}:CK h a b t i→cN w X h a (.biter b i)
theorem cN.mono {w X X' h h' a d} (x:cN w X h a d) (k:aZ (hx X h) (hx X' h')) (ka:∀ o,h.get? a=some o→h'.get? a=some o):cN w X' h' a d:=by
 cases x with
 | list p r=>exact .list (p.at ka) (r.mono k)
 | idict q p r=>
  refine fW p fun o es ep ho z=>?_;clear p;exact .idict q ⟨o,es,ep,ka _ ho,z⟩ (r.mono k)
 | sdict q p r=>
  refine fW p fun o es ep ho z=>?_;clear p;exact .sdict q ⟨o,es,ep,ka _ ho,z⟩ (r.mono k)
 | sset p q r n=>exact .sset (vF p fun o es ep t ho r=>⟨o,es,ep,t,ka _ ho,r⟩) q r (vF n fun o es ep t ho r=>⟨o,es,ep,t,ka _ ho,r⟩)
 | ctab p q e r=>exact .ctab (p.keeps k) (ka _ q) e r
 | biter p=>exact .biter (by refine ob12 p fun o ho z=>?_;exact ⟨o,ka _ ho,z⟩)
structure St (w:Bl) (T:lU) (s₀:Ak) (F X:List Addr) (env:Env) (s:Ak) (l:Str→Option D) (mu:List (Addr×D)):Prop where
 kind:env.scope.kind=.function
 gl:env.globals=AR
 bl:env.builtins=builtinsNs
 base:Ch F s₀ s
 live:XL X s.heap
 pl:∃ o,s₀.heap.get? aK=some o
 mem:∀ a∈Fp env,a∈X
 own:∀ a∈Fp env,a∈F∨s₀.heap.get? a=none
 ns:∃ m,s.heap.Ns env.locals m∧∀ x d,l x=some d→env.kindOf x=some .local→∃ v,m x=some v∧Rp w (hx X s.heap) v d
 cs:∀ x c,env.cells.lookup x=some c→env.locals<c→env.kindOf x=some .cell→∃ v,s.heap.IsCell c v∧∀ d,l x=some d→∃ u,v=some u∧Rp w (hx X s.heap) u d
 tot:∀ x d,l x=some d→nB env x
 apart:(oc env).Pairwise fun x y=>x.2≠y.2
 wd:Wd w T (hx X s.heap)
 mus:∀ p∈mu,p.1∈X∧p.1∉Fp env∧(p.1∈F∨s₀.heap.get? p.1=none)∧cN w X s.heap p.1 p.2
 mud:mu.Pairwise fun x y=>x.1≠y.1
section
variable {w:Bl} {T:lU} {s₀ s s':Ak} {F X:List Addr} {A:Ba} {env:Env} {l:Str→Option D} {mu:List (Addr×D)} {h h':Heap}
theorem vQ.local {x v m} (hk:env.scope.kind=.function) (hl:env.kindOf x=some .local) (hn:h.Ns env.locals m) (hv:m x=some v):vQ env h x v:=fun k q=>
 wpAny_loadName_local hk hl (hn.keeps k) hv q
theorem vQ.cell {x v c} (hk:env.scope.kind=.function) (hl:env.kindOf x=some .cell) (hc:env.cells.lookup x=some c) (hv:h.IsCell c (some v)):vQ env h x v:=fun k q=>
 wpAny_loadName_cell hk hl hc (hv.keeps k) q
theorem vQ.global {x v mg} (hk:env.scope.kind=.function) (hl:env.kindOf x=some .globalImplicit) (he:env.globals=AR) (hg:h.Ns AR mg) (hv:mg x=some v):vQ env h x v:=fun k q=>by
 rw [loadName_read hk hl];exact loadGlobal_global (he▸hg.keeps k) hv q
theorem vQ.boot {x v mg mb} (hk:env.scope.kind=.function) (hl:env.kindOf x=some .globalImplicit) (he:env.globals=AR) (hb':env.builtins=builtinsNs) (hg:h.Ns AR mg) (hv:mg x=none) (hb:h.Ns builtinsNs mb) (hm:mb x=some v):vQ env h x v:=fun k q=>by
 rw [loadName_read hk hl];exact loadGlobal_builtin (he▸hg.keeps k) hv (hb'▸hb.keeps k) hm q
structure GB (env:Env):Prop where
 kind:env.scope.kind=.function
 gl:env.globals=AR
 bl:env.builtins=builtinsNs
theorem Nm.global {x v} (g:GB env) (W:Wd w T (hx X h)) (hv:T.gt x=some v) (hl:autoParam (env.kindOf x=some .globalImplicit) aq):Nm w X env h x (.val v):=by
 refine ob12 W.glob fun mg hg e=>?_;exact ⟨v,vQ.global g.kind hl g.gl (hg.keeps aR) (e _ _ hv),.val v⟩
theorem Nm.boot {x v} (g:GB env) (W:Wd w T (hx X h)) (hv:x∈T.fr) (hb:E8 x=some v) (hl:autoParam (env.kindOf x=some .globalImplicit) aq) (hn:autoParam (x≠"__name__") ad):Nm w X env h x (.val v):=by
 refine ob12 W.free fun mg hg e=>?_;refine ob12 W.boot fun mb hbn eb=>?_;exact ⟨v,vQ.boot g.kind hl g.gl g.bl (hg.keeps aR) (e _ hv) (hbn.keeps aR) ((eb _ hn).trans hb),.val v⟩
theorem St.gb (S:St w T s₀ F X env s l mu):GB env:=⟨S.kind,S.gl,S.bl⟩
theorem St.nm {x d} (S:St w T s₀ F X env s l mu) (hl:l x=some d):Nm w X env s.heap x d:=by
 rcases S.tot x d hl with q | ⟨q,c⟩
 ·refine ob12 S.ns fun m n k=>?_
  refine ob12 (k x d hl q) fun v e r=>?_;exact ⟨v,vQ.local S.kind q n e,r⟩
 ·refine ob12 c ?_;clear c;intro c hc lt
  refine ob12 (S.cs x c hc lt q) fun v hv k=>?_;refine ob12 (k d hl) ?_;rintro u rfl r;exact ⟨u,vQ.cell S.kind q hc hv,r⟩
theorem St.step {G} (S:St w T s₀ F X env s l mu) (c:Ch G s s') (hG:∀ g∈G,g∈X∧g∉Fp env∧(g∈F∨s₀.heap.get? g=none)) (hM:∀ p∈mu,p.1∉G) (hL:XL X s'.heap):St w T s₀ F X env s' l mu:=by
 have hm:aZ (hx X s.heap) (hx X s'.heap):=aJ (fun b o n e=>c.get (fun m=>n (hG b m).1) e) fun y m=>.inl m;have fp:∀ a∈Fp env,∀ o,s.heap.get? a=some o→s'.heap.get? a=some o:=fun a ha o e=>c.get (fun m=>(hG a m).2.1 ha) e;refine ⟨S.kind,S.gl,S.bl,S.base.step c fun g m=>(hG g m).2.2,hL,S.pl,S.mem,S.own,?_,?_,S.tot,S.apart,S.wd.mono hm,fun p m=>?_,S.mud⟩
 ·refine ob12 S.ns fun m n k=>?_
  refine ⟨m,n.at' fun o e=>fp _ (.head _) o e,fun x d a b=>?_⟩;refine ob12 (k x d a b) fun v e r=>?_;exact ⟨v,e,r.mono hm⟩
 ·intro x c' hc lt hk
  refine ob12 (S.cs x c' hc lt hk) fun v hv k=>?_;refine ob12 hv fun o ho hd=>?_;clear hv;refine ⟨v,⟨o,fp c' (xK hc lt) o ho,hd⟩,fun d q=>?_⟩;refine ob12 (k d q) fun u e r=>?_;exact ⟨u,e,r.mono hm⟩
 ·refine eG (S.mus p m) fun a1 a2 a3 a4=>?_
  exact ⟨a1,a2,a3,a4.mono hm fun o e=>c.get (hM p m) e⟩
theorem St.keeps (S:St w T s₀ F X env s l mu) (c:A0 s s'):St w T s₀ F X env s' l mu:=S.step (G:=[]) (.of_keeps c) (fun _ m=>nomatch m) (fun _ _ m=>nomatch m) (S.live.mono (aN c))
noncomputable def up (l:Str→Option D) (x:Str) (d:D):Str→Option D:=fun y=>if y=x then some d else l y
theorem aE {x d}:up l x d x=some d:=if_pos rfl
theorem aA {x y d} (n:y≠x):up l x d y=l y:=if_neg n
theorem XL.ch {G} (x:XL X s.heap) (c:Ch G s s') (hG:∀ g∈G,∃ o,s'.heap.get? g=some o):XL X s'.heap:=by
 have one:∀ a,(∃ o,s.heap.get? a=some o)→∃ o,s'.heap.get? a=some o:=fun a ⟨o,e⟩=>by
  by_cases q:a∈G
  ·exact hG a q
  ·exact ⟨o,c.get q e⟩
 exact ⟨fun a m=>one a (x.1 a m),one _ x.2⟩
theorem hxS {a h'} (live:XL X s.heap) (m:a∈X) (hs:A4 a s.heap h'):aZ (hx X s.heap) (hx X h'):=
 aJ (fun b o n e=>hs.extBut b o (fun q=>n (q▸m)) e) fun y m=>.inl m
theorem St.store {x v d} {Q:Unit→Ak→Prop} {E} (S:St w T s₀ F X env s l mu) (r:Rp w (hx X s.heap) v d) (hk:nB env x)
  (q:∀ s',St w T s₀ F X env s' (up l x d) mu→Ch (Fp env) s s'→Q () s'):Au (AI prog w) A (storeName env x v) Q E s:=by
 rcases hk with hk | ⟨hk,hc⟩
 ·refine ob12 S.ns fun m n k=>?_
  refine wpAny_storeName_local hk n (fun h' hn hs=>?_) (by rw [S.kind];rfl);have mL:env.locals∈X:=S.mem _ (.head _);have hm:=hxS S.live mL hs;have c:Ch (Fp env) s { s with heap:=h',toks:=s.toks+1 }:=.same hs (.head _);refine fW (id hn) fun on _ _ hon _=>?_;refine q _ ⟨S.kind,S.gl,S.bl,S.base.step c fun g m=>S.own g m,S.live.ch (G:=[env.locals]) (.same hs (.head _)) (fun g m=>by rw [bH m];exact ⟨_,hon⟩),S.pl,S.mem,S.own,⟨_,hn,?_⟩,?_,?_,S.apart,S.wd.mono hm,fun p m=>?_,S.mud⟩ c
  ·intro y d' e hy
   by_cases z:y=x
   ·subst z
    rw [aE] at e;cases e;exact ⟨v,if_pos rfl,r.mono hm⟩
   ·rw [aA z] at e
    refine ob12 (k y d' e hy) fun u e' r'=>?_;exact ⟨u,(if_neg z).trans e',r'.mono hm⟩
  ·intro y c' hc' lt hk'
   refine ob12 (S.cs y c' hc' lt hk') fun u hu k'=>?_;have z:y≠x:=fun z=>by rw [z,hk] at hk';cases hk'
   refine ⟨u,hu.sameBut hs (DB lt),fun d' e=>?_⟩;rw [aA z] at e;refine ob12 (k' d' e) fun u' e' r'=>?_;exact ⟨u',e',r'.mono hm⟩
  ·intro y d' e
   by_cases z:y=x
   ·exact .inl (z▸hk)
   ·rw [aA z] at e;exact S.tot y d' e
  ·refine eG (S.mus p m) fun a1 a2 a3 a4=>?_
   exact ⟨a1,a2,a3,a4.mono hm fun o e=>hs.extBut _ _ (fun q=>a2 (q▸.head _)) e⟩
 ·refine ob12 hc ?_;clear hc;intro c hc lt
  refine ob12 (S.cs x c hc lt hk) fun u hu k'=>?_;refine wpAny_storeName_cell S.kind hk hc hu fun h' hc' hs=>?_;have mC:c∈Fp env:=xK hc lt;have mX:c∈X:=S.mem _ mC;have hm:=hxS S.live mX hs;have cc:Ch (Fp env) s { s with heap:=h' }:=.same (tk:=s.toks) hs mC;refine ob12 (id hc') fun on hon _=>?_;refine q _ ⟨S.kind,S.gl,S.bl,S.base.step cc fun g m=>S.own g m,S.live.ch (G:=[c]) (.same (tk:=s.toks) hs (.head _)) (fun g m=>by rw [bH m];exact ⟨_,hon⟩),S.pl,S.mem,S.own,?_,?_,?_,S.apart,S.wd.mono hm,fun p m=>?_,S.mud⟩ cc
  ·refine ob12 S.ns fun m n k=>?_
   refine ⟨m,n.sameBut hs (Bi lt),fun y d' e hy=>?_⟩;have z:y≠x:=fun z=>by rw [z,hk] at hy;cases hy
   rw [aA z] at e;refine ob12 (k y d' e hy) fun u e' r'=>?_;exact ⟨u,e',r'.mono hm⟩
  ·intro y c' hcy lty hky
   by_cases z:y=x
   ·subst z
    rw [hc] at hcy;cases hcy;refine ⟨some v,hc',fun d' e=>?_⟩;rw [aE] at e;cases e;exact ⟨v,rfl,r.mono hm⟩
   ·refine ob12 (S.cs y c' hcy lty hky) fun u' hu' k''=>?_
    refine ⟨u',hu'.sameBut hs (fun e=>z (name_of_addr S.apart (vG hcy lty) (e▸vG hc lt))),fun d' e=>?_⟩;rw [aA z] at e;refine ob12 (k'' d' e) fun u2 e' r'=>?_;exact ⟨u2,e',r'.mono hm⟩
  ·intro y d' e
   by_cases z:y=x
   ·subst z;exact .inr ⟨hk,c,hc,lt⟩
   ·rw [aA z] at e;exact S.tot y d' e
  ·refine eG (S.mus p m) fun a1 a2 a3 a4=>?_
   exact ⟨a1,a2,a3,a4.mono hm fun o e=>hs.extBut _ _ (fun q=>a2 (q▸mC)) e⟩
end
structure dF (n:Nat) (A:Ba):Prop where
 hh:A.handled=none
 depth:A.depth+4*n≤900
 units:A.units+60*n≤9000
theorem dF.le {n m A} (a:dF n A) (k:m≤n):dF m A:=⟨a.hh,by have:=a.depth;exact N3 0 0 k this,by have:=a.units;exact N3 0 1 k this⟩
theorem dF.room {n A} (a:dF n A):A.depth<recursionLimit:=by have:=a.depth;show _<1000;exact N2 0 2 this
noncomputable def bQ:(Str→Option D)→List Str→List D→(Str→Option D)
 | l,x::xs,d::ds=>bQ (up l x d) xs ds
 | l,_,_=>l
structure Xs (w:Bl) (A:Ba) (rest:List Stmt) (env:Env) (Q:Flow→Ak→Prop) (E:Ag→Ak→Prop) (s:Ak):Prop where
 go:Au (AI prog w) A (execs rest env) Q E s
noncomputable def Nx (w:Bl) (A:Ba) (env:Env) (rest:List Stmt) (Q:Flow→Ak→Prop) (E:Ag→Ak→Prop):Flow→Ak→Prop:=fun f s'=>match f with | .next=>Xs w A rest env Q E s' | f=>Q f s'
section
variable {w:Bl} {T:lU} {s₀ s s':Ak} {F X:List Addr} {A:Ba} {env:Env} {l:Str→Option D} {mu:List (Addr×D)} {h h':Heap} {Q:Flow→Ak→Prop} {E:Ag→Ak→Prop} {rest:List Stmt}
class inductive Tgts (env:Env):List AO→List Str→Prop
 | nil:Tgts env [] []
 | cons {x p es xs}:nB env x→Tgts env es xs→Tgts env (.Name x p::es) (x::xs)
theorem Tgts.length {es xs} (t:Tgts env es xs):(assignEach es env).length=xs.length:=by
 induction t with
 | nil=>rfl
 | cons a b ih=>show (_::_).length=_;rw [Aq,Aq,← ih]
theorem Tgts.star {es xs} (t:Tgts env es xs):(assignEach es env).findIdx? (·.1)=none:=by
 induction t with
 | nil=>rfl
 | @cons x p es xs a b ih=>
  show IY (·.1) ((false,assign (.Name x p) env)::assignEach es env)=none;rw [List.findIdx?_cons,ih];rfl
theorem St.inOrder {es xs} (t:Tgts env es xs):∀ {l:Str→Option D} {s:Ak} {vs:List Ag} {ds:List D} {Q:Unit→Ak→Prop} {E},St w T s₀ F X env s l mu→cG w (hx X s.heap) vs ds→ds.length=xs.length→
  (∀ s',St w T s₀ F X env s' (bQ l xs ds) mu→Ch (Fp env) s s'→Q () s')→Au (AI prog w) A (assignInOrder ((assignEach es env).map (·.2)) vs) Q E s:=by
 induction t with
 | nil=>
  intro l s vs ds Q E S r hl q;cases ds with
  | nil=>cases r;exact Aj (q s S .rfl)
  | cons=>cases hl
 | @cons x p es xs a b ih=>
  intro l s vs ds Q E S r hl q;cases r with
  | nil=>cases hl
  | @cons v vs d ds r rs=>
   show Au _ _ (do holding vs (assign (.Name x p) env v);assignInOrder ((assignEach es env).map (·.2)) vs) _ _ _;refine Ab (BA (assign_Name (S.store r a fun s' S' c=>?_)));have hm:aZ (hx X s.heap) (hx X s'.heap):=aJ (fun b o n e=>c.get (fun m=>n (S.mem b m)) e) fun y m=>.inl m;exact ih S' (rs.mono hm) (by simpa using hl) fun s'' S'' c'=>q s'' S'' (c.trans c')
theorem ExtBut.ch {G:List Addr} {h'} (x:HX s.heap.objs.size s.heap h'):A0 s { s with heap:=h' }:=
 ⟨h',s.toks,rfl,fun b o e=>x b o (Bi (AK e)) e⟩
theorem St.unpack {es xs k pos v ds} {Q:Unit→Ak→Prop} (hh:A.handled=none) (t:Tgts env es xs) (S:St w T s₀ F X env s l mu) (r:Rp w (hx X s.heap) v (.tup ds)) (hl:ds.length=xs.length)
  (q:∀ s',St w T s₀ F X env s' (bQ l xs ds) mu→Ch (Fp env) s s'→Q () s'):Au (AI prog w) A (assign (.Tuple es k pos) env v) Q E s:=by
 refine bI r.ofTup ?_;rintro a vs rfl ht rs;refine Hh hh (Cp.keep' ht aR) (by rw [t.length,AH,rs.length,hl]) t.star fun h' e=>?_;have kp:A0 s { s with heap:=h' }:=ExtBut.ch (G:=[]) e;exact (S.keeps kp).inOrder t (rs.mono (aL (aN kp))) hl fun s' S' c=>q s' S' ((Ch.of_keeps kp).trans c)
theorem St.swapped:∀ {xs:List Str} {l:Str→Option D} {s:Ak} {vs:List Ag} {ds:List D} {Q:Unit→Ak→Prop} {E},(∀ x∈xs,nB env x)→St w T s₀ F X env s l mu→cG w (hx X s.heap) vs ds→ds.length=xs.length→
  (∀ s',St w T s₀ F X env s' (bQ l xs ds) mu→Ch (Fp env) s s'→Q () s')→Au (AI prog w) A (assignInOrder (xs.map fun n=>bindName env n) vs) Q E s:=by
 intro xs
 induction xs with
 | nil=>
  intro l s vs ds Q E _ S r hl q;cases ds with
  | nil=>cases r;exact Aj (q s S .rfl)
  | cons=>cases hl
 | cons x xs ih=>
  intro l s vs ds Q E a S r hl q;cases r with
  | nil=>cases hl
  | @cons v vs d ds r rs=>
   show Au _ _ (do holding vs (bindName env x v);assignInOrder (xs.map fun n=>bindName env n) vs) _ _ _;refine Ab (BA (wpAny_bindName (S.store r (a x (.head _)) fun s' S' c=>?_)));have hm:aZ (hx X s.heap) (hx X s'.heap):=aJ (fun b o n e=>c.get (fun m=>n (S.mem b m)) e) fun y m=>.inl m;exact ih (fun y m=>a y (.tail _ m)) S' (rs.mono hm) (by simpa using hl) fun s'' S'' c'=>q s'' S'' (c.trans c')
theorem aG (q:Q .next s):Xs w A [] env Q E s:=⟨Gp q⟩
theorem cI {st} (h:Au (AI prog w) A (exec st env) (fun f s'=>match f with | .next=>Au (AI prog w) A (execs rest env) Q E s' | f=>Q f s') E s):Xs w A (st::rest) env Q E s:=⟨wpAny_execs_cons h⟩
theorem Xs.nx {body} (x:Xs w A body env (Nx w A env rest Q E) E s):Au (AI prog w) A (execs body env) (fun f s'=>match f with | .next=>Au (AI prog w) A (execs rest env) Q E s' | f=>Q f s') E s:=
 B9 x.go (fun f s' z=>by cases f <;> first | exact Xs.go z | exact z) fun _ _ e=>e
theorem aO {x pos' e pos d} (S:St w T s₀ F X env s l mu) (he:Ev w X A env s.heap e d) (k:∀ s',St w T s₀ F X env s' (up l x d) mu→Ch (Fp env) s s'→Xs w A rest env Q E s')
  (hk:autoParam (nB env x) ak) (hs:autoParam (Cd e (some (.Name x pos')) pos.line env=pure false) aq):Xs w A (.Assign [.Name x pos'] e pos::rest) env Q E s:=
 cI (By (he.use S.live aZ.rfl fun v s1 r k1=>(S.keeps k1).store r hk fun s2 S2 c=>(k s2 S2 ((Ch.of_keeps k1).trans c)).go) hs)
theorem fV {es xs kk tpos e pos ds} (hh:A.handled=none) (S:St w T s₀ F X env s l mu) (t:Tgts env es xs) (he:Ev w X A env s.heap e (.tup ds)) (hl:ds.length=xs.length)
  (k:∀ s',St w T s₀ F X env s' (bQ l xs ds) mu→Ch (Fp env) s s'→Xs w A rest env Q E s')
  (hs:autoParam (swapsWithSole [.Tuple es kk tpos] e pos.line env=pure false) aq) (hw:autoParam (swappedStores [.Tuple es kk tpos] e env=pure none) aq):Xs w A (.Assign [.Tuple es kk tpos] e pos::rest) env Q E s:=
 cI (Assign_Tuple (he.use S.live aZ.rfl fun v s1 r k1=>(S.keeps k1).unpack hh t r hl fun s2 S2 c=>(k s2 S2 ((Ch.of_keeps k1).trans c)).go) hs hw)
theorem cG.reverse {vs ds} (r:cG w h vs ds):cG w h vs.reverse ds.reverse:=by
 induction vs generalizing ds with
 | nil=>cases r;exact .nil
 | cons v vs ih=>cases r with | cons a b=>rw [EA,EA];exact (ih b).append (.cons a .nil)
theorem qL {es xs kk tpos e pos ds} (hh:A.handled=none) (S:St w T s₀ F X env s l mu) (he:Ev w X A env s.heap e (.tup ds)) (hl:ds.length=xs.length) (ho:∀ x∈xs,nB env x)
  (k:∀ s',St w T s₀ F X env s' (bQ l xs.reverse ds.reverse) mu→Ch (Fp env) s s'→Xs w A rest env Q E s')
  (hs:autoParam (swapsWithSole [.Tuple es kk tpos] e pos.line env=pure false) aq) (hw:autoParam (swappedStores [.Tuple es kk tpos] e env=pure (some xs)) aq):Xs w A (.Assign [.Tuple es kk tpos] e pos::rest) env Q E s:=
 cI (Gv (he.use S.live aZ.rfl fun v s1 r k1=>by
  refine bI r.ofTup ?_;rintro a vs rfl ht rs;have hsz:xs.length=vs.toArray.size:=by rw [AH,rs.length,hl]
  rw [hsz];refine F4 hh (Cp.keep' ht aR) fun h' e=>?_;have kp:A0 s1 { s1 with heap:=h' }:=ExtBut.ch (G:=[]) e;refine ((S.keeps k1).keeps kp).swapped (fun x m=>ho x (HR.mp m)) (by simpa using (rs.mono (aL (aN kp))).reverse) (by simpa using hl) fun s2 S2 c=>?_;exact (k s2 S2 ((Ch.of_keeps (aD k1 kp)).trans c)).go) hs hw)
theorem gB {t body orelse pos b} (S:St w T s₀ F X env s l mu) (ht:Tr w X A env s.heap t b)
  (h1:b=true→∀ s',St w T s₀ F X env s' l mu→A0 s s'→Xs w A body env (Nx w A env rest Q E) E s')
  (h2:b=false→∀ s',St w T s₀ F X env s' l mu→A0 s s'→Xs w A orelse env (Nx w A env rest Q E) E s'):Xs w A (.If t body orelse pos::rest) env Q E s:=
 cI (wpAny_If (ht.use S.live aZ.rfl fun s1 k1=>by
  cases b with
  | true=>exact (h1 rfl s1 (S.keeps k1) k1).nx
  | false=>exact (h2 rfl s1 (S.keeps k1) k1).nx))
theorem dJ {e pos d} (S:St w T s₀ F X env s l mu) (he:Ev w X A env s.heap e d) (k:∀ v s',Rp w (hx X s'.heap) v d→St w T s₀ F X env s' l mu→A0 s s'→Q (.ret v) s'):Xs w A (.Return (some e) pos::rest) env Q E s:=
 cI (HD (he.use S.live aZ.rfl fun v s1 r k1=>k v s1 r (S.keeps k1) k1))
theorem iM {x pos' op e pos d0 d1 d} (S:St w T s₀ F X env s l mu) (h0:l x=some d0) (he:Ev w X A env s.heap e d1) (ho:Bo w X A s.heap (inplaceOp op) d0 d1 d)
  (k:∀ s',St w T s₀ F X env s' (up l x d) mu→Ch (Fp env) s s'→Xs w A rest env Q E s'):Xs w A (.AugAssign (.Name x pos') op e pos::rest) env Q E s:=by
 refine ob12 (S.nm h0) fun v0 l0 r0=>?_;refine cI (wpAny_AugAssign_Name (l0 aZ.rfl (he.use S.live aZ.rfl fun v1 s1 r1 k1=>cF (ho.go s1 v0 v1 (S.live.mono (aN k1)) (aN k1) (r0.kp k1) r1) fun v s2 z=>?_)));exact ((S.keeps k1).keeps z.2).store z.1 (S.tot x d0 h0) fun s3 S3 c=>(k s3 S3 ((Ch.of_keeps (aD k1 z.2)).trans c)).go
end
variable {w:Bl} {T:lU} {s₀ s s':Ak} {F X:List Addr} {A:Ba} {env:Env} {l:Str→Option D} {mu:List (Addr×D)} {h h':Heap} {Q:Flow→Ak→Prop} {E:Ag→Ak→Prop} {rest:List Stmt}
structure Fn (T:lU) (a:Addr) (fd:BE) (names:List Str) (body:List Stmt):Prop where
 mem:(a,fd)∈T.fns
 body:fd.body=.stmts body
 gl:fd.globals=AR
 bl:fd.builtins=builtinsNs
 clo:fd.closure=[]
 co:fd.scope.isCoroutine=false
 gen:fd.scope.isGenerator=false
 kind:fd.scope.kind=.function
 bind:∀ vs,vs.length=names.length→bindArgs fd ⟨vs,[]⟩=pure (names.zip vs)
 ok:∀ n∈names,fd.scope.names.lookup n=some .local∨(fd.scope.names.lookup n=some .cell∧∀ k,((cellsFrom k fd.scope.names []).lookup n).isSome=true)
 cnd:((cellsFrom 0 fd.scope.names []).map (·.1)).Nodup
noncomputable def aI (fd:BE) (a L:Addr):Env:=newEnv fd.scope L AR (cellsFrom (L+1) fd.scope.names []) (fd.qualname++".<locals>.") (some a) fd.code none builtinsNs
section
theorem aAl {kindOf:Str→Option DJ} {g:Heap}:∀ {names:List Str} {vs:List Ag} {ds:List D} {m cm:Str→Option Ag} {l:Str→Option D},cG w g vs ds→ds.length=names.length→
  (∀ x d,l x=some d→kindOf x=some .local→∃ v,m x=some v∧Rp w g v d)→(∀ x d,l x=some d→kindOf x≠some .local→∃ v,cm x=some v∧Rp w g v d)→
  (∀ x d,bQ l names ds x=some d→kindOf x=some .local→∃ v,bindL kindOf (names.zip vs) m x=some v∧Rp w g v d)∧
  (∀ x d,bQ l names ds x=some d→kindOf x≠some .local→∃ v,bindC kindOf (names.zip vs) cm x=some v∧Rp w g v d)
 | [],vs,ds,m,cm,l,r,hl,h1,h2=>by
  cases ds with
  | nil=>cases r;exact ⟨h1,h2⟩
  | cons=>cases hl
 | n::ns,_,_,m,cm,l,.nil,hl,h1,h2=>by cases hl
 | n::ns,_,_,m,cm,l,.cons (v:=v) (vs:=vs) (d:=d) (ds:=ds) r rs,hl,h1,h2=>by
  show (∀ x d',bQ (up l n d) ns ds x=some d'→_→∃ u,bindL kindOf ((n,v)::ns.zip vs) m x=some u∧_)∧(∀ x d',bQ (up l n d) ns ds x=some d'→_→∃ u,bindC kindOf ((n,v)::ns.zip vs) cm x=some u∧_);unfold bindL bindC;refine aAl rs (by simpa using hl) (fun x d' e hk=>?_) fun x d' e hk=>?_
  ·by_cases z:x=n
   ·subst z
    rw [aE] at e;cases e;rw [if_pos hk];exact ⟨v,if_pos rfl,r⟩
   ·rw [aA z] at e
    refine ob12 (h1 x d' e hk) fun u e' r'=>?_;refine ⟨u,?_,r'⟩;split
    ·exact (if_neg z).trans e'
    ·exact e'
  ·by_cases z:x=n
   ·subst z
    rw [aE] at e;cases e;rw [if_neg hk];exact ⟨v,if_pos rfl,r⟩
   ·rw [aA z] at e
    refine ob12 (h2 x d' e hk) fun u e' r'=>?_;refine ⟨u,?_,r'⟩;split
    ·exact e'
    ·exact (if_neg z).trans e'
theorem aAc {names:List Str} {ds:List D} {l:Str→Option D} {x d} (e:bQ l names ds x=some d):l x=some d∨x∈names:=by
 induction names generalizing ds l with
 | nil=>cases ds <;> exact .inl e
 | cons n ns ih=>
  cases ds with
  | nil=>exact .inl e
  | cons d' ds=>
   refine BH (ih (l:=up l n d') e) (fun q=>?_) fun q=>?_
   ·by_cases z:x=n
    ·exact .inr (z▸.head _)
    ·rw [aA z] at q;exact .inl q
   ·exact .inr (.tail _ q)
theorem Ba.deeper_ok {n} (a:dF (n+1) A) {e:Env}:dF n (A.deeper e):=by
 refine ⟨a.hh,?_,?_⟩
 ·have:=a.depth
  show A.depth+1+4*n≤900;exact N2 0 3 this
 ·have:=a.units
  show A.units+_+60*n≤9000;exact N2 0 4 this
theorem sP {a fd names body n vs ds} {Q:Ag→Ak→Prop} (f:Fn T a fd names body) (hA:dF (n+1) A) (hX:XL X s.heap) (W:Wd w T (hx X s.heap)) (r:cG w (hx X s.heap) vs ds) (hl:ds.length=names.length)
  (hF:∀ y∈F,y∈X) (hmu:∀ p∈mu,p.1∈F∧cN w X s.heap p.1 p.2) (hmd:mu.Pairwise fun x y=>x.1≠y.1)
  (k:∀ L s1,dF n (A.deeper (aI fd a L))→St w T s F (Fp (aI fd a L)++X) (aI fd a L) s1 (bQ (fun _=>none) names ds) mu→A0 s s1→(∀ y∈Fp (aI fd a L),s.heap.get? y=none)→
   Xs w (A.deeper (aI fd a L)) body (aI fd a L) (fun fl s'=>Q (match fl with | .ret v=>v | _=>.none) s') (fun e s'=>Au (AI prog w) (A.deeper (aI fd a L)) (leaving (aI fd a L) e) (fun _ s''=>E e s'') (fun e' s''=>E e' s'') s') s1) :
  Au (AI prog w) A (call (.ref a) vs []) Q E s:=by
 have Wh:=W.mono aR;obtain ⟨⟨o,ho,_,hd⟩,hcd⟩:=Wh.fns _ f.mem;have hlen:vs.length=names.length:=r.length.trans hl;refine wpAny_call (codeAny_call_function hA.room ho hd f.co f.gen f.body hcd ?_);rw [f.bind vs hlen];refine Aj ?_;rw [f.clo];refine wpAny_newFunctionEnv_cells f.kind (fun x hx'=>?_) fun env he s1 x=>?_
 ·have:x.1∈names:=(List.of_mem_zip hx').1
  rcases f.ok _ this with q | ⟨q,q2⟩
  ·exact .inl q
  ·exact .inr ⟨q,q2 _⟩
 have he':env=aI fd a s.heap.objs.size:=by rw [he,f.gl,f.bl];rfl
 subst he';clear he;refine fP x.done ?_;rintro h1 tk rfl kp;refine ⟨(Wh.nolimit).keeps kp,codeAny_func ?_⟩;have kk:A0 s { s with heap:=h1,toks:=tk }:=⟨h1,tk,rfl,kp⟩;have hL:s.heap.objs.size∉X:=hX.fresh (Am _);have fresh:∀ y∈Fp (aI fd a s.heap.objs.size),s.heap.objs.size≤y:=by
  intro y m;refine cK m (fun e=>?_) fun m=>?_
  ·exact e▸Am _
  ·refine cX m ?_;rintro p mp rfl
   exact CR (x.above p.1 p.2 (Bf.mp mp).1)
 have hm:aZ (hx X s.heap) (hx (Fp (aI fd a s.heap.objs.size)++X) h1):=aJ (fun b o _ e=>kp b o e) fun y m=>by
  refine gJ m (fun m=>?_) fun m=>?_
  ·exact .inr (aH (fresh y m))
  ·exact .inl m
 have bn:=aAl (w:=w) (kindOf:=(aI fd a s.heap.objs.size).kindOf) (m:=fun _=>none) (cm:=fun _=>none) (l:=fun _=>none) (r.mono hm) hl (fun _ _ e=>by cases e) (fun _ _ e=>by cases e);refine B9 (k s.heap.objs.size _ (Ba.deeper_ok hA) ?_ kk fun y m=>aH (fresh y m)).go (fun fl s' q=>?_) fun _ _ x=>x
 ·refine ⟨f.kind,rfl,rfl,.of_keeps kk,⟨?_,let ⟨o,e⟩:=hX.2;⟨o,kp _ _ e⟩⟩,hX.2,fun y m=>Ay _ m,fun y m=>.inr (aH (fresh y m)),⟨_,x.toInCall.ns,bn.1⟩,fun y c hc _ hk=>⟨_,x.cell y c hc,fun d e=>bn.2 y d e (by rw [hk];intro z;cases z)⟩,?_,x.apart.filter _,W.mono hm,fun p m=>⟨Ad _ (hF _ (hmu p m).1),fun q=>?_,.inl (hmu p m).1,(hmu p m).2.mono hm fun o e=>kp _ _ e⟩,hmd⟩
  ·intro y m
   refine gJ m (fun m=>?_) fun m=>?_
   ·refine cK m (fun e=>?_) fun m=>?_
    ·refine fW x.toInCall.ns fun o' _ _ ho _=>?_
     exact ⟨o',e▸ho⟩
    ·refine cX m ?_;rintro p mp rfl
     refine ob12 (x.cell p.1 p.2 (lookup_of_mem_nodup (cellsFrom_names fd.scope.names 0 (s.heap.objs.size+1) [] [] rfl▸f.cnd) (Bf.mp mp).1)) fun o' ho _=>?_;exact ⟨o',ho⟩
   ·refine ob11 (hX.1 y m) fun o' ho=>?_
    exact ⟨o',kp _ _ ho⟩
  ·intro y d e
   refine BH (aAc e) (fun q=>?_) fun q=>?_
   ·cases q
   ·rcases f.ok y q with z | ⟨z,z2⟩
    ·exact .inl z
    ·refine ob11 (CH.mp (z2 (s.heap.objs.size+1))) fun c hc=>?_
     exact .inr ⟨z,c,hc,x.above y c (mem_of_lookup hc)⟩
  ·refine ob11 (hX.1 _ (hF _ (hmu p m).1)) fun o' ho'=>?_
   exact absurd (AK ho') (CB.mpr (fresh _ q))
 ·exact q
theorem nV {a fd names body n vs ds} {Q:Ag→Ak→Prop} (f:Fn T a fd names body) (hA:dF (n+1) A) (hX:XL X s.heap) (W:Wd w T (hx X s.heap)) (r:cG w (hx X s.heap) vs ds) (hl:ds.length=names.length)
  (hF:∀ y∈F,y∈X) (hmu:∀ p∈mu,p.1∈F∧cN w X s.heap p.1 p.2) (hmd:mu.Pairwise fun x y=>x.1≠y.1)
  (k:∀ L s1,dF n (A.deeper (aI fd a L))→St w T s F (Fp (aI fd a L)++X) (aI fd a L) s1 (bQ (fun _=>none) names ds) mu→A0 s s1→(∀ y∈Fp (aI fd a L),s.heap.get? y=none)→
   Xs w (A.deeper (aI fd a L)) body (aI fd a L) (fun fl s'=>Q (match fl with | .ret v=>v | _=>.none) s') (fun _ _=>False) s1) :
  Au (AI prog w) A (call (.ref a) vs []) Q E s:=
 sP f hA hX W r hl hF hmu hmd fun L s1 a b c d=>⟨cF (k L s1 a b c d).go fun _ _ x=>x⟩
theorem fZ {a fd names body n vs ds} {Q:Ag→Ak→Prop} (f:Fn T a fd names body) (hA:dF (n+1) A) (hX:XL X s.heap) (W:Wd w T (hx X s.heap)) (r:cG w (hx X s.heap) vs ds) (hl:ds.length=names.length)
  (hF:∀ y∈F,y∈X) (hmu:∀ p∈mu,p.1∈F∧cN w X s.heap p.1 p.2) (hmd:mu.Pairwise fun x y=>x.1≠y.1)
  (k:∀ L s1,dF n (A.deeper (aI fd a L))→St w T s F (Fp (aI fd a L)++X) (aI fd a L) s1 (bQ (fun _=>none) names ds) mu→A0 s s1→
   ∀ Q0:Flow→Ak→Prop,(∀ {v s'},Q v s'→Q0 (.ret v) s')→Xs w (A.deeper (aI fd a L)) body (aI fd a L) Q0 (fun _ _=>False) s1) :
  Au (AI prog w) A (call (.ref a) vs []) Q E s:=
 nV f hA hX W r hl hF hmu hmd fun L s1 a b c _=>k L s1 a b c _ fun q=>q
end
section
theorem gR {M:IA} {f:Ag} {trees:List (Bool×Sem Ag)} {Q:Args→Ak→Prop} (hp:trees.any (·.1)=false) (q:Au M A (spliced trees) (fun vs s'=>Q ⟨vs,[]⟩ s') E s):Au M A (evalArgs f true trees []) Q E s:=by
 cases trees with
 | nil=>
  unfold evalArgs;show Au M A (spliced [] >>= _) Q E s;refine Ab (B9 q (fun vs s' h'=>?_) fun _ _ x=>x);refine Ab (Aj ?_);refine BA ?_;exact Ab (Aj (Ab (Aj (Aj h'))))
 | cons t ts=>
  obtain ⟨b,t⟩:=t;cases b with
  | true=>cases hp
  | false=>exact evalArgs_plain q
noncomputable def Kp (w:Bl) (h:Heap) (f:Ag):Prop:=∃ k,(k=Keeper.frame∨k=Keeper.machine∨k=Keeper.boundFrame)∧Looks (AI prog w) h (keeperOf f) k
theorem Kp.mono {f} (x:Kp w h f) (k:aZ h h'):Kp w h' f:=let ⟨c,a,b⟩:=x;⟨c,a,b.keeps k⟩
theorem Kp.builtin {id}:Kp w h (.builtin id):=⟨.machine,.inr (.inl rfl),.of_pure rfl⟩
theorem Kp.type {id}:Kp w h (.type id):=⟨.machine,.inr (.inl rfl),.of_pure rfl⟩
theorem Kp.fn {a fd} (W:Wd w T (hx X h)) (m:(a,fd)∈T.fns):Kp w h (.ref a):=by
 obtain ⟨⟨o,ho,hc,hd⟩,_⟩:=(W.mono aR).fns _ m;obtain ⟨c,dt,data,sl⟩:=o;simp only at hd;subst hd;exact ⟨.frame,.inl rfl,(Looks.ld (part:=none) ho).andThen .now⟩
theorem Kp.cls {C N tab} (W:Wd w T (hx X h)) (m:(C,N,tab)∈T.cls):Kp w h (.ref C):=by
 refine ⟨.machine,.inr (.inl rfl),fun A Q E s k q=>?_⟩;obtain ⟨hh,g,d,t,os⟩:=s;refine kY ((((W.mono aR).mono k).cls _ m).obj) fun nm qn bs sn sub col dd k0 k1 k2 k3 k5 hC=>?_;have f1:=tc_lookup;have hT:(⟨hh,g,d,t,os⟩:Ak).TypeIs (.ref C) "type":=⟨_,hC,rfl⟩;unfold keeperOf specialOf
 repeat (any_goals (first | assumption | with_reducible refine wpAny_loadPart_at hC ?_ | with_reducible refine wpAny_load' hC ?_ | wp_step))
theorem aFw {pos f fs es ds first d} {Q:Ag→Ak→Prop} (kp:Kp w h f) (hX:XL X s.heap) (k:aZ h s.heap) (hF:cG w (hx X s.heap) fs first) (ha:Es w X A env h es ds) (hc:Cl w X A h f first ds d)
  (hpl:(backTo pos (AF es env)).any (·.1)=false) (q:∀ v s',Rp w (hx X s'.heap) v d→A0 s s'→Q v s'):Au (AI prog w) A (callWith pos f fs (backTo pos (AF es env)) []) Q E s:=by
 refine H0 (P:=fun g=>aZ h g) (by rw [hpl];rfl) (fun g kg=>kp.mono kg) (gR hpl (cF (ha.go s pos hX k) fun vs s1 z=>⟨k.trans (aN z.2),?_⟩));exact cF (hc.go s1 fs vs (hX.mono (aN z.2)) (k.trans (aN z.2)) (hF.mono (aL (aN z.2))) z.1) fun v s2 z2=>q v s2 z2.1 (aD z.2 z2.2)
theorem Ev.call {x p es pos f ds d} (hf:Ev w X A env h (.Name x p) (.val f)) (kp:Kp w h f) (ha:Es w X A env h es ds) (hc:Cl w X A h f [] ds d)
  (hpl:autoParam ((backTo pos (AF es env)).any (·.1)=false) aq):Ev w X A env h (.Call (.Name x p) es [] pos) d:=.mk fun s hX k=>by
 show Au _ _ (do callWith pos (← eval (.Name x p) env) [] (backTo pos (AF es env)) []) _ _ _;refine Ab (hf.use hX k fun v s1 r k1=>?_);rw [r.ofVal];exact aFw kp (hX.mono (aN k1)) (k.trans (aN k1)) .nil ha hc hpl fun v s2 r k2=>⟨r,aD k1 k2⟩
structure Mt (w:Bl) (X:List Addr) (A:Ba) (h:Heap) (d0:D) (name:Str) (f:Ag):Prop where
 go: ∀ (s:Ak) v pl,XL X s.heap→aZ h s.heap→Rp w (hx X s.heap) v d0→Au (AI prog w) A (getMethod v name pl) (fun r s'=>r=(f,[v])∧A0 s s') (fun _ _=>False) s
theorem Ev.meth {o name apos es pos d0 ds d f} {pl:Sem Bool} (ho:Ev w X A env h o d0) (hm:Mt w X A h d0 name f) (kp:Kp w h f) (ha:Es w X A env h es ds) (hc:Cl w X A h f [d0] ds d)
  (hpl:autoParam ((backTo pos (AF es env)).any (·.1)=false) aq)
  (he:autoParam (eval (.Call (.Attribute o name apos) es [] pos) env=(do
   let ov ← eval o env
   standAt apos.atName
   let (f,first) ← holding [ov] (getMethod ov name pl)
   callWith pos f first (backTo pos (AF es env)) (backToKw pos (keywordEach [] env)))) aq):Ev w X A env h (.Call (.Attribute o name apos) es [] pos) d:=.mk fun s hX k=>by
 rw [he];refine Ab (ho.use hX k fun v s1 r k1=>Ab (B2 (Ab (BA (cF (hm.go s1 v pl (hX.mono (aN k1)) (k.trans (aN k1)) r) fun fx s2 z=>?_)))));refine bM z ?_;clear z;rintro rfl k2;have k12:=aD k1 k2;exact aFw kp (hX.mono (aN k12)) (k.trans (aN k12)) (.cons (r.kp k2) .nil) ha hc hpl fun v s3 r k3=>⟨r,aD k12 k3⟩
theorem Cl.intro {f first ds d} (k:∀ (s:Ak) fs vs,XL X s.heap→aZ h s.heap→cG w (hx X s.heap) fs first→cG w (hx X s.heap) vs ds→
  Au (AI prog w) A (call f (fs++vs) []) (fun v s'=>Rp w (hx X s'.heap) v d∧A0 s s') (fun _ _=>False) s):Cl w X A h f first ds d:=⟨k⟩
theorem Cl.def_ {a fd names body n ds d} (f:Fn T a fd names body) (hA:dF (n+1) A) (W:Wd w T (hx X h)) (hl:ds.length=names.length)
  (k:∀ s L s1,dF n (A.deeper (aI fd a L))→St w T s [] (Fp (aI fd a L)++X) (aI fd a L) s1 (bQ (fun _=>none) names ds) []→
   ∀ Q0:Flow→Ak→Prop,(∀ {v s'},Rp w (hx (Fp (aI fd a L)++X) s'.heap) v d→Ch [] s s'→Q0 (.ret v) s')→Xs w (A.deeper (aI fd a L)) body (aI fd a L) Q0 (fun _ _=>False) s1):Cl w X A h (.ref a) [] ds d:=by
 refine .mk ?_;intro s fs vs hX kh rf rv;cases rf;exact fZ (F:=[]) (mu:=[]) f hA hX (W.mono (aL kh)) rv hl (fun _ m=>nomatch m) (fun _ m=>nomatch m) .nil fun L s1 hA' S k1 Q0 k0=>
  k s L s1 hA' S Q0 fun r c=>k0 ⟨r.mono (bV fun y m=>Ad _ m),c.keeps hX.2⟩
theorem Cl.meth_ {a fd names body n d0 ds d} (f:Fn T a fd names body) (hA:dF (n+1) A) (W:Wd w T (hx X h)) (hl:(d0::ds).length=names.length)
  (k:∀ s L s1,dF n (A.deeper (aI fd a L))→St w T s [] (Fp (aI fd a L)++X) (aI fd a L) s1 (bQ (fun _=>none) names (d0::ds)) []→
   ∀ Q0:Flow→Ak→Prop,(∀ {v s'},Rp w (hx (Fp (aI fd a L)++X) s'.heap) v d→Ch [] s s'→Q0 (.ret v) s')→Xs w (A.deeper (aI fd a L)) body (aI fd a L) Q0 (fun _ _=>False) s1):Cl w X A h (.ref a) [d0] ds d:=by
 refine .mk ?_;intro s fs vs hX kh rf rv;refine ob12 rf.c1 ?_;rintro _ rfl r0;exact (Cl.def_ f hA W hl k).go s [] _ hX kh .nil (.cons r0 rv)
end
structure vP (w:Bl) (A:Ba) (tup:Bool) (Xi:List Addr) (si sj:Ak) (I:Addr) (fp wr:List Addr) (items:List D) (Stt:Nat→Heap→Prop) (Mid:Nat→Ag→Heap→Prop):Prop where
 next:∀ i d X' (s:Ak) (Q:Option Ag→Ak→Prop),items[i]?=some d→Stt i s.heap→XL X' s.heap→(∀ b∈wr,b∈X')→aZ (hx Xi si.heap) (hx X' s.heap)→
  (∀ v s',Ch wr s s'→Mid i v s'.heap→Rp w (hx X' s'.heap) v d→Q (some v) s')→Au (AI prog w) A (pyNext (.ref I)) Q (fun _ _=>False) s
 go:∀ i target v (s:Ak) (Q:Unit→Ak→Prop),(tup=true→∃ es k p,target=.Tuple es k p)→Mid i v s.heap→(∀ s',Ch wr s s'→Stt (i+1) s'.heap→Q () s')→Au (AI prog w) A (letOwnedTupleGo target (.ref I) v) Q (fun _ _=>False) s
 done:∀ (s:Ak) (Q:Option Ag→Ak→Prop),Stt items.length s.heap→(∀ s',Ch wr s s'→Q none s')→Au (AI prog w) A (pyNext (.ref I)) Q (fun _ _=>False) s
 frame:∀ i g g',Stt i g→(∀ b∈fp,∀ o,g.get? b=some o→g'.get? b=some o)→Stt i g'
 self:∀ i (s:Ak) (Q:Ag→Ak→Prop),Stt i s.heap→Q (.ref I) s→Au (AI prog w) A (pyIter (.ref I)) Q (fun _ _=>False) s
 start:Stt 0 sj.heap
 fresh:∀ b∈wr,si.heap.get? b=none
 live:∀ b∈wr,∃ o,sj.heap.get? b=some o
 seen:∀ b∈fp,b∈wr∨b∉Xi
 flive:∀ b∈fp,∃ o,sj.heap.get? b=some o
 alive:∀ i g,Stt i g→∀ b∈wr,∃ o,g.get? b=some o
 malive:∀ i v g,Mid i v g→∀ b∈wr,∃ o,g.get? b=some o
theorem vP.ofWalks {w A Xi si sj I fp wr items P Stt} (W:JW prog w A I fp wr items.length P Stt) (start:Stt 0 sj.heap) (fresh:∀ b∈wr,si.heap.get? b=none) (live:∀ b∈wr,∃ o,sj.heap.get? b=some o)
  (seen:∀ b∈fp,b∈wr∨b∉Xi) (flive:∀ b∈fp,∃ o,sj.heap.get? b=some o) (alive:∀ i g,Stt i g→∀ b∈wr,∃ o,g.get? b=some o)
  (item:∀ i v,i<items.length→P i v→∃ d,items[i]?=some d∧Rp w (hx Xi si.heap) v d)
  (quiet:∀ target v (s2:Ak) i (Q:Unit→Ak→Prop) E,Stt i s2.heap→Q () s2→Au (AI prog w) A (letOwnedTupleGo target (.ref I) v) Q E s2):vP w A false Xi si sj I fp wr items Stt (fun i _ g=>Stt (i+1) g) where
 next:=fun i d X' s Q hd st hX' hwr hle q=>by
  have hi:=(Aw.mp hd).1;refine W.item i s _ _ hi st fun v h' tk hP st' hk=>?_;have c:Ch wr s { s with heap:=h',toks:=tk }:=.heap fun b o n e=>hk b o n e;refine ob12 (item i v hi hP) fun d' hd' r=>?_;rw [hd] at hd';cases hd';exact q v _ c st' (r.mono (hle.trans (aJ (fun b o n e=>hk b o (fun m=>n (hwr b m)) e) fun y m=>.inl m)))
 go:=fun i target v s Q _ st q=>quiet target v s (i+1) Q _ st (q s .rfl st)
 done:=fun s Q st q=>W.done s _ _ st fun h' tk hk=>q _ (.heap fun b o n e=>hk b o n e)
 frame:=W.frame
 self:=fun i s Q st q=>W.self i s Q _ st q
 start:=start
 fresh:=fresh
 live:=live
 seen:=seen
 flive:=flive
 alive:=alive
 malive:=fun i _ g st=>alive (i+1) g st
structure iQ (w:Bl) (X:List Addr) (A:Ba) (tup:Bool) (h:Heap) (d:D) (items:List D):Prop where
 go: ∀ (s:Ak) v (Q:Ag→Ak→Prop),XL X s.heap→aZ h s.heap→Rp w (hx X s.heap) v d→
  (∀ I fp wr Stt Mid s',A0 s s'→vP w A tup X s s' I fp wr items Stt Mid→Q (.ref I) s')→Au (AI prog w) A (pyIter v) Q (fun _ _=>False) s
structure fX (w:Bl) (X:List Addr) (A:Ba) (tup:Bool) (env:Env) (h:Heap) (iter:AO) (items:List D):Prop where
 go: ∀ (s:Ak) (Q:Ag→Ak→Prop),XL X s.heap→aZ h s.heap→
  (∀ I fp wr Stt Mid s1 s',A0 s s1→A0 s1 s'→vP w A tup X s1 s' I fp wr items Stt Mid→Q (.ref I) s')→
  Au (AI prog w) A (eval iter env) (fun v s2=>Au (AI prog w) A (pyIter v) Q (fun _ _=>False) s2) (fun _ _=>False) s
theorem fX.mono {w X A tup env h h' iter items} (x:fX w X A tup env h iter items) (k:aZ h h'):fX w X A tup env h' iter items:=.mk fun s Q a b=>x.go s Q a (k.trans b)
theorem fX.of {w X A tup env h iter d items} (hit:Ev w X A env h iter d) (src:iQ w X A tup h d items):fX w X A tup env h iter items:=.mk fun s Q hX k q=>
 hit.use hX k fun v s1 r k1=>src.go s1 v Q (hX.mono (aN k1)) (k.trans (aN k1)) r fun I fp wr Stt Mid s' k2 it=>q I fp wr Stt Mid s1 s' k1 k2 it
theorem fX.use {w X A tup env h iter items} {s:Ak} {Q:Ag→Ak→Prop} {E} (x:fX w X A tup env h iter items) (hX:XL X s.heap) (k:aZ h s.heap)
  (q:∀ I fp wr Stt Mid s1 s',A0 s s1→A0 s1 s'→vP w A tup X s1 s' I fp wr items Stt Mid→Q (.ref I) s') :
  Au (AI prog w) A (eval iter env) (fun v s2=>Au (AI prog w) A (pyIter v) Q E s2) E s:=
 cF (x.go s Q hX k q) fun v s2 z=>wpF z
section
theorem gX {I:Addr} {o:Obj} {T:String} {target:AO} {v:Ag} {Q:Unit→Ak→Prop} {E} (ho:s.heap.get? I=some o) (hc:o.cls=.type T)
  (hn:["enumerate","zip","dict_itemiterator","dict_reverseitemiterator","odict_iterator","itertools.zip_longest","itertools.pairwise"].contains T=false) (q:Q () s) :
  Au (AI prog w) A (letOwnedTupleGo target (.ref I) v) Q E s:=by
 cases target
 all_goals first
  | exact Aj q
  | (cases v with
    | ref a=>
     refine Ab (Gi ho ?_);obtain ⟨c,dt,data,sl⟩:=o;simp only at hc;subst hc;cases data <;> first | exact Aj q | (dsimp only;rw [hn];exact Aj q)
    | _=>exact Aj q)
theorem iQ.list {n ds} (hA:dF n A):iQ w X A false h (.list ds) ds:=.mk fun s v Q hX k r q=>by
 refine bI r.ofList ?_;rintro a vs rfl hl rs;have hls:s.heap.IsList a vs.toArray:=(hl.at fun o e=>aR _ _ e).isList;refine ob12 (id hls) fun ol hol _=>?_;have hlt:=AK hol;have haX:a∉X:=by refine ob11 hl fun n e=>?_;clear hl;exact iD e
 refine HE hls ?_;have hlen:vs.toArray.size=ds.length:=by rw [AH,rs.length]
 have W:=JT (prog:=prog) (w:=w) hA.hh s.heap.objs.size a (Bi hlt) vs.toArray;rw [hlen] at W;refine q _ _ _ _ _ _ bT (vP.ofWalks W ⟨⟨_,Ae _ rfl,rfl,rfl⟩,hls.at fun o e=>Ai _ e⟩ (fun b m=>?_) (fun b m=>?_) (fun b m=>?_) (fun b m=>?_) (fun i g st b m=>?_) (fun i v hi hP=>?_) (fun target v s2 i Q E st q=>?_))
 ·rw [bH m];exact aH (Am _)
 ·rw [bH m];exact ⟨_,Ae _ rfl⟩
 ·refine cK m (fun e=>?_) fun m=>?_
  ·exact .inl (by rw [e];exact .head _)
  ·exact .inr (by rw [bH m];exact haX)
 ·refine cK m (fun e=>?_) fun m=>?_
  ·rw [e];exact ⟨_,Ae _ rfl⟩
  ·rw [bH m];exact ⟨_,Ai _ hol⟩
 ·rw [bH m];refine bM st ?_;clear st;rintro ⟨o,ho,_⟩ _;exact ⟨o,ho⟩
 ·have hv:vs[i]?=some v:=by simpa using hP
  exact rs.at hv
 ·refine bM st ?_;clear st;rintro ⟨o,ho,hc,_⟩ _
  exact gX ho hc (by decide) q
theorem iQ.tup {n ds} (hA:dF n A):iQ w X A false h (.tup ds) ds:=.mk fun s v Q hX k r q=>by
 refine bI r.ofTup ?_;rintro a vs rfl hl rs;have hls:s.heap.IsTuple a vs.toArray:=Cp.keep' hl aR;refine ob12 (id hls) fun ol hol _=>?_;have hlt:=AK hol;have haX:a∉X:=by refine ob12 hl fun n e _=>?_;clear hl;exact iD e
 refine Fj hls ?_;have hlen:vs.toArray.size=ds.length:=by rw [AH,rs.length]
 have W:=Walks.tuple (prog:=prog) (w:=w) hA.hh s.heap.objs.size a (Bi hlt) vs.toArray;rw [hlen] at W;refine q _ _ _ _ _ _ bT (vP.ofWalks W ⟨⟨_,Ae _ rfl,rfl,rfl⟩,hls.push _⟩ (fun b m=>?_) (fun b m=>?_) (fun b m=>?_) (fun b m=>?_) (fun i g st b m=>?_) (fun i v hi hP=>?_) (fun target v s2 i Q E st q=>?_))
 ·rw [bH m];exact aH (Am _)
 ·rw [bH m];exact ⟨_,Ae _ rfl⟩
 ·refine cK m (fun e=>?_) fun m=>?_
  ·exact .inl (by rw [e];exact .head _)
  ·exact .inr (by rw [bH m];exact haX)
 ·refine cK m (fun e=>?_) fun m=>?_
  ·rw [e];exact ⟨_,Ae _ rfl⟩
  ·rw [bH m];exact ⟨_,Ai _ hol⟩
 ·rw [bH m];refine bM st ?_;clear st;rintro ⟨o,ho,_⟩ _;exact ⟨o,ho⟩
 ·have hv:vs[i]?=some v:=by simpa using hP
  exact rs.at hv
 ·refine bM st ?_;clear st;rintro ⟨o,ho,hc,_⟩ _
  exact gX ho hc (by decide) q
noncomputable def qA (x:Str):List D:=x.cps.toList.map fun c=>D.str ⟨#[c]⟩
theorem iQ.str {n x} (hA:dF n A):iQ w X A false h (.str x) (qA x):=.mk fun s v Q hX k r q=>by
 refine ob11 r.ofStr ?_;rintro t rfl;have hlen:(qA x).length=x.cps.size:=by unfold qA;simp
 have fin:∀ (T:String) (hn:["enumerate","zip","dict_itemiterator","dict_reverseitemiterator","odict_iterator","itertools.zip_longest","itertools.pairwise"].contains T=false) o,
   JW prog w A s.heap.objs.size [s.heap.objs.size] [s.heap.objs.size] x.cps.size (SignAt x) (fun i h=>h.IsStrIter s.heap.objs.size T x t i)→(s.heap.push o).IsStrIter s.heap.objs.size T x t 0→o.isFreed=false→
   Q (.ref s.heap.objs.size) { s with heap:=s.heap.push o }:=fun T hn o W st hf=>by
  rw [← hlen] at W;refine q _ _ _ _ _ _ bT (vP.ofWalks W st (fun b m=>?_) (fun b m=>?_) (fun b m=>.inl m) (fun b m=>?_) (fun i g st b m=>?_) (fun i v hi hP=>?_) (fun target v s2 i Q E st q=>?_))
  ·rw [bH m];exact aH (Am _)
  ·rw [bH m];exact ⟨_,Ae _ hf⟩
  ·rw [bH m];exact ⟨_,Ae _ hf⟩
  ·rw [bH m];refine ob12 st fun o ho _=>?_;clear st;exact ⟨o,ho⟩
  ·refine fP hP ?_;clear hP;rintro c u hc rfl
   exact ⟨.str ⟨#[c]⟩,by unfold qA;rw [Ar];simp [hc],.str _ _⟩
  ·refine ob13 st fun o ho hc _=>?_;clear st
   exact gX ho hc hn q
 cases ha:x.cps.all (·<128)
 ·exact wpAny_pyIter_wide ha (fin _ (by decide) _ (Walks.strWide hA.hh _ x t) ⟨_,Ae _ rfl,rfl,rfl⟩ rfl)
 ·exact wpAny_pyIter_ascii ha (fin _ (by decide) _ (Walks.strAscii hA.hh _ x t) ⟨_,Ae _ rfl,rfl,rfl⟩ rfl)
noncomputable def rH (a c:Int) (n:Nat):List D:=(Aa n).map fun (i:Nat)=>D.int (a+(i:Int)*c)
theorem iQ.rng {n a b c} (hA:dF n A) (hs:GR a b c=true):iQ w X A false h (.rng a b c) (rH a c (AM a b c).toNat):=.mk fun s v Q hX k r q=>by
 refine vF r.ofRng ?_;rintro x t u z rfl hr;have hr':Ii s.heap x a b c t u z:=aR _ _ hr;have hlen:(rH a c (AM a b c).toNat).length=(AM a b c).toNat:=by unfold rH;simp
 have hnn:0≤AM a b c:=by
  unfold AM
  repeat' split
  all_goals first
   | exact BV 0
   | (have:=H4 (a:=b - a - 1) (b:=c) (by lia) (by exact cO 21 20 (by assumption));exact cO 0 5 this)
   | (have:=H4 (a:=a - b - 1) (b:=-c) (by exact gK 13 21 (by assumption)) (by exact cO 21 21 (by assumption));exact cO 0 5 this)
 refine wpAny_pyIter_range hr' hs ?_;have W:=Walks.range (prog:=prog) (w:=w) hA.hh s.heap.objs.size a c (AM a b c).toNat;rw [← hlen] at W;refine q _ _ _ _ _ _ bT (vP.ofWalks W ?_ (fun b m=>?_) (fun b m=>?_) (fun b m=>.inl m) (fun b m=>?_) (fun i g st b m=>?_) (fun i v hi hP=>?_) (fun target v s2 i Q E st q=>?_))
 ·show IsRangeIter _ _ _ _ _
  rw [hlen,GU hnn];have:a+((0:Nat):Int)*c=a:=by simp
  rw [this];have e2:AM a b c - ((0:Nat):Int)=AM a b c:=by simp
  rw [e2];exact Ae _ rfl
 ·rw [bH m];exact aH (Am _)
 ·rw [bH m];exact ⟨_,Ae _ rfl⟩
 ·rw [bH m];exact ⟨_,Ae _ rfl⟩
 ·rw [bH m];exact ⟨_,st⟩
 ·refine ob11 hP ?_;clear hP;rintro t' rfl
  refine ⟨_,?_,.int _ t'⟩;rw [hlen] at hi;unfold rH;rw [Ar,B7 hi];rfl
 ·exact gX st rfl (by decide) q
end
section
noncomputable def Tm (env:Env) (mu:List (Addr×D)):List Addr:=Fp env++mu.map (·.1)
theorem St.rebase (S:St w T s₀ F X env s l mu):St w T s (Tm env mu) X env s l mu:=
 ⟨S.kind,S.gl,S.bl,.rfl,S.live,S.live.2,S.mem,fun a m=>.inl (Ay _ m),S.ns,S.cs,S.tot,S.apart,S.wd,
  fun p m=>let ⟨a,b,c,d⟩:=S.mus p m;⟨a,b,.inl (Ad _ (B8 m)),d⟩,S.mud⟩
theorem St.unbase {s1 l1 mu1 X1} (S:St w T s₀ F X env s l mu) (S1:St w T s (Tm env mu) X1 env s1 l1 mu1) (hm:mu1.map (·.1)=mu.map (·.1)):St w T s₀ F X1 env s1 l1 mu1:=by
 have tm:∀ g∈Tm env mu,g∈F∨s₀.heap.get? g=none:=fun g m=>by
  refine gJ m (fun m=>?_) fun m=>?_
  ·exact S.own g m
  ·refine cX m ?_;rintro p mp rfl
   exact (S.mus p mp).2.2.1
 refine ⟨S1.kind,S1.gl,S1.bl,S.base.step S1.base tm,S1.live,S.pl,S1.mem,S.own,S1.ns,S1.cs,S1.tot,S1.apart,S1.wd,fun p m=>?_,S1.mud⟩;refine eG (S1.mus p m) fun a b c d=>?_;refine ⟨a,b,?_,d⟩;have:p.1∈mu.map (·.1):=hm▸B8 m;refine cX this fun q mq e=>?_;exact e▸(S.mus q mq).2.2.1
theorem St.move {Y} (S:St w T s₀ F X env s l mu) (b:Ch F s₀ s') (hm:aZ (hx X s.heap) (hx Y s'.heap)) (live:XL Y s'.heap) (mem:∀ a∈Fp env,a∈Y) (fp:∀ a∈Fp env,∀ o,s.heap.get? a=some o→s'.heap.get? a=some o)
  (hmu:∀ p∈mu,p.1∈Y∧∀ o,s.heap.get? p.1=some o→s'.heap.get? p.1=some o):St w T s₀ F Y env s' l mu:=by
 refine ⟨S.kind,S.gl,S.bl,b,live,S.pl,mem,S.own,?_,?_,S.tot,S.apart,S.wd.mono hm,fun p m=>let ⟨_,b,c,d⟩:=S.mus p m;⟨(hmu p m).1,b,c,d.mono hm (hmu p m).2⟩,S.mud⟩
 ·refine ob12 S.ns fun m n q=>?_
  exact ⟨m,n.at' (fp _ (.head _)),fun x d a b=>let ⟨v,e,r⟩:=q x d a b;⟨v,e,r.mono hm⟩⟩
 ·intro x c hc lt hk
  refine ob12 (S.cs x c hc lt hk) ?_;rintro v ⟨o,ho,hd⟩ q;exact ⟨v,⟨o,fp c (xK hc lt) o ho,hd⟩,fun d e=>let ⟨u,e',r⟩:=q d e;⟨u,e',r.mono hm⟩⟩
theorem St.hide {Y} (S:St w T s₀ F X env s l mu) (hY:∀ y∈Y,s.heap.get? y=none) (k:A0 s s') (hl:∀ y∈Y,∃ o,s'.heap.get? y=some o):St w T s₀ F (Y++X) env s' l mu:=
 S.move (S.base.step (.of_keeps (F:=[]) k) fun g m=>nomatch m) (aJ (fun b o _ e=>aN k b o e) fun y m=>(BM.mp m).elim (fun q=>.inr (hY y q)) .inl)
  ⟨fun y m=>(BM.mp m).elim (hl y) fun q=>(S.live.mono (aN k)).1 y q,(S.live.mono (aN k)).2⟩ (fun a m=>Ad _ (S.mem a m)) (fun a _ o e=>aN k _ _ e) fun p m=>⟨Ad _ (S.mus p m).1,fun o e=>aN k _ _ e⟩
theorem St.aside {G} (S:St w T s₀ F (G++X) env s l mu) (c:Ch G s s') (hT:aK∉G) (hG:∀ g∈G,g∉X∧(g∈F∨s₀.heap.get? g=none)) (mem:∀ a∈Fp env,a∈X) (hmu:∀ p∈mu,p.1∈X):St w T s₀ F X env s' l mu:=by
 have off:∀ a∈X,a∉G:=fun a m q=>(hG a q).1 m;refine S.move (S.base.step c fun g m=>(hG g m).2) ((aJ (fun b o n e=>c.get (fun m=>n (Ay _ m)) e) fun y m=>.inl m:aZ (hx (G++X) s.heap) (hx (G++X) s'.heap)).trans (bV fun y m=>Ad _ m)) ⟨fun y m=>?_,let ⟨o,e⟩:=S.live.2;⟨o,c.get hT e⟩⟩ mem
  (fun a m o e=>c.get (off a (mem a m)) e) fun p m=>⟨hmu p m,fun o e=>c.get (off _ (hmu p m)) e⟩
 refine ob11 (S.live.1 y (Ad _ m)) fun o e=>?_;exact ⟨o,c.get (off y m) e⟩
theorem St.asideOn {G} (S:St w T s₀ F (G++X) env s l mu) (c:Ch G s s') (hG:∀ g∈G,g∉X∧(g∈F∨s₀.heap.get? g=none)) (mem:∀ a∈Fp env,a∈X) (hmu:∀ p∈mu,p.1∈X) (hl:∀ g∈G,∃ o,s'.heap.get? g=some o):St w T s₀ F (G++X) env s' l mu:=by
 have off:∀ a∈X,a∉G:=fun a m q=>(hG a q).1 m;refine S.move (S.base.step c fun g m=>(hG g m).2) (aJ (fun b o n e=>c.get (fun m=>n (Ay _ m)) e) fun y m=>.inl m) (S.live.ch c hl) (fun a m=>Ad _ (mem a m))
  (fun a m o e=>c.get (off a (mem a m)) e) fun p m=>⟨Ad _ (hmu p m),fun o e=>c.get (off _ (hmu p m)) e⟩
class inductive Tg (env:Env):AO→D→(Str→Option D)→(Str→Option D)→Prop
 | name {x p d l}:nB env x→Tg env (.Name x p) d l (up l x d)
 | tup {es xs k p ds l}:Tgts env es xs→ds.length=xs.length→Tg env (.Tuple es k p) (.tup ds) l (bQ l xs ds)
theorem St.target {t d l'} {v:Ag} {Q:Unit→Ak→Prop} {E} (hh:A.handled=none) (S:St w T s₀ F X env s l mu) (g:Tg env t d l l') (r:Rp w (hx X s.heap) v d)
  (q:∀ s',St w T s₀ F X env s' l' mu→Q () s'):Au (AI prog w) A (assign t env v) Q E s:=by
 cases g with
 | name a=>exact assign_Name (S.store r a fun s' S' _=>q s' S')
 | tup a b=>exact S.unpack hh a r b fun s' S' _=>q s' S'
noncomputable def pU (w:Bl) (A:Ba) (env:Env) (rest:List Stmt) (Q:Flow→Ak→Prop) (SI SO:Ak→(Str→Option D)→List (Addr×D)→Prop) (Inv1:(Str→Option D)→List (Addr×D)→Prop) (ms:List Addr):Flow→Ak→Prop
 | .brk,s=>∃ l mu,SI s l mu∧mu.map (·.1)=ms∧(SO s l mu→Xs w A rest env Q (fun _ _=>False) s)
 | .ret v,s=>Q (.ret v) s∨∃ l mu,SI s l mu∧mu.map (·.1)=ms∧(SO s l mu→Q (.ret v) s)
 | _,s=>∃ l mu,Inv1 l mu∧SI s l mu∧mu.map (·.1)=ms
theorem sT {test body orelse pos} (hE:PassesOwn (AI prog w) A env E) (S:St w T s₀ F X env s l mu) (Inv:Nat→(Str→Option D)→List (Addr×D)→Prop) (k0:Nat) (h0:Inv k0 l mu)
  (turn:∀ k s1 l1 mu1,Inv k l1 mu1→mu1.map (·.1)=mu.map (·.1)→St w T s₀ F X env s1 l1 mu1→∀ Q1:Flow→Ak→Prop,(∀ {f s},pU w A env rest Q (fun s l mu=>St w T s₀ F X env s l mu) (fun s l mu=>St w T s₀ F X env s l mu) (fun l2 mu2=>∃ k2,k2<k∧Inv k2 l2 mu2) (mu1.map (·.1)) f s→Q1 f s)→Au (AI prog w) A (isTrue test env (eval test env)) (fun b s2=>
   if b then Xs w A body env Q1 E s2
   else Xs w A orelse env (Nx w A env rest Q E) E s2) E s1) :
  Xs w A (.While test body orelse pos::rest) env Q E s:=by
 refine cI (wpAny_While (codeAny_whileLoop (fun k s1=>∃ l1 mu1,Inv k l1 mu1∧mu1.map (·.1)=mu.map (·.1)∧St w T s₀ F X env s1 l1 mu1) ?_ k0 ⟨l,mu,h0,rfl,S⟩));rintro k s1 ⟨l1,mu1,I1,e1,S1⟩;refine B9 (turn k s1 l1 mu1 I1 e1 S1 _ fun z=>z) (fun b s2 z=>?_) hE;cases b with
 | false=>exact B9 z.go (fun f s3 z3=>by cases f <;> first | exact Xs.go z3 | exact z3) hE
 | true=>
  refine B9 z.go (fun f s3 z3=>?_) hE;cases f with
  | next=>refine bI z3 ?_;clear z3;rintro l2 mu2 ⟨k2,lt,I2⟩ S2 e2;exact ⟨k2,lt,l2,mu2,I2,e2.trans e1,S2⟩
  | cont=>refine bI z3 ?_;clear z3;rintro l2 mu2 ⟨k2,lt,I2⟩ S2 e2;exact ⟨k2,lt,l2,mu2,I2,e2.trans e1,S2⟩
  | brk=>refine bI z3 fun l2 mu2 S2 e2 q=>?_;clear z3;exact wpF (q S2).go
  | ret v=>refine BH z3 id fun z3=>?_;refine bI z3 fun l2 mu2 S2 e2 q=>?_;exact q S2
theorem kQ {test body orelse pos} (S:St w T s₀ F X env s l mu) (Inv:Nat→(Str→Option D)→List (Addr×D)→Prop) (k0:Nat) (h0:Inv k0 l mu)
  (turn:∀ k s1 l1 mu1,Inv k l1 mu1→mu1.map (·.1)=mu.map (·.1)→St w T s₀ F X env s1 l1 mu1→∀ Q1:Flow→Ak→Prop,(∀ {f s},pU w A env rest Q (fun s l mu=>St w T s₀ F X env s l mu) (fun s l mu=>St w T s₀ F X env s l mu) (fun l2 mu2=>∃ k2,k2<k∧Inv k2 l2 mu2) (mu1.map (·.1)) f s→Q1 f s)→Au (AI prog w) A (isTrue test env (eval test env)) (fun b s2=>
   if b then Xs w A body env Q1 (fun _ _=>False) s2 else Xs w A orelse env (Nx w A env rest Q (fun _ _=>False)) (fun _ _=>False) s2) (fun _ _=>False) s1) :
  Xs w A (.While test body orelse pos::rest) env Q (fun _ _=>False) s:=sT PassesOwn.never S Inv k0 h0 turn
end
noncomputable def jX (ifs:List AO) (env:Env):Sem Bool:=forIn ifs true fun c r=>if r=true then do let ok ← isTrue c env (eval c env);pure (ForInStep.yield ok) else pure (ForInStep.yield r)
noncomputable def eY (target iter:AO) (ifs:List AO) (it:Ag) (env:Env) (emit:Sem Unit) (c:Code):Sem Fin:=do
 standAt iter.pos
 match ← pyNext it with
 | none=>pure (.done .next)
 | some v=>
  letOwnedTupleGo target it v
  assign target env v
  let ok ← jX ifs env
  if ok then emit
  again c
section
theorem aBY {Q:Bool→Ak→Prop} {E} (q:Q true s):Au (AI prog w) A (jX [] env) Q E s:=Aj q
theorem aBZ {c} {Q:Bool→Ak→Prop} {E} (q:Au (AI prog w) A (isTrue c env (eval c env)) Q E s):Au (AI prog w) A (jX [c] env) Q E s:=wpAny_tests_one q
theorem sQ {e depth target iter ifs emit acc items n tup I fp wr Stt Mid s1 Xi si sj} (hA:dF n A)
  (heq:compTurn e depth (.ref I) acc env=eY target iter ifs (.ref I) env emit (.compLoop e depth (.ref I) acc env)) (hf:(Code.compLoop e depth (.ref I) acc env).isFrame=false) (hund:A.under (.compLoop e depth (.ref I) acc env)=A)
  (it:vP w A tup Xi si sj I fp wr items Stt Mid) (htup:tup=true→∃ es k p,target=.Tuple es k p) (hst0:Stt 0 s1.heap) (S2:St w T s₀ F (wr++X) env s1 l mu) (hmem:∀ a∈Fp env,a∈X) (hmuX:∀ p∈mu,p.1∈X)
  (wrX:∀ b∈wr,b∉X∧(b∈F∨s₀.heap.get? b=none)) (wrT:aK∉wr) (seen:∀ b∈fp,b∈wr∨b∉X) (hle0:aZ (hx Xi si.heap) (hx (wr++X) s1.heap))
  (Inv:Nat→(Str→Option D)→List (Addr×D)→Prop) (h0:Inv 0 l mu) (R:Result→Ak→Prop)
  (turn:∀ i d s1 l1 mu1,items[i]?=some d→Inv i l1 mu1→mu1.map (·.1)=mu.map (·.1)→aZ (hx Xi si.heap) (hx (wr++X) s1.heap)→St w T s₀ F (wr++X) env s1 l1 mu1→
   ∃ l2,Tg env target d l1 l2∧∀ s2,St w T s1 (Tm env mu1) (wr++X) env s2 l2 mu1→Au (AI prog w) A (jX ifs env) (fun ok s3=>
    if ok then Au (AI prog w) A emit (fun _ s4=>∃ l4 mu4,Inv (i+1) l4 mu4∧St w T s1 (Tm env mu1) (wr++X) env s4 l4 mu4∧mu4.map (·.1)=mu1.map (·.1)) (fun _ _=>False) s3
    else ∃ l4 mu4,Inv (i+1) l4 mu4∧St w T s1 (Tm env mu1) (wr++X) env s3 l4 mu4∧mu4.map (·.1)=mu1.map (·.1)) (fun _ _=>False) s2)
  (done:∀ s1 l1 mu1,Inv items.length l1 mu1→mu1.map (·.1)=mu.map (·.1)→St w T s₀ F X env s1 l1 mu1→R (.ok .next) s1):codeAny (AI prog w) A (.compLoop e depth (.ref I) acc env) R s1:=by
 have apartFp:∀ (mu':List (Addr×D)),mu'.map (·.1)=mu.map (·.1)→∀ b∈fp,b∉Tm env mu':=fun mu' hmu b m q=>by
  have hX:b∈X:=by
   refine gJ q (fun q=>?_) fun q=>?_
   ·exact hmem b q
   ·rw [hmu] at q;refine cX q ?_;rintro p mp rfl;exact hmuX p mp
  refine BH (seen b m) (fun z=>?_) fun z=>?_
  ·exact (wrX b z).1 hX
  ·exact z hX
 refine codeAny_loop rfl (fun k s3=>∃ i l3 mu3,k=items.length - i∧i≤items.length∧Inv i l3 mu3∧mu3.map (·.1)=mu.map (·.1)∧Stt i s3.heap∧aZ (hx Xi si.heap) (hx (wr++X) s3.heap)∧St w T s₀ F (wr++X) env s3 l3 mu3) ?_ items.length
  ⟨0,l,mu,rfl,Df _,h0,rfl,hst0,hle0,S2⟩
 rintro k s3 ⟨i,l3,mu3,rfl,hi,hI,hmu,hst,hle,S3⟩;have hden:(AI prog w).den (.compLoop e depth (.ref I) acc env)=(compTurn e depth (.ref I) acc env).onRaise (fun x=>do noteFrame x env;theTreesLotGoes x):=by
  show (if (Code.compLoop e depth (.ref I) acc env).isFrame=true then _ else _)=_;rw [hf];rfl
 rw [hden,hund,heq];refine wpAny_noted (wpF ?_);unfold eY;refine Ab (B2 (Ab ?_));have muX:∀ p∈mu3,p.1∈X:=fun p m=>by
  have:p.1∈mu.map (·.1):=hmu▸B8 m;refine cX this fun p' mp e=>?_;exact e▸hmuX p' mp
 by_cases hlt:i<items.length
 ·obtain ⟨d,hd⟩:∃ d,items[i]?=some d:=⟨items[i],Ah hlt⟩
  refine it.next i d (wr++X) s3 _ hd hst S3.live (fun b m=>Ay _ m) hle fun v4 sm cm hmid rdm=>?_
  have Sm:St w T s₀ F (wr++X) env sm l3 mu3:=S3.asideOn cm wrX hmem muX (it.malive _ _ _ hmid);dsimp only;refine Ab (it.go i target v4 sm _ htup hmid fun s4 c4 hst4=>?_);have hmv:aZ (hx (wr++X) sm.heap) (hx (wr++X) s4.heap):=aJ (fun b o n e=>c4.get (fun m=>n (Ay _ m)) e) fun y m=>.inl m;have S4:St w T s₀ F (wr++X) env s4 l3 mu3:=Sm.asideOn c4 wrX hmem muX (it.alive _ _ hst4);have le4:aZ (hx Xi si.heap) (hx (wr++X) s4.heap):=hle.trans ((aJ (fun b o n e=>cm.get (fun m=>n (Ay _ m)) e) fun y m=>.inl m:aZ (hx (wr++X) s3.heap) (hx (wr++X) sm.heap)).trans hmv);refine ob12 (turn i d s4 l3 mu3 hd hI hmu le4 S4) fun l5 tg body5=>?_;refine Ab (St.target hA.hh S4.rebase tg (rdm.mono hmv) fun s5 S5=>Ab (cF (body5 s5 S5) fun ok s6 z=>?_));have fin:∀ s6,(∃ l mu',Inv (i+1) l mu'∧St w T s4 (Tm env mu3) (wr++X) env s6 l mu'∧mu'.map (·.1)=mu3.map (·.1))→
    ∃ m,m<items.length - i∧∃ i l3 mu3,m=items.length - i∧i≤items.length∧Inv i l3 mu3∧mu3.map (·.1)=mu.map (·.1)∧Stt i s6.heap∧aZ (hx Xi si.heap) (hx (wr++X) s6.heap)∧St w T s₀ F (wr++X) env s6 l3 mu3:=by
   rintro s6 ⟨l6,mu6,I6,S6,e6⟩;refine ⟨_,?_,i+1,l6,mu6,rfl,hlt,I6,e6.trans hmu,?_,?_,S4.unbase S6 e6⟩
   ·exact N4 0 7 eB (cY (N2 0 6 hlt))
   ·exact it.frame (i+1) s4.heap s6.heap hst4 fun b m o e=>S6.base.get (apartFp mu3 hmu b m) e
   ·exact le4.trans (aJ (fun b o n e=>S6.base.get (fun m=>n (by
     refine gJ m (fun m=>?_) fun m=>?_
     ·exact Ad _ (hmem b m)
     ·refine cX m ?_;rintro p mp rfl;exact Ad _ (muX p mp))) e) fun y m=>.inl m)
  cases ok with
  | false=>exact Ab (Aj (Aj ⟨rfl,fin _ z⟩))
  | true=>exact Ab (cF z fun _ s7 z7=>Aj ⟨rfl,fin _ z7⟩)
 ·have hin:i=items.length:=by exact N2 0 8 hi hlt
  subst hin;refine it.done s3 _ hst fun s4 c4=>?_;exact Aj (done _ l3 mu3 hI hmu (S3.aside c4 wrT wrX hmem muX))
theorem St.mutate {a d d' pre post} (S:St w T s₀ F X env s l (pre++(a,d)::post)) (c:Ch [a] s s') (hl:∃ o,s'.heap.get? a=some o) (hd:cN w X s'.heap a d'):St w T s₀ F X env s' l (pre++(a,d')::post):=by
 have ma:(a,d)∈pre++(a,d)::post:=Ad _ (.head _);refine eG (S.mus _ ma) fun aX aF a0 _=>?_;have hm:aZ (hx X s.heap) (hx X s'.heap):=aJ (fun b o n e=>c.get (fun m=>n (by rw [bH m];exact aX)) e) fun y m=>.inl m;have fp:∀ b∈Fp env,∀ o,s.heap.get? b=some o→s'.heap.get? b=some o:=fun b m o e=>c.get (fun q=>aF (by rw [← bH q];exact m)) e;have mud:=S.mud;rw [GH,Bn] at mud;have off:∀ p∈pre++post,p.1≠a:=fun p m=>by
  refine gJ m (fun m=>?_) fun m=>?_
  ·exact mud.2.2 p m (a,d) (.head _)
  ·exact fun q=>mud.2.1.1 p m q.symm
 refine ⟨S.kind,S.gl,S.bl,S.base.step c fun g m=>by rw [bH m];exact a0,S.live.ch c (fun g m=>by rw [bH m];exact hl),S.pl,S.mem,S.own,?_,?_,S.tot,S.apart,S.wd.mono hm,fun p m=>?_,?_⟩
 ·refine ob12 S.ns fun m n q=>?_
  exact ⟨m,n.at' (fp _ (.head _)),fun x d a b=>let ⟨v,e,r⟩:=q x d a b;⟨v,e,r.mono hm⟩⟩
 ·intro x c hc lt hk
  refine ob12 (S.cs x c hc lt hk) ?_;rintro v ⟨o,ho,hd⟩ q;exact ⟨v,⟨o,fp c (xK hc lt) o ho,hd⟩,fun d e=>let ⟨u,e',r⟩:=q d e;⟨u,e',r.mono hm⟩⟩
 ·have:p=(a,d')∨p∈pre++post:=by
   refine gJ m (fun m=>?_) fun m=>?_
   ·exact .inr (Ay _ m)
   ·refine cK m (fun e=>?_) fun m=>?_
    ·exact .inl e
    ·exact .inr (Ad _ m)
  rcases this with rfl | m
  ·exact ⟨aX,aF,a0,hd⟩
  ·have mo:p∈pre++(a,d)::post:=by
    refine gJ m (fun m=>?_) fun m=>?_
    ·exact Ay _ m
    ·exact Ad _ (.tail _ m)
   refine eG (S.mus p mo) fun x1 x2 x3 x4=>?_;exact ⟨x1,x2,x3,x4.mono hm fun o e=>c.get (fun q=>off p m (bH q)) e⟩
 ·rw [GH,Bn]
  exact ⟨mud.1,mud.2.1,fun x m y m'=>by
   refine cK m' (fun e=>?_) fun m'=>?_
   ·subst e;exact mud.2.2 x m (a,d) (.head _)
   ·exact mud.2.2 x m y (.tail _ m')⟩
theorem St.newMu {a d} (S:St w T s₀ F X env s l mu) (k:A0 s s') (ha:s.heap.get? a=none) (hl:∃ o,s'.heap.get? a=some o) (hd:cN w (a::X) s'.heap a d):St w T s₀ F (a::X) env s' l ((a,d)::mu):=by
 have aX:a∉X:=fun m=>by refine ob11 (S.live.1 a m) fun o e=>?_;rw [ha] at e;cases e
 have S':St w T s₀ F ([a]++X) env s' l mu:=S.hide (fun y m=>by rw [bH m];exact ha) k (fun y m=>by rw [bH m];exact hl);have a0:a∈F∨s₀.heap.get? a=none:=by
  by_cases z:a∈F
  ·exact .inl z
  ·refine .inr ?_
   cases e:s₀.heap.get? a with
   | none=>rfl
   | some o=>have:=S.base.get z e;rw [ha] at this;cases this
 exact ⟨S'.kind,S'.gl,S'.bl,S'.base,S'.live,S'.pl,S'.mem,S'.own,S'.ns,S'.cs,S'.tot,S'.apart,S'.wd,fun p m=>by
  rcases AP.mp m with rfl | m
  ·exact ⟨.head _,fun q=>aX (S.mem _ q),a0,hd⟩
  ·exact S'.mus p m,Bn.mpr ⟨fun p m q=>aX (by have:=(S.mus p m).1;rw [← q] at this;exact this),S'.mud⟩⟩
theorem fK {a v ds d pre post} {Q:Ag→Ak→Prop} {E} (S:St w T s₀ F X env s l (pre++(a,.list ds)::post)) (r:Rp w (hx X s.heap) v d) (hsz:ds.length≤100000)
  (q:∀ s',St w T s₀ F X env s' l (pre++(a,.list (ds++[d]))::post)→Q .none s'):Au (AI prog w) A (call (.builtin "list.append") [.ref a,v]) Q E s:=by
 refine eG (S.mus (a,.list ds) (Ad _ (.head _))) fun aX _ _ mm=>?_;cases mm with
 | @list vs _ p rs=>
  refine wpAny_list_append_plain (hsz:=by rw [AH,rs.length];exact Ao hsz (by decide)) p fun h' hp hs=>?_;have c:Ch [a] s { s with heap:=h' }:=Ch.heap (tk:=s.toks) fun b o n e=>hs.extBut b o (fun q=>n (q▸.head _)) e;have hm:aZ (hx X s.heap) (hx X h'):=aJ (fun b o n e=>hs.extBut b o (fun q=>n (q▸aX)) e) fun y m=>.inl m;refine ob11 (id hp) fun n e=>?_;refine q _ (S.mutate c ⟨_,e⟩ (.list (vs:=vs++[v]) ?_ ((rs.mono hm).append (.cons (r.mono hm) .nil))));have:(vs++[v]).toArray=vs.toArray.push v:=by simp
  rw [this];exact hp
end
noncomputable def bA (scope:C6) (cl:List (Str×Addr)) (C:Addr) (env:Env):Env:=
 { scope:=relabel scope env,locals:=C,globals:=env.globals,cells:=cellsFrom (C+1) scope.names cl,qual:=env.qual,func:=none,code:=env.code,frame:=env.frame,builtins:=env.builtins }
theorem eT:∀ (names:List (Str×DJ)) (n:Nat) (a b:List (Str×Addr)),cellsFrom n names (a++b)=cellsFrom n names a++b
 | [],_,_,_=>rfl
 | (x,k)::r,n,a,b=>by
  unfold cellsFrom;split
  ·exact eT r (n+1) ((x,n)::a) b
  ·exact eT r n a b
section
theorem lZ {e depth it acc R} (hf:(Code.compStart e depth it acc env).isFrame=false) (hund:A.under (.compStart e depth it acc env)=A) (ha:((clausesOf e)[depth]?).elim false (·.is_async != 0)=false)
  (h0:codeAny (AI prog w) A (.compLoop e depth it acc env) R s) (h1:Au (AI prog w) A (pyIter it) (fun it' s'=>codeAny (AI prog w) A (.compLoop e depth it' acc env) R s') (fun _ _=>False) s) :
  codeAny (AI prog w) A (.compStart e depth it acc env) R s:=by
 refine codeAny_of_tree ?_;have hden:(AI prog w).den (.compStart e depth it acc env)=(compStart e depth it acc env).onRaise (fun x=>do noteFrame x env;standAt theWindowsPlace):=by
  show (if (Code.compStart e depth it acc env).isFrame=true then _ else _)=_;rw [hf];rfl
 rw [hden,hund];refine wpAny_notedAt (wpF ?_);unfold compStart;rw [ha];simp only [Cz,if_false];refine Ab (F3 ?_);split
 ·first
   | exact Ab (Aj (Aj (And.intro rfl h0)))
   | exact Aj (And.intro rfl h0)
 ·refine Ab (Ej ?_)
  split
  ·exact Ab (B2 (Ab (cF h1 fun it' s' h'=>Aj (And.intro rfl h'))))
  ·exact Ab (cF h1 fun it' s' h'=>Aj (And.intro rfl h'))
theorem aEN {scope cl globals qual} {Q:Env→Ak→Prop} {E}
  (q:Q { scope,locals:=s.heap.objs.size,globals,cells:=cellsFrom (s.heap.objs.size+1) scope.names cl,qual,func:=none,code:=env.code,frame:=env.frame,builtins:=env.builtins }
   { s with heap:=pushCells (s.heap.push { cls:=.type "dict",data:=.dict #[] }) scope.names }) :
  Au (AI prog w) A (newFunctionEnv scope globals cl [] qual none .none (some env)) Q E s:=by
 simp only [newFunctionEnv,Option.isSome_some,if_true];refine Ab (wpAny_alloc ?_);refine Ab (wpAny_layCells _ (fun name kind cells=>by cases hkc:kind==DJ.cell <;> simp) _ _ _ _ ?_);rw [Fe];refine Ab (Aj (Aj ?_));rw [show ({ s with heap:=s.heap.push { cls:=.type "dict",data:=.dict #[] } }:Ak).heap.objs.size=s.heap.objs.size+1 from Cr ..];exact q
theorem St.comp {scope cl D0 d0} {sb s3:Ak} (gb:GB env) (hkind:scope.kind=.function) (hX:XL X s.heap) (W:Wd w T (hx X s.heap)) (k2:A0 s s3) (kb:A0 sb s3) (hcl:∀ p∈cl,∃ o,s.heap.get? p.2=some o)
  (hD:s.heap.get? D0=none) (hDb:sb.heap.get? D0=none) (hTb:∃ o,sb.heap.get? aK=some o) (lD:∃ o,s3.heap.get? D0=some o) (mD:cN w (D0::X) s3.heap D0 d0) :
  St w T sb [] (Fp (bA scope cl s3.heap.objs.size env)++D0::X) (bA scope cl s3.heap.objs.size env) { s3 with heap:=pushCells (s3.heap.push { cls:=.type "dict",data:=.dict #[] }) scope.names } (fun _=>none) [(D0,d0)]∧
   A0 s3 { s3 with heap:=pushCells (s3.heap.push { cls:=.type "dict",data:=.dict #[] }) scope.names }∧(∀ a∈Fp (bA scope cl s3.heap.objs.size env),s3.heap.objs.size≤a):=by
 have kp:A0 s3 { s3 with heap:=pushCells (s3.heap.push { cls:=.type "dict",data:=.dict #[] }) scope.names }:=
  ⟨_,s3.toks,rfl,fun b o e=>Go _ _ _ _ (Ai _ e)⟩
 have ok:=cellsFrom_ok scope.names (s3.heap.push { cls:=.type "dict",data:=.dict #[] }) (s3.heap.objs.size+1) [] ⟨fun _ _ hm=>(nomatch hm),List.Pairwise.nil⟩ (by rw [Cr];exact Am _);rw [Cr] at ok;have kk:=aD k2 kp;have ltcl:∀ p∈cl,p.2<s3.heap.objs.size:=fun p m=>by refine ob11 (hcl p m) fun o e=>?_;exact AK (aN k2 _ _ e)
 have cells:(bA scope cl s3.heap.objs.size env).cells=cellsFrom (s3.heap.objs.size+1) scope.names []++cl:=by
  show cellsFrom (s3.heap.objs.size+1) scope.names cl=_;exact eT scope.names (s3.heap.objs.size+1) [] cl
 have own:oc (bA scope cl s3.heap.objs.size env)=cellsFrom (s3.heap.objs.size+1) scope.names []:=by
  unfold oc;rw [cells,G9];have e1:(cellsFrom (s3.heap.objs.size+1) scope.names []).filter (fun p=>decide ((bA scope cl s3.heap.objs.size env).locals<p.2))=cellsFrom (s3.heap.objs.size+1) scope.names []:=
   Az.mpr fun p m=>decide_eq_true (Hw (ok.empty p.1 p.2 m).2)
  have e2:cl.filter (fun p=>decide ((bA scope cl s3.heap.objs.size env).locals<p.2))=[]:=
   Ex.mpr fun p m=>by
    have:=ltcl p m;have e:decide ((bA scope cl s3.heap.objs.size env).locals<p.2)=false:=decide_eq_false (CB.mpr (CR this));rw [e];exact CX
  rw [e1,e2,AZ]
 have fpge:∀ a∈Fp (bA scope cl s3.heap.objs.size env),s3.heap.objs.size≤a:=fun a m=>by
  refine cK m (fun e=>?_) fun m=>?_
  ·exact DS e.symm
  ·rw [own] at m
   refine cX m ?_;rintro p mp rfl;exact Hv (ok.empty p.1 p.2 mp).2
 have DltC:D0<s3.heap.objs.size:=by refine ob11 lD fun o e=>?_;clear lD;exact AK e
 have D0X:D0∉X:=fun m=>by refine ob11 (hX.1 D0 m) fun o e=>?_;rw [hD] at e;cases e
 have hm3:aZ (hx (D0::X) s3.heap) (hx (Fp (bA scope cl s3.heap.objs.size env)++D0::X) (pushCells (s3.heap.push { cls:=.type "dict",data:=.dict #[] }) scope.names)):=
  aJ (fun b o _ e=>aN kp b o e) fun y m=>(BM.mp m).elim (fun q=>.inr (aH (fpge y q))) .inl
 have hm:aZ (hx X s.heap) (hx (Fp (bA scope cl s3.heap.objs.size env)++D0::X) (pushCells (s3.heap.push { cls:=.type "dict",data:=.dict #[] }) scope.names)):=
  aJ (fun b o _ e=>aN kk b o e) fun y m=>by
   refine gJ m (fun m=>?_) fun m=>?_
   ·refine .inr ?_
    cases e:s.heap.get? y with
    | none=>rfl
    | some o=>exact absurd (AK (aN k2 _ _ e)) (CB.mpr (fpge y m))
   ·rcases AP.mp m with rfl | m
    ·refine .inr ?_
     cases e:s.heap.get? y with
     | none=>rfl
     | some o=>rw [hD] at e;cases e
    ·exact .inl m
 refine ⟨⟨hkind,gb.gl,gb.bl,.of_keeps (aD kb kp),⟨fun y m=>?_,(hX.mono (aN kk)).2⟩,hTb,fun a m=>Ay _ m,fun a m=>.inr ?_,⟨fun _=>none,?_,(fun x d e=>by cases e)⟩,fun x c hc lt hk=>?_,(fun x d e=>by cases e),?_,W.mono hm,fun p m=>?_,?_⟩,kp,fpge⟩
 ·refine gJ m (fun m=>?_) fun m=>?_
  ·refine cK m (fun e=>?_) fun m=>?_
   ·rw [e];exact ⟨_,Go _ _ _ _ (Ae _ rfl)⟩
   ·rw [own] at m
    refine cX m ?_;rintro p mp rfl;refine ob12 ((ok.empty p.1 p.2 mp).1) fun o e _=>?_;exact ⟨o,e⟩
  ·rcases AP.mp m with rfl | m
   ·refine ob11 lD fun o e=>?_;clear lD;exact ⟨o,aN kp _ _ e⟩
   ·exact (hX.mono (aN kk)).1 y m
 ·cases e:sb.heap.get? a with
  | none=>rfl
  | some o=>exact absurd (AK (aN kb _ _ e)) (CB.mpr (fpge a m))
 ·exact (Heap.Ns.new s3.heap (.type "dict")).keeps (fun b o e=>Go _ _ _ _ e)
 ·have:(x,c)∈oc (bA scope cl s3.heap.objs.size env):=vG hc lt
  rw [own] at this;exact ⟨none,(ok.empty x c this).1,fun d e=>by cases e⟩
 ·rw [own];exact ok.apart
 ·rw [bH m]
  refine ⟨Ad _ (.head _),fun q=>absurd DltC (CB.mpr (fpge _ q)),.inr hDb,mD.mono hm3 fun o e=>aN kp _ _ e⟩
 ·exact AS _ _
theorem St.perm {Y} (S:St w T s₀ F X env s l mu) (e:∀ y,y∈X↔y∈Y):St w T s₀ F Y env s l mu:=
 S.move S.base (bV fun y m=>(e y).mpr m) ⟨fun y m=>S.live.1 y ((e y).mpr m),S.live.2⟩ (fun a m=>(e a).mp (S.mem a m)) (fun _ _ _ e=>e) fun p m=>⟨(e _).mp (S.mus p m).1,fun _ e=>e⟩
theorem cN.thaw {X' a d} (x:cN w X' h a d) (hz:d.frz=true) (k:aZ (hx X' h) (hx X h')) (ha:a∉X) (ka:∀ o,h.get? a=some o→h'.get? a=some o):Rp w (hx X h') (.ref a) d:=by
 cases x with
 | list p r=>exact .list (let ⟨n,e⟩:=p;⟨n,bU (ka _ e) ha⟩) (r.mono k)
 | idict q p r=>refine fW p fun o es ep ho z=>?_;clear p;exact .idict q ⟨o,es,ep,bU (ka _ ho) ha,z⟩ (r.mono k)
 | sdict q p r=>refine fW p fun o es ep ho z=>?_;clear p;exact .sdict q ⟨o,es,ep,bU (ka _ ho) ha,z⟩ (r.mono k)
 | sset p q r n=>exact .sset (vF p fun o es ep t ho r=>⟨o,es,ep,t,bU (ka _ ho) ha,r⟩) q r (vF n fun o es ep t ho r=>⟨o,es,ep,t,bU (ka _ ho) ha,r⟩)
 | ctab p q r=>cases hz
 | biter p=>cases hz
noncomputable def gZ (w:Bl) (A:Ba) (t:Sem Ag) (d0:D):Prop:=∀ (X:List Addr) (s:Ak) (Q:Ag→Ak→Prop),XL X s.heap→
 (∀ a s',s.heap.get? a=none→A0 s s'→(∃ o,s'.heap.get? a=some o)→cN w (a::X) s'.heap a d0→Q (.ref a) s')→Au (AI prog w) A t Q (fun _ _=>False) s
theorem gZ.list:gZ w A (newList []) (.list []):=fun X s Q hX q=>
 AV (q _ _ (aH (Am _)) bT ⟨_,Ae _ rfl⟩ (.list (vs:=[]) ⟨0,Ae _ rfl⟩ .nil)) (by show ([]:List Ag).toArray.size≤sizeLine;decide)
noncomputable def aAf (w:Bl) (T:lU) (X:List Addr) (A:Ba) (env:Env) (tup:Bool) (h:Heap) (e:AO) (scope:C6) (cl:List (Str×Addr)) (items:List D) (d0 dE:D):Prop:=
 ∀ sb s4 C I fp wr Stt Mid D0 si,vP w A tup X sb si I fp wr items Stt Mid→Stt 0 s4.heap→
  St w T sb [] (wr++(Fp (bA scope cl C env)++D0::X)) (bA scope cl C env) s4 (fun _=>none) [(D0,d0)]→(∀ b∈wr,b∉Fp (bA scope cl C env)++D0::X∧sb.heap.get? b=none)→
  (∀ b∈fp,b∈wr∨b∉Fp (bA scope cl C env)++D0::X)→aZ h sb.heap→aZ (hx X sb.heap) (hx (wr++(Fp (bA scope cl C env)++D0::X)) s4.heap)→aZ sb.heap s4.heap→
   codeAny (AI prog w) A (.compLoop e 0 (.ref I) (.ref D0) (bA scope cl C env)) (fun r s'=>r=.ok .next∧∃ l',St w T sb [] (Fp (bA scope cl C env)++D0::X) (bA scope cl C env) s' l' [(D0,dE)]) s4
theorem Rp.sameBut {C v d h'} (r:Rp w (hx (C::X) h) v d) (hs:A4 C h h'):Rp w (hx X h') v d:=
 r.mono (aJ (fun b o n e=>hs.extBut b o (fun q=>n (q▸.head _)) e) fun y m=>.inl (.tail _ m))
theorem aBi {tup e scope pos g gs cl newAcc acc0 accE items iter n} {use:Option (Ag→Sem Unit)} {Q:Ag→Ak→Prop} (hA:dF n A) (gb:GB env) (hX:XL X s.heap) (W:Wd w T (hx X s.heap)) (hclos:closureFor scope env=pure cl)
  (hcl:∀ p∈cl,∃ o,s.heap.get? p.2=some o) (hcl1:clausesOf e=g::gs) (hs:∀ x,Be g.iter env x=pure x) (hkind:scope.kind=.function) (hnames:∀ x∈scope.names,x.2=.local→scope.names.lookup x.1=some .local)
  (src:fX w X A tup env s.heap iter items) (hz:accE.frz=true) (hnew:gZ w A newAcc acc0)
  (hf:∀ it acc env',(Code.compStart e 0 it acc env').isFrame=false) (hund:∀ it acc env',A.under (.compStart e 0 it acc env')=A) (ha:((clausesOf e)[0]?).elim false (·.is_async != 0)=false)
  (run:aAf w T X A env tup s.heap e scope cl items acc0 accE)
  (q:∀ D0 C s' m,A0 s s'→s.heap.get? C=none→s.heap.get? D0=none→s'.heap.Ns C m→Rp w (hx (C::X) s'.heap) (.ref D0) accE→compPost (AI prog w) A E use Q (.ref D0) C (.ok .next) s') :
  Au (AI prog w) A (comprehension e scope env pos newAcc false (eval iter env) use) Q E s:=by
 refine wpAny_comprehension_free hcl1 hs hclos hkind hnames (src.use hX aZ.rfl fun I fp wr Stt Mid s1 s2 k1 k2 it=>?_);have hX1:=hX.mono (aN k1);have hX2:XL (wr++X) s2.heap:=⟨fun y m=>(BM.mp m).elim (it.live y) fun m=>(hX1.mono (aN k2)).1 y m,(hX1.mono (aN k2)).2⟩;refine cF (hnew (wr++X) s2 _ hX2 fun D0 s3 hD k3 lD mD=>?_) fun _ _ z=>z;refine cF (aEN ?_) fun _ _ z=>z;have k12:=aD k1 k2;have k23:=aD k2 k3;have W2:Wd w T (hx (wr++X) s2.heap):=W.mono (aJ (fun b o _ e=>aN k12 b o e) fun y m=>(BM.mp m).elim (fun m=>.inr (by
  cases e:s.heap.get? y with
  | none=>rfl
  | some o=>have:=aN k1 _ _ e;rw [it.fresh y m] at this;cases this)) .inl)
 have hD1:s1.heap.get? D0=none:=by
  cases e:s1.heap.get? D0 with
  | none=>rfl
  | some o=>have:=aN k2 _ _ e;rw [hD] at this;cases this
 refine gM (St.comp (scope:=scope) (cl:=cl) (T:=T) gb hkind hX2 W2 k3 k23 (fun p m=>let ⟨o,e⟩:=hcl p m;⟨o,aN k12 _ _ e⟩) hD hD1 hX1.2 lD mD) fun S4 k4 fpge=>?_;generalize hC:s3.heap.objs.size=C at S4 k4 fpge ⊢;have k14:=aD k23 k4;have below:∀ (y:Addr),(∃ o,s2.heap.get? y=some o)→y∉Fp (bA scope cl C env)++D0::[]:=fun y ⟨o,e⟩ m=>by
  refine gJ m (fun m=>?_) fun m=>?_
  ·have:=fpge y m;have h2:=AK (aN k3 _ _ e);rw [hC] at h2;exact absurd h2 (CB.mpr this)
  ·rw [bH m,hD] at e;cases e
 have notin:∀ (y:Addr),(∃ o,s2.heap.get? y=some o)→y∉X→y∉Fp (bA scope cl C env)++D0::X:=fun y hy hyX m=>by
  refine gJ m (fun m=>?_) fun m=>?_
  ·exact below y hy (Ay _ m)
  ·refine cK m (fun e=>?_) fun m=>?_
   ·exact below y hy (Ad _ (by rw [e];exact .head _))
   ·exact hyX m
 have wrX:∀ b∈wr,b∉X:=fun b m q=>by refine ob11 (hX1.1 b q) fun o e=>?_;rw [it.fresh b m] at e;cases e
 have mem5:∀ y,y∈Fp (bA scope cl C env)++D0::(wr++X)↔y∈wr++(Fp (bA scope cl C env)++D0::X):=fun y=>by
  simp only [BM,AP];constructor
  ·rintro (a | a | a | a)
   ·exact .inr (.inl a)
   ·exact .inr (.inr (.inl a))
   ·exact .inl a
   ·exact .inr (.inr (.inr a))
  ·rintro (a | a | a | a)
   ·exact .inr (.inr (.inl a))
   ·exact .inl a
   ·exact .inr (.inl a)
   ·exact .inr (.inr (.inr a))
 have stt4:Stt 0 (pushCells (s3.heap.push { cls:=.type "dict",data:=.dict #[] }) scope.names):=it.frame 0 s2.heap _ it.start fun b _ o e=>aN (aD k3 k4) _ _ e;have frs:∀ y∈Fp (bA scope cl C env)++D0::[],s1.heap.get? y=none:=fun y m=>by
  cases e:s1.heap.get? y with
  | none=>rfl
  | some o=>exact absurd m (below y ⟨o,aN k2 _ _ e⟩)
 have frs0:∀ y∈Fp (bA scope cl C env)++D0::[],s.heap.get? y=none:=fun y m=>by
  cases e:s.heap.get? y with
  | none=>rfl
  | some o=>have:=frs y m;rw [aN k1 _ _ e] at this;cases this
 have main:=run s1 _ C I fp wr Stt Mid D0 s2 it stt4 (S4.perm mem5) (fun b m=>⟨notin b (it.live b m) (wrX b m),it.fresh b m⟩) (fun b m=>(it.seen b m).imp id fun q=>notin b (it.flive b m) q) (aN k1)
  (aJ (fun b o _ e=>aN k14 b o e) fun y m=>by
   refine gJ m (fun m=>?_) fun m=>?_
   ·exact .inr (it.fresh y m)
   ·refine gJ m (fun m=>?_) fun m=>?_
    ·exact .inr (frs y (Ay _ m))
    ·refine cK m (fun e=>?_) fun m=>?_
     ·exact .inr (frs y (Ad _ (by rw [e];exact .head _)))
     ·exact .inl m) (aN k14)
 have back:∀ r s',(r=.ok .next∧∃ l',St w T s1 [] (Fp (bA scope cl C env)++D0::X) (bA scope cl C env) s' l' [(D0,accE)])→compPost (AI prog w) A E use Q (.ref D0) C r s':=by
  rintro r s' ⟨rfl,l',S6⟩;refine ob12 S6.ns fun m hn _=>?_;have CF:C∈Fp (bA scope cl C env):=.head _;have DC:D0≠C:=fun e=>by
   have h1:=(S6.mus _ (.head _)).2.1;exact h1 (e▸CF)
  refine q D0 C s' m (aD k1 (S6.base.keeps hX1.2)) (frs0 C (Ay _ CF)) (frs0 D0 (Ad _ (.head _))) hn ?_;refine (S6.mus _ (.head _)).2.2.2.thaw hz (bV fun y m=>?_) (fun m=>?_) fun o e=>e
  ·refine cK m (fun e=>?_) fun m=>?_
   ·rw [e];exact Ay _ CF
   ·exact Ad _ (.tail _ m)
  ·refine cK m (fun e=>?_) fun m=>?_
   ·exact DC e
   ·refine ob11 (hX1.1 D0 m) fun o e=>?_
    rw [hD1] at e;cases e
 refine lZ (hf _ _ _) (hund _ _ _) ha (Gg main back) ?_;exact it.self 0 _ _ stt4 (Gg main back)
end
noncomputable def gL (env:Env):List (Str×DJ)→List (Str×Addr)→List (Str×Addr)
 | [],cs=>cs
 | (n,k)::r,cs=>gL env r (if k==.free then (match env.cells.lookup n with | some c=>(n,c)::cs | none=>cs) else cs)
noncomputable abbrev cv (scope:C6) (C:Addr) (env:Env):Env:=bA scope (gL env scope.names []) C env
noncomputable def iC (env:Env) (names:List (Str×DJ)):Bool:=names.all fun x=>!(x.2==.free) || (env.cells.lookup x.1).isSome
theorem mJ {env:Env} (f:Str×DJ→List (Str×Addr)→Sem (ForInStep (List (Str×Addr)))) (hf:∀ n k cs,f (n,k) cs=if k==.free then (do pure (.yield ((n,← cellOf env n)::cs))) else pure (.yield cs)) :
  ∀ (names:List (Str×DJ)) (cs:List (Str×Addr)),iC env names=true→forIn names cs f=pure (gL env names cs)
 | [],cs,_=>by rw [Fe];rfl
 | (n,k)::r,cs,h=>by
  have h':(!(k==.free) || (env.cells.lookup n).isSome)=true∧iC env r=true:=by
   unfold iC at h;rw [FH,AJ] at h;exact h
  rw [Gm,hf];unfold gL;cases hk:k==DJ.free with
  | false=>simp only [Cz,if_false,pure_bind];exact mJ f hf r cs h'.2
  | true=>
   simp only [if_true];have:(env.cells.lookup n).isSome=true:=by simpa [hk] using h'.1
   refine ob11 (CH.mp this) fun c hc=>?_;have e:cellOf env n=pure c:=by unfold cellOf;rw [hc]
   rw [e,hc];simp only [pure_bind];exact mJ f hf r _ h'.2
theorem lY {scope:C6} {env:Env} (h:iC env scope.names=true):closureFor scope env=pure (gL env scope.names []):=by
 unfold closureFor;dsimp only;rw [mJ (env:=env) _ (fun n k cs=>by cases hk:k==DJ.free <;> simp) scope.names [] h];rfl
theorem eM:∀ (names:List (Str×DJ)) (n:Nat) (acc:List (Str×Addr)) p,p∈cellsFrom n names acc→p∈acc∨n≤p.2
 | [],_,_,_,m=>.inl m
 | (x,k)::r,n,acc,p,m=>by
  unfold cellsFrom at m;split at m
  ·refine BH (eM r (n+1) _ p m) (fun q=>?_) fun q=>?_
   ·refine cK q (fun e=>?_) fun q=>?_
    ·rw [e];exact .inr (Am _)
    ·exact .inl q
   ·exact .inr (Hv q)
  ·exact eM r n acc p m
theorem iB {env:Env}:∀ (names:List (Str×DJ)) (cs:List (Str×Addr)) p,p∈gL env names cs→p∈cs∨env.cells.lookup p.1=some p.2
 | [],_,_,m=>.inl m
 | (n,k)::r,cs,p,m=>by
  unfold gL at m;refine BH (iB r _ p m) (fun q=>?_) fun q=>?_
  ·split at q
   ·split at q
    ·rename_i c hc
     refine cK q (fun e=>?_) fun q=>?_
     ·rw [e];exact .inr hc
     ·exact .inl q
    ·exact .inl q
   ·exact .inl q
  ·exact .inr q
section
structure EC (w:Bl) (T:lU) (X:List Addr) (env:Env) (h:Heap):Prop where
 gb:GB env
 wd:Wd w T (hx X h)
 live:∀ p∈env.cells,∃ o,h.get? p.2=some o
theorem EC.mono (x:EC w T X env h) (k:aZ h h'):EC w T X env h':=⟨x.gb,x.wd.mono (aL k),fun p m=>let ⟨o,e⟩:=x.live p m;⟨o,k _ _ e⟩⟩
structure Cap (w:Bl) (X:List Addr) (env:Env) (h:Heap) (y:Str) (d:D):Prop where
 kind:env.kindOf y=some .cell
 cell:∃ c v,env.cells.lookup y=some c∧h.IsCell c (some v)∧Rp w (hx X h) v d
theorem Cap.nm {y d} (x:Cap w X env h y d) (gb:GB env):Nm w X env h y d:=let ⟨c,v,hc,hv,r⟩:=x.cell;⟨v,vQ.cell gb.kind x.kind hc hv,r⟩
theorem St.cap {y d} (S:St w T s₀ F X env s l mu) (hl:l y=some d) (hk:env.kindOf y=some .cell):Cap w X env s.heap y d:=by
 rcases S.tot y d hl with q | ⟨_,c,hc,lt⟩
 ·rw [hk] at q;cases q
 ·refine ob12 (S.cs y c hc lt hk) fun v hv k=>?_
  refine ob12 (k d hl) ?_;rintro u rfl r;exact ⟨hk,c,u,hc,hv,r⟩
structure CE (w:Bl) (T:lU) (X:List Addr) (env:Env) (h:Heap) (Xc:List Addr) (cenv:Env) (h':Heap) (l:Str→Option D):Prop where
 ec:EC w T Xc cenv h'
 nm:∀ x d,l x=some d→Nm w Xc cenv h' x d
 capO:∀ x d,l x=some d→cenv.kindOf x=some .cell→Cap w Xc cenv h' x d
 cap:∀ y d,Cap w X env h y d→cenv.kindOf y=some .cell→cenv.cells.lookup y=env.cells.lookup y→Cap w Xc cenv h' y d
 up:aZ (hx X h) (hx Xc h')
 full:aZ h h'
theorem lQ {scope cl C Xc sb s2 l2 mu2} (EC0:EC w T X env h) (hle:aZ h sb.heap) (hcl:∀ p∈cl,env.cells.lookup p.1=some p.2) (S:St w T sb [] Xc (bA scope cl C env) s2 l2 mu2) (hx2:aZ (hx X sb.heap) (hx Xc s2.heap)) :
  CE w T X env h Xc (bA scope cl C env) s2.heap l2:=by
 have k:=S.base.keeps S.pl;have up:aZ (hx X h) (hx Xc s2.heap):=(aL hle).trans hx2;refine ⟨⟨S.gb,S.wd,fun p m=>?_⟩,fun x d e=>S.nm e,fun x d e hk=>S.cap e hk,fun y d c hk hl=>?_,up,hle.trans (aN k)⟩
 ·have m':p∈cellsFrom (C+1) scope.names []++cl:=by
   have:=eT scope.names (C+1) [] cl;rw [Cx] at this;rw [← this];exact m
  refine gJ m' (fun m'=>?_) fun m'=>?_
  ·have own:C<p.2:=by
    refine BH (eM _ _ _ _ m') (fun q=>?_) fun q=>?_
    ·cases q
    ·exact Hw q
   have:p∈oc (bA scope cl C env):=Bf.mpr ⟨m,decide_eq_true own⟩;exact S.live.1 _ (S.mem _ (.tail _ (AY.mpr ⟨p,this,rfl⟩)))
  ·refine ob11 (EC0.live (p.1,p.2) (mem_of_lookup (hcl p m'))) fun o e=>?_
   exact ⟨o,aN k _ _ (hle _ _ e)⟩
 ·refine bI c.cell ?_;rintro c' v hc ⟨o,ho,hd⟩ r
  exact ⟨hk,c',v,hl.trans hc,⟨o,aN k _ _ (hle _ _ ho),hd⟩,r.mono up⟩
end
structure Ts (w:Bl) (X:List Addr) (A:Ba) (env:Env) (h:Heap) (ifs:List AO) (b:Bool):Prop where
 go: ∀ (s:Ak),XL X s.heap→aZ h s.heap→Au (AI prog w) A (jX ifs env) (fun r s'=>r=b∧A0 s s') (fun _ _=>False) s
noncomputable abbrev Fx (cenv:Env) (D0:Addr):List Addr:=Fp cenv++[D0]
section
theorem Ts.nil:Ts w X A env h [] true:=.mk fun s _ _=>aBY ⟨rfl,dM⟩
theorem Ts.one {c b} (t:Tr w X A env h c b):Ts w X A env h [c] b:=.mk fun s hX k=>aBZ (t.go s hX k)
noncomputable def Em (w:Bl) (T:lU) (X:List Addr) (A:Ba) (env:Env) (h:Heap) (scope:C6) (cl:List (Str×Addr)) (Kl:(Str→Option D)→Prop) (asg:(Str→Option D)→(Str→Option D)) (emit:Env→Addr→Sem Unit) (acc acc':D):Prop:=
 ∀ C D0 sb sx Xc s2 l,aZ h sb.heap→(∀ Y s3 l3 d3,St w T sx (Fx (bA scope cl C env) D0) Y (bA scope cl C env) s3 l3 [(D0,d3)]→St w T sb [] Y (bA scope cl C env) s3 l3 [(D0,d3)])→Kl l→(∀ a∈Fx (bA scope cl C env) D0,a∈Xc)→
  aZ (hx X sb.heap) (hx Xc s2.heap)→St w T sx (Fx (bA scope cl C env) D0) Xc (bA scope cl C env) s2 (asg l) [(D0,acc)]→
  Au (AI prog w) A (emit (bA scope cl C env) D0) (fun _ s3=>∃ l',Kl l'∧St w T sx (Fx (bA scope cl C env) D0) Xc (bA scope cl C env) s3 l' [(D0,acc')]) (fun _ _=>False) s2
noncomputable def dS (p:D→Bool) (step:D→D→D) (d0:D) (items:List D):D:=items.foldl (fun a d=>if p d then step a d else a) d0
theorem jH {p step d0} {items:List D} {d:D}:dS p step d0 (items++[d])=if p d then step (dS p step d0 items) d else dS p step d0 items:=by
 unfold dS;rw [Dd];rfl
theorem gY {α:Type} {l:List α} {i:Nat} {d:α} (e:l[i]?=some d):l.take (i+1)=l.take i++[d]:=by
 rw [CI,e];rfl
theorem aBh {tup e target iter ifs scope items n} {emit:Env→Addr→Sem Unit} {asg:D→(Str→Option D)→(Str→Option D)} {p:D→Bool} {step:D→D→D} {d0:D} (hA:dF n A) (ec:EC w T X env h)
  (htup:tup=true→∃ es k p,target=.Tuple es k p)
  (heq:∀ I D0 env',compTurn e 0 (.ref I) (.ref D0) env'=eY target iter ifs (.ref I) env' (emit env' D0) (.compLoop e 0 (.ref I) (.ref D0) env'))
  (hf:∀ it acc env',(Code.compLoop e 0 it acc env').isFrame=false) (hund:∀ it acc env',A.under (.compLoop e 0 it acc env')=A)
  (tgt:∀ C d l,d∈items→Tg (cv scope C env) target d l (asg d l))
  (tst:∀ C Xc h' d l,d∈items→CE w T X env h Xc (cv scope C env) h' (asg d l)→Ts w Xc A (cv scope C env) h' ifs (p d))
  (em:∀ i d,items[i]?=some d→p d=true→Em w T X A env h scope (gL env scope.names []) (fun _=>True) (asg d) emit (dS p step d0 (items.take i)) (step (dS p step d0 (items.take i)) d)) :
  aAf w T X A env tup h e scope (gL env scope.names []) items d0 (dS p step d0 items):=by
 intro sb s4 C I fp wr Stt Mid D0 si it hst S hwr hseen hle hle0 hle4;have hcl:∀ p∈gL env scope.names [],env.cells.lookup p.1=some p.2:=fun p m=>(iB _ _ p m).resolve_left fun q=>nomatch q;refine sQ (X:=Fp (cv scope C env)++D0::X) hA (heq I D0 _) (hf _ _ _) (hund _ _ _) it htup hst S (fun a m=>Ay _ m)
  (fun p m=>by rw [bH m];exact Ad _ (.head _)) (fun b m=>⟨(hwr b m).1,.inr (hwr b m).2⟩) (fun m=>by refine ob11 S.pl fun o e=>?_;rw [(hwr _ m).2] at e;cases e) hseen hle0
  (fun i _ mu=>mu=[(D0,dS p step d0 (items.take i))]) rfl _ ?_ ?_
 ·rintro i d s1 l1 mu1 hd rfl - hle1 S1
  have md:d∈items:=AB hd;refine ⟨_,tgt C d l1 md,fun s2 S2=>?_⟩;have toSb:∀ Y s3 l3 d3,St w T s1 (Fx (cv scope C env) D0) Y (cv scope C env) s3 l3 [(D0,d3)]→
    St w T sb [] Y (cv scope C env) s3 l3 [(D0,d3)]:=fun Y s3 l3 d3 S3=>S1.unbase S3 rfl
  have hx2:aZ (hx X sb.heap) (hx (wr++(Fp (cv scope C env)++D0::X)) s2.heap):=hle1.trans (aJ (fun b o n e=>S2.base.get (fun m=>n (by
   refine gJ m (fun m=>?_) fun m=>?_
   ·exact Ad _ (Ay _ m)
   ·rw [bH m];exact Ad _ (Ad _ (.head _)))) e) fun y m=>.inl m)
  refine cF ((tst C _ s2.heap d l1 md (lQ ec hle hcl (toSb _ _ _ _ S2) hx2)).go s2 S2.live aZ.rfl) fun ok s3 z=>?_;refine bM z ?_;clear z;rintro rfl k3;have S3:=S2.keeps k3;have hx3:=hx2.trans (aL (aN k3));cases hp:p d with
  | false=>exact ⟨_,_,by rw [gY hd,jH,hp];rfl,S3,rfl⟩
  | true=>
   refine cF (em i d hd hp C D0 sb s1 _ s3 l1 hle toSb trivial (fun a m=>Ad _ (by
    refine gJ m (fun m=>?_) fun m=>?_
    ·exact Ay _ m
    ·rw [bH m];exact Ad _ (.head _))) hx3 S3) fun _ s5 z5=>?_
   refine ob12 z5 ?_;clear z5;rintro l' - S5;exact ⟨l',_,by rw [gY hd,jH,hp];rfl,S5,rfl⟩
 ·rintro s1 l1 mu1 rfl - S1
  refine ⟨rfl,l1,?_⟩;rw [DQ] at S1;exact S1
noncomputable def aAw (elt:AO) (env:Env) (D0:Addr):Sem Unit:=do let _ ← call (.builtin "list.append") [.ref D0,← eval elt env]
theorem Em.list {scope Kl asg elt ds f} (ec:EC w T X env h) (hl:ds.length≤100000) (hK:∀ l,Kl l→Kl (asg l))
  (el:∀ C Xc h' l,Kl l→CE w T X env h Xc (cv scope C env) h' (asg l)→Ev w Xc A (cv scope C env) h' elt f) :
  Em w T X A env h scope (gL env scope.names []) Kl asg (aAw elt) (.list ds) (.list (ds++[f])):=by
 intro C D0 sb sx Xc s2 l hle toSb kl hXc hx2 S;have hcl:∀ p∈gL env scope.names [],env.cells.lookup p.1=some p.2:=fun p m=>(iB _ _ p m).resolve_left fun q=>nomatch q;have ce:=lQ ec hle hcl (toSb _ _ _ _ S) hx2;unfold aAw;refine Ab ((el C Xc s2.heap l kl ce).use S.live aZ.rfl fun v s3 r k3=>?_);refine Ab (fK (pre:=[]) (post:=[]) (S.keeps k3) r hl fun s4 S4=>?_);exact Aj ⟨_,hK l kl,S4⟩
noncomputable def iK (names:List (Str×DJ)):Bool:=names.all fun x=>!(x.2==.local) || names.lookup x.1==some .local
theorem zL {names:List (Str×DJ)} (h:iK names=true):∀ x∈names,x.2=.local→names.lookup x.1=some .local:=fun x m hl=>by
 have:=A8.mp h x m;rw [hl] at this;simpa using this
theorem CE.weak {h2 Xc cenv h' l} (k:aZ h h2) (ce:CE w T X env h2 Xc cenv h' l):CE w T X env h Xc cenv h' l:=
 ⟨ce.ec,ce.nm,ce.capO,fun y d c=>ce.cap y d ⟨c.kind,bI c.cell fun c' v a q r=>⟨c',v,a,q.elim fun o z=>⟨o,k _ _ z.1,z.2⟩,r.mono (aL k)⟩⟩,(aL k).trans ce.up,k.trans ce.full⟩
noncomputable def kM (e:AO) (env:Env) (use:Option (Ag→Sem Unit)):Sem Ag:=match e with
 | .ListComp _ gens scope pos=>comprehension e scope env (firstIterPos gens pos) (newList []) (firstAsync gens) (firstIter gens env) use
 | .SetComp _ gens scope pos=>comprehension e scope env (firstIterPos gens pos) (newSet (.type "set")) (firstAsync gens) (firstIter gens env) use
 | .DictComp _ _ gens scope pos=>comprehension e scope env (firstIterPos gens pos) newDict (firstAsync gens) (firstIter gens env) use
 | _=>pure .none
structure Cq (w:Bl) (X:List Addr) (A:Ba) (env:Env) (h:Heap) (e:AO) (d:D):Prop where
 go: ∀ (s:Ak) (use:Option (Ag→Sem Unit)) (Q:Ag→Ak→Prop) (E:Ag→Ak→Prop),XL X s.heap→aZ h s.heap→
  (∀ D0 C s' m,A0 s s'→s.heap.get? C=none→s.heap.get? D0=none→s'.heap.Ns C m→Rp w (hx (C::X) s'.heap) (.ref D0) d→compPost (AI prog w) A E use Q (.ref D0) C (.ok .next) s')→
  Au (AI prog w) A (kM e env use) Q E s
theorem Ev.ofCq {e d} (c:Cq w X A env h e d) (he:eval e env=kM e env Option.none):Ev w X A env h e d:=.mk fun s hX k=>by
 rw [he];refine c.go s Option.none _ _ hX k fun D0 C s' m kk hC hD hn r=>⟨m,hn,fun h' hs'=>⟨r.sameBut hs',?_⟩⟩;refine fP kk ?_;clear kk;rintro h1 t1 rfl k1;exact ⟨h',t1,rfl,fun b o e=>hs'.extBut b o (fun q=>by rw [q,hC] at e;cases e) (k1 b o e)⟩
theorem eC {x pos' e pos d} {Q:Flow→Ak→Prop} (S:St w T s₀ F X env s l mu) (c:Cq w X A env s.heap e d) (k:∀ s',St w T s₀ F X env s' (up l x d) mu→Xs w A rest env Q (fun _ _=>False) s')
  (hk:nB env x) (hs:Cd e (some (.Name x pos')) pos.line env=pure true) (he:∀ use,evalThenUse e env use=(do let _ ← kM e env (some use);pure ())) :
  Xs w A (.Assign [.Name x pos'] e pos::rest) env Q (fun _ _=>False) s:=by
 refine cI ?_;rw [exec_Assign];refine Ab (B2 ?_);have hs':swapsWithSole [.Name x pos'] e pos.line env=pure true:=hs;rw [hs'];refine Ab (Aj ?_);rw [if_pos rfl,he];refine Ab (Ab (c.go s _ _ _ S.live aZ.rfl fun D0 C s' m kk hC hD hn r=>?_));have CF:C∉X:=fun m=>by refine ob11 (S.live.1 C m) fun o e=>?_;rw [hC] at e;cases e
 have CFp:C∉Fp env:=fun m=>CF (S.mem C m);have S1:St w T s₀ F ([C]++X) env s' l mu:=S.hide (fun y m=>by rw [bH m];exact hC) kk (fun y m=>by rw [bH m];refine fW hn fun o _ _ e _=>?_;clear hn;exact ⟨o,e⟩);have hD0:Rp w (hx ([C]++X) s'.heap) (.ref D0) d:=r;show Au _ _ (assignAll (.ref D0) [assign (.Name x pos') env]) _ _ _;refine assign_Name (S1.store hD0 hk fun s2 S2 c2=>?_);have hn2:s2.heap.Ns C m:=hn.at' fun o e=>c2.get CFp e;refine ⟨m,hn2,fun h' hs2=>?_⟩;refine Aj (Aj ?_);have c3:Ch [C] s2 { s2 with heap:=h' }:=Ch.heap (tk:=s2.toks) fun b o n e=>hs2.extBut b o (fun q=>n (by rw [q];exact .head _)) e;have C0:C∈F∨s₀.heap.get? C=Option.none:=by
  by_cases z:C∈F
  ·exact .inl z
  ·refine .inr ?_
   cases e:s₀.heap.get? C with
   | none=>rfl
   | some o=>have:=S.base.get z e;rw [hC] at this;cases this
 exact Xs.go <| k _ (S2.aside c3 (fun m=>by refine ob11 S.live.2 fun o e=>?_;rw [bH m,hC] at e;cases e) (fun g m=>by rw [bH m];exact ⟨CF,C0⟩) S.mem fun p m=>(S.mus p m).1)
end
noncomputable def aGy:List Stmt:=PySem.Challenge.pw_xc0031_01.main.body
noncomputable def bO (i:Nat):Stmt:=(aGy[i]?).getD (.Pass ⟨0,0,0,0⟩)
noncomputable def dB (i j:Nat):Stmt:=match bO i with
 | .ClassDef _ _ _ b _ _ _ _ _ _ _=>(b[j]?).getD (.Pass ⟨0,0,0,0⟩)
 | _=>.Pass ⟨0,0,0,0⟩
noncomputable def cJ:Stmt→List Stmt
 | .FunctionDef _ _ b _ _ _ _ _ _ _=>b
 | _=>[]
noncomputable def bZ:Stmt→C6
 | .FunctionDef _ _ _ _ _ _ sc _ _ _=>sc
 | _=>{ kind:=.module,names:=[],isGenerator:=false,isCoroutine:=false }
noncomputable def dI:Stmt→BO
 | .FunctionDef _ a _ _ _ _ _ _ _ _=>a
 | _=>{ posonlyargs:=[],args:=[],vararg:=none,kwonlyargs:=[],kw_defaults:=[],kwarg:=none,defaults:=[] }
noncomputable def pmS:Ag:=.str "cpy313.pstats" 194
noncomputable def pmD:Ag:=.str "cpy313.dis" 276
noncomputable def pmT:Ag:=.str "cpy313.tabnanny" 328
noncomputable def pmL:Ag:=.str "law_xc0031_01" 430
noncomputable def aCk:{ b:List Stmt // b=cJ (dB 2 0) }:=by
 refine ⟨?_,?_⟩
 rotate_left
 ·conv=>rhs;whnf
noncomputable def aGr:{ b:C6 // b=bZ (dB 2 0) }:=by
 refine ⟨?_,?_⟩
 rotate_left
 ·conv=>rhs;whnf
noncomputable def aGf:{ b:BO // b=dI (dB 2 0) }:=by
 refine ⟨?_,?_⟩
 rotate_left
 ·conv=>rhs;whnf
noncomputable def uR:BE:={ name:="__init__",qualname:="TupleComp.__init__",params:=aGf.1,body:=.stmts aCk.1,scope:=aGr.1,globals:=AR,closure:=[],defaults:=.none,kwdefaults:=.none,pyModule:=pmS,code:=.ref 34 }
noncomputable def vU:{ b:List Stmt // b=cJ (dB 2 1) }:=by
 refine ⟨?_,?_⟩
 rotate_left
 ·conv=>rhs;whnf
noncomputable def aDI:{ b:C6 // b=bZ (dB 2 1) }:=by
 refine ⟨?_,?_⟩
 rotate_left
 ·conv=>rhs;whnf
noncomputable def aDx:{ b:BO // b=dI (dB 2 1) }:=by
 refine ⟨?_,?_⟩
 rotate_left
 ·conv=>rhs;whnf
noncomputable def wH:BE:={ name:="compare",qualname:="TupleComp.compare",params:=aDx.1,body:=.stmts vU.1,scope:=aDI.1,globals:=AR,closure:=[],defaults:=.none,kwdefaults:=.none,pyModule:=pmS,code:=.ref 41 }
noncomputable def sO:{ b:List Stmt // b=cJ (bO 3) }:=by
 refine ⟨?_,?_⟩
 rotate_left
 ·conv=>rhs;whnf
noncomputable def aBQ:{ b:C6 // b=bZ (bO 3) }:=by
 refine ⟨?_,?_⟩
 rotate_left
 ·conv=>rhs;whnf
noncomputable def aBJ:{ b:BO // b=dI (bO 3) }:=by
 refine ⟨?_,?_⟩
 rotate_left
 ·conv=>rhs;whnf
noncomputable def sU:BE:={ name:="add_func_stats",qualname:="add_func_stats",params:=aBJ.1,body:=.stmts sO.1,scope:=aBQ.1,globals:=AR,closure:=[],defaults:=.none,kwdefaults:=.none,pyModule:=pmS,code:=.ref 55 }
noncomputable def oO:{ b:List Stmt // b=cJ (bO 4) }:=by
 refine ⟨?_,?_⟩
 rotate_left
 ·conv=>rhs;whnf
noncomputable def xV:{ b:C6 // b=bZ (bO 4) }:=by
 refine ⟨?_,?_⟩
 rotate_left
 ·conv=>rhs;whnf
noncomputable def xL:{ b:BO // b=dI (bO 4) }:=by
 refine ⟨?_,?_⟩
 rotate_left
 ·conv=>rhs;whnf
noncomputable def fC:BE:={ name:="add_callers",qualname:="add_callers",params:=xL.1,body:=.stmts oO.1,scope:=xV.1,globals:=AR,closure:=[],defaults:=.none,kwdefaults:=.none,pyModule:=pmS,code:=.ref 62 }
noncomputable def aCh:{ b:List Stmt // b=cJ (bO 5) }:=by
 refine ⟨?_,?_⟩
 rotate_left
 ·conv=>rhs;whnf
noncomputable def aGn:{ b:C6 // b=bZ (bO 5) }:=by
 refine ⟨?_,?_⟩
 rotate_left
 ·conv=>rhs;whnf
noncomputable def aGb:{ b:BO // b=dI (bO 5) }:=by
 refine ⟨?_,?_⟩
 rotate_left
 ·conv=>rhs;whnf
noncomputable def aC0:BE:={ name:="count_calls",qualname:="count_calls",params:=aGb.1,body:=.stmts aCh.1,scope:=aGn.1,globals:=AR,closure:=[],defaults:=.none,kwdefaults:=.none,pyModule:=pmS,code:=.ref 69 }
noncomputable def uE:{ b:List Stmt // b=cJ (bO 8) }:=by
 refine ⟨?_,?_⟩
 rotate_left
 ·conv=>rhs;whnf
noncomputable def aE3:{ b:C6 // b=bZ (bO 8) }:=by
 refine ⟨?_,?_⟩
 rotate_left
 ·conv=>rhs;whnf
noncomputable def aEX:{ b:BO // b=dI (bO 8) }:=by
 refine ⟨?_,?_⟩
 rotate_left
 ·conv=>rhs;whnf
noncomputable def jM:BE:={ name:="pretty_flags",qualname:="pretty_flags",params:=aEX.1,body:=.stmts uE.1,scope:=aE3.1,globals:=AR,closure:=[],defaults:=.none,kwdefaults:=.none,pyModule:=pmD,code:=.ref 77 }
noncomputable def aCm:{ b:List Stmt // b=cJ (bO 9) }:=by
 refine ⟨?_,?_⟩
 rotate_left
 ·conv=>rhs;whnf
noncomputable def aGu:{ b:C6 // b=bZ (bO 9) }:=by
 refine ⟨?_,?_⟩
 rotate_left
 ·conv=>rhs;whnf
noncomputable def aGi:{ b:BO // b=dI (bO 9) }:=by
 refine ⟨?_,?_⟩
 rotate_left
 ·conv=>rhs;whnf
noncomputable def iN:BE:={ name:="_parse_varint",qualname:="_parse_varint",params:=aGi.1,body:=.stmts aCm.1,scope:=aGu.1,globals:=AR,closure:=[],defaults:=.none,kwdefaults:=.none,pyModule:=pmD,code:=.ref 84 }
noncomputable def pV:{ b:List Stmt // b=cJ (dB 11 1) }:=by
 refine ⟨?_,?_⟩
 rotate_left
 ·conv=>rhs;whnf
noncomputable def aGs:{ b:C6 // b=bZ (dB 11 1) }:=by
 refine ⟨?_,?_⟩
 rotate_left
 ·conv=>rhs;whnf
noncomputable def aGg:{ b:BO // b=dI (dB 11 1) }:=by
 refine ⟨?_,?_⟩
 rotate_left
 ·conv=>rhs;whnf
noncomputable def cQ:BE:={ name:="__init__",qualname:="Whitespace.__init__",params:=aGg.1,body:=.stmts pV.1,scope:=aGs.1,globals:=AR,closure:=[],defaults:=.none,kwdefaults:=.none,pyModule:=pmT,code:=.ref 101 }
noncomputable def aGW:{ b:List Stmt // b=cJ (dB 11 2) }:=by
 refine ⟨?_,?_⟩
 rotate_left
 ·conv=>rhs;whnf
noncomputable def aIc:{ b:C6 // b=bZ (dB 11 2) }:=by
 refine ⟨?_,?_⟩
 rotate_left
 ·conv=>rhs;whnf
noncomputable def aIb:{ b:BO // b=dI (dB 11 2) }:=by
 refine ⟨?_,?_⟩
 rotate_left
 ·conv=>rhs;whnf
noncomputable def aG1:BE:={ name:="longest_run_of_spaces",qualname:="Whitespace.longest_run_of_spaces",params:=aIb.1,body:=.stmts aGW.1,scope:=aIc.1,globals:=AR,closure:=[],defaults:=.none,kwdefaults:=.none,pyModule:=pmT,code:=.ref 108 }
noncomputable def aAi:{ b:List Stmt // b=cJ (dB 11 3) }:=by
 refine ⟨?_,?_⟩
 rotate_left
 ·conv=>rhs;whnf
noncomputable def aE1:{ b:C6 // b=bZ (dB 11 3) }:=by
 refine ⟨?_,?_⟩
 rotate_left
 ·conv=>rhs;whnf
noncomputable def aEV:{ b:BO // b=dI (dB 11 3) }:=by
 refine ⟨?_,?_⟩
 rotate_left
 ·conv=>rhs;whnf
noncomputable def aAB:BE:={ name:="indent_level",qualname:="Whitespace.indent_level",params:=aEV.1,body:=.stmts aAi.1,scope:=aE1.1,globals:=AR,closure:=[],defaults:=.none,kwdefaults:=.none,pyModule:=pmT,code:=.ref 115 }
noncomputable def aFr:{ b:List Stmt // b=cJ (dB 11 6) }:=by
 refine ⟨?_,?_⟩
 rotate_left
 ·conv=>rhs;whnf
noncomputable def aHz:{ b:C6 // b=bZ (dB 11 6) }:=by
 refine ⟨?_,?_⟩
 rotate_left
 ·conv=>rhs;whnf
noncomputable def aHn:{ b:BO // b=dI (dB 11 6) }:=by
 refine ⟨?_,?_⟩
 rotate_left
 ·conv=>rhs;whnf
noncomputable def aFz:BE:={ name:="less",qualname:="Whitespace.less",params:=aHn.1,body:=.stmts aFr.1,scope:=aHz.1,globals:=AR,closure:=[],defaults:=.none,kwdefaults:=.none,pyModule:=pmT,code:=.ref 136 }
noncomputable def aFt:{ b:List Stmt // b=cJ (bO 13) }:=by
 refine ⟨?_,?_⟩
 rotate_left
 ·conv=>rhs;whnf
noncomputable def aHB:{ b:C6 // b=bZ (bO 13) }:=by
 refine ⟨?_,?_⟩
 rotate_left
 ·conv=>rhs;whnf
noncomputable def aHp:{ b:BO // b=dI (bO 13) }:=by
 refine ⟨?_,?_⟩
 rotate_left
 ·conv=>rhs;whnf
noncomputable def qM:BE:={ name:="_law_read",qualname:="_law_read",params:=aHp.1,body:=.stmts aFt.1,scope:=aHB.1,globals:=AR,closure:=[],defaults:=.none,kwdefaults:=.none,pyModule:=pmL,code:=.ref 155 }
noncomputable def aFu:{ b:List Stmt // b=cJ (bO 14) }:=by
 refine ⟨?_,?_⟩
 rotate_left
 ·conv=>rhs;whnf
noncomputable def aHC:{ b:C6 // b=bZ (bO 14) }:=by
 refine ⟨?_,?_⟩
 rotate_left
 ·conv=>rhs;whnf
noncomputable def aHq:{ b:BO // b=dI (bO 14) }:=by
 refine ⟨?_,?_⟩
 rotate_left
 ·conv=>rhs;whnf
noncomputable def aFB:BE:={ name:="_law_sign",qualname:="_law_sign",params:=aHq.1,body:=.stmts aFu.1,scope:=aHC.1,globals:=AR,closure:=[],defaults:=.none,kwdefaults:=.none,pyModule:=pmL,code:=.ref 162 }
noncomputable def aFs:{ b:List Stmt // b=cJ (bO 15) }:=by
 refine ⟨?_,?_⟩
 rotate_left
 ·conv=>rhs;whnf
noncomputable def aHA:{ b:C6 // b=bZ (bO 15) }:=by
 refine ⟨?_,?_⟩
 rotate_left
 ·conv=>rhs;whnf
noncomputable def aHo:{ b:BO // b=dI (bO 15) }:=by
 refine ⟨?_,?_⟩
 rotate_left
 ·conv=>rhs;whnf
noncomputable def aFA:BE:={ name:="_law_line",qualname:="_law_line",params:=aHo.1,body:=.stmts aFs.1,scope:=aHA.1,globals:=AR,closure:=[],defaults:=.none,kwdefaults:=.none,pyModule:=pmL,code:=.ref 167 }
noncomputable def aAj:{ b:List Stmt // b=cJ (bO 16) }:=by
 refine ⟨?_,?_⟩
 rotate_left
 ·conv=>rhs;whnf
noncomputable def aE2:{ b:C6 // b=bZ (bO 16) }:=by
 refine ⟨?_,?_⟩
 rotate_left
 ·conv=>rhs;whnf
noncomputable def aEW:{ b:BO // b=dI (bO 16) }:=by
 refine ⟨?_,?_⟩
 rotate_left
 ·conv=>rhs;whnf
noncomputable def lK:BE:={ name:="_law_joined",qualname:="_law_joined",params:=aEW.1,body:=.stmts aAj.1,scope:=aE2.1,globals:=AR,closure:=[],defaults:=.none,kwdefaults:=.none,pyModule:=pmL,code:=.ref 172 }
noncomputable def aCl:{ b:List Stmt // b=cJ (bO 17) }:=by
 refine ⟨?_,?_⟩
 rotate_left
 ·conv=>rhs;whnf
noncomputable def aGt:{ b:C6 // b=bZ (bO 17) }:=by
 refine ⟨?_,?_⟩
 rotate_left
 ·conv=>rhs;whnf
noncomputable def aGh:{ b:BO // b=dI (bO 17) }:=by
 refine ⟨?_,?_⟩
 rotate_left
 ·conv=>rhs;whnf
noncomputable def yX:BE:={ name:="_law_least",qualname:="_law_least",params:=aGh.1,body:=.stmts aCl.1,scope:=aGt.1,globals:=AR,closure:=[],defaults:=.none,kwdefaults:=.none,pyModule:=pmL,code:=.ref 177 }
noncomputable def aFq:{ b:List Stmt // b=cJ (bO 18) }:=by
 refine ⟨?_,?_⟩
 rotate_left
 ·conv=>rhs;whnf
noncomputable def aHx:{ b:C6 // b=bZ (bO 18) }:=by
 refine ⟨?_,?_⟩
 rotate_left
 ·conv=>rhs;whnf
noncomputable def aHl:{ b:BO // b=dI (bO 18) }:=by
 refine ⟨?_,?_⟩
 rotate_left
 ·conv=>rhs;whnf
noncomputable def aFy:BE:={ name:="_law_flag",qualname:="_law_flag",params:=aHl.1,body:=.stmts aFq.1,scope:=aHx.1,globals:=AR,closure:=[],defaults:=.none,kwdefaults:=.none,pyModule:=pmL,code:=.ref 184 }
noncomputable def yL:{ b:List Stmt // b=cJ (bO 19) }:=by
 refine ⟨?_,?_⟩
 rotate_left
 ·conv=>rhs;whnf
noncomputable def aGo:{ b:C6 // b=bZ (bO 19) }:=by
 refine ⟨?_,?_⟩
 rotate_left
 ·conv=>rhs;whnf
noncomputable def aGc:{ b:BO // b=dI (bO 19) }:=by
 refine ⟨?_,?_⟩
 rotate_left
 ·conv=>rhs;whnf
noncomputable def mO:BE:={ name:="_law_flags",qualname:="_law_flags",params:=aGc.1,body:=.stmts yL.1,scope:=aGo.1,globals:=AR,closure:=[],defaults:=.none,kwdefaults:=.none,pyModule:=pmL,code:=.ref 189 }
noncomputable def aCj:{ b:List Stmt // b=cJ (bO 20) }:=by
 refine ⟨?_,?_⟩
 rotate_left
 ·conv=>rhs;whnf
noncomputable def aGq:{ b:C6 // b=bZ (bO 20) }:=by
 refine ⟨?_,?_⟩
 rotate_left
 ·conv=>rhs;whnf
noncomputable def aGe:{ b:BO // b=dI (bO 20) }:=by
 refine ⟨?_,?_⟩
 rotate_left
 ·conv=>rhs;whnf
noncomputable def jK:BE:={ name:="_law_heads",qualname:="_law_heads",params:=aGe.1,body:=.stmts aCj.1,scope:=aGq.1,globals:=AR,closure:=[],defaults:=.none,kwdefaults:=.none,pyModule:=pmL,code:=.ref 194 }
noncomputable def aCi:{ b:List Stmt // b=cJ (bO 21) }:=by
 refine ⟨?_,?_⟩
 rotate_left
 ·conv=>rhs;whnf
noncomputable def aGp:{ b:C6 // b=bZ (bO 21) }:=by
 refine ⟨?_,?_⟩
 rotate_left
 ·conv=>rhs;whnf
noncomputable def aGd:{ b:BO // b=dI (bO 21) }:=by
 refine ⟨?_,?_⟩
 rotate_left
 ·conv=>rhs;whnf
noncomputable def yW:BE:={ name:="_law_found",qualname:="_law_found",params:=aGd.1,body:=.stmts aCi.1,scope:=aGp.1,globals:=AR,closure:=[],defaults:=.none,kwdefaults:=.none,pyModule:=pmL,code:=.ref 199 }
noncomputable def rZ:{ b:List Stmt // b=cJ (bO 22) }:=by
 refine ⟨?_,?_⟩
 rotate_left
 ·conv=>rhs;whnf
noncomputable def aHy:{ b:C6 // b=bZ (bO 22) }:=by
 refine ⟨?_,?_⟩
 rotate_left
 ·conv=>rhs;whnf
noncomputable def aHm:{ b:BO // b=dI (bO 22) }:=by
 refine ⟨?_,?_⟩
 rotate_left
 ·conv=>rhs;whnf
noncomputable def iU:BE:={ name:="law",qualname:="law",params:=aHm.1,body:=.stmts rZ.1,scope:=aHy.1,globals:=AR,closure:=[],defaults:=.none,kwdefaults:=.none,pyModule:=pmL,code:=.ref 204 }
noncomputable def aEv:List (Str×Ag):=[("TupleComp",.ref 45),("add_func_stats",.ref 56),("add_callers",.ref 63),("count_calls",.ref 70),("COMPILER_FLAG_NAMES",.ref 71),("pretty_flags",.ref 78),("_parse_varint",.ref 85),("Whitespace",.ref 147),
 ("_law_read",.ref 156),("_law_sign",.ref 163),("_law_line",.ref 168),("_law_joined",.ref 173),("_law_least",.ref 178),("_law_flag",.ref 185),("_law_flags",.ref 190),("_law_heads",.ref 195),("_law_found",.ref 200)]
noncomputable def sE:List (Addr×BE):=[(35,uR),(42,wH),(56,sU),(63,fC),(70,aC0),(78,jM),(85,iN),(102,cQ),(109,aG1),(116,aAB),(137,aFz),
 (156,qM),(163,aFB),(168,aFA),(173,lK),(178,yX),(185,aFy),(190,mO),(195,jK),(200,yW),(205,iU)]
noncomputable def aA0:List (Str×Ag):=[("__module__",pmS),("__firstlineno__",.int 5 206),("__init__",.ref 35),("compare",.ref 42),("__static_attributes__",.ref 43),("__dict__",.ref 46),("__weakref__",.ref 47),("__doc__",.none)]
noncomputable def vL:List (Str×Ag):=[("__module__",pmT),("__firstlineno__",.int 64 340),("S",.str " " 343),("T",.str "\t" 344),("__init__",.ref 102),("longest_run_of_spaces",.ref 109),("indent_level",.ref 116),("equal",.ref 123),("not_equal_witness",.ref 130),
  ("less",.ref 137),("not_less_witness",.ref 144),("__static_attributes__",.ref 145),("__dict__",.ref 148),("__weakref__",.ref 149),("__doc__",.none)]
noncomputable def ctab:List (Addr×Addr×List (Str×Ag)):=[(45,44,aA0),(147,146,vL)]
noncomputable def aAD:List (Int×D):=[(1,.str "OPTIMIZED"),(2,.str "NEWLOCALS"),(4,.str "VARARGS"),(8,.str "VARKEYWORDS"),(16,.str "NESTED"),(32,.str "GENERATOR"),(64,.str "NOFREE"),(128,.str "COROUTINE"),(256,.str "ITERABLE_COROUTINE"),(512,.str "ASYNC_GENERATOR")]
noncomputable def pW:List Str:=["range","len","sum","bytes","iter","next","tuple","zip","isinstance","int","max","min","abs","str","hex","enumerate","list","sorted","all","StopIteration"]
noncomputable def aEg (nm:Str) (C N:Addr) (t u:Tok):Obj:=excClassObj nm nm C N [.type "object"] [.type "object"] true [] [] false none none none none (some (.str nm t)) (some (.str nm u)) (some (.bool true)) "object.__new__"
noncomputable def nsO (P:Cf) (tab:List (Str×Ag)) (ts:List Tok) (n:Nat):Obj:={ cls:=.type "dict",data:=.dict ((tab.zip ts).map fun p=>⟨PyData.keyHash P p.1.1,.str p.1.1 p.2,p.1.2⟩).toArray n }
noncomputable def nZ:List (Int×Tok×Str×Tok):=[(1,278,"OPTIMIZED",279),(2,280,"NEWLOCALS",281),(4,282,"VARARGS",283),(8,284,"VARKEYWORDS",285),(16,286,"NESTED",287),(32,288,"GENERATOR",289),(64,290,"NOFREE",291),(128,292,"COROUTINE",293),(256,294,"ITERABLE_COROUTINE",295),(512,296,"ASYNC_GENERATOR",297)]
noncomputable def kS (P:Cf):Frag:=[(2,{ cls:=.none,data:=.dict #[] }),(44,nsO P aA0 [203,207,215,228,230,232,234,235] 4),(45,aEg "TupleComp" 45 44 196 204),(146,nsO P vL [337,341,345,346,361,370,382,390,398,408,416,422,424,426,427] 4),(147,aEg "Whitespace" 147 146 330 338),
 (71,{ cls:=.type "dict",data:=.dict (nZ.map fun p=>⟨p.1,.int p.1 p.2.1,.str p.2.2.1 p.2.2.2⟩).toArray 10 })]
noncomputable def T1 (P:Cf):lU:={ K:=kS P,gt:=fun x=>aEv.lookup x,fr:=pW,fns:=sE,cls:=ctab,vals:=[(.ref 71,.idict aAD)] }
theorem cls45 {P:Cf}:(45,44,aA0)∈(T1 P).cls:=.head _
theorem cls147 {P:Cf}:(147,146,vL)∈(T1 P).cls:=.tail _ (.head _)
theorem frM {P:Cf} {x:Str} (h:pW.contains x=true):x∈(T1 P).fr:=Cy.mp h
theorem rX {a:Addr} {fd:BE} (i:Nat) (h:sE[i]?=some (a,fd)):(a,fd)∈sE:=AB h
theorem zI {Q:List Ag→Prop} (h:∀ a0,Q [a0]):∀ vs:List Ag,vs.length=1→Q vs
 | [a0],_=>h a0
 | [],e=>nomatch e
 | _::_::_,e=>absurd e (by simp)
theorem len2 {Q:List Ag→Prop} (h:∀ a0 a1,Q [a0,a1]):∀ vs:List Ag,vs.length=2→Q vs
 | [a0,a1],_=>h a0 a1
 | [],e=>nomatch e
 | [_],e=>nomatch e
 | _::_::_::_,e=>absurd e (by simp)
theorem aFZ {Q:List Ag→Prop} (h:∀ a0 a1 a2,Q [a0,a1,a2]):∀ vs:List Ag,vs.length=3→Q vs
 | [a0,a1,a2],_=>h a0 a1 a2
 | [],e=>nomatch e
 | [_],e=>nomatch e
 | [_,_],e=>nomatch e
 | _::_::_::_::_,e=>absurd e (by simp)
theorem aHg {Q:List Ag→Prop} (h:∀ a0 a1 a2 a3,Q [a0,a1,a2,a3]):∀ vs:List Ag,vs.length=4→Q vs
 | [a0,a1,a2,a3],_=>h a0 a1 a2 a3
 | [],e=>nomatch e
 | [_],e=>nomatch e
 | [_,_],e=>nomatch e
 | [_,_,_],e=>nomatch e
 | _::_::_::_::_::_,e=>absurd e (by simp)
theorem aH2 {Q:List Ag→Prop} (h:∀ a0 a1 a2 a3 a4,Q [a0,a1,a2,a3,a4]):∀ vs:List Ag,vs.length=5→Q vs
 | [a0,a1,a2,a3,a4],_=>h a0 a1 a2 a3 a4
 | [],e=>nomatch e
 | [_],e=>nomatch e
 | [_,_],e=>nomatch e
 | [_,_,_],e=>nomatch e
 | [_,_,_,_],e=>nomatch e
 | _::_::_::_::_::_::_,e=>absurd e (by simp)
theorem eV {P:Cf} {a:Addr} {fd:BE} {names:List Str} {body:List Stmt} (m:(a,fd)∈sE) (e1:fd.body=.stmts body) (e2:fd.globals=AR) (e3:fd.builtins=builtinsNs) (e4:fd.closure=[]) (e5:fd.scope.isCoroutine=false) (e6:fd.scope.isGenerator=false) (e7:fd.scope.kind=.function)
  (b:∀ vs,vs.length=names.length→bindArgs fd ⟨vs,[]⟩=pure (names.zip vs)) (o:(names.all fun n=>fd.scope.names.lookup n==some .local || fd.scope.names.lookup n==some .cell)=true) (c:((cellsFrom 0 fd.scope.names []).map (·.1)).Nodup):Fn (T1 P) a fd names body:=
 ⟨m,e1,e2,e3,e4,e5,e6,e7,b,fun n h=>by
  have:=A8.mp o n h;rw [CJ,beq_iff_eq,beq_iff_eq] at this;exact this.imp id fun q=>⟨q,fun k=>cellsFrom_some _ _ _ (.inl q)⟩,c⟩
theorem wS {P:Cf}:Fn (T1 P) 35 uR ["self","comp_select_list"] aCk.1:=eV (rX 0 rfl) rfl rfl rfl rfl rfl rfl rfl (len2 fun _ _=>rfl) (by decide +kernel) (by decide +kernel)
theorem eX {P:Cf}:Fn (T1 P) 42 wH ["self","left","right"] vU.1:=eV (rX 1 rfl) rfl rfl rfl rfl rfl rfl rfl (aFZ fun _ _ _=>rfl) (by decide +kernel) (by decide +kernel)
theorem kT {P:Cf}:Fn (T1 P) 56 sU ["target","source"] sO.1:=eV (rX 2 rfl) rfl rfl rfl rfl rfl rfl rfl (len2 fun _ _=>rfl) (by decide +kernel) (by decide +kernel)
theorem mB {P:Cf}:Fn (T1 P) 63 fC ["target","source"] oO.1:=eV (rX 3 rfl) rfl rfl rfl rfl rfl rfl rfl (len2 fun _ _=>rfl) (by decide +kernel) (by decide +kernel)
theorem wO {P:Cf}:Fn (T1 P) 70 aC0 ["callers"] aCh.1:=eV (rX 4 rfl) rfl rfl rfl rfl rfl rfl rfl (zI fun _=>rfl) (by decide +kernel) (by decide +kernel)
theorem sX {P:Cf}:Fn (T1 P) 78 jM ["flags"] uE.1:=eV (rX 5 rfl) rfl rfl rfl rfl rfl rfl rfl (zI fun _=>rfl) (by decide +kernel) (by decide +kernel)
theorem wV {P:Cf}:Fn (T1 P) 85 iN ["iterator"] aCm.1:=eV (rX 6 rfl) rfl rfl rfl rfl rfl rfl rfl (zI fun _=>rfl) (by decide +kernel) (by decide +kernel)
theorem wT {P:Cf}:Fn (T1 P) 102 cQ ["self","ws"] pV.1:=eV (rX 7 rfl) rfl rfl rfl rfl rfl rfl rfl (len2 fun _ _=>rfl) (by decide +kernel) (by decide +kernel)
theorem qR {P:Cf}:Fn (T1 P) 109 aG1 ["self"] aGW.1:=eV (rX 8 rfl) rfl rfl rfl rfl rfl rfl rfl (zI fun _=>rfl) (by decide +kernel) (by decide +kernel)
theorem iW {P:Cf}:Fn (T1 P) 116 aAB ["self","tabsize"] aAi.1:=eV (rX 9 rfl) rfl rfl rfl rfl rfl rfl rfl (len2 fun _ _=>rfl) (by decide +kernel) (by decide +kernel)
theorem uU {P:Cf}:Fn (T1 P) 137 aFz ["self","other"] aFr.1:=eV (rX 10 rfl) rfl rfl rfl rfl rfl rfl rfl (len2 fun _ _=>rfl) (by decide +kernel) (by decide +kernel)
theorem aAE {P:Cf}:Fn (T1 P) 156 qM ["drawn","torn"] aFt.1:=eV (rX 11 rfl) rfl rfl rfl rfl rfl rfl rfl (len2 fun _ _=>rfl) (by decide +kernel) (by decide +kernel)
theorem aAF {P:Cf}:Fn (T1 P) 163 aFB ["told","way","left","right","notes"] aFu.1:=eV (rX 12 rfl) rfl rfl rfl rfl rfl rfl rfl (aH2 fun _ _ _ _ _=>rfl) (by decide +kernel) (by decide +kernel)
theorem uV {P:Cf}:Fn (T1 P) 168 aFA ["hits","odd"] aFs.1:=eV (rX 13 rfl) rfl rfl rfl rfl rfl rfl rfl (len2 fun _ _=>rfl) (by decide +kernel) (by decide +kernel)
theorem sW {P:Cf}:Fn (T1 P) 173 lK ["line","ones","way","notes"] aAj.1:=eV (rX 14 rfl) rfl rfl rfl rfl rfl rfl rfl (aHg fun _ _ _ _=>rfl) (by decide +kernel) (by decide +kernel)
theorem wU {P:Cf}:Fn (T1 P) 178 yX ["hits"] aCl.1:=eV (rX 15 rfl) rfl rfl rfl rfl rfl rfl rfl (zI fun _=>rfl) (by decide +kernel) (by decide +kernel)
theorem uT {P:Cf}:Fn (T1 P) 185 aFy ["place"] aFq.1:=eV (rX 16 rfl) rfl rfl rfl rfl rfl rfl rfl (zI fun _=>rfl) (by decide +kernel) (by decide +kernel)
theorem wP {P:Cf}:Fn (T1 P) 190 mO ["left","base","high"] yL.1:=eV (rX 17 rfl) rfl rfl rfl rfl rfl rfl rfl (aFZ fun _ _ _=>rfl) (by decide +kernel) (by decide +kernel)
theorem wR {P:Cf}:Fn (T1 P) 195 jK ["rows","seed","notes"] aCj.1:=eV (rX 18 rfl) rfl rfl rfl rfl rfl rfl rfl (aFZ fun _ _ _=>rfl) (by decide +kernel) (by decide +kernel)
theorem wQ {P:Cf}:Fn (T1 P) 200 yW ["heads","spots","way","here"] aCi.1:=eV (rX 19 rfl) rfl rfl rfl rfl rfl rfl rfl (aHg fun _ _ _ _=>rfl) (by decide +kernel) (by decide +kernel)
theorem aFV {P:Cf}:Fn (T1 P) 205 iU ["script"] rZ.1:=eV (rX 20 rfl) rfl rfl rfl rfl rfl rfl rfl (zI fun _=>rfl) (by decide +kernel) (by decide +kernel)
abbrev PW:Hz:=PySem.Challenge.pw_xc0031_01
abbrev RW:OpenLaw:=PySem.Challenge.rw_xc0031_01
noncomputable def qV:Hz:={ PW with main:={ PW.main with body:=[bO 4,bO 22] } }
noncomputable def lsV:List Str:=["_wall","TupleComp","add_func_stats","count_calls","COMPILER_FLAG_NAMES","pretty_flags","_parse_varint","Whitespace","_law_read","_law_sign","_law_line","_law_joined","_law_least","_law_flag","_law_flags","_law_heads","_law_found"]
noncomputable def nsH (h:Heap) (ns:Addr) (name:Str):Option (Option Ag):=match h.get? ns with
 | some ⟨_,_,.dict es _,_⟩=>(match es.toList.find? (·.key.isStr name) with
   | some e=>some (some e.val)
   | none=>some none)
 | _=>none
noncomputable def qE (h:Heap) (cd:Ag) (q:Str):Bool:=match cd with
 | .ref c=>(match h.get? c with
   | some ⟨.type "code",_,.fields vs,_⟩=>(match vs.toList with | _::.str n _::_=>n==q | _=>false)
   | _=>false)
 | _=>false
noncomputable def aFb (h:Heap):Option Ag:=match h.get? 62 with
 | some ⟨_,_,.fields vs,_⟩=>vs[11]?
 | _=>none
abbrev aGS:=List (Option (Option Ag))×List (Option (Option Ag))×List (Option (Ag×Data))×List Bool×List (Option Obj)×Option Ag×Option (Option Ag)
noncomputable def aDp (h:Heap):aGS:=
 (aEv.map fun p=>nsH h 3 p.1,pW.map fun x=>nsH h 3 x,sE.map fun p=>(h.get? p.1).map fun o=>(o.cls,o.data),sE.map fun p=>qE h p.2.code p.2.qualname,([2,44,45,146,147,71]:List Addr).map h.get?,aFb h,nsH h 3 "law")
noncomputable def aDW (w:Bl):aGS:=
 (aEv.map fun p=>some (some p.2),pW.map fun x=>some none,sE.map fun p=>some (.type "function",.func p.2),sE.map fun p=>true,(kS w.params).map fun p=>some p.2,some (.ref 58),some (some (.ref 205)))
theorem aHv:∀ w:Bl,(openEnds treeTable PW (w.withFollow "special-get-raises" false) 2914).map (fun s=>(openSeen qV lsV (importedModules PW.main.body) (fun s=>xlAt qV [] s&&recOk [] s) true s,aDp s.heap))=some (openGood qV lsV,aDW (w.withFollow "special-get-raises" false)):=fun w=>by kernel_rfl
theorem aHw:∀ w:Bl,(openEnds treeTable PW (w.withFollow "special-get-raises" true) 2914).map (fun s=>(openSeen qV lsV (importedModules PW.main.body) (fun s=>xlAt qV [] s&&recOk [] s) true s,aDp s.heap))=some (openGood qV lsV,aDW (w.withFollow "special-get-raises" true)):=fun w=>by kernel_rfl
structure yH (w:Bl) (h:Heap):Prop where
 glob:∀ p∈aEv,nsH h 3 p.1=some (some p.2)
 free:∀ x∈pW,nsH h 3 x=some none
 fns:∀ p∈sE,(h.get? p.1).map (fun o=>(o.cls,o.data))=some (.type "function",.func p.2)
 code:∀ p∈sE,qE h p.2.code p.2.qualname=true
 frag:(kS w.params).In h
 tab:aFb h=some (.ref 58)
 law:nsH h 3 "law"=some (some (.ref 205))
theorem hZ {α β:Type} {f g:α→β}:∀ {l:List α},l.map f=l.map g→∀ x∈l,f x=g x
 | [],_,x,m=>nomatch m
 | a::l,e,x,m=>by
  rw [AC,AC,Gl] at e;rcases AP.mp m with rfl | m
  ·exact e.1
  ·exact hZ e.2 x m
theorem aED {w:Bl} {h:Heap} (e:aDp h=aDW w):yH w h:=by
 unfold aDp aDW at e;simp only [I8] at e;refine aF5 e fun a b c d f g i=>?_;clear e;exact ⟨hZ a,hZ b,hZ c,hZ d,Frag.in_of rfl f,g,i⟩
theorem oG {h h':Heap} (k:∀ b o,h.get? b=some o→h'.get? b=some o) {ns:Addr} {x:Str} {r:Option Ag} (e:nsH h ns x=some r):nsH h' ns x=some r:=by
 unfold nsH at e ⊢;cases q:h.get? ns with
 | none=>rw [q] at e;cases e
 | some o=>rw [k _ _ q];rw [q] at e;exact e
theorem vZ {h h':Heap} (k:∀ b o,h.get? b=some o→h'.get? b=some o) {cd:Ag} {x:Str} (e:qE h cd x=true):qE h' cd x=true:=by
 unfold qE at e ⊢;cases cd <;> try cases e
 rename_i c;dsimp only at e ⊢;cases q:h.get? c with
 | none=>rw [q] at e;cases e
 | some o=>rw [k _ _ q];rw [q] at e;exact e
theorem yH.keeps {w:Bl} {h h':Heap} (x:yH w h) (k:∀ b o,h.get? b=some o→h'.get? b=some o):yH w h':=by
 refine ⟨fun p m=>oG k (x.glob p m),fun p m=>oG k (x.free p m),fun p m=>?_,fun p m=>vZ k (x.code p m),x.frag.keeps k,?_,oG k x.law⟩
 ·have e:=x.fns p m
  cases q:h.get? p.1 with
  | none=>rw [q] at e;cases e
  | some o=>rw [k _ _ q];rw [q] at e;exact e
 ·have e:=x.tab
  unfold aFb at e ⊢;cases q:h.get? 62 with
  | none=>rw [q] at e;cases e
  | some o=>rw [k _ _ q];rw [q] at e;exact e
noncomputable def aHb:DefRec:={ name:="law",params:=aHm.1,body:=rZ.1,scope:=aHy.1,pos:=match bO 22 with | .FunctionDef _ _ _ _ _ _ _ _ _ p=>p | _=>⟨0,0,0,0⟩ }
theorem hd (call:WalkO qV lsV (W.XL qV []) yH RW.row.toRowW aHb [] fun f vs=>PySem.call f vs):RW.Holds:=by
 refine holds_law (by decide +kernel) fun said=>?_;refine holds_open (q:=qV) (loose:=lsV) (Xt:=fun s=>xlAt qV [] s&&recOk [] s) (XP:=W.XL qV []) (Yf:=fun s=>aDp s.heap) (Ya:=aDW) (YP:=yH) (d:=aHb) (kwd:=[]) (N:=2914)
  (byRow2 "special-get-raises" aHv aHw) (fun w s e=>aED e) (fun w h h' x k=>x.keeps k) (fun s e=>xl_of s (Bg.mp e).1) XL.keeps (by kernel_rfl) (by kernel_rfl) (by kernel_rfl) (fun s e=>recFacts_of (Bg.mp e).2) rfl said (by decide +kernel) ⟨rfl,rfl,rfl,rfl,rfl,by decide +kernel⟩ ?hw call
 case hw=>w_witness2
section
noncomputable def hU (sl:AO):Prop:=∀ o i,∃ ops,subscripted sl false o i=operate ops (getItem o i)
theorem Ev.sub {v sl pos d1 d2 d} (hv:Ev w X A env h v d1) (hi:Ev w X A env h sl d2) (ho:Bo w X A h (Cg v sl) d1 d2 d):Ev w X A env h (.Subscript v sl pos) d:=.mk fun s hX k=>
 Gf (hv.use hX k fun v1 s1 r1 k1=>hi.use (hX.mono (aN k1)) (k.trans (aN k1)) fun v2 s2 r2 k2=>
  cF (ho.go s2 v1 v2 (hX.mono ((aN k1).trans (aN k2))) ((k.trans (aN k1)).trans (aN k2)) (r1.kp k2) r2) fun v s3 z=>⟨z.1,aD (aD k1 k2) z.2⟩)
theorem PlainList.live {a:Addr} {vs:Array Ag} (p:(hx X h).PlainList a vs):h.IsList a vs:=(Heap.PlainList.at p fun o e=>aR _ _ e).isList
theorem DictOf.live {K:Type} [DecidableEq K] {knd:KeyKind prog w K} {a:Addr} {kvs:List (K×Ag)} (p:(hx X h).DictOf knd a kvs):h.DictOf knd a kvs:=p.keep aR
theorem Bo.item_list {v sl ds i d} (hx':0≤i∧ds[i.toNat]?=some d) (hf:i<2 ^ 63) (hs:autoParam (hU sl) ak):Bo w X A h (Cg v sl) (.list ds) (.int i) d:=.mk fun s v1 v2 hX _ r1 r2=>by
 refine bI r1.ofList ?_;rintro a vs rfl hp rs;refine ob11 r2.ofInt ?_;rintro t rfl;refine ob11 (hs (.ref a) (.int i t)) fun ops e=>?_;refine ob12 (rs.get hx'.2) fun x hv r=>?_;exact DK (PlainList.live hp).typeIs Fz.lookup (wpAny_getItem_list (PlainList.live hp) hx'.1 hf (by simpa using hv) ⟨r,dM⟩) e
theorem m1n:∀ {n:Nat},((-1:Int)+(n:Int)).toNat=n - 1
 | 0=>rfl
 | n+1=>by rw [Int.natCast_succ,Int.add_comm,Int.add_neg_cancel_right];rfl
theorem Bo.item_last {v sl ds d} (hx':ds.getLast?=some d) (hl:ds.length<2 ^ 63) (hs:autoParam (hU sl) ak):Bo w X A h (Cg v sl) (.list ds) (.int (-1)) d:=.mk fun s v1 v2 hX _ r1 r2=>by
 refine bI r1.ofList ?_;rintro a vs rfl hp rs;refine ob11 r2.ofInt ?_;rintro t rfl;refine ob11 (hs (.ref a) (.int (-1) t)) fun ops e=>?_;rw [Fm] at hx';have hlt:=(Aw.mp hx').1;refine ob12 (rs.get hx') fun x hv r=>?_;have hsz:vs.toArray.size=ds.length:=by rw [AH,rs.length]
 have e2:((-1:Int)+(vs.toArray.size:Int)).toNat=ds.length - 1:=by rw [hsz,m1n]
 exact DK (PlainList.live hp).typeIs Fz.lookup (wpAny_getItem_list_neg (PlainList.live hp) (by decide) (by rw [hsz];exact N2 0 9 hlt) (by decide) (by rw [e2];simpa using hv) ⟨r,dM⟩) e
theorem Bo.item_tup {v sl ds i d} (hx':0≤i∧ds[i.toNat]?=some d) (hf:i<2 ^ 63) (hs:autoParam (hU sl) ak):Bo w X A h (Cg v sl) (.tup ds) (.int i) d:=.mk fun s v1 v2 hX _ r1 r2=>by
 refine bI r1.ofTup ?_;rintro a vs rfl hp rs;refine ob11 r2.ofInt ?_;rintro t rfl;refine ob11 (hs (.ref a) (.int i t)) fun ops e=>?_;refine ob12 (rs.get hx'.2) fun x hv r=>?_;have hT:s.heap.IsTuple a vs.toArray:=Cp.keep' hp aR;have hlt:=(Aw.mp hx'.2).1;have hq:seqIndex? i vs.toArray.size=some i.toNat:=by
  have h2:i<(vs.toArray.size:Int):=by rw [AH,rs.length];exact (Int.toNat_lt hx'.1).mp hlt
  unfold seqIndex?;dsimp only;rw [if_neg (DN.mpr hx'.1),decide_eq_true hx'.1,decide_eq_true h2];rfl
 refine ob13 (id hT) fun o ho hc kz=>?_;refine ob11 kz fun n hd=>?_;clear kz;exact DK (s:=s) ⟨_,ho,hc⟩ Ei.lookup (getItem_tuple ⟨o,ho,hc,n,hd⟩ (by exact cO 0 11 hx'.1) hf hq (by simpa using hv) ⟨r,dM⟩) e
inductive Pt (w:Bl) (X:List Addr) (A:Ba) (env:Env) (h:Heap):Option AO→Option Int→Prop
 | none:Pt w X A env h none none
 | some {e i}:Ev w X A env h e (.int i)→Pt w X A env h (some e) (some i)
theorem Pt.use {e i} {s:Ak} {Q:Ag→Ak→Prop} {E} (x:Pt w X A env h e i) (hX:XL X s.heap) (k:aZ h s.heap)
  (q:∀ v s',FG v i→A0 s s'→Q v s'):Au (AI prog w) A (evalPart e env) Q E s:=by
 cases x with
 | none=>rw [evalPart_none];exact Aj (q _ _ .none dM)
 | some x=>rw [evalPart_some];exact x.use hX k fun v s' r k'=>by refine ob11 r.ofInt ?_;rintro t rfl;exact q _ _ (.int _ _) k'
theorem Ev.slc {lo hi st p i j k} (a:Pt w X A env h lo i) (b:Pt w X A env h hi j) (c:Pt w X A env h st k):Ev w X A env h (.Slice lo hi st p) (.slc i j k):=.mk fun s hX kk=>
 wpAny_Slice (a.use hX kk fun v1 s1 p1 k1=>b.use (hX.mono (aN k1)) (kk.trans (aN k1)) fun v2 s2 p2 k2=>c.use (hX.mono (aN (aD k1 k2))) (kk.trans (aN (aD k1 k2))) fun v3 s3 p3 k3=>by
  have k:=aD (aD k1 k2) k3;refine ⟨.slc ⟨_,bU (Ae _ rfl) ((hX.mono (aN k)).fresh (Am _)),rfl,rfl⟩ p1 p2 p3,aD k bT⟩)
noncomputable def gP (ds:List D) (lo hi st:Option Int):List D:=
 (EO (BR lo hi st ds.length).1 (BR lo hi st ds.length).2.1 (BR lo hi st ds.length).2.2).filterMap (ds[·]?)
theorem cG.pick {vs ds} (r:cG w h vs ds):∀ ix:List Nat,cG w h (ix.filterMap (vs[·]?)) (ix.filterMap (ds[·]?))
 | []=>.nil
 | i::ix=>by
  rw [GV,GV];cases hv:vs[i]? with
  | none=>
   cases hd:ds[i]? with
   | none=>exact r.pick ix
   | some d=>refine ob12 (r.get hd) fun v e _=>?_;rw [hv] at e;cases e
  | some v=>
   refine ob12 (r.at hv) fun d hd q=>?_;rw [hd];exact .cons q (r.pick ix)
theorem Bo.item_list3 {v sl ds i d} (h0:0≤i) (h1:ds[i.toNat]?=some d) (hf:i<2 ^ 63) (hs:autoParam (hU sl) ak):Bo w X A h (Cg v sl) (.list ds) (.int i) d:=.item_list ⟨h0,h1⟩ hf hs
theorem Bo.item_tup3 {v sl ds i d} (h0:0≤i) (h1:ds[i.toNat]?=some d) (hf:i<2 ^ 63) (hs:autoParam (hU sl) ak):Bo w X A h (Cg v sl) (.tup ds) (.int i) d:=.item_tup ⟨h0,h1⟩ hf hs
theorem Bo.slice_list {v sl ds i j k} (h0:k≠some 0) (hl:ds.length≤100000) (hs:autoParam (hU sl) ak):Bo w X A h (Cg v sl) (.list ds) (.slc i j k) (.list (gP ds i j k)):=.mk fun s v1 v2 hX _ r1 r2=>by
 refine bI r1.ofList ?_;rintro a vs rfl hp rs;refine aF9 r2.ofSlc ?_;rintro b x y z rfl hb p1 p2 p3;refine ob11 (hs (.ref a) (.ref b)) fun ops e=>?_;have hsl:s.heap.IsSliceOf b x y z:=by refine ob12 hb fun o ho r=>?_;clear hb;exact ⟨o,aR _ _ ho,r⟩
 have hsz:vs.toArray.size=ds.length:=by rw [AH,rs.length]
 refine DK (PlainList.live hp).typeIs Fz.lookup (wpAny_getItem_list_slice (hsz:=by rw [hsz];exact Ao hl (by decide)) (PlainList.live hp) hsl p1 p2 p3 h0 ⟨?_,bT⟩) e;have hpk:slicePick vs.toArray i j k=((EO (BR i j k ds.length).1 (BR i j k ds.length).2.1 (BR i j k ds.length).2.2).filterMap (vs[·]?)).toArray:=by
  unfold slicePick;rw [hsz];simp
 rw [hpk];exact .list (PlainList.new hX) ((rs.mono (aL (aN bT))).pick _)
theorem dQ {ds:List D} {b:Nat}:gP ds none (some (b:Int)) none=ds.take b:=by
 have e:BR none (some (b:Int)) none ds.length=(((0:Nat):Int),((min b ds.length:Nat):Int),1):=by
  simp only [BR,Dt];have h2:¬ ((b:Int)<0):=by exact N1 0 12
  simp only [h2,if_false,show (1:Int) > 0 by decide,if_true];congr 1;congr 1;exact zmn
 unfold gP;rw [e];have:=JI ds.toArray 0 (min b ds.length);simp only [GM];simp only [Ca] at this;rw [show min b ds.length - 0=min b ds.length from rfl,this];simp
theorem eH {ds:List D} {a:Nat}:gP ds (some (a:Int)) none none=ds.drop a:=by
 have e:BR (some (a:Int)) none none ds.length=(((min a ds.length:Nat):Int),(ds.length:Int),1):=by
  simp only [BR,Dt];have h1:¬ ((a:Int)<0):=by exact N1 0 12
  simp only [h1,if_false,show (1:Int) > 0 by decide,if_true];congr 1;exact zmn
 unfold gP;rw [e];have:=JI ds.toArray (min a ds.length) (ds.length - min a ds.length);simp only [GM];simp only [Ca] at this;rw [this];refine BH (Je a ds.length) (fun q=>?_) fun q=>?_
 ·rw [B1 q,BJ (by simp)]
 ·rw [FX q,List.drop_of_length_le q];simp
theorem aBN {ds:List D} {a b:Nat} (hab:a≤b) (hb:b≤ds.length):gP ds (some (a:Int)) (some (b:Int)) none=(ds.drop a).take (b - a):=by
 have e:BR (some (a:Int)) (some (b:Int)) none ds.length=((a:Int),(b:Int),1):=by
  simp only [BR,Dt];have h1:¬ ((a:Int)<0):=by exact N1 0 12
  have h2:¬ ((b:Int)<0):=by exact N1 0 12
  simp only [h1,h2,if_false,show (1:Int) > 0 by decide,if_true];congr 1
  ·rw [zmn,B1 (Ao hab hb)]
  ·congr 1;rw [zmn,B1 hb]
 unfold gP;rw [e];have:=JI ds.toArray a (b - a);simp only [GM];simp only [Ca] at this;exact this
theorem Cl.len_list {ds} (hl:ds.length≤100000):Cl w X A h (.builtin "len") [] [.list ds] (.int (ds.length:Int)):=.mk fun s fs vs hX _ r0 r=>by
 cases r0;refine ob12 r.c1 ?_;rintro _ rfl a;refine bI a.ofList ?_;rintro a vs rfl hp rs;have hsz:vs.toArray.size=ds.length:=by rw [AH,rs.length]
 refine call_len_list (PlainList.live hp) (by rw [hsz];exact N1 0 13 hl) ⟨?_,dG⟩;rw [hsz];exact .int _ _
theorem Cl.len_str {x} (hl:x.length≤100000):Cl w X A h (.builtin "len") [] [.str x] (.int (x.length:Int)):=.mk fun s fs vs hX _ r0 r=>by
 cases r0;refine ob12 r.c1 ?_;rintro _ rfl a;refine ob11 a.ofStr ?_;rintro t rfl;exact P.len_str (by exact N1 0 14 hl) ⟨.int _ _,dG⟩
theorem Cl.abs {i}:Cl w X A h (.builtin "abs") [] [.int i] (.int (if i<0 then -i else i)):=.mk fun s fs vs hX _ r0 r=>by
 cases r0;refine ob12 r.c1 ?_;rintro _ rfl a;refine ob11 a.ofInt ?_;rintro t rfl;exact call_abs_int fun u tk=>⟨.int _ _,dG⟩
theorem Cl.max2 {i j} (hh:A.handled=none):Cl w X A h (.builtin "max") [] [.int i,.int j] (.int (if j > i then j else i)):=.mk fun s fs vs hX _ r0 r=>by
 cases r0;refine bI r.c2 ?_;rintro _ _ rfl a b;refine ob11 a.ofInt ?_;rintro t rfl;refine ob11 b.ofInt ?_;rintro u rfl;refine max_two_ints hh fun h' tk k=>⟨?_,h',tk,rfl,k⟩;split <;> exact .int _ _
theorem oI {i j k:Int} {t u v:Tok} {h} (hX:XL X h):Ii (hx X (h.push { cls:=.type "range",data:=.fields #[.int i t,.int j u,.int k v] })) h.objs.size i j k t u v:=
 bU (Ae _ rfl) (hX.fresh (Am _))
theorem aAI {s:Ak} {o:Obj} {n:Nat}:A0 s { s with heap:=s.heap.push o,toks:=n }:=⟨_,n,rfl,fun _ _ e=>Ai _ e⟩
theorem Cl.range1 {i}:Cl w X A h (.type "range") [] [.int i] (.rng 0 i 1):=.mk fun s fs vs hX _ r0 r=>by
 cases r0;refine ob12 r.c1 ?_;rintro _ rfl a;refine ob11 a.ofInt ?_;rintro t rfl;exact call_range_1 ⟨.rng (oI hX),aAI⟩
theorem Cl.range2 {i j}:Cl w X A h (.type "range") [] [.int i,.int j] (.rng i j 1):=.mk fun s fs vs hX _ r0 r=>by
 cases r0;refine bI r.c2 ?_;rintro _ _ rfl a b;refine ob11 a.ofInt ?_;rintro t rfl;refine ob11 b.ofInt ?_;rintro u rfl;exact call_range_2 ⟨.rng (oI hX),aAI⟩
theorem Cl.range3 {i j k} (hk:k≠0) (hp:DH (j - i) k=false):Cl w X A h (.type "range") [] [.int i,.int j,.int k] (.rng i j k):=.mk fun s fs vs hX _ r0 r=>by
 cases r0;refine pH r.c3 ?_;rintro _ _ _ rfl a b c;refine ob11 a.ofInt ?_;rintro t rfl;refine ob11 b.ofInt ?_;rintro u rfl;refine ob11 c.ofInt ?_;rintro z rfl;exact call_range_3 hk ⟨.rng (oI hX),aAI⟩ (.inl hp)
end
noncomputable def bE {K:Type} [DecidableEq K] (ds:List (K×D)) (k:K):Option D:=(ds.find? fun p=>p.1=k).map (·.2)
noncomputable def dU {K:Type} [DecidableEq K] (ds:List (K×D)) (k:K) (d:D):List (K×D):=
 if ds.any (fun p=>p.1=k) then ds.map (fun p=>if p.1=k then (p.1,d) else p) else ds++[(k,d)]
theorem pE:entryFor table "dict_itemiterator.__iter__"=some Dy.«dict_keyiterator.__iter__»:=
 GK (id':="dict_keyiterator.__iter__") (by kernel_rfl) rfl (by decide +kernel) (by kernel_rfl)
section
theorem cP.keys {kvs ds} (r:cP w h kvs ds):kvs.map (·.1)=ds.map (·.1):=r.ind (M:=fun kvs ds=>kvs.map (·.1)=ds.map (·.1)) rfl fun _ _ i=>congrArg (_::·) i
theorem cP.length {kvs ds} (r:cP w h kvs ds):kvs.length=ds.length:=by
 have:=congrArg De r.keys;simpa using this
theorem cP.find {kvs ds} (r:cP w h kvs ds):∀ {k:Int} {d},bE ds k=some d→∃ v,valueAt kvs k=some v∧Rp w h v d:=by
 refine r.ind (M:=fun kvs ds=>∀ {k:Int} {d},bE ds k=some d→∃ v,valueAt kvs k=some v∧Rp w h v d) (fun e=>by cases e) fun {k' v vs d' ds} a _ ih k d e=>?_;unfold bE at e;unfold valueAt;rw [BY] at e ⊢
 by_cases q:k'=k
 ·rw [decide_eq_true q] at e ⊢
  cases e;exact ⟨v,rfl,a⟩
 ·rw [decide_eq_false q] at e ⊢
  exact ih e
theorem cP.none {kvs ds} (r:cP w h kvs ds):∀ {k:Int},bE ds k=Option.none→valueAt kvs k=Option.none:=by
 refine r.ind (M:=fun kvs ds=>∀ {k:Int},bE ds k=Option.none→valueAt kvs k=Option.none) (fun _=>rfl) fun {k' v vs d' ds} a _ ih k e=>?_;unfold bE at e;unfold valueAt;rw [BY] at e ⊢
 by_cases q:k'=k
 ·rw [decide_eq_true q] at e;cases e
 ·rw [decide_eq_false q] at e ⊢
  exact ih e
theorem cP.isSome {kvs ds} (r:cP w h kvs ds) {k:Int}:(valueAt kvs k).isSome=(bE ds k).isSome:=by
 cases e:bE ds k with
 | none=>rw [r.none e];rfl
 | some d=>refine ob12 (r.find e) fun v e' _=>?_;rw [e'];rfl
theorem cP.append {kvs ds kvs' ds'} (r:cP w h kvs ds) (q:cP w h kvs' ds'):cP w h (kvs++kvs') (ds++ds'):=r.ind (M:=fun kvs ds=>cP w h (kvs++kvs') (ds++ds')) q fun a _ i=>.cons a i
theorem cP.set {k:Int} {v d} (q:Rp w h v d) {kvs ds} (r:cP w h kvs ds):cP w h (kvs.map fun kv=>if kv.1=k then (kv.1,v) else kv) (ds.map fun p=>if p.1=k then (p.1,d) else p):=by
 refine r.ind (M:=fun kvs ds=>cP w h (kvs.map fun kv=>if kv.1=k then (kv.1,v) else kv) (ds.map fun p=>if p.1=k then (p.1,d) else p)) .nil fun {k' _ _ _ _} a _ i=>?_;rw [AC,AC]
 by_cases z:k'=k
 ·rw [if_pos z,if_pos z];exact .cons q i
 ·rw [if_neg z,if_neg z];exact .cons a i
theorem cP.stored {kvs ds} (r:cP w h kvs ds) {k:Int} {v d} (q:Rp w h v d):cP w h (stored kvs k v) (dU ds k d):=by
 have e:(kvs.any fun kv=>kv.1=k)=(ds.any fun p=>p.1=k):=by
  have a1:(kvs.any fun kv=>kv.1=k)=(kvs.map (·.1)).any (fun x=>x=k):=by rw [F9];rfl
  have a2:(ds.any fun p=>p.1=k)=(ds.map (·.1)).any (fun x=>x=k):=by rw [F9];rfl
  rw [a1,a2,r.keys]
 unfold Jk dU;rw [e];split
 ·exact cP.set q r
 ·exact r.append (.cons q .nil)
theorem cP.at {kvs ds} (r:cP w h kvs ds):∀ {i:Nat} {k v},kvs[i]?=some (k,v)→∃ d,ds[i]?=some (k,d)∧Rp w h v d:=by
 refine r.ind (M:=fun kvs ds=>∀ {i:Nat} {k v},kvs[i]?=some (k,v)→∃ d,ds[i]?=some (k,d)∧Rp w h v d) (fun e=>by cases e) fun a _ ih i k v e=>?_;cases i with
 | zero=>cases e;exact ⟨_,rfl,a⟩
 | succ i=>exact ih e
theorem Bo.item_idict {v sl ds k d} (hx':bE ds k=some d) (hs:autoParam (hU sl) ak):Bo w X A h (Cg v sl) (.idict ds) (.int k) d:=.mk fun s v1 v2 hX _ r1 r2=>by
 refine jS r1.ofIdict ?_;rintro a kvs rfl hq hp rs;refine ob11 r2.ofInt ?_;rintro t rfl;refine ob11 (hs (.ref a) (.int k t)) fun ops e=>?_;refine ob12 (rs.find hx') fun x hv r=>?_;exact DK (DictOf.live hp).typeIs GT.lookup (CW (knd:=BL prog w) (C4 prog w k t) (DictOf.live hp).mapOf hv ⟨r,dM⟩) e
theorem Bo.in_idict {ds k}:Bo w X A h (B3 .In) (.int k) (.idict ds) (.bool (bE ds k).isSome):=.mk fun s v1 v2 hX _ r1 r2=>by
 refine jS r2.ofIdict ?_;rintro a kvs rfl hq hp rs;refine ob11 r1.ofInt ?_;rintro t rfl;refine wpAny_in_of (knd:=BL prog w) (C4 prog w k t) hq (DictOf.live hp).mapOf ⟨?_,dG⟩;rw [rs.isSome];exact .bool _
theorem DictOf.noDictI {a:Addr} {kvs} (p:h.DictOf (BL prog w) a kvs):∃ o,h.get? a=some o∧o.dict=none:=fW (id p) fun o _ _ ho z=>⟨o,ho,z.1.2.1⟩
theorem Mt.idict_items {ds}:Mt w X A h (.idict ds) "items" (.builtin "dict.items"):=.mk fun s v pl hX _ r=>by
 refine jS r.ofIdict ?_;rintro a kvs rfl hq hp rs;exact Di (DictOf.live hp).typeIs Ft Ho F.type_dict_items (fun b e=>by cases e;exact DictOf.noDictI (DictOf.live hp)) ⟨rfl,dM⟩
theorem Mt.idict_get {ds}:Mt w X A h (.idict ds) "get" (.builtin "dict.get"):=.mk fun s v pl hX _ r=>by
 refine jS r.ofIdict ?_;rintro a kvs rfl hq hp rs;exact Di (DictOf.live hp).typeIs Ft H2 F.type_dict_get (fun b e=>by cases e;exact DictOf.noDictI (DictOf.live hp)) ⟨rfl,dM⟩
theorem Cl.idict_get {ds k dd}:Cl w X A h (.builtin "dict.get") [.idict ds] [.int k,dd] ((bE ds k).getD dd):=.mk fun s fs vs hX _ r0 r=>by
 refine ob12 r0.c1 ?_;rintro _ rfl r09;have r0:=r09;refine bI r.c2 ?_;rintro _ _ rfl a b;refine jS r0.ofIdict ?_;rintro ad kvs rfl hq hp rs;refine ob11 a.ofInt ?_;rintro t rfl;refine HA H2 (DictOf.live hp).typeIs F.entry_dict_get (F.args_dict_get_3 _ _ _) (meets_dict_get_default (BL prog w) ad (C4 prog w k t) hq _) ⟨_,(DictOf.live hp).mapOf,?_,dG⟩;cases e:bE ds k with
 | none=>rw [rs.none e];exact b
 | some d=>refine ob12 (rs.find e) fun v e' r'=>?_;rw [e'];exact r'
theorem cZ.keys {kvs ds} (r:cZ w h kvs ds):kvs.map (·.1)=ds.map (·.1):=r.ind (M:=fun kvs ds=>kvs.map (·.1)=ds.map (·.1)) rfl fun _ _ i=>congrArg (_::·) i
theorem cZ.length {kvs ds} (r:cZ w h kvs ds):kvs.length=ds.length:=by
 have:=congrArg De r.keys;simpa using this
theorem cZ.find {kvs ds} (r:cZ w h kvs ds):∀ {k:Str} {d},bE ds k=some d→∃ v,valueAt kvs k=some v∧Rp w h v d:=by
 refine r.ind (M:=fun kvs ds=>∀ {k:Str} {d},bE ds k=some d→∃ v,valueAt kvs k=some v∧Rp w h v d) (fun e=>by cases e) fun {k' v vs d' ds} a _ ih k d e=>?_;unfold bE at e;unfold valueAt;rw [BY] at e ⊢
 by_cases q:k'=k
 ·rw [decide_eq_true q] at e ⊢
  cases e;exact ⟨v,rfl,a⟩
 ·rw [decide_eq_false q] at e ⊢
  exact ih e
theorem cZ.none {kvs ds} (r:cZ w h kvs ds):∀ {k:Str},bE ds k=Option.none→valueAt kvs k=Option.none:=by
 refine r.ind (M:=fun kvs ds=>∀ {k:Str},bE ds k=Option.none→valueAt kvs k=Option.none) (fun _=>rfl) fun {k' v vs d' ds} a _ ih k e=>?_;unfold bE at e;unfold valueAt;rw [BY] at e ⊢
 by_cases q:k'=k
 ·rw [decide_eq_true q] at e;cases e
 ·rw [decide_eq_false q] at e ⊢
  exact ih e
theorem cZ.append {kvs ds kvs' ds'} (r:cZ w h kvs ds) (q:cZ w h kvs' ds'):cZ w h (kvs++kvs') (ds++ds'):=r.ind (M:=fun kvs ds=>cZ w h (kvs++kvs') (ds++ds')) q fun a _ i=>.cons a i
theorem cZ.set {k:Str} {v d} (q:Rp w h v d) {kvs ds} (r:cZ w h kvs ds):cZ w h (kvs.map fun kv=>if kv.1=k then (kv.1,v) else kv) (ds.map fun p=>if p.1=k then (p.1,d) else p):=by
 refine r.ind (M:=fun kvs ds=>cZ w h (kvs.map fun kv=>if kv.1=k then (kv.1,v) else kv) (ds.map fun p=>if p.1=k then (p.1,d) else p)) .nil fun {k' _ _ _ _} a _ i=>?_;rw [AC,AC]
 by_cases z:k'=k
 ·rw [if_pos z,if_pos z];exact .cons q i
 ·rw [if_neg z,if_neg z];exact .cons a i
theorem cZ.stored {kvs ds} (r:cZ w h kvs ds) {k:Str} {v d} (q:Rp w h v d):cZ w h (stored kvs k v) (dU ds k d):=by
 have e:(kvs.any fun kv=>kv.1=k)=(ds.any fun p=>p.1=k):=by
  have a1:(kvs.any fun kv=>kv.1=k)=(kvs.map (·.1)).any (fun x=>x=k):=by rw [F9];rfl
  have a2:(ds.any fun p=>p.1=k)=(ds.map (·.1)).any (fun x=>x=k):=by rw [F9];rfl
  rw [a1,a2,r.keys]
 unfold Jk dU;rw [e];split
 ·exact cZ.set q r
 ·exact r.append (.cons q .nil)
theorem cZ.vals {kvs ds} (r:cZ w h kvs ds):cG w h (kvs.map (·.2)) (ds.map (·.2)):=r.ind (M:=fun kvs ds=>cG w h (kvs.map IC) (ds.map IC)) .nil fun a _ i=>.cons a i
theorem Bo.item_sdict {v sl ds k d} (hx':bE ds k=some d) (hs:autoParam (hU sl) ak):Bo w X A h (Cg v sl) (.sdict ds) (.str k) d:=.mk fun s v1 v2 hX _ r1 r2=>by
 refine jS r1.ofSdict ?_;rintro a kvs rfl hq hp rs;refine ob11 r2.ofStr ?_;rintro t rfl;refine ob11 (hs (.ref a) (.str k t)) fun ops e=>?_;refine ob12 (rs.find hx') fun x hv r=>?_;exact DK (DictOf.live hp).typeIs GT.lookup (CW (knd:=strKind prog w) (Fh prog w k t) (DictOf.live hp).mapOf hv ⟨r,dM⟩) e
theorem DictOf.noDictS {a:Addr} {kvs} (p:h.DictOf (strKind prog w) a kvs):∃ o,h.get? a=some o∧o.dict=none:=fW (id p) fun o _ _ ho z=>⟨o,ho,z.1.2.1⟩
theorem Mt.sdict_values {ds}:Mt w X A h (.sdict ds) "values" (.builtin "dict.values"):=.mk fun s v pl hX _ r=>by
 refine jS r.ofSdict ?_;rintro a kvs rfl hq hp rs;exact Di (DictOf.live hp).typeIs Ft G4 F.type_dict_values (fun b e=>by cases e;exact DictOf.noDictS (DictOf.live hp)) ⟨rfl,dM⟩
theorem Cl.sdict_values {ds}:Cl w X A h (.builtin "dict.values") [.sdict ds] [] (.vview (ds.map (·.2))):=.mk fun s fs vs hX _ r0 r=>by
 cases r;refine ob12 r0.c1 ?_;rintro _ rfl r09;have r0:=r09;refine jS r0.ofSdict ?_;rintro ad kvs rfl hq hp rs;refine ob11 hp.dictAt fun ep hd=>?_;refine HA G4 (DictOf.live hp).typeIs F.entry_dict_values (F.args_dict_values_1 _) (meets_dict_values (strKind prog w) ad hq) ⟨⟨_,DictOf.live hp⟩,?_,bT⟩;exact .vviewS ⟨_,bU (Ae _ rfl) (hX.fresh (Am _)),rfl,rfl⟩ (hd.at' fun o e=>aL (aN bT) _ _ e) (rs.vals.mono (aL (aN bT)))
theorem Cl.idict_items {ds}:Cl w X A h (.builtin "dict.items") [.idict ds] [] (.iview ds):=.mk fun s fs vs hX _ r0 r=>by
 cases r;refine ob12 r0.c1 ?_;rintro _ rfl r09;have r0:=r09;refine jS r0.ofIdict ?_;rintro ad kvs rfl hq hp rs;refine ob11 hp.dictAt fun ep hd=>?_;refine HA Ho (DictOf.live hp).typeIs F.entry_dict_items (F.args_dict_items_1 _) (meets_dict_items (BL prog w) ad hq) ⟨⟨_,DictOf.live hp⟩,?_,bT⟩;exact .iview ⟨_,bU (Ae _ rfl) (hX.fresh (Am _)),rfl,rfl⟩ (hd.at' fun o e=>aL (aN bT) _ _ e) (rs.mono (aL (aN bT)))
theorem iQ.vview {n ds} (hA:dF n A):iQ w X A false h (.vview ds) ds:=.mk fun s v Q hX k r q=>by
 cases r with
 | @vviewS _ a kvs ep _ hv hd rs=>
  rename_i v;have hv':s.heap.IsValuesView v a:=by refine ob12 hv fun o ho r=>?_;clear hv;exact ⟨o,aR _ _ ho,r⟩
  have hd':s.heap.DictAt (strKind prog w) a kvs ep:=hd.at' fun o e=>aR _ _ e;refine fP (id hd) fun od _ hod _=>?_;have haX:a∉X:=iD hod;have hlt:=AK (aR _ _ hod);refine wpAny_pyIter_values hv' hd' ?_;have W:=Walks.dictValues (prog:=prog) (w:=w) (knd:=strKind prog w) hA.hh s.heap.objs.size a (Bi hlt) kvs ep;have hlen:kvs.length=ds.length:=by have:=rs.length;simpa using this
  refine q _ _ _ _ _ _ bT (vP.ofWalks (by rw [← hlen];exact W) (by exact ⟨⟨_,Ae _ rfl,rfl,rfl⟩,hd'.push _⟩) (fun b m=>?_) (fun b m=>?_) (fun b m=>?_) (fun b m=>?_) (fun i g st b m=>?_) (fun i v hi hP=>?_) (fun target v s2 i Q E st q=>?_))
  ·rw [bH m];exact aH (Am _)
  ·rw [bH m];exact ⟨_,Ae _ rfl⟩
  ·refine cK m (fun e=>?_) fun m=>?_
   ·exact .inl (by rw [e];exact .head _)
   ·exact .inr (by rw [bH m];exact haX)
  ·refine cK m (fun e=>?_) fun m=>?_
   ·rw [e];exact ⟨_,Ae _ rfl⟩
   ·rw [bH m];exact ⟨_,Ai _ (aR _ _ hod)⟩
  ·rw [bH m];refine bM st ?_;clear st;rintro ⟨o,ho,_⟩ _;exact ⟨o,ho⟩
  ·refine ob11 hP fun k hk=>?_;clear hP
   exact rs.at (by rw [Ar,hk];rfl)
  ·refine bM st ?_;clear st;rintro ⟨o,ho,hc,_⟩ _
   exact gX ho hc (by decide) q
noncomputable def keysOf (ds:List (Int×D)):List D:=ds.map fun p=>.int p.1
theorem iQ.idict {n ds} (hA:dF n A):iQ w X A false h (.idict ds) (keysOf ds):=.mk fun s v Q hX k r q=>by
  refine jS r.ofIdict ?_;rintro a kvs rfl hq hp rs;refine ob11 hp.dictAt fun ep hd=>?_;have hd':s.heap.DictAt (BL prog w) a kvs ep:=hd.at' fun o e=>aR _ _ e;refine fP (id hd) fun od _ hod _=>?_;have haX:a∉X:=iD hod;have hlt:=AK (aR _ _ hod);refine wpAny_pyIter_dict hq hd' ?_;have W:=Walks.dictKeys (prog:=prog) (w:=w) (knd:=BL prog w) hA.hh s.heap.objs.size a (Bi hlt) kvs ep;have hlen:kvs.length=(keysOf ds).length:=by unfold keysOf;rw [Ac];exact rs.length
  refine q _ _ _ _ _ _ bT (vP.ofWalks (by rw [← hlen];exact W) (by exact ⟨⟨_,Ae _ rfl,rfl,rfl⟩,hd'.push _⟩) (fun b m=>?_) (fun b m=>?_) (fun b m=>?_) (fun b m=>?_) (fun i g st b m=>?_) (fun i v hi hP=>?_) (fun target v s2 i Q E st q=>?_))
  ·rw [bH m];exact aH (Am _)
  ·rw [bH m];exact ⟨_,Ae _ rfl⟩
  ·refine cK m (fun e=>?_) fun m=>?_
   ·exact .inl (by rw [e];exact .head _)
   ·exact .inr (by rw [bH m];exact haX)
  ·refine cK m (fun e=>?_) fun m=>?_
   ·rw [e];exact ⟨_,Ae _ rfl⟩
   ·rw [bH m];exact ⟨_,Ai _ (aR _ _ hod)⟩
  ·rw [bH m];refine bM st ?_;clear st;rintro ⟨o,ho,_⟩ _;exact ⟨o,ho⟩
  ·refine fP hP fun k x hk hkey=>?_;clear hP
   refine ob12 (rs.at hk) fun d hd2 _=>?_;refine ⟨.int k,?_,?_⟩
   ·unfold keysOf;rw [Ar,hd2];rfl
   ·have hkey':DP k v=true:=hkey
    cases v with
    | int j t=>
     obtain rfl:j=k:=by simpa [DP] using hkey'
     exact .int _ _
    | _=>cases hkey'
  ·refine bM st ?_;clear st;rintro ⟨o,ho,hc,_⟩ _
   exact gX ho hc (by decide) q
theorem vP.ofWalksT {w A Xi si sj I fp wr items Pt Stt Mid} (W:WalksT prog w A I fp wr items.length Pt Stt Mid) (start:Stt 0 sj.heap) (fresh:∀ b∈wr,si.heap.get? b=none) (live:∀ b∈wr,∃ o,sj.heap.get? b=some o)
  (seen:∀ b∈fp,b∈wr∨b∉Xi) (flive:∀ b∈fp,∃ o,sj.heap.get? b=some o) (alive:∀ i g,Stt i g→∀ b∈wr,∃ o,g.get? b=some o) (malive:∀ i T g,Mid i T g→∀ b∈wr,∃ o,g.get? b=some o)
  (item:∀ i vals,i<items.length→Pt i vals→∃ ds,items[i]?=some (.tup ds)∧cG w (hx Xi si.heap) vals.toList ds) :
  vP w A true Xi si sj I fp wr items Stt (fun i v g=>∃ T,v=.ref T∧Mid i T g) where
 next:=fun i d X' s Q hd st hX' hwr hle q=>by
  have hi:=(Aw.mp hd).1;refine W.item i s _ _ hi st fun T vals h' tk hP hT htup hmid hk=>?_;have c:Ch wr s { s with heap:=h',toks:=tk }:=.heap fun b o n e=>hk b o n e;refine ob12 (item i vals hi hP) fun ds hd' r=>?_;rw [hd] at hd';cases hd';have hm:aZ (hx X' s.heap) (hx X' h'):=aJ (fun b o n e=>hk b o (fun m=>n (hwr b m)) e) fun y m=>.inl m;refine q _ _ c ⟨T,rfl,hmid⟩ (.tup (vs:=vals.toList) ?_ (r.mono (hle.trans hm)));refine ob13 htup fun o ho hc kz=>?_;clear htup;refine ob11 kz fun n hd2=>?_;clear kz;exact ⟨o,bU ho (hX'.fresh hT),hc,n,by simpa using hd2⟩
 go:=fun i target v s Q ht st q=>by
  refine aH6 (ht rfl) ?_;rintro es k p rfl;refine ob12 st ?_;clear st;rintro T rfl hm;exact W.go es k p i T s Q _ hm fun h' st' hk=>q _ (.heap (tk:=s.toks) fun b o n e=>hk b o n e) st'
 done:=fun s Q st q=>W.done s _ _ st fun h' tk hk=>q _ (.heap fun b o n e=>hk b o n e)
 frame:=W.frame
 self:=fun i s Q st q=>W.self i s Q _ st q
 start:=start
 fresh:=fresh
 live:=live
 seen:=seen
 flive:=flive
 alive:=alive
 malive:=fun i v g ⟨T,_,st⟩=>malive i T g st
theorem pJ {it d:Addr} {i n ep:Nat} {ok ov:Ag} {Q:Ag→Ak→Prop} {E} (hit:IsItemIter s.heap it d i n ep ok ov) (q:Q (.ref it) s):Au (AI prog w) A (pyIter (.ref it)) Q E s:=by
 have hT:s.TypeIs (.ref it) "dict_itemiterator":=⟨_,hit,rfl⟩;refine FA hT ES (A9 ES hT pE ?_ (F.args_dict_itemiterator_iter_1 _));show Au _ _ (ret (.ref it)) _ _ s;exact Aj ⟨_,rfl,"dict_itemiterator",_,hT,F.slot_dict_itemiterator_next.lookup,q⟩
theorem aAd {K:Type} [DecidableEq K] {knd:KeyKind prog w K} (hh:A.handled=none) (I d:Addr) (hne:d≠I) (kvs:List (K×Ag)) (ep:Nat) :
  WalksT prog w A I [I,d] [I] kvs.length (fun i vals=>∃ k v key,kvs[i]?=some (k,v)∧knd.is k key=true∧vals=#[key,v])
   (fun i h=>(∃ ok ov,IsItemIter h I d i kvs.length ep ok ov)∧h.DictAt knd d kvs ep) (fun i T h=>(∃ ok ov,IsItemIterOut h I d (i+1) kvs.length ep ok ov T)∧h.DictAt knd d kvs ep∧T≠I) where
 sub:=fun b hb=>by simp at hb;simp [hb]
 frame:=fun _ _ _ st hk=>⟨let ⟨a,b,e⟩:=st.1;⟨a,b,hk I (by simp) _ e⟩,st.2.at' fun o e=>hk d (by simp) o e⟩
 item:=fun i s Q E hi st hQ=>by
  refine bM st ?_;clear st;rintro ⟨ok,ov,hit⟩ hd;obtain ⟨⟨k,x⟩,hx'⟩:∃ p,kvs[i]?=some p:=⟨kvs[i],by simp [hi]⟩;refine wpAny_pyNext_items_item hit hd hx' fun key h' hkey hit' hT hsz hk=>?_;have hne2:s.heap.objs.size≠I:=fun e=>by have:=AK hit;rw [e] at this;exact absurd this (CT _)
  exact hQ _ #[key,x] h' s.toks ⟨k,x,key,hx',hkey,rfl⟩ (Am _) ⟨_,hT,rfl,0,rfl⟩ ⟨⟨_,_,hit'⟩,hd.at' fun o e=>hk d o hne e,hne2⟩ fun b o hb e=>hk b o (fun q=>hb (by simp [q])) e
 go:=fun es k p i T s Q E st hQ=>by
  refine gM st ?_;clear st;rintro ⟨ok,ov,hit⟩ hd hne2;exact wpAny_letOwnedTupleGo_items hit fun h' hit' hs=>hQ h' ⟨⟨_,_,hit'⟩,hd.extBut hs.extBut hne⟩ fun b o hb e=>hs.extBut b o (fun q=>hb (by simp [q])) e
 apart:=fun i T h st m=>st.2.2 (bH m)
 done:=fun s Q E st hQ=>by
  refine bM st ?_;clear st;rintro ⟨ok,ov,hit⟩ hd;exact wpAny_pyNext_items_end hh hit hd (by simp) fun h' he'=>hQ h' s.toks fun b o hb e=>he' b o (fun q=>hb (by simp [q])) e
 self:=fun i s Q E st q=>by refine bM st ?_;clear st;rintro ⟨ok,ov,hit⟩ hd;exact pJ hit q
noncomputable def fY (ds:List (Int×D)):List D:=ds.map fun p=>.tup [.int p.1,p.2]
theorem iQ.iview {n ds} (hA:dF n A):iQ w X A true h (.iview ds) (fY ds):=.mk fun s v Q hX k r q=>by
 cases r with
 | @iview _ a kvs ep _ hv hd rs=>
  rename_i v;have hv':s.heap.IsItemsView v a:=by refine ob12 hv fun o ho r=>?_;clear hv;exact ⟨o,aR _ _ ho,r⟩
  have hd':s.heap.DictAt (BL prog w) a kvs ep:=hd.at' fun o e=>aR _ _ e;refine fP (id hd) fun od _ hod _=>?_;have haX:a∉X:=iD hod;have hlt:=AK (aR _ _ hod);refine wpAny_pyIter_items hv' hd' ?_;have W:=aAd (w:=w) (knd:=BL prog w) hA.hh s.heap.objs.size a (Bi hlt) kvs ep;have hlen:kvs.length=(fY ds).length:=by unfold fY;rw [Ac];exact rs.length
  refine q _ _ _ _ _ _ bT (vP.ofWalksT (by rw [← hlen];exact W) (by exact ⟨⟨_,_,Ae _ rfl⟩,hd'.push _⟩) (fun b m=>?_) (fun b m=>?_) (fun b m=>?_) (fun b m=>?_) (fun i g st b m=>?_) (fun i T g st b m=>?_) (fun i vals hi hP=>?_))
  ·rw [bH m];exact aH (Am _)
  ·rw [bH m];exact ⟨_,Ae _ rfl⟩
  ·refine cK m (fun e=>?_) fun m=>?_
   ·exact .inl (by rw [e];exact .head _)
   ·exact .inr (by rw [bH m];exact haX)
  ·refine cK m (fun e=>?_) fun m=>?_
   ·rw [e];exact ⟨_,Ae _ rfl⟩
   ·rw [bH m];exact ⟨_,Ai _ (aR _ _ hod)⟩
  ·rw [bH m];refine bM (id st) ?_;rintro ⟨_,_,ho⟩ _;exact ⟨_,ho⟩
  ·rw [bH m];refine bM st ?_;clear st;rintro ⟨_,_,ho⟩ _;exact ⟨_,ho⟩
  ·refine xJ hP ?_;clear hP;rintro k x key hk hkey rfl
   refine ob12 (rs.at hk) fun d hd2 rd=>?_;refine ⟨[.int k,d],?_,?_⟩
   ·unfold fY;rw [Ar,hd2];rfl
   ·have hkey':DP k key=true:=hkey
    cases key with
    | int j t=>
     obtain rfl:j=k:=by simpa [DP] using hkey'
     exact .cons (.int _ _) (.cons rd .nil)
    | _=>cases hkey'
end
section
open PySem PySem.W PySem.Calls PyProof.Rows PySem.SeqAt
mutual
noncomputable def iS:D→Bool
 | .none=>true
 | .bool _=>true
 | .int _=>true
 | .str _=>true
 | .tup l=>gO l
 | .list l=>gO l
 | .idict l=>kO l
 | _=>false
noncomputable def gO:List D→Bool
 | []=>true
 | d::r=>iS d&&gO r
noncomputable def kO:List (Int×D)→Bool
 | []=>true
 | (_,d)::r=>iS d&&kO r
end
mutual
noncomputable def dep:D→Nat
 | .tup l=>eW l+1
 | .list l=>eW l+1
 | .idict l=>kF l+1
 | _=>0
noncomputable def eW:List D→Nat
 | []=>0
 | d::r=>max (dep d) (eW r)
noncomputable def kF:List (Int×D)→Nat
 | []=>0
 | (_,d)::r=>max (dep d) (kF r)
end
section
theorem rT {kvs:List (Int×Ag)} (hn:(kvs.map (·.1)).Nodup) {i:Nat} {k v} (e:kvs[i]?=some (k,v)):valueAt kvs k=some v:=valueAt_of_get hn e
theorem iF {e:Nat→Bool} {n:Nat} (h:∀ j,j<n→e j=true):(Aa n).all e=true:=A8.mpr fun j m=>h j (fN m)
theorem aBM {prog':Hz} {w':Bl}:∀ {es:List Ja} {kvs:List (Int×Ag)},Pairs (BL prog w) es kvs→Pairs (BL prog' w') es kvs:=fun p=>by
 induction p with
 | nil=>exact .nil
 | cons a b _ ih=>exact .cons a b ih
theorem wC {a:Addr} {kvs:List (Int×Ag)} {prog':Hz} {w':Bl} (p:h.DictOf (BL prog w) a kvs):h.DictOf (BL prog' w') a kvs:=
 aER (id p) fun o es ep ho hc hd hk hp hn=>⟨o,es,ep,ho,hc,hd,hk,aBM hp,hn⟩
theorem xR {a b:Addr} {ka kb:List (Int×Ag)} (ha:(a==Cv)=false) (hb:(b==Cv)=false) (da:s.heap.DictOf (BL prog w) a ka) (db:s.heap.DictOf (BL prog w) b kb) (hu:A.units<cLine)
  (hl:ka.length=kb.length) (hits:KeqHits A.in1 s kb ka true):RcAt A s (.ref a) (.ref b) true:=fun prog' w' E Q q=>
 keq_eq (prog:=prog') (w:=w') (knd:=BL prog' w') ha hb (wC da) (wC db) hu (fun _=>hits) (by rw [hl];simpa using q)
noncomputable def EqT (w:Bl) (d:D):Prop:=∀ {A:Ba} {s:Ak} {v1 v2:Ag},Rp w s.heap v1 d→Rp w s.heap v2 d→A.units+dep d<cLine→EqAt A s v1 v2 true
noncomputable def RcT (w:Bl) (d:D):Prop:=∀ {A:Ba} {s:Ak} {v1 v2:Ag},Rp w s.heap v1 d→Rp w s.heap v2 d→A.units+dep d<cLine→RcAt A s v1 v2 true
theorem kP (d:D) (ok:iS d=true) (rc:RcT w d):EqT w d:=by
 intro A s v1 v2 r1 r2 hu;cases d with
 | none=>rw [r1.ofNone,r2.ofNone];exact EqAt.same _
 | bool b=>rw [r1.ofBool,r2.ofBool];exact EqAt.same _
 | int i=>refine ob11 r1.ofInt ?_;rintro t rfl;refine ob11 r2.ofInt ?_;rintro u rfl;have:=EqAt.int_int (A:=A) (s:=s) i t i u;rwa [beq_self_eq_true] at this
 | str i=>refine ob11 r1.ofStr ?_;rintro t rfl;refine ob11 r2.ofStr ?_;rintro u rfl;have:=EqAt.str_str (A:=A) (s:=s) i t i u;rwa [beq_self_eq_true] at this
 | tup ds | list ds | idict ds=>
  have q:=rc r1 r2 hu;obtain ⟨a,rfl⟩:∃ a,v1=.ref a:=by first | (refine fP r1.ofTup fun a _ e _=>?_;exact ⟨a,e⟩) | (refine fP r1.ofList fun a _ e _=>?_;exact ⟨a,e⟩) | (refine fP r1.ofIdict fun a _ e _=>?_;exact ⟨a,e⟩)
  obtain ⟨b,rfl⟩:∃ a,v2=.ref a:=by first | (refine fP r2.ofTup fun a _ e _=>?_;exact ⟨a,e⟩) | (refine fP r2.ofList fun a _ e _=>?_;exact ⟨a,e⟩) | (refine fP r2.ofIdict fun a _ e _=>?_;exact ⟨a,e⟩)
  by_cases e:a=b
  ·subst e;exact EqAt.same _
  ·exact EqAt.of_refs e q
 | _=>cases ok
theorem aCL:∀ {ds:List D} {d:D},d∈ds→dep d≤eW ds
 | e::ds,d,m=>by
  show _≤max (dep e) (eW ds);rcases AP.mp m with rfl | m
  ·exact Ed _ _
  ·exact Ao (aCL m) (DR _ _)
theorem aFx:∀ {ds:List (Int×D)} {p:Int×D},p∈ds→dep p.2≤kF ds
 | e::ds,p,m=>by
  show _≤max (dep e.2) (kF ds);rcases AP.mp m with rfl | m
  ·exact Ed _ _
  ·exact Ao (aFx m) (DR _ _)
theorem qI (ds:List D):gO ds=true→(∀ d∈ds,iS d=true→EqT w d)→∀ {A:Ba} {s:Ak} {vs us:List Ag},cG w s.heap vs ds→cG w s.heap us ds→A.units+eW ds<cLine→∀ j (h1:j<vs.length) (h2:j<us.length),EqAt A s vs[j] us[j] true:=by
 induction ds with
 | nil=>intro _ _ A s vs us r1 _ _ j h1;rw [r1.c0] at h1;exact absurd h1 (Ee _)
 | cons d ds ih=>
  intro ok H A s vs us r1 r2 hu j h1 h2;refine bI r1.cc fun v vs' e1 a b=>?_;subst e1;refine bI r2.cc fun u us' e2 a' b'=>?_;subst e2;have ok':iS d=true∧gO ds=true:=Bg.mp ok;have hu1:A.units+max (dep d) (eW ds)<cLine:=hu;cases j with
  | zero=>exact H d (.head _) ok'.1 a a' (Bp (CN (Ed _ _) _) hu1)
  | succ j=>exact ih ok'.2 (fun d m=>H d (.tail _ m)) b b' (Bp (CN (DR _ _) _) hu1) j (ED h1) (ED h2)
theorem aCQ (ds:List (Int×D)):kO ds=true→(∀ p∈ds,iS p.2=true→EqT w p.2)→∀ {A:Ba} {s:Ak} {vs:List (Int×Ag)},cP w s.heap vs ds→∀ (us:List (Int×Ag)) (es:List (Int×D)) (pu:List (Int×Ag)) (pe:List (Int×D)),es=pe++ds→
  cP w s.heap us es→(us.map (·.1)).Nodup→A.units+kF ds<cLine→KeqHits A s us vs true:=by
 induction ds with
 | nil=>intro _ _ A s vs r us es _ _ _ _ _ _;cases r;exact .nil
 | cons p ds ih=>
  obtain ⟨k,d⟩:=p;intro ok H A s vs r0 us es pu pe he r hn hu;refine bI r0.cc fun v vs' e1 a b=>?_;subst e1;have ok':iS d=true∧kO ds=true:=Bg.mp ok;have hu1:A.units+max (dep d) (kF ds)<cLine:=hu;obtain ⟨u,hu2⟩:∃ u,us[pe.length]?=some (k,u)∧Rp w s.heap u d:=by
   have hlt:pe.length<us.length:=by rw [r.length,he,Af,Aq];exact N2 0 15
   obtain ⟨⟨k',u'⟩,hk⟩:∃ p,us[pe.length]?=some p:=⟨_,Ah hlt⟩;refine ob12 (r.at hk) fun d' hd' q=>?_;rw [he,BF (Am _),Jg] at hd';cases hd';exact ⟨u',hk,q⟩
  have one:=H (k,d) (.head _) ok'.1 a hu2.2 (Bp (CN (Ed _ _) _) hu1);have more:=ih ok'.2 (fun d m=>H d (.tail _ m)) b us es pu (pe++[(k,d)]) (by rw [he];simp) r hn (Bp (CN (DR _ _) _) hu1);exact .hit (e:=true) (b:=true) (rT hn hu2.1) one more
theorem aAR (d:D) (ok:iS d=true) (z:dep d=0):RcT w d:=by
 intro A s v1 v2 r1 r2 hu;cases d with
 | none=>rw [r1.ofNone,r2.ofNone];exact RcAt.none_none
 | bool b=>rw [r1.ofBool,r2.ofBool];have:=RcAt.bool_bool (A:=A) (s:=s) b b;rwa [beq_self_eq_true] at this
 | int i=>refine ob11 r1.ofInt ?_;rintro t rfl;refine ob11 r2.ofInt ?_;rintro u rfl;have:=RcAt.int_int (A:=A) (s:=s) i t i u;rwa [beq_self_eq_true] at this
 | str i=>refine ob11 r1.ofStr ?_;rintro t rfl;refine ob11 r2.ofStr ?_;rintro u rfl;have:=RcAt.str_str (A:=A) (s:=s) i t i u;rwa [beq_self_eq_true] at this
 | tup l | list l | idict l=>exact absurd z (Nat.succ_ne_zero _)
 | _=>cases ok
theorem vI (n:Nat):∀ (d:D),dep d≤n→iS d=true→RcT w d:=by
 induction n with
 | zero=>intro d hd ok;exact aAR d ok (Nat.le_zero.mp hd)
 | succ fu ih=>
  intro d hd ok;cases d with
  | tup ds=>
   intro A s v1 v2 r1 r2 hu;refine bI r1.ofTup ?_;rintro a vs rfl p1 q1;refine bI r2.ofTup ?_;rintro b us rfl p2 q2;have hu':A.in1.units+eW ds<cLine:=by have:A.units+(eW ds+1)<cLine:=hu;show A.units+1+_<_;exact N3 0 16 this
   have e:=qI ds ok (fun d m ok=>kP d ok (ih d (Ao (aCL m) (EB hd)) ok)) (A:=A.in1) q1 q2 hu';have n:vs.length=us.length:=q1.length.trans q2.length.symm;have:=RcAt.tuples (e:=fun _=>true) p1 p2 (Bp (BP _ _) hu) fun j j1 j2=>by
    have:=e j (by simpa using j1) (by simpa using j2);simpa using this
   rw [iF (fun _ _=>rfl)] at this;simpa [n] using this
  | list ds=>
   intro A s v1 v2 r1 r2 hu;refine bI r1.ofList ?_;rintro a vs rfl p1 q1;refine bI r2.ofList ?_;rintro b us rfl p2 q2;have hu':A.in1.units+eW ds<cLine:=by have:A.units+(eW ds+1)<cLine:=hu;show A.units+1+_<_;exact N3 0 16 this
   have e:=qI ds ok (fun d m ok=>kP d ok (ih d (Ao (aCL m) (EB hd)) ok)) (A:=A.in1) q1 q2 hu';have n:vs.length=us.length:=q1.length.trans q2.length.symm;have:=RcAt.lists (e:=fun _=>true) p1.isList p2.isList (by simpa using n) (Bp (BP _ _) hu) fun j j1 j2=>by
    have:=e j (by simpa using j1) (by simpa using j2);simpa using this
   rwa [iF (fun _ _=>rfl)] at this
  | idict ds=>
   intro A s v1 v2 r1 r2 hu;refine jS r1.ofIdict ?_;rintro a vs rfl z1 p1 q1;refine jS r2.ofIdict ?_;rintro b us rfl z2 p2 q2;have hu':A.in1.units+kF ds<cLine:=by have:A.units+(kF ds+1)<cLine:=hu;show A.units+1+_<_;exact N3 0 16 this
   have n:vs.length=us.length:=q1.length.trans q2.length.symm;refine aER (id p2) fun _ _ _ _ _ _ _ _ hn=>?_;exact xR z1 z2 p1 p2 (Bp (BP _ _) hu) n (aCQ ds ok (fun p m ok=>kP p.2 ok (ih p.2 (Ao (aFx m) (EB hd)) ok)) q1 us ds [] [] rfl q2 hn hu')
  | _=>first | exact aAR _ ok rfl | cases ok
theorem aEm (d:D) (ok:iS d=true) {A:Ba} {s:Ak} {v1 v2:Ag} (r1:Rp w s.heap v1 d) (r2:Rp w s.heap v2 d) (hu:A.units+dep d<cLine):EqAt A s v1 v2 true:=
 kP d ok (vI _ d (Am _) ok) r1 r2 hu
theorem wD (ds:List D) (ok:gO ds=true) {A:Ba} {s:Ak} {vs us:List Ag} (r1:cG w s.heap vs ds) (r2:cG w s.heap us ds) (hu:A.units+eW ds<cLine):∀ j (h1:j<vs.length) (h2:j<us.length),EqAt A s vs[j] us[j] true:=
 qI ds ok (fun d _ ok=>kP d ok (vI _ d (Am _) ok)) r1 r2 hu
end
end
section
open PySem PySem.W PySem.Calls PyProof.Rows PySem.SeqAt
section
theorem Rp.full {v d} (r:Rp w (hx X h) v d):Rp w h v d:=r.mono aR
theorem dF.cl {n A k} (a:dF n A) (hk:k≤500):A.units+k<cLine:=by have:=a.units;show _<9900;exact N3 0 17 hk this
theorem Bo.eq_same {n d} (hA:dF n A) (ok:iS d=true) (hd:dep d≤500):Bo w X A h (B3 .Eq) d d (.bool true):=.mk fun s v1 v2 _ _ r1 r2=>
 vI (w:=w) _ d (Am _) ok r1.full r2.full (hA.cl hd) prog w _ _ ⟨.bool _,dM⟩
theorem Bo.ne_same_list {n ds} (hA:dF n A) (ok:gO ds=true) (hd:eW ds≤400):Bo w X A h (B3 .NotEq) (.list ds) (.list ds) (.bool false):=.mk fun s v1 v2 _ _ r1 r2=>by
 refine bI r1.full.ofList ?_;rintro a vs rfl p1 q1;refine bI r2.full.ofList ?_;rintro b us rfl p2 q2;have hu':A.in1.units+eW ds<cLine:=by have:=hA.cl (k:=eW ds+1) (by exact N1 0 18 hd);show A.units+1+_<_;exact N3 0 16 this
 have e:=wD ds ok (A:=A.in1) q1 q2 hu';have n':vs.length=us.length:=q1.length.trans q2.length.symm;have:=RcNeAt.lists (e:=fun _=>true) p1.isList p2.isList (by simpa using n') (hA.cl (k:=0) (by lia)) fun j j1 j2=>by
  have:=e j (by simpa using j1) (by simpa using j2);simpa using this
 rw [iF (fun _ _=>rfl)] at this;exact this prog w _ _ ⟨.bool _,dM⟩
theorem Bo.ne_nil {n ds} (hA:dF n A):Bo w X A h (B3 .NotEq) (.list ds) (.list []) (.bool !ds.isEmpty):=.mk fun s v1 v2 _ _ r1 r2=>by
 refine bI r1.full.ofList ?_;rintro a vs rfl p1 q1;refine bI r2.full.ofList ?_;rintro b us rfl p2 q2;cases q2;cases ds with
 | nil=>
  cases q1;have:=RcNeAt.lists (e:=fun _=>true) p1.isList p2.isList rfl (hA.cl (k:=0) (by lia)) fun j j1 j2=>absurd j1 (Ee _);exact this prog w _ _ ⟨.bool _,dM⟩
 | cons d ds=>
  have hl:=q1.length;have:=RcNeAt.lists_lengths p1.isList p2.isList (by simp [hl]) (hA.cl (k:=0) (by lia));exact this prog w _ _ ⟨.bool _,dM⟩
theorem Bo.iadd {a b}:Bo w X A h (inplaceOp .Add) (.int a) (.int b) (.int (a+b)):=.mk fun s v1 v2 _ _ r1 r2=>by
 refine ob11 r1.ofInt ?_;rintro t rfl;refine ob11 r2.ofInt ?_;rintro u rfl;exact Jn ⟨.int _ _,dG⟩
theorem Bo.isub {a b}:Bo w X A h (inplaceOp .Sub) (.int a) (.int b) (.int (a - b)):=.mk fun s v1 v2 _ _ r1 r2=>by
 refine ob11 r1.ofInt ?_;rintro t rfl;refine ob11 r2.ofInt ?_;rintro u rfl;exact Jo ⟨.int _ _,dG⟩
theorem Bo.ior {a b}:Bo w X A h (inplaceOp .BitOr) (.int a) (.int b) (.int (FD a b)):=.mk fun s v1 v2 _ _ r1 r2=>by
 refine ob11 r1.ofInt ?_;rintro t rfl;refine ob11 r2.ofInt ?_;rintro u rfl;exact JC ⟨.int _ _,dG⟩
theorem Bo.ixor {a b}:Bo w X A h (inplaceOp .BitXor) (.int a) (.int b) (.int (CY a b)):=.mk fun s v1 v2 _ _ r1 r2=>by
 refine ob11 r1.ofInt ?_;rintro t rfl;refine ob11 r2.ofInt ?_;rintro u rfl;exact Jp ⟨.int _ _,dG⟩
theorem Bo.ilshift {a n} (hn:0≤n∧n≤1000000) (ha:a.natAbs<2 ^ 64):Bo w X A h (inplaceOp .LShift) (.int a) (.int n) (.int (a*2 ^ n.toNat)):=.mk fun s v1 v2 _ _ r1 r2=>by
 refine ob11 r1.ofInt ?_;rintro t rfl;refine ob11 r2.ofInt ?_;rintro u rfl;exact HV hn.1 hn.2 ha ⟨.int _ _,dG⟩
theorem Bo.lshift {a n} (hn:0≤n∧n≤1000000) (ha:a.natAbs<2 ^ 64):Bo w X A h (Dh .LShift) (.int a) (.int n) (.int (a*2 ^ n.toNat)):=.mk fun s v1 v2 _ _ r1 r2=>by
 refine ob11 r1.ofInt ?_;rintro t rfl;refine ob11 r2.ofInt ?_;rintro u rfl;exact HZ hn.1 hn.2 ha ⟨.int _ _,dG⟩
theorem Bo.fdiv {a b} (hb:b≠0) (hp:DH a b=false):Bo w X A h (Dh .FloorDiv) (.int a) (.int b) (.int (a.fdiv b)):=.mk fun s v1 v2 _ _ r1 r2=>by
 refine ob11 r1.ofInt ?_;rintro t rfl;refine ob11 r2.ofInt ?_;rintro u rfl;exact IQ hb ⟨.int _ _,dG⟩ (.inl hp)
theorem Bo.fmod {a b} (hb:b≠0):Bo w X A h (Dh .Mod) (.int a) (.int b) (.int (a.fmod b)):=.mk fun s v1 v2 _ _ r1 r2=>by
 refine ob11 r1.ofInt ?_;rintro t rfl;refine ob11 r2.ofInt ?_;rintro u rfl;exact Jq hb ⟨.int _ _,dG⟩
theorem Bo.pow {a n} (hn:0≤n) (hsz:(CM a:Int)*n≤2 ^ 27):Bo w X A h (Dh .Pow) (.int a) (.int n) (.int (a ^ n.toNat)):=.mk fun s v1 v2 _ _ r1 r2=>by
 refine ob11 r1.ofInt ?_;rintro t rfl;refine ob11 r2.ofInt ?_;rintro u rfl;exact JF hn hsz ⟨.int _ _,dG⟩
theorem Bo.sub_bb {a b}:Bo w X A h (Dh .Sub) (.bool a) (.bool b) (.int (b2i a - b2i b)):=.mk fun s v1 v2 _ _ r1 r2=>by
 rw [r1.ofBool,r2.ofBool];exact Jr ⟨.int _ _,dG⟩
theorem Bo.mul_ib {a b}:Bo w X A h (Dh .Mult) (.int a) (.bool b) (.int (a*if b=true then (1:Int) else 0)):=.mk fun s v1 v2 _ _ r1 r2=>by
 refine ob11 r1.ofInt ?_;rintro t rfl;rw [r2.ofBool];exact IG ⟨.int _ _,dG⟩
theorem Bo.ge {a b}:Bo w X A h (B3 .GtE) (.int a) (.int b) (.bool (decide (b≤a))):=.mk fun s v1 v2 _ _ r1 r2=>by
 refine ob11 r1.ofInt ?_;rintro t rfl;refine ob11 r2.ofInt ?_;rintro u rfl;exact JM ⟨.bool _,dM⟩
theorem Bo.nei {a b}:Bo w X A h (B3 .NotEq) (.int a) (.int b) (.bool (a != b)):=.mk fun s v1 v2 _ _ r1 r2=>by
 refine ob11 r1.ofInt ?_;rintro t rfl;refine ob11 r2.ofInt ?_;rintro u rfl;exact JQ ⟨.bool _,dM⟩
theorem Bo.is_bb {a b}:Bo w X A h (B3 .Is) (.bool a) (.bool b) (.bool (a==b)):=.mk fun s v1 v2 _ _ r1 r2=>by
 rw [r1.ofBool,r2.ofBool];refine IL rfl ⟨?_,dM⟩;have:(Ag.bool a==Ag.bool b)=(a==b):=by cases a <;> cases b <;> rfl
 rw [this];exact .bool _
theorem Bo.is_ib {a b}:Bo w X A h (B3 .Is) (.int a) (.bool b) (.bool false):=.mk fun s v1 v2 _ _ r1 r2=>by
 refine ob11 r1.ofInt ?_;rintro t rfl;rw [r2.ofBool];exact IL rfl ⟨.bool _,dM⟩
theorem Bo.isNot_ib {a b}:Bo w X A h (B3 .IsNot) (.int a) (.bool b) (.bool true):=.mk fun s v1 v2 _ _ r1 r2=>by
 refine ob11 r1.ofInt ?_;rintro t rfl;rw [r2.ofBool];exact wpAny_isNot_plain rfl ⟨.bool _,dM⟩
theorem Tt.int {a}:Tt w X A h (.int a) (a != 0):=.mk fun s v1 _ _ r1=>by
 refine ob11 r1.ofInt ?_;rintro t rfl;exact truthy_int ⟨rfl,dM⟩
noncomputable def isI (k:Int) (v:Ag):Bool:=match v with | .int j _=>j==k | _=>false
theorem aEy {n k} {is:List Int} (hA:dF n A):Bo w X A h (B3 .In) (.int k) (.list (is.map .int)) (.bool (is.contains k)):=.mk fun s v1 v2 _ _ r1 r2=>by
 refine bI r2.full.ofList ?_;rintro a vs rfl p1 q1;refine ob11 r1.ofInt ?_;rintro t rfl;have all:∀ (is:List Int) (vs:List Ag),cG w s.heap vs (is.map .int)→(∀ y∈vs,∃ j u,y=.int j u)∧vs.any (isI k)=is.contains k:=by
  intro is
  induction is with
  | nil=>intro vs r;cases r;exact ⟨fun _ m=>(nomatch m),rfl⟩
  | cons i is ih=>
   intro vs r;cases r with
   | cons a b=>
    refine ob11 a.ofInt ?_;rintro u rfl;refine bM (ih _ b) fun x1 x2=>?_;refine ⟨fun y m=>?_,?_⟩
    ·refine cK m (fun e=>?_) fun m=>?_
     ·exact ⟨_,_,e⟩
     ·exact x1 y m
    ·rw [IX,x2,G8]
     congr 1;show (i==k)=(k==i);exact IR
 refine bM (all is vs q1) fun x1 x2=>?_;refine in_listAt (isI k) p1.isList (fun y m=>?_) ⟨?_,dM⟩
 ·refine aEP (x1 y (by simpa using m)) ?_;rintro j u rfl
  exact EqAt.int_int j u k t
 ·have:vs.toArray.any (isI k)=is.contains k:=by rw [← x2];simp
  rw [this];exact .bool _
noncomputable def isS (k:Str) (v:Ag):Bool:=match v with | .str j _=>j==k | _=>false
theorem aEz {n k} {is:List Str} (hA:dF n A):Bo w X A h (B3 .In) (.str k) (.list (is.map .str)) (.bool (is.contains k)):=.mk fun s v1 v2 _ _ r1 r2=>by
 refine bI r2.full.ofList ?_;rintro a vs rfl p1 q1;refine ob11 r1.ofStr ?_;rintro t rfl;have all:∀ (is:List Str) (vs:List Ag),cG w s.heap vs (is.map .str)→(∀ y∈vs,∃ j u,y=.str j u)∧vs.any (isS k)=is.contains k:=by
  intro is
  induction is with
  | nil=>intro vs r;cases r;exact ⟨fun _ m=>(nomatch m),rfl⟩
  | cons i is ih=>
   intro vs r;cases r with
   | cons a b=>
    refine ob11 a.ofStr ?_;rintro u rfl;refine bM (ih _ b) fun x1 x2=>?_;refine ⟨fun y m=>?_,?_⟩
    ·refine cK m (fun e=>?_) fun m=>?_
     ·exact ⟨_,_,e⟩
     ·exact x1 y m
    ·rw [IX,x2,G8]
     congr 1;show (i==k)=(k==i);exact IR
 refine bM (all is vs q1) fun x1 x2=>?_;refine in_listAt (isS k) p1.isList (fun y m=>?_) ⟨?_,dM⟩
 ·refine aEP (x1 y (by simpa using m)) ?_;rintro j u rfl
  exact EqAt.str_str j u k t
 ·have:vs.toArray.any (isS k)=is.contains k:=by rw [← x2];simp
  rw [this];exact .bool _
theorem Bo.addl {xs ys} (hs:xs.length+ys.length≤100000):Bo w X A h (Dh .Add) (.list xs) (.list ys) (.list (xs++ys)):=.mk fun s v1 v2 hX _ r1 r2=>by
 refine bI r1.ofList ?_;rintro a vs rfl ⟨n1,p1⟩ q1;refine bI r2.ofList ?_;rintro b us rfl ⟨n2,p2⟩ q2;refine P.add_list (n:=n1) (n2:=n2) (aR _ _ p1) (aR _ _ p2) ⟨?_,bT⟩ (by rw [AH,AH,q1.length,q2.length];exact Ao hs (by decide));have e:vs.toArray++us.toArray=(vs++us).toArray:=by simp
 rw [e];exact .list (PlainList.new hX) ((q1.append q2).mono (aL (aN bT)))
end
end
section
open PySem PySem.W PySem.Calls PyProof.Rows PySem.SeqAt
noncomputable def mn:List Int→Int
 | []=>0
 | [x]=>x
 | x::y::r=>min x (mn (y::r))
theorem aDk:∀ (l:List Int) a,a∈l→mn l≤a
 | [x],a,m=>by rw [bH m];exact BV _
 | x::y::r,a,m=>by
  unfold mn;refine cK m (fun e=>?_) fun m=>?_
  ·rw [e];exact Int.min_le_left _ _
  ·exact Cs (Int.min_le_right _ _) (aDk (y::r) a m)
theorem vB:∀ (l:List Int),l≠[]→mn l∈l
 | [x],_=>.head _
 | x::y::r,_=>by
  unfold mn;refine BH (Int.le_total x (mn (y::r))) (fun q=>?_) fun q=>?_
  ·rw [Ea q];exact .head _
  ·rw [HL q];exact .tail _ (vB (y::r) (by simp))
section
theorem cG.ints {is:List Int} {vs} (r:cG w h vs (is.map .int)):∃ xs:List (Int×Tok),vs=xs.map (fun p=>.int p.1 p.2)∧xs.map (·.1)=is:=by
 induction is generalizing vs with
 | nil=>exact ⟨[],r.c0,rfl⟩
 | cons i is ih=>
  refine bI r.cc fun v us e0 a b=>?_;subst e0;refine ob12 (ih b) ?_;rintro xs rfl e;refine ob11 a.ofInt ?_;rintro t rfl;exact ⟨(i,t)::xs,rfl,by rw [AC,e]⟩
theorem cG.strs {is:List Str} {vs} (r:cG w h vs (is.map .str)):∃ xs:List (Str×Tok),vs=strValues xs∧xs.map (·.1)=is:=by
 induction is generalizing vs with
 | nil=>exact ⟨[],r.c0,rfl⟩
 | cons i is ih=>
  refine bI r.cc fun v us e0 a b=>?_;subst e0;refine ob12 (ih b) ?_;rintro xs rfl e;refine ob11 a.ofStr ?_;rintro t rfl;exact ⟨(i,t)::xs,rfl,by rw [AC,e]⟩
theorem oS (xs:List (Int×Tok)):(xs.map fun p=>Ag.int p.1 p.2).toArray=intItems xs.toArray:=by simp [intItems]
theorem Cl.sum {n is} (hA:dF n A):Cl w X A h (.builtin "sum") [] [.list (FT D.int is)] (.int (Iy is)):=.mk fun s fs vs hX _ r0 r=>by
 cases r0;refine ob12 r.c1 ?_;rintro _ rfl a;refine bI a.ofList ?_;rintro a vs rfl p q;refine ob12 q.ints ?_;rintro xs rfl rfl;have p':=PlainList.live p;rw [oS] at p';refine sum_intListG hA.hh p' fun h' tk t' k=>⟨?_,h',tk,rfl,k⟩;rw [preSum_eq,BJ (by simp)];simpa using Rp.int _ _
theorem Cl.min {n is} (hA:dF n A) (hn:is≠[]):Cl w X A h (.builtin "min") [] [.list (FT D.int is)] (.int (mn is)):=.mk fun s fs vs hX _ r0 r=>by
 cases r0;refine ob12 r.c1 ?_;rintro _ rfl a;refine bI a.ofList ?_;rintro a vs rfl p q;refine ob12 q.ints ?_;rintro xs rfl rfl;have p':=PlainList.live p;rw [oS] at p';have hsz:0<xs.toArray.size:=by
  cases xs with
  | nil=>exact absurd rfl hn
  | cons x r=>simp
 refine min_intList hA.hh p' hsz fun v h' tk hv k=>⟨?_,h',tk,rfl,k⟩;refine ob11 (intItems_at hv) ?_;rintro t rfl;refine bM (argBest_lt (numAt xs.toArray) (xs.toArray.size - 1)) fun h1 h2=>?_;have e:numAt xs.toArray (argBest (fun i j=>decide (numAt xs.toArray i<numAt xs.toArray j)) (xs.toArray.size - 1))=mn (xs.map (·.1)):=by
  have m1:numAt xs.toArray (argBest (fun i j=>decide (numAt xs.toArray i<numAt xs.toArray j)) (xs.toArray.size - 1))∈xs.map (·.1):=by
   rw [numAt_eq];exact PySem.getD_mem (by simp only [Ac,AH] at hsz h1 ⊢;exact N3 0 20 h1 (cY (N1 0 19 hsz)))
  refine Gj ?_ (aDk _ _ m1);refine ob12 (PySem.mem_getD (vB _ hn)) fun j hj e=>?_;rw [← e];have:=h2 j (by simp only [Ac,AH] at hj ⊢;exact N3 0 21 hj eB);rw [numAt_eq xs.toArray j] at this;exact this
 rw [e];exact .int _ _
theorem Cl.all_true {n k} (hA:dF n A):Cl w X A h (.builtin "all") [] [.list (As k (.bool true))] (.bool true):=.mk fun s fs vs hX _ r0 r=>by
 cases r0;refine ob12 r.c1 ?_;rintro _ rfl a;refine bI a.ofList ?_;rintro a' vs rfl p q;have hall:∀ v∈vs,v=.bool true:=by
  intro v m;refine ob11 (BX.mp m) fun i kz=>?_;refine ob11 kz fun hi e=>?_;clear kz;refine ob12 (q.at (Aw.mpr ⟨hi,e⟩)) fun d hd r=>?_;have:d=.bool true:=List.eq_of_mem_replicate (AB hd);subst this;exact r.ofBool
 have p':=PlainList.live p;refine call_all_walk (HE p' ?_);refine ob12 (id p') fun ol hol _=>?_;have hne:a'≠s.heap.objs.size:=Bi (AK hol);refine ⟨_,_,_,_,_,_,fun _=>true,rfl,JT (A:=A.in1) hA.hh s.heap.objs.size a' hne vs.toArray,⟨⟨_,Ae _ rfl,rfl,rfl⟩,p'.at fun o e=>Ai _ e⟩,?_,fun h' tk k=>⟨?_,?_⟩⟩
 ·intro i v s2 Q E hP hq
  have:v=.bool true:=hall v (by
   have:vs[i]?=some v:=by simpa using hP
   exact AB this)
  rw [this];exact Dk hq
 ·rw [iF fun _ _=>rfl];exact .bool _
 ·exact ⟨h',tk,rfl,fun b o e=>k b o (fun m=>by rw [bH m,aH (Am _)] at e;cases e) (Ai _ e)⟩
theorem Cl.isi_int {i}:Cl w X A h (.builtin "isinstance") [] [.int i,.val (.type "int")] (.bool true):=.mk fun s fs vs hX _ r0 r=>by
 cases r0;refine bI r.c2 ?_;rintro _ _ rfl a b;refine ob11 a.ofInt ?_;rintro t rfl;rw [b.ofVal];exact IsiPair.int_int ⟨.bool _,dM⟩
theorem Cl.isi_int_tup {i}:Cl w X A h (.builtin "isinstance") [] [.int i,.val (.type "tuple")] (.bool false):=.mk fun s fs vs hX _ r0 r=>by
 cases r0;refine bI r.c2 ?_;rintro _ _ rfl a b;refine ob11 a.ofInt ?_;rintro t rfl;rw [b.ofVal];exact IsiPair.int_tuple ⟨.bool _,dG⟩
theorem Cl.isi_tup {ds}:Cl w X A h (.builtin "isinstance") [] [.tup ds,.val (.type "tuple")] (.bool true):=.mk fun s fs vs hX _ r0 r=>by
 cases r0;refine bI r.c2 ?_;rintro _ _ rfl a b;refine bI a.ofTup ?_;rintro a vs rfl p q;rw [b.ofVal];refine ob13 p fun o ho hc _=>?_;clear p;exact IsiPair.tuple_tuple (aR _ _ ho) hc ⟨.bool _,dM⟩
theorem Mt.list {ds name id} (slot:Slot "list" name id) (hty:typeOf (.builtin id)=pure (.type "method_descriptor")):Mt w X A h (.list ds) name (.builtin id):=.mk fun s v pl hX _ r=>by
 refine bI r.ofList ?_;rintro a vs rfl p rs;refine ob11 p fun n e=>?_;clear p;exact Di ⟨_,aR _ _ e,rfl⟩ Hn slot hty (fun b q=>by cases q;exact ⟨_,aR _ _ e,rfl⟩) ⟨rfl,dM⟩
theorem Mt.str {x name id} (slot:Slot "str" name id) (hty:typeOf (.builtin id)=pure (.type "method_descriptor")):Mt w X A h (.str x) name (.builtin id):=.mk fun s v pl hX _ r=>by
 refine ob11 r.ofStr ?_;rintro t rfl;exact Di (EP _ _ _) F.plainAttrs_str slot hty (fun b q=>by cases q) ⟨rfl,dM⟩
theorem Cl.index {n k} {is:List Str} {j:Nat} (hj:is.idxOf? k=some j) (hl:is.length≤100000) (hA:dF n A):Cl w X A h (.builtin "list.index") [.list (is.map .str)] [.str k] (.int (j:Int)):=.mk fun s fs vs hX _ r0 r=>by
 refine ob12 r0.c1 ?_;rintro _ rfl r09;have r0:=r09;refine ob12 r.c1 ?_;rintro _ rfl a;refine bI r0.ofList ?_;rintro a' vs rfl ⟨n',p⟩ q;refine ob11 a.ofStr ?_;rintro t rfl;have hlen:=q.length;rw [Ac] at hlen;rw [Jv,Eo] at hj;refine ob12 hj fun j1 j2 j3=>?_;clear hj;have at':∀ i (h1:i<is.length) (h2:i<vs.length),∃ u,vs[i]=.str is[i] u:=fun i h1 h2=>by
  refine ob12 (q.get (i:=i) (d:=.str is[i]) (by rw [Ar,Ah h1];rfl)) fun v e r=>?_;refine ob11 r.ofStr ?_;rintro u rfl;exact ⟨u,by rw [Ah h2] at e;exact BC e⟩
 refine EN F.slot_list_index ⟨_,aR _ _ p,rfl⟩ F.entry_list_index (F.args_list_index_2 _ _) (list_indexAt a' vs.toArray n' none #[] (.str k t) (isS k) j (by simp [hlen];exact j1) (by exact N2 0 22 hl j1) ?_ ?_) ⟨aR _ _ p,?_,.int _ _,dG⟩
 ·refine ob11 (at' j j1 (hlen▸j1)) fun u e=>?_
  simp only [GE,e];exact j2
 ·intro m hm lt
  have hm':m<vs.length:=by simpa using hm
  refine ob11 (at' m (hlen▸hm') hm') fun u e=>?_;simp only [GE,e];have:=j3 m lt;simpa [isS] using this
 ·intro y hy
  refine ob11 (BX.mp (by simpa using hy:y∈vs)) fun i kz=>?_;refine ob11 kz fun hi e=>?_;clear kz;refine ob11 (at' i (hlen▸hi) hi) fun u e'=>?_;rw [← e,e'];exact EqAt.str_str _ u k t
theorem Cl.hex {i} (hz:(Dg "0x" 16 i).length≤1000):Cl w X A h (.builtin "hex") [] [.int i] (.str (Dg "0x" 16 i)):=.mk fun s fs vs hX _ r0 r=>by
 cases r0;refine ob12 r.c1 ?_;rintro _ rfl a;refine ob11 a.ofInt ?_;rintro t rfl;exact PySem.P.hex_of_int ⟨.str _ _,dG⟩ (Ao hz bD)
theorem Bo.item_str {v sl x i c} (hr:(decide (i < -(2 ^ 63:Int)) || decide (i≥2 ^ 63))=false) (hc:(seqIndex? i x.length).bind (x.cps[·]?)=some c) (hs:autoParam (hU sl) ak) :
  Bo w X A h (Cg v sl) (.str x) (.int i) (.str ⟨#[c]⟩):=.mk fun s v1 v2 hX _ r1 r2=>by
 refine ob11 r1.ofStr ?_;rintro t rfl;refine ob11 r2.ofInt ?_;rintro u rfl;refine ob11 (hs (.str x t) (.int i u)) fun ops e=>?_;exact DK (EP _ _ _) G5.lookup (P.getItem_str hr hc ⟨.str _ _,dG⟩) e
theorem aDz {v:Ag} {i:Option Int} (p:FG v i):∃ q:Option (Int×Tok),v=partValue q∧q.map (·.1)=i:=by
 cases p with
 | none=>exact ⟨none,rfl,rfl⟩
 | int i t=>exact ⟨some (i,t),rfl,rfl⟩
theorem Bo.slice_str {v sl x i j} (hl:x.length≤1000) (hs:autoParam (hU sl) ak):Bo w X A h (Cg v sl) (.str x) (.slc i j none) (.str (DV x i j)):=.mk fun s v1 v2 hX _ r1 r2=>by
 refine ob11 r1.ofStr ?_;rintro t rfl;refine aF9 r2.ofSlc ?_;rintro b vx vy vz rfl hb p1 p2 p3;refine ob11 (hs (.str x t) (.ref b)) fun ops e=>?_;refine ob12 (aDz p1) ?_;rintro l rfl rfl;refine ob12 (aDz p2) ?_;rintro u rfl rfl;cases p3;refine ob13 hb fun o ho hc hd=>?_;clear hb;exact DK (EP _ _ _) G5.lookup (wpAny_getItem_str_slice (l:=l) (u:=u) (st:=none) ⟨o,aR _ _ ho,hc,hd⟩ rfl
  (post_val_or_str ⟨Ao (Jl x _ _) (Ao hl bD),fun t' k=>⟨.str _ _,dG⟩⟩)) e
theorem Bo.mul_si {x n} (hok:MulOk x n):Bo w X A h (Dh .Mult) (.str x) (.int n) (.str (Ik x n)):=.mk fun s v1 v2 hX _ r1 r2=>by
 refine ob11 r1.ofStr ?_;rintro t rfl;refine ob11 r2.ofInt ?_;rintro u rfl;exact SB.mul hok fun t' k=>⟨.str _ _,dG⟩
noncomputable def iI (sep:Str) (xs:List Str):Str:=match xs with | [x]=>x | l=>JU sep l
theorem Cl.join {sep:Str} {xs:List Str} (hl:B4 (xs.toArray.foldl (·+·.length+sep.length) 0)=false) (hz:(iI sep xs).length≤1000) :
  Cl w X A h (.builtin "str.join") [.str sep] [.list (xs.map .str)] (.str (iI sep xs)):=.mk fun s fs vs hX _ r0 r=>by
 refine ob12 r0.c1 ?_;rintro _ rfl r09;have r0:=r09;refine ob12 r.c1 ?_;rintro _ rfl a;refine ob11 r0.ofStr ?_;rintro t rfl;refine bI a.ofList ?_;rintro a' vs rfl p q;refine ob12 q.strs ?_;rintro ys rfl rfl;refine EN F.slot_str_join (EP _ _ _) F.entry_str_join (F.args_str_join_2 _ _) (meets_str_join_list sep t a' ys hl) ⟨PlainList.live p,?_⟩;cases ys with
 | nil=>exact ⟨Ao hz bD,.str _ _,dG⟩
 | cons y rr=>cases rr with
  | nil=>exact ⟨.str _ _,dM⟩
  | cons z rr=>exact ⟨Ao hz bD,.str _ _,dG⟩
theorem cG.ofStrs:∀ (xs:List (Str×Tok)),cG w h (strValues xs) ((xs.map (·.1)).map .str)
 | []=>.nil
 | x::r=>.cons (.str _ _) (cG.ofStrs r)
open Builtin.Str in
theorem Cl.split {x y:Str} (hy:(y.length==0)=false) (hx':x.length≤1000) (hn:(partsBetween x (occurrences x y 0 x.length (x.length+1)) y.length).length≤1000) :
  Cl w X A h (.builtin "str.split") [.str x] [.str y] (.list ((En x y).map .str)):=.mk fun s fs vs hX _ r0 r=>by
 refine ob12 r0.c1 ?_;rintro _ rfl r09;have r0:=r09;refine ob12 r.c1 ?_;rintro _ rfl a;refine ob11 r0.ofStr ?_;rintro t rfl;refine ob11 a.ofStr ?_;rintro u rfl;have fin:∀ (l:List (Str×Tok)) (k:Nat),l.map (·.1)=En x y→(fun v s'=>Rp w (hx X s'.heap) v (.list ((En x y).map .str))∧A0 s s') (.ref s.heap.objs.size) { s with heap:=s.heap.push { cls:=.type "list",data:=.seq (strValues l).toArray },toks:=k }:=fun l k e=>by
  rw [← e];exact ⟨.list (PlainList.new hX) (cG.ofStrs l),aAI⟩
 cases h1:(decide (x.length<y.length) || decide (strKind x<strKind y))
 ·cases hf:(occurrences x y 0 x.length (x.length+1)).isEmpty
  ·refine EN FP (EP _ _ _) Fs (E9 _ _) (meets_str_split_sep x y t u h1 hy hf (Ao hx' bD) (Ao hn bD)) ?_
   show wants _ _ _ { s with toks:=_,heap:=s.heap.push { cls:=.type "list",data:=.seq (strsFrom s.toks (partsBetween x (occurrences x y 0 x.length (x.length+1)) y.length)).toArray } };rw [strsFrom_eq];exact fin _ _ ((numbered_texts _ _).trans ((if_neg (ne_true_of_eq_false h1)).trans (if_neg (ne_true_of_eq_false hf))).symm)
  ·exact EN FP (EP _ _ _) Fs (E9 _ _) (meets_str_split_not_found x y t u h1 hy hf) (fin [(x,t)] _ ((if_neg (ne_true_of_eq_false h1)).trans (if_pos hf)).symm)
 ·exact EN FP (EP _ _ _) Fs (E9 _ _) (meets_str_split_cannot_occur x y t u h1) (fin [(x,t)] _ (if_pos h1).symm)
end
end
theorem aBE {A:Ba} (h:A.handled=none):A.mark none=A:=by
 cases A;simp only at h;subst h;rfl
noncomputable def mK (e iter':AO) (env:Env) (D0:Addr):Sem Unit:=do
 let x ← eval iter' env
 standAt iter'.pos
 let x ← Be iter' env x
 let _ ← runOwn (.compStart e 1 (← holding [x] (pyIter x)) (.ref D0) env) env
noncomputable def aAx (elt:AO) (env:Env) (D0:Addr):Sem Unit:=do let v ← eval elt env;standAt elt.pos;let _ ← call (.builtin "set.add") [.ref D0,v]
noncomputable def aCO (k v:AO) (env:Env) (D0:Addr):Sem Unit:=do
 let kv ← eval k env
 let vv ← holding [kv] (eval v env)
 standAt { k.pos with endLine:=v.pos.endLine,endCol:=v.pos.endCol }
 holding [kv,vv] (dictSet D0 kv vv)
section
theorem Em.inner {n tup e scope iter' target' ifs' items'} {Kl:(Str→Option D)→Prop} {asg:(Str→Option D)→(Str→Option D)} {asg':D→(Str→Option D)→(Str→Option D)} {p':D→Bool} {step:D→D→D} {acc:D} {emit':Env→Addr→Sem Unit}
  (hA:dF n A) (ec:EC w T X env h) (htup:tup=true→∃ es k p,target'=.Tuple es k p)
  (heq:∀ I D0 env',compTurn e 1 (.ref I) (.ref D0) env'=eY target' iter' ifs' (.ref I) env' (emit' env' D0) (.compLoop e 1 (.ref I) (.ref D0) env'))
  (hf:∀ it acc env',(Code.compLoop e 1 it acc env').isFrame=false) (hund:∀ it acc env',A.under (.compLoop e 1 it acc env')=A)
  (hf2:∀ it acc env',(Code.compStart e 1 it acc env').isFrame=false) (hund2:∀ it acc env',A.under (.compStart e 1 it acc env')=A) (ha:((clausesOf e)[1]?).elim false (·.is_async != 0)=false)
  (hs:∀ env x,Be iter' env x=pure x)
  (hK0:∀ l,Kl (asg l)) (hK1:∀ d l,Kl l→Kl (asg' d l))
  (src:∀ C Xc h' l,CE w T X env h Xc (cv scope C env) h' (asg l)→fX w Xc A tup (cv scope C env) h' iter' items')
  (tgt:∀ C d l,d∈items'→Tg (cv scope C env) target' d l (asg' d l))
  (tst:∀ C Xc h' d l,d∈items'→Kl l→CE w T X env h Xc (cv scope C env) h' (asg' d l)→Ts w Xc A (cv scope C env) h' ifs' (p' d))
  (em:∀ i d,items'[i]?=some d→p' d=true→Em w T X A env h scope (gL env scope.names []) Kl (asg' d) emit' (dS p' step acc (items'.take i)) (step (dS p' step acc (items'.take i)) d)) :
  Em w T X A env h scope (gL env scope.names []) (fun _=>True) asg (mK e iter') acc (dS p' step acc items'):=by
 intro C D0 sb sx Xc s2 l hle toSb _ hXc hx2 S;have hcl:∀ p∈gL env scope.names [],env.cells.lookup p.1=some p.2:=fun p m=>(iB _ _ p m).resolve_left fun q=>nomatch q;have ce:=lQ ec hle hcl (toSb _ _ _ _ S) hx2;unfold mK;simp only [hs,pure_bind];refine Ab (B9 ((src C Xc s2.heap l ce).use S.live aZ.rfl fun I fp wr Stt Mid s3 s4 k3 k4 it=>?_) (fun v s3 z=>Ab (B2 (Ab (BA z)))) fun _ _ f=>f);have k34:=aD k3 k4;refine Ab (wpAny_runOwn ?_);rw [aBE hA.hh];have fresh0:∀ b∈wr,s2.heap.get? b=none:=fun b m=>by
  cases e:s2.heap.get? b with
  | none=>rfl
  | some o=>have:=aN k3 _ _ e;rw [it.fresh b m] at this;cases this
 have wrX:∀ b∈wr,b∉Xc:=fun b m q=>by refine ob11 (S.live.1 b q) fun o e=>?_;rw [fresh0 b m] at e;cases e
 have wrT:aK∉wr:=fun m=>by refine ob11 S.live.2 fun o e=>?_;rw [fresh0 _ m] at e;cases e
 have s0none:∀ b∈wr,b∈Fx (cv scope C env) D0∨sx.heap.get? b=none:=fun b m=>by
  by_cases z:b∈Fx (cv scope C env) D0
  ·exact .inl z
  ·refine .inr ?_
   cases e:sx.heap.get? b with
   | none=>rfl
   | some o=>have:=S.base.get z e;rw [fresh0 b m] at this;cases this
 have S4:St w T sx (Fx (cv scope C env) D0) (wr++Xc) (cv scope C env) s4 (asg l) [(D0,acc)]:=S.hide fresh0 k34 it.live;have hmu:∀ p∈[(D0,acc)],p.1∈Xc:=fun p m=>(S.mus p m).1;have up0:aZ (hx Xc s3.heap) (hx (wr++Xc) s4.heap):=aJ (fun b o _ e=>aN k4 b o e) fun y m=>(BM.mp m).elim (fun q=>.inr (it.fresh y q)) .inl;have main:codeAny (AI prog w) A (.compLoop e 1 (.ref I) (.ref D0) (cv scope C env)) (fun r s'=>r=.ok .next∧∃ l',St w T sx (Fx (cv scope C env) D0) Xc (cv scope C env) s' l' [(D0,dS p' step acc items')]) s4:=by
  refine sQ (X:=Xc) hA (heq I D0 _) (hf _ _ _) (hund _ _ _) it htup it.start S4 S.mem hmu (fun b m=>⟨wrX b m,s0none b m⟩) wrT it.seen up0
   (fun i l mu=>Kl l∧mu=[(D0,dS p' step acc (items'.take i))]) ⟨hK0 l,rfl⟩ _ ?_ ?_
  ·rintro i d s5 l5 mu5 hd ⟨kl5,rfl⟩ - hle5 S5
   have md:d∈items':=AB hd;refine ⟨_,tgt C d l5 md,fun s6 S6=>?_⟩;have toSb':∀ Y s7 l7 d7,St w T s5 (Fx (cv scope C env) D0) Y (cv scope C env) s7 l7 [(D0,d7)]→
     St w T sb [] Y (cv scope C env) s7 l7 [(D0,d7)]:=fun Y s7 l7 d7 S7=>toSb Y s7 l7 d7 (S5.unbase S7 rfl)
   have hXc':∀ a∈Fx (cv scope C env) D0,a∈wr++Xc:=fun a m=>Ad _ (hXc a m);have hx6:aZ (hx X sb.heap) (hx (wr++Xc) s6.heap):=(hx2.trans ((aL (aN k3)).trans hle5)).trans (aJ (fun b o n e=>S6.base.get (fun m=>n (hXc' b m)) e) fun y m=>.inl m);refine cF ((tst C _ s6.heap d l5 md kl5 (lQ ec hle hcl (toSb' _ _ _ _ S6) hx6)).go s6 S6.live aZ.rfl) fun ok s7 z=>?_;refine bM z ?_;clear z;rintro rfl k7;have S7:=S6.keeps k7;have hx7:=hx6.trans (aL (aN k7));cases hp:p' d with
   | false=>exact ⟨_,_,⟨hK1 d l5 kl5,by rw [gY hd,jH,hp];rfl⟩,S7,rfl⟩
   | true=>
    refine cF (em i d hd hp C D0 sb s5 _ s7 l5 hle toSb' kl5 hXc' hx7 S7) fun _ s8 z8=>?_;refine ob12 z8 fun l' kl' S8=>?_;clear z8;exact ⟨l',_,⟨kl',by rw [gY hd,jH,hp];rfl⟩,S8,rfl⟩
  ·rintro s5 l5 mu5 ⟨kl5,rfl⟩ - S5
   refine ⟨rfl,l5,?_⟩;rw [DQ] at S5;exact S5
 refine lZ (hf2 _ _ _) (hund2 _ _ _) ha (Gg main (by rintro r s' ⟨rfl,l',S6⟩;exact Aj ⟨l',trivial,S6⟩)) ?_;exact it.self 0 _ _ it.start (Gg main (by rintro r s' ⟨rfl,l',S6⟩;exact Aj ⟨l',trivial,S6⟩))
theorem Em.set {scope Kl asg elt x} {xs:List Str} (ec:EC w T X env h) (hl:xs.length≤1000) (hK:∀ l,Kl l→Kl (asg l))
  (el:∀ C Xc h' l,Kl l→CE w T X env h Xc (cv scope C env) h' (asg l)→Ev w Xc A (cv scope C env) h' elt (.str x)) :
  Em w T X A env h scope (gL env scope.names []) Kl asg (aAx elt) (.sset xs) (.sset (xs++[x])):=by
 intro C D0 sb sx Xc s2 l hle toSb kl hXc hx2 S;have hcl:∀ p∈gL env scope.names [],env.cells.lookup p.1=some p.2:=fun p m=>(iB _ _ p m).resolve_left fun q=>nomatch q;have ce:=lQ ec hle hcl (toSb _ _ _ _ S) hx2;unfold aAx;refine Ab ((el C Xc s2.heap l kl ce).use S.live aZ.rfl fun v s3 r k3=>Ab (B2 ?_));have S3:=S.keeps k3;refine eG (S3.mus (D0,.sset xs) (.head _)) fun aX _ _ mm=>?_;refine ob11 r.ofStr ?_;rintro t rfl;cases mm with
 | @sset S0 n' _ p q q2 np=>
  refine Ab (pC (k:=x) (Fh prog w x t) rfl rfl p np (Bp (DT (Ao (Ao q2 aCI) hl)) (by decide)) fun h' hs hp np'=>?_);have c:Ch [D0] s3 { s3 with heap:=h',toks:=s3.toks+1 }:=Ch.heap fun b o n e=>hs.extBut b o (fun q=>n (q▸.head _)) e;refine vF (id hp) fun o' es' ep' t' ho' _=>?_;refine Aj ⟨_,hK l kl,S3.mutate (pre:=[]) (post:=[]) c ⟨_,ho'⟩ (.sset hp (fun k=>?_) ?_ np')⟩
  ·rw [q k]
   simp [BM]
  ·have e:decide (x∈fO xs)=S0 x:=by rw [q x];rw [EW];simp [wB]
   rw [aBl,wY,e];split
   ·exact q2
   ·exact DT q2
theorem Em.idict {scope Kl asg ek ev k d} {ds:List (Int×D)} (ec:EC w T X env h) (hl:ds.length≤1000) (hK:∀ l,Kl l→Kl (asg l))
  (elk:∀ C Xc h' l,Kl l→CE w T X env h Xc (cv scope C env) h' (asg l)→Ev w Xc A (cv scope C env) h' ek (.int k))
  (elv:∀ C Xc h' l,Kl l→CE w T X env h Xc (cv scope C env) h' (asg l)→Ev w Xc A (cv scope C env) h' ev d) :
  Em w T X A env h scope (gL env scope.names []) Kl asg (aCO ek ev) (.idict ds) (.idict (dU ds k d)):=by
 intro C D0 sb sx Xc s2 l hle toSb kl hXc hx2 S;have hcl:∀ p∈gL env scope.names [],env.cells.lookup p.1=some p.2:=fun p m=>(iB _ _ p m).resolve_left fun q=>nomatch q;have ce:=lQ ec hle hcl (toSb _ _ _ _ S) hx2;unfold aCO;refine Ab ((elk C Xc s2.heap l kl ce).use S.live aZ.rfl fun kv s3 rk k3=>Ab (BA ((elv C Xc s2.heap l kl ce).use (S.live.mono (aN k3)) (aN k3) fun vv s4 rv k4=>?_)));refine Ab (B2 (BA ?_));have S4:=S.keeps (aD k3 k4);refine eG (S4.mus (D0,.idict ds) (.head _)) fun aX _ _ mm=>?_;refine ob11 rk.ofInt ?_;rintro t rfl;cases mm with
 | @idict kvs _ q p rs=>
  refine wpAny_dictSet_pairs (knd:=BL prog w) (k:=k) (C4 prog w k t) p (fun h' hp hs=>?_) (by rw [rs.length];exact Ao hl bD);have c:Ch [D0] s4 { s4 with heap:=h',toks:=s4.toks+1 }:=Ch.heap fun b o n e=>hs.extBut b o (fun q=>n (q▸.head _)) e;have hm:aZ (hx Xc s4.heap) (hx Xc h'):=aJ (fun b o n e=>hs.extBut b o (fun q=>n (q▸aX)) e) fun y m=>.inl m;refine fW (id hp) fun o' es' ep' ho' _=>?_;exact ⟨_,hK l kl,S4.mutate (pre:=[]) (post:=[]) c ⟨_,ho'⟩ (.idict q hp ((rs.stored rv).mono hm))⟩
end
noncomputable def fM:D→Str
 | .str x=>x
 | _=>""
noncomputable def aDb:D→Prop
 | .str _=>True
 | _=>False
theorem wK {α β:Type} (f:α→β):∀ l:List α,(l.flatMap fun d=>[f d])=l.map f
 | []=>rfl
 | a::r=>by rw [AL,AC,wK f r];rfl
section
theorem gZ.idict:gZ w A newDict (.idict []):=fun X s Q hX q=>by
 refine AV (q _ _ (aH (Am _)) bT ⟨_,Ae _ rfl⟩ (.idict (kvs:=[]) ?_ (D9 s.heap) .nil));refine ob11 hX.2 fun o e=>?_;have:=AK e;have h1:aK<s.heap.objs.size:=this;have:s.heap.objs.size≠Cv:=fun z=>by rw [z] at h1;exact absurd h1 (by decide)
 simpa using this
theorem gZ.sset:gZ w A (newSet (.type "set")) (.sset []):=fun X s Q hX q=>
 wpAny_newSet_of (knd:=strKind prog w) fun led hS=>q _ _ (aH (Am _)) bT ⟨_,Ae _ rfl⟩ (.sset hS (fun k=>by simp) (Am _) ⟨_,_,_,_,Ae _ rfl,rfl,.inr rfl⟩)
structure tZ (w:Bl) (T:lU) (A:Ba) (elt:AO) (emit:Env→Addr→Sem Unit) (mk:List D→D) (ok:D→Prop):Prop where
 em:∀ X env h scope Kl asg ds f,EC w T X env h→ds.length≤1000→ok f→(∀ l,Kl l→Kl (asg l))→
  (∀ C Xc h' l,Kl l→CE w T X env h Xc (cv scope C env) h' (asg l)→Ev w Xc A (cv scope C env) h' elt f)→
  Em w T X A env h scope (gL env scope.names []) Kl asg emit (mk ds) (mk (ds++[f]))
theorem tZ.list {elt}:tZ w T A elt (aAw elt) .list (fun _=>True):=⟨fun X env h scope Kl asg ds f ec hl _ hK el=>Em.list ec (Ao hl (by decide)) hK el⟩
theorem tZ.set {elt}:tZ w T A elt (aAx elt) (fun ds=>.sset (ds.map fM)) aDb:=⟨fun X env h scope Kl asg ds f ec hl ok hK el=>by
 cases f with
 | str x=>
  rw [Ax];exact Em.set ec (by rw [Ac];exact hl) hK el
 | _=>exact ok.elim⟩
structure gN (w:Bl) (T:lU) (A:Ba) (e:AO) (newAcc:Sem Ag) (acc0:D) (g:Comprehension) (gs:List Comprehension) (scope:C6) (pos:Pos):Prop where
 new:gZ w A newAcc acc0
 cl:clausesOf e=g::gs
 hf:∀ it acc env',(Code.compStart e 0 it acc env').isFrame=false
 hund:∀ it acc env',A.under (.compStart e 0 it acc env')=A
 hf1:∀ it acc env',(Code.compLoop e 0 it acc env').isFrame=false
 hund1:∀ it acc env',A.under (.compLoop e 0 it acc env')=A
 tree:∀ env use,kM e env use=comprehension e scope env pos newAcc false (eval g.iter env) use
 sync:g.is_async=0
theorem Cq.gen {n tup e newAcc acc0 target iter ifs gs scope pos items} {emit:Env→Addr→Sem Unit} {asg:D→(Str→Option D)→(Str→Option D)} {p:D→Bool} {step:D→D→D} (hA:dF n A) (ec:EC w T X env h)
  (wh:gN w T A e newAcc acc0 ⟨target,iter,ifs,0⟩ gs scope pos)
  (src:fX w X A tup env h iter items)
  (heq:∀ I D0 env',compTurn e 0 (.ref I) (.ref D0) env'=eY target iter ifs (.ref I) env' (emit env' D0) (.compLoop e 0 (.ref I) (.ref D0) env'))
  (tgt:∀ C d l,d∈items→Tg (cv scope C env) target d l (asg d l))
  (tst:∀ C Xc h' d l,d∈items→CE w T X env h Xc (cv scope C env) h' (asg d l)→Ts w Xc A (cv scope C env) h' ifs (p d))
  (em:∀ h2,aZ h h2→∀ i d,items[i]?=some d→p d=true→Em w T X A env h2 scope (gL env scope.names []) (fun _=>True) (asg d) emit (dS p step acc0 (items.take i)) (step (dS p step acc0 (items.take i)) d))
  (hz:(dS p step acc0 items).frz=true)
  (htup:autoParam (tup=true→∃ es k p,target=.Tuple es k p) ak)
  (hfree:autoParam (iC env scope.names=true) aq) (hkind:autoParam (scope.kind=.function) aq) (hnames:autoParam (iK scope.names=true) aq) (hs:autoParam (∀ env x,Be iter env x=pure x) ak) :
  Cq w X A env h e (dS p step acc0 items):=by
 refine .mk ?_;intro s use Q E hX k q;have ecs:=ec.mono k;have hcl:∀ p∈gL env scope.names [],∃ o,s.heap.get? p.2=some o:=fun p m=>ecs.live (p.1,p.2) (mem_of_lookup ((iB _ _ p m).resolve_left fun q=>nomatch q));have run:=aBh (e:=e) (emit:=emit) (p:=p) (step:=step) (d0:=acc0) hA (ec.mono k) htup heq wh.hf1 wh.hund1
  tgt (fun C Xc h' d l md ce=>tst C Xc h' d l md (ce.weak k)) (em _ k)
 rw [wh.tree];exact aBi hA ecs.gb hX ecs.wd (lY hfree) hcl wh.cl (hs env) hkind (zL hnames) (src.mono k) hz wh.new wh.hf wh.hund (by rw [wh.cl];rfl) run q
theorem kK {mk:List D→D} {p:D→Bool} {g:D→List D} {step:D→D→D} (hstep:∀ xs d,step (mk xs) d=mk (xs++g d)):∀ (items:List D) (ds:List D),dS p step (mk ds) items=mk (ds++(items.filter p).flatMap g)
 | [],ds=>by simp [dS]
 | d::r,ds=>by
  have e:dS p step (mk ds) (d::r)=dS p step (if p d then step (mk ds) d else mk ds) r:=rfl;rw [e];cases hp:p d with
  | true=>rw [if_pos rfl,hstep,kK hstep r];simp [hp,AG]
  | false=>rw [if_neg CX,kK hstep r];simp [hp]
theorem Cq.one {n tup e elt newAcc target iter ifs scope pos items} {emit:Env→Addr→Sem Unit} {mk:List D→D} {ok:D→Prop} {un:D→List D} {asg:D→(Str→Option D)→(Str→Option D)} {p:D→Bool} {f:D→D} (hA:dF n A) (ec:EC w T X env h)
  (wh:gN w T A e newAcc (mk []) ⟨target,iter,ifs,0⟩ [] scope pos) (co:tZ w T A elt emit mk ok) (hun:∀ xs g,mk (un (mk xs)++g)=mk (xs++g)) (hz:∀ xs,(mk xs).frz=true)
  (src:fX w X A tup env h iter items) (hlen:items.length≤1000)
  (heq:∀ I D0 env',compTurn e 0 (.ref I) (.ref D0) env'=eY target iter ifs (.ref I) env' (emit env' D0) (.compLoop e 0 (.ref I) (.ref D0) env'))
  (tgt:∀ C d l,d∈items→Tg (cv scope C env) target d l (asg d l))
  (tst:∀ C Xc h' d l,d∈items→CE w T X env h Xc (cv scope C env) h' (asg d l)→Ts w Xc A (cv scope C env) h' ifs (p d))
  (el:∀ C Xc h' d l,d∈items→p d=true→CE w T X env h Xc (cv scope C env) h' (asg d l)→Ev w Xc A (cv scope C env) h' elt (f d))
  (hok:∀ d∈items,ok (f d))
  (htup:autoParam (tup=true→∃ es k p,target=.Tuple es k p) ak)
  (hfree:autoParam (iC env scope.names=true) aq) (hkind:autoParam (scope.kind=.function) aq) (hnames:autoParam (iK scope.names=true) aq) (hs:autoParam (∀ env x,Be iter env x=pure x) ak) :
  Cq w X A env h e (mk ((items.filter p).map f)):=by
 have st:∀ xs d,(fun a d=>mk (un a++[f d])) (mk xs) d=mk (xs++(fun d=>[f d]) d):=fun xs d=>by dsimp only;rw [hun]
 have key:=kK (mk:=mk) (step:=fun a d=>mk (un a++[f d])) (p:=p) (g:=fun d=>[f d]) st;have e0:((items.filter p).flatMap fun d=>[f d])=(items.filter p).map f:=wK f _;have:=Cq.gen (p:=p) (step:=fun a d=>mk (un a++[f d])) hA ec wh src heq tgt tst (fun h2 k i d hd hp=>by
  rw [key,hun,Cx];have hl:(((items.take i).filter p).flatMap fun d=>[f d]).length≤1000:=by
   rw [wK f,Ac];exact Ao (BS _ _) (Ao (by rw [AE];exact CA _ _) hlen)
  exact co.em X env h2 scope _ (asg d) _ (f d) (ec.mono k) hl (hok d (AB hd)) (fun _ z=>z) fun C Xc h' l _ ce=>el C Xc h' d l (AB hd) hp (ce.weak k)) (by rw [key];exact hz _) htup hfree hkind hnames hs
 rw [key,Cx,e0] at this;exact this
theorem Cq.two {n tup tup' e elt newAcc target iter ifs target' iter' ifs' scope pos items} {emit:Env→Addr→Sem Unit} {mk:List D→D} {ok:D→Prop} {un:D→List D} {asg:D→(Str→Option D)→(Str→Option D)} {asg':D→D→(Str→Option D)→(Str→Option D)}
  {p:D→Bool} {its:D→List D} {p':D→D→Bool} {f:D→D→D} {Kl:D→(Str→Option D)→Prop} (hA:dF n A) (ec:EC w T X env h)
  (wh:gN w T A e newAcc (mk []) ⟨target,iter,ifs,0⟩ [⟨target',iter',ifs',0⟩] scope pos) (co:tZ w T A elt emit mk ok) (hun:∀ xs g,mk (un (mk xs)++g)=mk (xs++g)) (hz:∀ xs,(mk xs).frz=true)
  (src:fX w X A tup env h iter items) (hlen:(items.flatMap its).length≤1000)
  (heq:∀ I D0 env',compTurn e 0 (.ref I) (.ref D0) env'=eY target iter ifs (.ref I) env' (mK e iter' env' D0) (.compLoop e 0 (.ref I) (.ref D0) env'))
  (heq':∀ I D0 env',compTurn e 1 (.ref I) (.ref D0) env'=eY target' iter' ifs' (.ref I) env' (emit env' D0) (.compLoop e 1 (.ref I) (.ref D0) env'))
  (hf:∀ it acc env',(Code.compLoop e 1 it acc env').isFrame=false) (hund:∀ it acc env',A.under (.compLoop e 1 it acc env')=A)
  (hf2:∀ it acc env',(Code.compStart e 1 it acc env').isFrame=false) (hund2:∀ it acc env',A.under (.compStart e 1 it acc env')=A)
  (tgt:∀ C d l,d∈items→Tg (cv scope C env) target d l (asg d l))
  (tst:∀ C Xc h' d l,d∈items→CE w T X env h Xc (cv scope C env) h' (asg d l)→Ts w Xc A (cv scope C env) h' ifs (p d))
  (hK0:∀ d l,d∈items→Kl d (asg d l)) (hK1:∀ d d' l,Kl d l→Kl d (asg' d d' l))
  (src':∀ C Xc h' d l,d∈items→CE w T X env h Xc (cv scope C env) h' (asg d l)→fX w Xc A tup' (cv scope C env) h' iter' (its d))
  (tgt':∀ C d d' l,d∈items→d'∈its d→Tg (cv scope C env) target' d' l (asg' d d' l))
  (tst':∀ C Xc h' d d' l,d∈items→d'∈its d→Kl d l→CE w T X env h Xc (cv scope C env) h' (asg' d d' l)→Ts w Xc A (cv scope C env) h' ifs' (p' d d'))
  (el:∀ C Xc h' d d' l,d∈items→d'∈its d→p' d d'=true→Kl d l→CE w T X env h Xc (cv scope C env) h' (asg' d d' l)→Ev w Xc A (cv scope C env) h' elt (f d d'))
  (hok:∀ d∈items,∀ d'∈its d,ok (f d d'))
  (htup:autoParam (tup=true→∃ es k p,target=.Tuple es k p) ak)
  (htup':autoParam (tup'=true→∃ es k p,target'=.Tuple es k p) ak)
  (hfree:autoParam (iC env scope.names=true) aq) (hkind:autoParam (scope.kind=.function) aq) (hnames:autoParam (iK scope.names=true) aq) (hs:autoParam (∀ env x,Be iter env x=pure x) ak)
  (hs':autoParam (∀ env x,Be iter' env x=pure x) ak) :
  Cq w X A env h e (mk ((items.filter p).flatMap fun d=>((its d).filter (p' d)).map (f d))):=by
 have hg:∀ d,(((its d).filter (p' d)).flatMap fun d'=>[f d d'])=((its d).filter (p' d)).map (f d):=fun d=>wK (f d) _;have st:∀ xs d,(fun a d=>mk (un a++((its d).filter (p' d)).map (f d))) (mk xs) d=mk (xs++(fun d=>((its d).filter (p' d)).map (f d)) d):=fun xs d=>by dsimp only;rw [hun]
 have key:=kK (mk:=mk) (step:=fun a d=>mk (un a++((its d).filter (p' d)).map (f d))) (p:=p) (g:=fun d=>((its d).filter (p' d)).map (f d)) st;have st':∀ d0 xs d,(fun a d=>mk (un a++[f d0 d])) (mk xs) d=mk (xs++(fun d=>[f d0 d]) d):=fun d0 xs d=>by dsimp only;rw [hun]
 have key':=fun d0=>kK (mk:=mk) (step:=fun a d=>mk (un a++[f d0 d])) (p:=p' d0) (g:=fun d=>[f d0 d]) (st' d0);have fl:∀ (r:List D),((r.filter p).flatMap fun d=>((its d).filter (p' d)).map (f d)).length≤(r.flatMap its).length:=fun r=>by
  induction r with
  | nil=>exact Am _
  | cons a r ih=>
   rw [List.filter_cons,AL,Af];split
   ·rw [AL,Af,Ac]
    exact IB (BS _ _) ih
   ·exact Ao ih (Ia _ _)
 have:=Cq.gen (p:=p) (step:=fun a d=>mk (un a++((its d).filter (p' d)).map (f d))) hA ec wh src heq tgt tst (fun h2 k i d hd hp=>by
  have md:=AB hd;rw [key,hun,Cx,← hg d,← key' d];refine Em.inner (p':=p' d) (step:=fun a d'=>mk (un a++[f d d'])) (Kl:=Kl d) (asg':=asg' d) hA (ec.mono k) htup' heq' hf hund hf2 hund2 (by rw [wh.cl];rfl) hs' (fun l=>hK0 d l md) (fun d' l z=>hK1 d d' l z) (fun C Xc h' l ce=>src' C Xc h' d l md (ce.weak k))
   (fun C d' l m=>tgt' C d d' l md m) (fun C Xc h' d' l m kl ce=>tst' C Xc h' d d' l md m kl (ce.weak k)) (fun j d' hd' hp'=>?_)
  have md':=AB hd';rw [key' d,hun];refine co.em X env h2 scope _ (asg' d d') _ (f d d') (ec.mono k) ?_ (hok d md d' md') (fun l z=>hK1 d d' l z) fun C Xc h' l kl ce=>el C Xc h' d d' l md md' hp' kl (ce.weak k);have e1:((((its d).take j).filter (p' d)).flatMap fun d'=>[f d d']).length≤(its d).length:=by
   rw [wK (f d),Ac];exact Ao (BS _ _) (by rw [AE];exact CA _ _)
  have e2:((items.take i).flatMap its).length+(its d).length≤(items.flatMap its).length:=by
   have:items.flatMap its=(items.take i).flatMap its++(its d++(items.drop (i+1)).flatMap its):=by
    have hlt:=(Aw.mp hd).1;have e:=Bs i items;have e3:items.drop i=d::items.drop (i+1):=by
     rw [Bv hlt];rw [(Aw.mp hd).2]
    rw [← AL,← e3,← Cw,e]
   rw [this,Af,Af];exact N3 1 0
  rw [Af];exact Ao (IB (fl _) e1) (Ao e2 hlen)) (by rw [key];exact hz _) htup hfree hkind hnames hs
 rw [key,Cx] at this;exact this
end
section
theorem aCo {pos f fs es ds} {Q:Ag→Ak→Prop} (kp:Kp w h f) (hX:XL X s.heap) (k:aZ h s.heap) (ha:Es w X A env h es ds)
  (hpl:(backTo pos (AF es env)).any (·.1)=false) (q:∀ vs s',cG w (hx X s'.heap) vs ds→A0 s s'→Au (AI prog w) A (call f (fs++vs) []) Q E s'):Au (AI prog w) A (callWith pos f fs (backTo pos (AF es env)) []) Q E s:=by
 refine H0 (P:=fun g=>aZ h g) (by rw [hpl];rfl) (fun g kg=>kp.mono kg) (gR hpl (cF (ha.go s pos hX k) fun vs s1 z=>⟨k.trans (aN z.2),?_⟩));exact q vs s1 z.1 z.2
theorem eU {x p es pos f ds} {Q:Ag→Ak→Prop} (hX:XL X s.heap) (k:aZ h s.heap) (hf:Ev w X A env h (.Name x p) (.val f)) (kp:Kp w h f) (ha:Es w X A env h es ds)
  (q:∀ vs s',cG w (hx X s'.heap) vs ds→A0 s s'→Au (AI prog w) A (call f vs []) Q E s') (hpl:autoParam ((backTo pos (AF es env)).any (·.1)=false) aq):Au (AI prog w) A (eval (.Call (.Name x p) es [] pos) env) Q E s:=by
 show Au _ _ (do callWith pos (← eval (.Name x p) env) [] (backTo pos (AF es env)) []) _ _ _;refine Ab (hf.use hX k fun v s1 r k1=>?_);rw [r.ofVal];exact aCo kp (hX.mono (aN k1)) (k.trans (aN k1)) ha hpl fun vs s2 r k2=>q vs s2 r (aD k1 k2)
theorem aCS {o name apos es pos v f ds} {Q:Ag→Ak→Prop} (hX:XL X s.heap) (k:aZ h s.heap) (ho:Ev w X A env h o (.val v)) (kp:Kp w h f) (ha:Es w X A env h es ds)
  (hm:∀ (s1:Ak) (pl:Sem Bool),A0 s s1→Au (AI prog w) A (getMethod v name pl) (fun r s'=>r=(f,[v])∧s'=s1) (fun _ _=>False) s1)
  (q:∀ vs s',cG w (hx X s'.heap) vs ds→A0 s s'→Au (AI prog w) A (call f (v::vs) []) Q E s') (hpl:autoParam ((backTo pos (AF es env)).any (·.1)=false) aq)
  {pl:Sem Bool} (he:autoParam (eval (.Call (.Attribute o name apos) es [] pos) env=(do
   let ov ← eval o env
   standAt apos.atName
   let (f,first) ← holding [ov] (getMethod ov name pl)
   callWith pos f first (backTo pos (AF es env)) (backToKw pos (keywordEach [] env)))) aq):Au (AI prog w) A (eval (.Call (.Attribute o name apos) es [] pos) env) Q E s:=by
 rw [he];refine Ab (ho.use hX k fun v' s1 r k1=>Ab (B2 (Ab (BA ?_))));cases r.ofVal;refine cF (hm s1 pl k1) fun fx s2 z=>?_;refine bM z ?_;clear z;rintro rfl rfl;exact aCo kp (hX.mono (aN k1)) (k.trans (aN k1)) ha hpl fun vs s2 r k2=>q vs s2 r (aD k1 k2)
theorem oW {a:Addr} {ds name id} {pl:Sem Bool} (m:cN w X s.heap a (.list ds)) (slot:Slot "list" name id) (hty:typeOf (.builtin id)=pure (.type "method_descriptor")) :
  Au (AI prog w) A (getMethod (.ref a) name pl) (fun r s'=>r=(.builtin id,[.ref a])∧s'=s) (fun _ _=>False) s:=by
 cases m with
 | list p r=>
  refine ob11 p fun n e=>?_;clear p;exact Di ⟨_,e,rfl⟩ Hn slot hty (fun b q=>by cases q;exact ⟨_,e,rfl⟩) ⟨rfl,rfl⟩
theorem St.muAt {a d} (S:St w T s₀ F X env s l mu) (hm:(a,d)∈mu):cN w X s.heap a d:=(S.mus _ hm).2.2.2
theorem eO {x p ap e pos pos' a ds d pre post} {pl:Sem Bool} (S:St w T s₀ F X env s l (pre++(a,.list ds)::post)) (hl:l x=some (.val (.ref a))) (he:Ev w X A env s.heap e d) (hsz:ds.length≤100000)
  (k:∀ s',St w T s₀ F X env s' l (pre++(a,.list (ds++[d]))::post)→Xs w A rest env Q E s')
  (hst:autoParam (AF [e] env=(false,eval e env)::AF [] env) aq) (hi:autoParam (interactive env=false) aq) (hs:autoParam (Cd (.Call (.Attribute (.Name x p) "append" ap) [e] [] pos) none pos'.line env=pure false) aq)
  (hd:autoParam ((x==("__debug__":Str))=false) ad)
  (hev:autoParam (eval (.Call (.Attribute (.Name x p) "append" ap) [e] [] pos) env=(do
   let ov ← eval (.Name x p) env
   standAt ap.atName
   let (f,first) ← holding [ov] (getMethod ov "append" pl)
   callWith pos f first (backTo pos (AF [e] env)) (backToKw pos (keywordEach [] env)))) aq) :
  Xs w A (.Expr (.Call (.Attribute (.Name x p) "append" ap) [e] [] pos) pos'::rest) env Q E s:=by
 refine cI (IK ?_ hi hs);refine aCS S.live aZ.rfl (Ev.name (S.nm hl) hd) Kp.builtin (Es.one he hst) (fun s1 pl k1=>oW ((S.keeps k1).muAt (Ad _ (.head _))) FK FL) (fun vs s1 r k1=>?_) (by rw [hst];rfl) hev;refine ob12 r.c1 ?_;rintro _ rfl r9;have r:=r9;exact fK (S.keeps k1) r hsz fun s2 S2=>(k s2 S2).go
theorem uN {x p ke kp e pos a ds d kk pre post} (S:St w T s₀ F X env s l (pre++(a,.idict ds)::post)) (hl:l x=some (.val (.ref a))) (he:Ev w X A env s.heap e d) (hk:Ev w X A env s.heap ke (.int kk)) (hsz:ds.length≤100000)
  (k:∀ s',St w T s₀ F X env s' l (pre++(a,.idict (dU ds kk d))::post)→Xs w A rest env Q E s')
  (hd:autoParam ((x==("__debug__":Str))=false) ad) (hs:autoParam (Cd e (some (.Subscript (.Name x p) ke kp)) pos.line env=pure false) aq) :
  Xs w A (.Assign [.Subscript (.Name x p) ke kp] e pos::rest) env Q E s:=by
 refine cI (DD (he.use S.live aZ.rfl fun v s1 r1 k1=>(Ev.name (S.nm hl) hd).use (S.live.mono (aN k1)) (aN k1) fun ov s2 r2 k2=>hk.use (S.live.mono (aN (aD k1 k2))) (aN (aD k1 k2)) fun iv s3 r3 k3=>?_) hs);cases r2.ofVal;refine ob11 r3.ofInt ?_;rintro t rfl;have k123:=aD (aD k1 k2) k3;have S3:=S.keeps k123;refine eG (S3.mus (a,.idict ds) (Ad _ (.head _))) fun aX _ _ mm=>?_;cases mm with
 | @idict kvs _ q p rs=>
  refine D6 (knd:=BL prog w) (k:=kk) (C4 prog w kk t) p (fun h' hp hs=>?_) (by rw [rs.length];exact Ao hsz (by decide));have c:Ch [a] s3 { s3 with heap:=h',toks:=s3.toks+1 }:=Ch.heap fun b o n e=>hs.extBut b o (fun q=>n (q▸.head _)) e;have hm:aZ (hx X s3.heap) (hx X h'):=aJ (fun b o n e=>hs.extBut b o (fun q=>n (q▸aX)) e) fun y m=>.inl m;refine fW (id hp) fun o' es' ep' ho' _=>?_;exact (k _ (S3.mutate c ⟨_,ho'⟩ (.idict q hp ((rs.stored (r1.kp (aD k2 k3))).mono hm)))).go
theorem aEs {x p ke kp e pos a ds d kk pre post} (S:St w T s₀ F X env s l (pre++(a,.sdict ds)::post)) (hl:l x=some (.val (.ref a)))
  (he:Au (AI prog w) A (eval e env) (fun v s1=>Rp w (hx X s1.heap) v d∧A0 s s1) (fun _ _=>False) s) (hk:Ev w X A env s.heap ke (.str kk)) (hsz:ds.length≤100000)
  (k:∀ s',St w T s₀ F X env s' l (pre++(a,.sdict (dU ds kk d))::post)→Xs w A rest env Q E s')
  (hd:autoParam ((x==("__debug__":Str))=false) ad) (hs:autoParam (Cd e (some (.Subscript (.Name x p) ke kp)) pos.line env=pure false) aq) :
  Xs w A (.Assign [.Subscript (.Name x p) ke kp] e pos::rest) env Q E s:=by
 refine cI (DD (cF he fun v s1 z=>(Ev.name (S.nm hl) hd).use (S.live.mono (aN z.2)) (aN z.2) fun ov s2 r2 k2=>hk.use (S.live.mono (aN (aD z.2 k2))) (aN (aD z.2 k2)) fun iv s3 r3 k3=>?_) hs);refine bM z fun r1 k1=>?_;clear z;cases r2.ofVal;refine ob11 r3.ofStr ?_;rintro t rfl;have k123:=aD (aD k1 k2) k3;have S3:=S.keeps k123;refine eG (S3.mus (a,.sdict ds) (Ad _ (.head _))) fun aX _ _ mm=>?_;cases mm with
 | @sdict kvs _ q p rs=>
  refine D6 (knd:=strKind prog w) (k:=kk) (Fh prog w kk t) p (fun h' hp hs=>?_) (by rw [rs.length];exact Ao hsz (by decide));have c:Ch [a] s3 { s3 with heap:=h',toks:=s3.toks+1 }:=Ch.heap fun b o n e=>hs.extBut b o (fun q=>n (q▸.head _)) e;have hm:aZ (hx X s3.heap) (hx X h'):=aJ (fun b o n e=>hs.extBut b o (fun q=>n (q▸aX)) e) fun y m=>.inl m;refine fW (id hp) fun o' es' ep' ho' _=>?_;exact (k _ (S3.mutate c ⟨_,ho'⟩ (.sdict q hp ((rs.stored (r1.kp (aD k2 k3))).mono hm)))).go
theorem aCT {x p ke pos a ds d kk} (S:St w T s₀ F X env s l mu) (hl:l x=some (.val (.ref a))) (hm:(a,.idict ds)∈mu) (hk:Ev w X A env s.heap ke (.int kk)) (hf:bE ds kk=some d) (hd:autoParam ((x==("__debug__":Str))=false) ad)
  (hs:autoParam (hU ke) ak):Ev w X A env s.heap (.Subscript (.Name x p) ke pos) d:=.mk fun s1 hX1 k1=>
 Gf ((Ev.name (S.nm hl) hd).use hX1 k1 fun ov s2 r2 k2=>hk.use (hX1.mono (aN k2)) (k1.trans (aN k2)) fun iv s3 r3 k3=>by
  cases r2.ofVal;refine ob11 r3.ofInt ?_;rintro t rfl;have kk2:aZ s.heap s3.heap:=(k1.trans (aN k2)).trans (aN k3);have mm:=(S.muAt hm).mono (aL kk2) (fun o e=>kk2 _ _ e);refine ob11 (hs (.ref a) (.int kk t)) fun ops e=>?_;cases mm with
  | @idict kvs _ q p rs=>
   refine ob12 (rs.find hf) fun v hv r=>?_;exact DK p.typeIs C8.lookup (CW (knd:=BL prog w) (C4 prog w kk t) p.mapOf hv ⟨r,aD (aD k2 k3) dG⟩) e)
theorem aFS {x p ke pos a ds d kk} (S:St w T s₀ F X env s l mu) (hl:l x=some (.val (.ref a))) (hm:(a,.sdict ds)∈mu) (hk:Ev w X A env s.heap ke (.str kk)) (hf:bE ds kk=some d) (hd:autoParam ((x==("__debug__":Str))=false) ad)
  (hs:autoParam (hU ke) ak):Ev w X A env s.heap (.Subscript (.Name x p) ke pos) d:=.mk fun s1 hX1 k1=>
 Gf ((Ev.name (S.nm hl) hd).use hX1 k1 fun ov s2 r2 k2=>hk.use (hX1.mono (aN k2)) (k1.trans (aN k2)) fun iv s3 r3 k3=>by
  cases r2.ofVal;refine ob11 r3.ofStr ?_;rintro t rfl;have kk2:aZ s.heap s3.heap:=(k1.trans (aN k2)).trans (aN k3);have mm:=(S.muAt hm).mono (aL kk2) (fun o e=>kk2 _ _ e);refine ob11 (hs (.ref a) (.str kk t)) fun ops e=>?_;cases mm with
  | @sdict kvs _ q p rs=>
   refine ob12 (rs.find hf) fun v hv r=>?_;exact DK p.typeIs C8.lookup (CW (knd:=strKind prog w) (Fh prog w kk t) p.mapOf hv ⟨r,aD (aD k2 k3) dG⟩) e)
theorem aAy {x p ke pos a ds d kk} (hn:Nm w X env h x (.val (.ref a))) (hm:cN w X h a (.idict ds)) (hk:Ev w X A env h ke (.int kk)) (hf:bE ds kk=some d) (hd:autoParam ((x==("__debug__":Str))=false) ad)
  (hs:autoParam (hU ke) ak):Ev w X A env h (.Subscript (.Name x p) ke pos) d:=.mk fun s1 hX1 k1=>
 Gf ((Ev.name hn hd).use hX1 k1 fun ov s2 r2 k2=>hk.use (hX1.mono (aN k2)) (k1.trans (aN k2)) fun iv s3 r3 k3=>by
  cases r2.ofVal;refine ob11 r3.ofInt ?_;rintro t rfl;have kk2:aZ h s3.heap:=(k1.trans (aN k2)).trans (aN k3);have mm:=hm.mono (aL kk2) (fun o e=>kk2 _ _ e);refine ob11 (hs (.ref a) (.int kk t)) fun ops e=>?_;cases mm with
  | @idict kvs _ q p rs=>
   refine ob12 (rs.find hf) fun v hv r=>?_;exact DK p.typeIs C8.lookup (CW (knd:=BL prog w) (C4 prog w kk t) p.mapOf hv ⟨r,aD (aD k2 k3) dG⟩) e)
theorem aFR {x p e pos a ds kk} (S:St w T s₀ F X env s l mu) (hl:l x=some (.val (.ref a))) (hm:(a,.idict ds)∈mu) (he:Ev w X A env s.heap e (.int kk)) (hd:autoParam ((x==("__debug__":Str))=false) ad)
  (hmk:FM .In (.Name x p)=false:=by with_unfolding_all rfl):Tr w X A env s.heap (.Compare e [.In] [.Name x p] pos) (bE ds kk).isSome:=.mk fun s1 hX1 k1=>
 EJ (he.use hX1 k1 fun iv s2 r2 k2=>(Ev.name (S.nm hl) hd).use (hX1.mono (aN k2)) (k1.trans (aN k2)) fun ov s3 r3 k3=>by
  cases r3.ofVal;refine ob11 r2.ofInt ?_;rintro t rfl;have kk2:aZ s.heap s3.heap:=(k1.trans (aN k2)).trans (aN k3);have mm:=(S.muAt hm).mono (aL kk2) (fun o e=>kk2 _ _ e);cases mm with
  | @idict kvs _ q p rs=>
   refine wpAny_in_of (knd:=BL prog w) (C4 prog w kk t) q p.mapOf ?_;refine Dk ⟨rs.isSome,aD (aD k2 k3) dG⟩) hmk
theorem yS {x p ap e pos pos' a} {pl:Sem Bool} (S:St w T s₀ F X env s l mu) (hl:l x=some (.val (.ref a))) {ds0} (hm0:(a,.list ds0)∈mu)
  (he:∀ s0,St w T s₀ F X env s0 l mu→Au (AI prog w) A (eval e env) (fun v s1=>(∃ d ds l1 pre post,Rp w (hx X s1.heap) v d∧St w T s₀ F X env s1 l1 (pre++(a,.list ds)::post)∧ds.length≤100000∧
   ∀ s',St w T s₀ F X env s' l1 (pre++(a,.list (ds++[d]))::post)→Xs w A rest env Q E s')) E s0)
  (hst:autoParam (AF [e] env=(false,eval e env)::AF [] env) aq) (hi:autoParam (interactive env=false) aq) (hs:autoParam (Cd (.Call (.Attribute (.Name x p) "append" ap) [e] [] pos) none pos'.line env=pure false) aq)
  (hd:autoParam ((x==("__debug__":Str))=false) ad)
  (hev:autoParam (eval (.Call (.Attribute (.Name x p) "append" ap) [e] [] pos) env=(do
   let ov ← eval (.Name x p) env
   standAt ap.atName
   let (f,first) ← holding [ov] (getMethod ov "append" pl)
   callWith pos f first (backTo pos (AF [e] env)) (backToKw pos (keywordEach [] env)))) aq) :
  Xs w A (.Expr (.Call (.Attribute (.Name x p) "append" ap) [e] [] pos) pos'::rest) env Q E s:=by
 refine cI (IK ?_ hi hs);rw [hev];refine Ab ((Ev.name (S.nm hl) hd).use S.live aZ.rfl fun v s1 r k1=>?_);cases r.ofVal;have S1:=S.keeps k1;refine Ab (B2 (Ab (BA (cF (oW (S1.muAt hm0) FK FL) fun fx s2 z=>?_))));refine bM z ?_;clear z;rintro rfl rfl;refine Calls.callWith_builtin (by rw [hst];rfl) (gR (by rw [hst];rfl) (Dw (B9 (he s2 S1) (fun v s3 z=>C9 ?_) fun _ _ x=>x) hst));refine aH9 z fun d ds l1 pre post r3 S3 hsz kk=>?_;clear z;exact fK S3 r3 hsz fun s4 S4=>(kk s4 S4).go
theorem yV {x pos' p pos} (S:St w T s₀ F X env s l mu) (k:∀ a s',St w T s₀ F (a::X) env s' (up l x (.val (.ref a))) ((a,.list [])::mu)→s.heap.get? a=none→(∀ y∈Fp env,y≠a)→Xs w A rest env Q E s')
  (hk:autoParam (nB env x) ak) (hs:autoParam (Cd (.List [] p) (some (.Name x pos')) pos.line env=pure false) aq) :
  Xs w A (.Assign [.Name x pos'] (.List [] p) pos::rest) env Q E s:=by
 refine cI (By (Gh (C9 ⟨by show 0≤sizeLine;decide,?_⟩)) hs);have ha:s.heap.get? s.heap.objs.size=none:=aH (Am _);have S1:=S.newMu (d:=.list []) bT ha ⟨_,Ae _ rfl⟩ (.list (vs:=[]) ⟨0,Ae _ rfl⟩ .nil);exact S1.store (.val _) hk fun s2 S2 c=>Xs.go <| k _ s2 S2 ha fun y m e=>by
  have:=S.live.1 y (S.mem y m);refine ob11 this fun o e'=>?_;clear this;rw [e,ha] at e';cases e'
theorem qJ {x pos' p pos} (S:St w T s₀ F X env s l mu) (k:∀ a s',St w T s₀ F (a::X) env s' (up l x (.val (.ref a))) ((a,.idict [])::mu)→s.heap.get? a=none→Xs w A rest env Q E s')
  (hk:autoParam (nB env x) ak) (hs:autoParam (Cd (.Dict [] [] p) (some (.Name x pos')) pos.line env=pure false) aq) :
  Xs w A (.Assign [.Name x pos'] (.Dict [] [] p) pos::rest) env Q E s:=by
 refine cI (By (wpAny_Dict_empty ?_) hs);have ha:s.heap.get? s.heap.objs.size=none:=aH (Am _);have hne:(s.heap.objs.size==Cv)=false:=by
  refine ob11 S.live.2 fun o e=>?_;have h1:aK<s.heap.objs.size:=AK e;have:s.heap.objs.size≠Cv:=fun z=>by rw [z] at h1;exact absurd h1 (by decide)
  simpa using this
 have S1:=S.newMu (d:=.idict []) bT ha ⟨_,Ae _ rfl⟩ (.idict (kvs:=[]) hne (D9 s.heap) .nil);exact S1.store (.val _) hk fun s2 S2 c=>(k _ s2 S2 ha).go
end
section
noncomputable def zO:D→Bool
 | .val _=>false
 | _=>true
theorem nI {v d} (r:Rp w h v d) (p:zO d=true):handedOut v=pure v:=by
 cases r <;> first | rfl | cases p
theorem uB.find {m ds} (r:uB w h m ds) {n:Str} {d} (e:ds.lookup n=some d):∃ v,m n=some v∧Rp w h v d:=by
 induction ds with
 | nil=>cases e
 | cons p ds ih=>
  obtain ⟨k,d'⟩:=p;cases r with
  | cons a b c=>
   rw [FS] at e
   by_cases q:n=k
   ·subst q;simp only [beq_self_eq_true] at e;cases e;exact ⟨_,a,b⟩
   ·rw [beq_false_of_ne q] at e;exact ih c e
theorem Ev.attr {o name pos C N tab ds d} (ho:Ev w X A env h o (.obj C ds)) (W:Wd w T (hx X h)) (hm:(C,N,tab)∈T.cls) (hl:ds.lookup name=some d) (hp:autoParam (zO d=true) aq)
  (hng:autoParam (tab.lookup ("__getattribute__":Str)=Option.none) aq) (hna:autoParam (tab.lookup name=Option.none) aq) (hB:Hg (.type "object") name=pure Option.none:=by rw [BN,Bc];kernel_rfl)
  (he:∀ env,eval (.Attribute o name pos) env=(do
   let ov ← eval o env
   standAt pos.atName
   let r ← holding [ov] (getAttr ov name true)
   letTemporaryGo o ov r
   pure r):=by intro _;with_unfolding_all rfl):Ev w X A env h (.Attribute o name pos) d:=.mk fun s hX k=>by
 refine Gw (ho.use hX k fun v s1 r k1=>?_) (he _);refine jS r.ofObj ?_;rintro a m rfl I hno rs;refine ob12 (rs.find hl) fun u hu ru=>?_;have K:=((W.mono (aL (k.trans (aN k1)))).mono aR).cls _ hm;refine kY K.obj fun nm q bs sn sub col dd k0 k1' k2 k3 k5 hC=>?_;obtain ⟨hh,g,dr,t,os⟩:=s1;exact load_attr hC K.ns hng hna hB (Heap.Inst.keep' I aR) hu (nI ru hp) ⟨ru,aD k1 dG⟩
theorem Mt.obj {name C N tab ds f fd} (W:Wd w T (hx X h)) (hm:(C,N,tab)∈T.cls) (hf:tab.lookup name=some (.ref f)) (hfn:(f,fd)∈T.fns) (hno:ds.lookup name=none)
  (hng:autoParam (tab.lookup ("__getattribute__":Str)=Option.none) aq) (hna:autoParam (tab.lookup ("__getattr__":Str)=Option.none) aq) (hB:Hg (.type "object") name=pure Option.none:=by rw [BN,Bc];kernel_rfl) :
  Mt w X A h (.obj C ds) name (.ref f):=.mk fun s v pl hX k r=>by
 refine jS r.ofObj ?_;rintro a m rfl I hno' rs;have W':=(W.mono (aL k)).mono aR;have K:=W'.cls _ hm;obtain ⟨⟨o,ho,hc,hd⟩,_⟩:=W'.fns _ hfn;refine kY K.obj fun nm q bs sn sub col dd k0 k1' k2 k3 k5 hC=>?_;obtain ⟨hh,g,dr,t,os⟩:=s;exact PySem.method_of hC K.ns hng hna hf ho hc hB (Heap.Inst.keep' I aR) (hno' _ hno) ⟨rfl,dM⟩
theorem Ev.and1 {e p d} (x:Ev w X A env h e d):Ev w X A env h (.BoolOp .And [e] p) d:=.mk fun s hX k=>BoolOp_one (x.go s hX k)
theorem Ev.andC {e e2 rest p b c} (x:Ev w X A env h e (.bool b)) (y:b=true→Ev w X A env h (.BoolOp .And (e2::rest) p) (.bool c)):Ev w X A env h (.BoolOp .And (e::e2::rest) p) (.bool (b&&c)):=.mk fun s hX k=>
 BoolOp_and (x.use hX k fun v s1 r k1=>by
  rw [r.ofBool];refine Dk ?_;cases b with
  | false=>exact ⟨.bool _,k1⟩
  | true=>exact (y rfl).use (hX.mono (aN k1)) (k.trans (aN k1)) fun v s2 r2 k2=>⟨r2,aD k1 k2⟩)
theorem pZ {h2 Xc cenv l y d} (ce:CE w T X env h Xc cenv h2 l) (c:Cap w X env h y d) (hk:cenv.kindOf y=some .cell) (hl:cenv.cells.lookup y=env.cells.lookup y):Nm w Xc cenv h2 y d:=(ce.cap y d c hk hl).nm ce.ec.gb
theorem nmS {x pos d} (S:St w T s₀ F X env s l mu) (h:l x=some d) (hd:autoParam ((x==("__debug__":Str))=false) ad):Ev w X A env s.heap (.Name x pos) d:=.name (S.nm h) hd
theorem nmC {x pos d Xc cenv} (S:CE w T X env h Xc cenv h' l) (k:l x=some d) (hd:autoParam ((x==("__debug__":Str))=false) ad):Ev w Xc A cenv h' (.Name x pos) d:=.name (S.nm _ _ k) hd
theorem nmD {h2 Xc cenv y d pos} (ce:CE w T X env h Xc cenv h2 l) (c:Cap w X env h y d) (hk:cenv.kindOf y=some .cell) (hl:cenv.cells.lookup y=env.cells.lookup y) (hd:autoParam ((y==("__debug__":Str))=false) ad):Ev w Xc A cenv h2 (.Name y pos) d:=.name (pZ ce c hk hl) hd
theorem nmR {h2 Xc cenv y d pos l2} (ce:CE w T X env s.heap Xc cenv h2 l2) (S:St w T s₀ F X env s l mu) (q:l y=some d) (h:env.kindOf y=some .cell) (hk:cenv.kindOf y=some .cell) (hl:cenv.cells.lookup y=env.cells.lookup y) (hd:autoParam ((y==("__debug__":Str))=false) ad):Ev w Xc A cenv h2 (.Name y pos) d:=nmD ce (S.cap q h) hk hl hd
theorem nmG {x v pos} (S:St w T s₀ F X env s l mu) (hv:T.gt x=some v) (hl:env.kindOf x=some .globalImplicit) (hd:autoParam ((x==("__debug__":Str))=false) ad):Ev w X A env s.heap (.Name x pos) (.val v):=.name (Nm.global S.gb S.wd hv hl) hd
theorem nmB {x v pos} (S:St w T s₀ F X env s l mu) (hv:x∈T.fr) (hb:E8 x=some v) (hl:env.kindOf x=some .globalImplicit) (hn:autoParam (x≠"__name__") ad) (hd:autoParam ((x==("__debug__":Str))=false) ad):Ev w X A env s.heap (.Name x pos) (.val v):=.name (Nm.boot S.gb S.wd hv hb hl hn) hd
theorem nmH {x v pos Xc cenv} (S:CE w T X env h Xc cenv h' l) (hv:T.gt x=some v) (hl:cenv.kindOf x=some .globalImplicit) (hd:autoParam ((x==("__debug__":Str))=false) ad):Ev w Xc A cenv h' (.Name x pos) (.val v):=.name (Nm.global S.ec.gb S.ec.wd hv hl) hd
theorem nmI {x v pos Xc cenv} (S:CE w T X env h Xc cenv h' l) (hv:x∈T.fr) (hb:E8 x=some v) (hl:cenv.kindOf x=some .globalImplicit) (hn:autoParam (x≠"__name__") ad) (hd:autoParam ((x==("__debug__":Str))=false) ad):Ev w Xc A cenv h' (.Name x pos) (.val v):=.name (Nm.boot S.ec.gb S.ec.wd hv hb hl hn) hd
theorem Ev.neg {e p a} (k:Ev w X A env h e (.int a)):Ev w X A env h (.UnaryOp .USub e p) (.int (-a)):=.un k .neg
theorem Tr.or2 {x y p b c} (hx':Tr w X A env h x b) (hy:b=false→Tr w X A env h y c):Tr w X A env h (.BoolOp .Or [x,y] p) (b || c):=.mk fun s hX k=>by
 refine E3 (Gs (hx'.use hX k fun s1 k1=>?_));cases b with
 | true=>exact ⟨rfl,k1⟩
 | false=>exact Gs ((hy rfl).use (hX.mono (aN k1)) (k.trans (aN k1)) fun s2 k2=>by
   cases c with
   | true=>exact ⟨rfl,aD k1 k2⟩
   | false=>exact wpAny_allTrue_Or_nil ⟨rfl,aD k1 k2⟩)
end
section
theorem aDS {ds:List (Int×D)} {k:Int} {d:D} (hn:k∉ds.map (·.1)):dU ds k d=ds++[(k,d)]:=by
 unfold dU;rw [if_neg];intro q;refine ob12 (Dp.mp q) fun p m e=>?_;exact hn (AY.mpr ⟨p,m,of_decide_eq_true e⟩)
theorem Cq.dcomp {n tup ek ev target iter scope pos items} {asg:D→(Str→Option D)→(Str→Option D)} {kf:D→Int} {vf:D→D} (hA:dF n A) (ec:EC w T X env h)
  (wh:gN w T A (.DictComp ek ev [⟨target,iter,[],0⟩] scope pos) newDict (.idict []) ⟨target,iter,[],0⟩ [] scope (firstIterPos [⟨target,iter,[],0⟩] pos))
  (src:fX w X A tup env h iter items) (hlen:items.length≤1000) (hnd:(items.map kf).Nodup)
  (tgt:∀ C d l,d∈items→Tg (cv scope C env) target d l (asg d l))
  (elk:∀ C Xc h' d l,d∈items→CE w T X env h Xc (cv scope C env) h' (asg d l)→Ev w Xc A (cv scope C env) h' ek (.int (kf d)))
  (elv:∀ C Xc h' d l,d∈items→CE w T X env h Xc (cv scope C env) h' (asg d l)→Ev w Xc A (cv scope C env) h' ev (vf d))
  (heq:autoParam (∀ I D0 env',compTurn (.DictComp ek ev [⟨target,iter,[],0⟩] scope pos) 0 (.ref I) (.ref D0) env'=eY target iter [] (.ref I) env' (aCO ek ev env' D0) (.compLoop (.DictComp ek ev [⟨target,iter,[],0⟩] scope pos) 0 (.ref I) (.ref D0) env')) ak)
  (htup:autoParam (tup=true→∃ es k p,target=.Tuple es k p) ak)
  (hfree:autoParam (iC env scope.names=true) aq) (hkind:autoParam (scope.kind=.function) aq) (hnames:autoParam (iK scope.names=true) aq) (hs:autoParam (∀ env x,Be iter env x=pure x) ak) :
  Cq w X A env h (.DictComp ek ev [⟨target,iter,[],0⟩] scope pos) (.idict (items.map fun d=>(kf d,vf d))):=by
 have key:∀ (r done:List D),((done++r).map kf).Nodup→dS (fun _=>true) (fun a d=>match a with | .idict ds=>.idict (dU ds (kf d) (vf d)) | a=>a) (.idict (done.map fun d=>(kf d,vf d))) r=.idict ((done++r).map fun d=>(kf d,vf d)):=by
  intro r
  induction r with
  | nil=>intro done _;simp [dS]
  | cons d r ih=>
   intro done hn;have e:dS (fun _=>true) (fun a d=>match a with | .idict ds=>.idict (dU ds (kf d) (vf d)) | a=>a) (.idict (done.map fun d=>(kf d,vf d))) (d::r) =
    dS (fun _=>true) (fun a d=>match a with | .idict ds=>.idict (dU ds (kf d) (vf d)) | a=>a) (.idict (dU (done.map fun d=>(kf d,vf d)) (kf d) (vf d))) r:=rfl
   rw [e,aDS (by
    intro m;rw [An] at m;refine cX m fun x mx ex=>?_;rw [Ax,Cu] at hn;exact hn.2.2 (kf x) (B8 mx) (kf d) (by simp) ex)]
   have:=ih (done++[d]) (by simpa using hn);simpa using this
 have part:∀ i,((items.take i).map kf).Nodup:=fun i=>by
  have:items.map kf=(items.take i).map kf++(items.drop i).map kf:=by rw [← Ax,Bs]
  rw [this,Cu] at hnd;exact hnd.1
 have:=Cq.gen (p:=fun _=>true) (step:=fun a d=>match a with | .idict ds=>.idict (dU ds (kf d) (vf d)) | a=>a) hA ec wh src heq tgt (fun C Xc h' d l _ _=>Ts.nil) (fun h2 k i d hd hp=>by
  have e0:=key (items.take i) [] (by simpa using part i);rw [Ez,Cx] at e0;rw [e0];exact Em.idict (ec.mono k) (by rw [Ac,AE];exact Ao (CA _ _) hlen) (fun _ z=>z)
   (fun C Xc h' l _ ce=>elk C Xc h' d l (AB hd) (ce.weak k)) (fun C Xc h' l _ ce=>elv C Xc h' d l (AB hd) (ce.weak k)))
  (by have e0:=key items [] (by simpa using hnd);rw [Ez] at e0;rw [e0];rfl) htup hfree hkind hnames hs
 have e0:=key items [] (by simpa using hnd);rw [Ez,Cx] at e0;rw [e0] at this;exact this
theorem gN.dict {k v target iter scope pos}:gN w T A (.DictComp k v [⟨target,iter,[],0⟩] scope pos) newDict (.idict []) ⟨target,iter,[],0⟩ [] scope (firstIterPos [⟨target,iter,[],0⟩] pos):=
 ⟨gZ.idict,rfl,fun _ _ _=>rfl,fun _ _ _=>rfl,fun _ _ _=>rfl,fun _ _ _=>rfl,fun _ _=>rfl,rfl⟩
theorem gN.list {elt target iter ifs gs scope pos}:gN w T A (.ListComp elt (⟨target,iter,ifs,0⟩::gs) scope pos) (newList []) (.list []) ⟨target,iter,ifs,0⟩ gs scope (firstIterPos (⟨target,iter,ifs,0⟩::gs) pos):=
 ⟨gZ.list,rfl,fun _ _ _=>rfl,fun _ _ _=>rfl,fun _ _ _=>rfl,fun _ _ _=>rfl,fun _ _=>rfl,rfl⟩
theorem gN.set {elt target iter ifs gs scope pos}:gN w T A (.SetComp elt (⟨target,iter,ifs,0⟩::gs) scope pos) (newSet (.type "set")) (.sset []) ⟨target,iter,ifs,0⟩ gs scope (firstIterPos (⟨target,iter,ifs,0⟩::gs) pos):=
 ⟨gZ.sset,rfl,fun _ _ _=>rfl,fun _ _ _=>rfl,fun _ _ _=>rfl,fun _ _ _=>rfl,fun _ _=>rfl,rfl⟩
theorem Cq.lc {n tup elt target iter ifs scope pos items} {asg:D→(Str→Option D)→(Str→Option D)} {p:D→Bool} {f:D→D} (hA:dF n A) (ec:EC w T X env h)
  (src:fX w X A tup env h iter items) (hlen:items.length≤1000)
  (tgt:∀ C d l,d∈items→Tg (cv scope C env) target d l (asg d l))
  (tst:∀ C Xc h' d l,d∈items→CE w T X env h Xc (cv scope C env) h' (asg d l)→Ts w Xc A (cv scope C env) h' ifs (p d))
  (el:∀ C Xc h' d l,d∈items→p d=true→CE w T X env h Xc (cv scope C env) h' (asg d l)→Ev w Xc A (cv scope C env) h' elt (f d))
  (htup:autoParam (tup=true→∃ es k p,target=.Tuple es k p) ak)
  (hfree:autoParam (iC env scope.names=true) aq) (hkind:autoParam (scope.kind=.function) aq) (hnames:autoParam (iK scope.names=true) aq) (hs:autoParam (∀ env x,Be iter env x=pure x) ak) :
  Cq w X A env h (.ListComp elt [⟨target,iter,ifs,0⟩] scope pos) (.list ((items.filter p).map f)):=
 Cq.one (un:=fun | .list xs=>xs | _=>[]) hA ec gN.list tZ.list (fun _ _=>rfl) (fun _=>rfl) src hlen (fun _ _ _=>rfl) tgt tst el (fun _ _=>trivial) htup hfree hkind hnames hs
theorem qU {s:Ak} (k:aZ h s.heap) {a:Addr} (q:s.heap.objs.size≤a):h.get? a=none:=by
 cases e:h.get? a with
 | none=>rfl
 | some o=>exact absurd (AK (k _ _ e)) (CB.mpr q)
theorem fJ {X:List Addr} {a:Addr} (e:h.get? a=none):aZ (hx X h) (hx (a::X) h):=aJ (fun _ _ _ e=>e) fun y m=>(AP.mp m).elim (fun q=>.inr (q▸e)) .inl
theorem vD {s:Ak} {X:List Addr} (hX:XL X s.heap):(s.heap.objs.size==Cv)=false:=by
 refine ob11 hX.2 fun o e=>?_;have h1:aK<s.heap.objs.size:=AK e;have:s.heap.objs.size≠Cv:=fun z=>by rw [z] at h1;exact absurd h1 (by decide)
 simpa using this
class inductive Ps (w:Bl) (X:List Addr) (A:Ba) (env:Env) (h:Heap) {K:Type} (mkK:K→D):List (Option AO)→List AO→List (K×D)→Prop
 | nil:Ps w X A env h mkK [] [] []
 | cons {ke ve ks vs k d r}:Ev w X A env h ke (mkK k)→Ev w X A env h ve d→Ps w X A env h mkK ks vs r→Ps w X A env h mkK (some ke::ks) (ve::vs) ((k,d)::r)
theorem Ps.shape {K:Type} {mkK:K→D} {ks vs} {r:List (K×D)} (p:Ps w X A env h mkK ks vs r):ks.all (·.isSome)=true∧ks.length=vs.length∧ks.length=r.length:=by
 induction p with
 | nil=>exact ⟨rfl,rfl,rfl⟩
 | cons _ _ _ ih=>exact ⟨by simpa using ih.1,by simp [ih.2.1],by simp [ih.2.2]⟩
theorem Ps.runI {ks vs} {r:List (Int×D)} (p:Ps w X A env h .int ks vs r):∀ {pos} {s:Ak} {Q:List (Ag×Ag)→Ak→Prop} {E},XL X s.heap→aZ h s.heap→
  (∀ kvs pv s',Carries (BL prog w) pv kvs→cP w (hx X s'.heap) kvs r→A0 s s'→Q pv s')→Au (AI prog w) A (evalPairs (pairTrees ks vs env pos)) Q E s:=by
 induction p with
 | nil=>intro pos s Q E hX k q;exact evalPairs_nil (q [] [] s trivial .nil dM)
 | cons a b c ih=>
  intro pos s Q E hX k q;refine IH (a.use hX k fun kv s1 r1 k1=>Ab (b.use (hX.mono (aN k1)) (k.trans (aN k1)) fun vv s2 r2 k2=>Ab (B2 (Aj ?_))));have k12:=aD k1 k2;refine ih (hX.mono (aN k12)) (k.trans (aN k12)) fun kvs pv s3 cc rr k3=>?_;refine ob11 r1.ofInt ?_;rintro t rfl;exact q ((_,vv)::kvs) _ s3 ⟨C4 prog w _ t,rfl,cc⟩ (.cons (r2.kp k3) rr) (aD k12 k3)
theorem Ps.runS {ks vs} {r:List (Str×D)} (p:Ps w X A env h .str ks vs r):∀ {pos} {s:Ak} {Q:List (Ag×Ag)→Ak→Prop} {E},XL X s.heap→aZ h s.heap→
  (∀ kvs pv s',Carries (strKind prog w) pv kvs→cZ w (hx X s'.heap) kvs r→A0 s s'→Q pv s')→Au (AI prog w) A (evalPairs (pairTrees ks vs env pos)) Q E s:=by
 induction p with
 | nil=>intro pos s Q E hX k q;exact evalPairs_nil (q [] [] s trivial .nil dM)
 | cons a b c ih=>
  intro pos s Q E hX k q;refine IH (a.use hX k fun kv s1 r1 k1=>Ab (b.use (hX.mono (aN k1)) (k.trans (aN k1)) fun vv s2 r2 k2=>Ab (B2 (Aj ?_))));have k12:=aD k1 k2;refine ih (hX.mono (aN k12)) (k.trans (aN k12)) fun kvs pv s3 cc rr k3=>?_;refine ob11 r1.ofStr ?_;rintro t rfl;exact q ((_,vv)::kvs) _ s3 ⟨Fh prog w _ t,rfl,cc⟩ (.cons (r2.kp k3) rr) (aD k12 k3)
theorem nK {K V:Type} [DecidableEq K]:∀ (kvs acc:List (K×Ag)),((acc++kvs).map (·.1)).Nodup→merged acc kvs=acc++kvs
 | [],acc,_=>by simp [merged]
 | (k,v)::r,acc,hn=>by
  have e:merged acc ((k,v)::r)=merged (stored acc k v) r:=by simp [merged]
  have hk:stored acc k v=acc++[(k,v)]:=by
   unfold stored;rw [if_neg];intro q;refine ob12 (Dp.mp q) fun p m e=>?_;rw [Ax,Cu] at hn;exact hn.2.2 p.1 (B8 m) k (by simp) (of_decide_eq_true e)
  rw [e,hk,nK (V:=V) r _ (by simpa using hn)];simp
theorem oD {K:Type} [DecidableEq K] {kvs:List (K×Ag)} (hn:(kvs.map (·.1)).Nodup):merged [] kvs=kvs:=by
 have:=nK (V:=Unit) kvs [] (by simpa using hn);simpa using this
theorem Ev.dictI {ks vs pos} {r:List (Int×D)} (p:∀ a,h.get? a=Option.none→Ps w (a::X) A env h .int ks vs r) (hn:(r.map (·.1)).Nodup) (h0:ks≠[]) (hl:ks.length≤15):Ev w X A env h (.Dict ks vs pos) (.idict r):=.mk fun s hX kh=>by
 have pp:=p s.heap.objs.size (qU kh (Am _));have sh:=pp.shape;have kp:A0 s { s with heap:=s.heap.push { cls:=.type "dict",data:=.dict #[] } }:=bT;have hX1:XL (s.heap.objs.size::X) (s.heap.push { cls:=.type "dict",data:=.dict #[] }):=⟨fun y m=>(AP.mp m).elim (fun e=>by rw [e];exact ⟨_,Ae _ rfl⟩) fun m=>(hX.mono (aN kp)).1 y m,(hX.mono (aN kp)).2⟩;refine GN sh.1 sh.2.1 h0 hl (pp.runI hX1 (kh.trans (aN kp)) fun kvs pv s2 cc rr k2=>?_);have kn:(kvs.map (·.1)).Nodup:=by rw [rr.keys];exact hn
 refine GO (knd:=BL prog w) pv kvs [] s2 _ cc ((D9 s.heap).keep (aN k2)) (by rw [AQ,DU,rr.length,← sh.2.2];exact Ao hl (by decide)) fun h' hd hs=>?_;rw [oD kn] at hd;refine ⟨.idict (vD hX) ?_ (rr.mono ?_),?_⟩
 ·refine fW hd fun o es ep ho z=>?_;clear hd
  exact ⟨o,es,ep,bU ho (hX.fresh (Am _)),z⟩
 ·exact aJ (fun b o n e=>hs.extBut b o (fun q=>n (by rw [q];exact .head _)) e) fun y m=>.inl (.tail _ m)
 ·have k02:=aD kp k2
  refine fP k02 ?_;clear k02;rintro h2 t2 rfl kk;exact ⟨h',_,rfl,fun b o e=>hs.extBut b o (fun q=>by rw [q,aH (Am _)] at e;cases e) (kk b o e)⟩
theorem Ev.dictS {ks vs pos} {r:List (Str×D)} (p:∀ a,h.get? a=Option.none→Ps w (a::X) A env h .str ks vs r) (hn:(r.map (·.1)).Nodup) (h0:ks≠[]) (hl:ks.length≤15):Ev w X A env h (.Dict ks vs pos) (.sdict r):=.mk fun s hX kh=>by
 have pp:=p s.heap.objs.size (qU kh (Am _));have sh:=pp.shape;have kp:A0 s { s with heap:=s.heap.push { cls:=.type "dict",data:=.dict #[] } }:=bT;have hX1:XL (s.heap.objs.size::X) (s.heap.push { cls:=.type "dict",data:=.dict #[] }):=⟨fun y m=>(AP.mp m).elim (fun e=>by rw [e];exact ⟨_,Ae _ rfl⟩) fun m=>(hX.mono (aN kp)).1 y m,(hX.mono (aN kp)).2⟩;refine GN sh.1 sh.2.1 h0 hl (pp.runS hX1 (kh.trans (aN kp)) fun kvs pv s2 cc rr k2=>?_);have kn:(kvs.map (·.1)).Nodup:=by rw [rr.keys];exact hn
 refine GO (knd:=strKind prog w) pv kvs [] s2 _ cc ((D9 s.heap).keep (aN k2)) (by rw [AQ,DU,rr.length,← sh.2.2];exact Ao hl (by decide)) fun h' hd hs=>?_;rw [oD kn] at hd;refine ⟨.sdict (vD hX) ?_ (rr.mono ?_),?_⟩
 ·refine fW hd fun o es ep ho z=>?_;clear hd
  exact ⟨o,es,ep,bU ho (hX.fresh (Am _)),z⟩
 ·exact aJ (fun b o n e=>hs.extBut b o (fun q=>n (by rw [q];exact .head _)) e) fun y m=>.inl (.tail _ m)
 ·have k02:=aD kp k2
  refine fP k02 ?_;clear k02;rintro h2 t2 rfl kk;exact ⟨h',_,rfl,fun b o e=>hs.extBut b o (fun q=>by rw [q,aH (Am _)] at e;cases e) (kk b o e)⟩
theorem Nm.hide {x d a} (n:Nm w X env h x d) (e:h.get? a=none):Nm w (a::X) env h x d:=let ⟨v,l,r⟩:=n;⟨v,l,r.mono (fJ e)⟩
theorem CE.hide {h2 Xc cenv l a} (ce:CE w T X env h Xc cenv h2 l) (e:h2.get? a=none):CE w T X env h (a::Xc) cenv h2 l:=
 ⟨⟨ce.ec.gb,ce.ec.wd.mono (fJ e),ce.ec.live⟩,fun x d q=>(ce.nm x d q).hide e,fun x d q k=>let c:=ce.capO x d q k;⟨c.kind,let ⟨c',v,a1,a2,r⟩:=c.cell;⟨c',v,a1,a2,r.mono (fJ e)⟩⟩,
  fun y d c k q=>let c:=ce.cap y d c k q;⟨c.kind,let ⟨c',v,a1,a2,r⟩:=c.cell;⟨c',v,a1,a2,r.mono (fJ e)⟩⟩,ce.up.trans (fJ e),ce.full⟩
end
structure kJ (h:Heap) (x dx C:Addr) (mA:Str→Option Ag):Prop where
 obj:∃ o,h.get? x=some o∧o.cls=.ref C∧o.dict=some dx∧∀ c,o.data≠.cls c
 ns:h.Ns1 dx mA
 ne:dx≠x
theorem kJ.inst {h x dx C mA} (I:kJ h x dx C mA):h.Inst x C mA:=by
 refine ob14 I.obj fun o ho hc hd hn=>?_;exact ⟨o,ho,hc,hn,.inr ⟨dx,hd,I.ne,I.ns⟩⟩
theorem kJ.at {h h' x dx C mA} (I:kJ h x dx C mA) (k1:∀ o,h.get? x=some o→h'.get? x=some o) (k2:∀ o,h.get? dx=some o→h'.get? dx=some o):kJ h' x dx C mA:=
 ⟨let ⟨o,ho,r⟩:=I.obj;⟨o,k1 _ ho,r⟩,I.ns.at fun o e=>k2 o e,I.ne⟩
section
theorem cu {C vals}:(Code.builtin "type.__call__" ⟨.ref C::vals,[]⟩).cUnits≤50:=by
 have:(Code.builtin "type.__call__" ⟨Ag.ref C::vals,[]⟩).cUnits=(Code.builtin "type.__call__" ⟨[],[]⟩).cUnits:=rfl;rw [this];decide +kernel
theorem yF {n C vals} (a:dF (n+1) A):dF n (A.under (.builtin "type.__call__" ⟨.ref C::vals,[]⟩)):=by
 refine ⟨a.hh,?_,?_⟩
 ·have:=a.depth
  show A.depth+1+4*n≤900;exact N2 0 3 this
 ·have:=a.units
  have e:(Code.builtin "type.__call__" ⟨.ref C::vals,[]⟩).cUnits≤50:=cu;show A.units+(Code.builtin "type.__call__" ⟨.ref C::vals,[]⟩).cUnits+60*n≤9000;exact N3 1 1 this e
theorem fU {o op name ap e pos d x dx C N tab mA ns} (S:St w T s₀ F X env s l mu) (hl:l o=some (.val (.ref x))) (he:Ev w X A env s.heap e d) (I:kJ s.heap x dx C mA) (hm:(C,N,tab)∈T.cls)
  (xX:x∈X∧dx∈X) (xF:x∈F∧dx∈F) (xE:x∉Fp env∧dx∉Fp env) (xM:∀ p∈mu,p.1≠x∧p.1≠dx)
  (k:∀ v s',Rp w (hx X s'.heap) v d→St w T s₀ F X env s' l mu→kJ s'.heap x dx C (fun y=>if y=name then some v else mA y)→aZ (hx X s.heap) (hx X s'.heap)→Xs w A rest env Q E s')
  (hw:Within mA ns) (hsz:ns.length≤100) (hns:autoParam (tab.lookup ("__setattr__":Str)=none) aq) (hna:autoParam (tab.lookup name=none) aq)
  (hB:Hg (.type "object") name=pure none:=by rw [BN,Bc];kernel_rfl) (hd:autoParam ((o==("__debug__":Str))=false) ad)
  (hs:autoParam (Cd e (some (.Attribute (.Name o op) name ap)) pos.line env=pure false) aq):Xs w A (.Assign [.Attribute (.Name o op) name ap] e pos::rest) env Q E s:=by
 refine cI (plainObj_wpAny_Assign_Attribute (he.use S.live aZ.rfl fun v s1 r1 k1=>(Ev.name (S.nm hl) hd).use (S.live.mono (aN k1)) (aN k1) fun ov s2 r2 k2=>?_) hs);cases r2.ofVal;have k12:=aD k1 k2;have S2:=S.keeps k12;have I2:=I.at (fun o e=>aN k12 _ _ e) (fun o e=>aN k12 _ _ e);have K:=(S2.wd.mono aR).cls _ hm;refine kY K.obj fun nm q bs sn sub col dd k0 k1' k2' k3 k5 hC=>?_;have hxC:x≠C:=by
  rintro rfl;refine kY ((S2.wd.cls _ hm).obj) fun nm q bs sn sub col dd k0 k1' k2' k3 k5 hC=>?_;rw [uX xX.1] at hC;cases hC
 refine ob14 I2.obj fun ox hox hcx hdx hncx=>?_;obtain ⟨hh,g,dr,tk,os⟩:=s2;refine store_attr PySem.F.store_object hC K.ns hns hna hB hxC I2.inst (fun h' tk' I' hk hsame=>?_) hw (Ao hsz (by decide));have c:Ch [x,dx] ⟨hh,g,dr,tk,os⟩ ⟨h',g,dr,tk',os⟩:=Ch.heap (s:=⟨hh,g,dr,tk,os⟩) fun b o n e=>hk b o (fun q=>n (by rw [q];exact .head _)) (fun o₀ d' e₀ ed=>by
  obtain rfl:=BC (hox.symm.trans e₀);obtain rfl:=BC (hdx.symm.trans ed);exact fun q=>n (by rw [q];exact .tail _ (.head _))) e
 refine ob15 (hsame ox hox) fun o₁ e₁ c₁ dt₁ _ dk₁=>?_;have I3:kJ h' x dx C (fun y=>if y=name then some v else mA y):=by
  refine ob14 I' fun o' e' _ _ hd'=>?_;clear I';obtain rfl:=BC (e₁.symm.trans e');rcases hd' with ⟨hn0,_⟩ | ⟨d',hd',_,hns'⟩
  ·rw [dk₁ dx hdx] at hn0;cases hn0
  ·obtain rfl:=BC ((dk₁ dx hdx).symm.trans hd')
   exact ⟨⟨o₁,e₁,c₁.trans hcx,dk₁ _ hdx,fun c=>dt₁▸hncx c⟩,hns',I.ne⟩
 have live:XL X h':=S2.live.ch c fun y m=>by
  refine cK m (fun e=>?_) fun m=>?_
  ·rw [e];exact ⟨_,e₁⟩
  ·rw [bH m]
   refine fW I3.ns fun o es ep ho _=>?_;exact ⟨o,ho⟩
 have hm2:aZ (hx X hh) (hx X h'):=aJ (fun b o n e=>c.get (fun m=>by
  refine cK m (fun e=>?_) fun m=>?_
  ·exact n (by rw [e];exact xX.1)
  ·exact n (by rw [bH m];exact xX.2)) e) fun y m=>.inl m
 have S3:=S2.step c (fun g m=>by
  refine cK m (fun e=>?_) fun m=>?_
  ·rw [e];exact ⟨xX.1,xE.1,.inl xF.1⟩
  ·rw [bH m];exact ⟨xX.2,xE.2,.inl xF.2⟩) (fun p m q=>by
  refine cK q (fun e=>?_) fun q=>?_
  ·exact (xM p m).1 e
  ·exact (xM p m).2 (bH q)) live
 exact (k v _ ((r1.kp k2).mono hm2) S3 I3 ((aL (aN k12)).trans hm2)).go
end
section
theorem Nm.globalD {x v d} (g:GB env) (W:Wd w T (hx X h)) (hv:T.gt x=some v) (hd:(v,d)∈T.vals) (hl:autoParam (env.kindOf x=some .globalImplicit) aq):Nm w X env h x d:=by
 refine ob12 W.glob fun mg hg e=>?_;exact ⟨v,vQ.global g.kind hl g.gl (hg.keeps aR) (e _ _ hv),W.vals _ hd⟩
theorem St.freeze {a d x} (S:St w T s₀ F (a::X) env s l ((a,d)::mu)) (hX:a∉X) (hl:l x=some (.val (.ref a))) (hz:d.frz=true) (mem:∀ y∈Fp env,y∈X) (hmu:∀ p∈mu,p.1∈X):St w T s₀ F X env s (up l x d) mu:=by
 have hm:aZ (hx (a::X) s.heap) (hx X s.heap):=bV fun y m=>.tail _ m;have r:Rp w (hx X s.heap) (.ref a) d:=(S.muAt (.head _)).thaw hz hm hX fun _ e=>e;refine ⟨S.kind,S.gl,S.bl,S.base,⟨fun y m=>S.live.1 y (.tail _ m),S.live.2⟩,S.pl,mem,S.own,?_,?_,?_,S.apart,S.wd.mono hm,fun p m=>?_,(Bn.mp S.mud).2⟩
 ·refine ob12 S.ns fun m n k=>?_
  refine ⟨m,n,fun y d' e hk=>?_⟩
  by_cases z:y=x
  ·subst z
   rw [aE] at e;cases e;refine ob12 (k y _ hl hk) fun v hv rv=>?_;exact ⟨v,hv,by rw [rv.ofVal];exact r⟩
  ·rw [aA z] at e
   refine ob12 (k y d' e hk) fun v hv rv=>?_;exact ⟨v,hv,rv.mono hm⟩
 ·intro y c hc lt hk
  refine ob12 (S.cs y c hc lt hk) fun v hv k=>?_;refine ⟨v,hv,fun d' e=>?_⟩
  by_cases z:y=x
  ·subst z
   rw [aE] at e;cases e;refine ob12 (k _ hl) fun u hu ru=>?_;exact ⟨u,hu,by rw [ru.ofVal];exact r⟩
  ·rw [aA z] at e
   refine ob12 (k d' e) fun u hu ru=>?_;exact ⟨u,hu,ru.mono hm⟩
 ·intro y d' e
  by_cases z:y=x
  ·subst z;exact S.tot y _ hl
  ·rw [aA z] at e;exact S.tot y d' e
 ·refine eG (S.mus p (.tail _ m)) fun a1 a2 a3 a4=>?_
  exact ⟨hmu p m,a2,a3,a4.mono hm fun _ e=>e⟩
noncomputable def flat:D→Bool
 | .none=>true
 | .bool _=>true
 | .int _=>true
 | .str _=>true
 | _=>false
theorem Rp.flat {v d} (r:Rp w h v d) (f:flat d=true):Rp w h' v d:=by
 cases r <;> first | exact .none | exact .bool _ | exact .int _ _ | exact .str _ _ | cases f
theorem cG.flat {vs ds} (r:cG w h vs ds):ds.all flat=true→cG w h' vs ds:=by
 refine r.ind (M:=fun vs ds=>ds.all Mine.Internal.flat=true→cG w h' vs ds) (fun _=>.nil) fun a _ i f=>?_;rw [FH,AJ] at f;exact .cons (Rp.flat a f.1) (i f.2)
theorem wG {x pos' es p pos ds} (S:St w T s₀ F X env s l mu) (he:Es w X A env s.heap es ds) (hf:ds.all flat=true) (hz:ds.length≤1000)
  (k:∀ a s',St w T s₀ F (a::X) env s' (up l x (.val (.ref a))) ((a,.list ds)::mu)→s.heap.get? a=none→Xs w A rest env Q E s')
  (hk:nB env x) (hs:autoParam (Cd (.List es p) (some (.Name x pos')) pos.line env=pure false) aq) :
  Xs w A (.Assign [.Name x pos'] (.List es p) pos::rest) env Q E s:=by
 refine cI (By (Gh (cF (he.go s p S.live aZ.rfl) fun vs s1 z=>⟨by rw [z.1.length];exact Ao hz bD,?_⟩)) hs);have ha1:s1.heap.get? s1.heap.objs.size=none:=aH (Am _);have ha:s.heap.get? s1.heap.objs.size=none:=by
  cases e:s.heap.get? s1.heap.objs.size with
  | none=>rfl
  | some o=>rw [aN z.2 _ _ e] at ha1;cases ha1
 have S1:=S.newMu (d:=.list ds) (aD z.2 bT) ha ⟨_,Ae _ rfl⟩ (.list (vs:=vs) ⟨0,Ae _ rfl⟩ (cG.flat z.1 hf));exact S1.store (.val _) hk fun s2 S2 c=>(k _ s2 S2 ha).go
theorem St.addMu {a d} (S:St w T s₀ F X env s l mu) (h1:a∈X) (h2:a∉Fp env) (h3:a∈F∨s₀.heap.get? a=none) (h4:∀ p∈mu,a≠p.1) (h5:cN w X s.heap a d):St w T s₀ F X env s l ((a,d)::mu):=
 ⟨S.kind,S.gl,S.bl,S.base,S.live,S.pl,S.mem,S.own,S.ns,S.cs,S.tot,S.apart,S.wd,fun p m=>by
  rcases AP.mp m with rfl | m
  ·exact ⟨h1,h2,h3,h5⟩
  ·exact S.mus p m,Bn.mpr ⟨h4,S.mud⟩⟩
theorem aBn {x pos' e pos ds} {Q:Flow→Ak→Prop} (S:St w T s₀ F X env s l mu) (c:Cq w X A env s.heap e (.list ds)) (hf:ds.all flat=true)
  (k:∀ a s',St w T s₀ F (a::X) env s' (up l x (.val (.ref a))) ((a,.list ds)::mu)→s.heap.get? a=none→Xs w A rest env Q (fun _ _=>False) s')
  (hk:nB env x) (hs:Cd e (some (.Name x pos')) pos.line env=pure true) (he:∀ use,evalThenUse e env use=(do let _ ← kM e env (some use);pure ())) :
  Xs w A (.Assign [.Name x pos'] e pos::rest) env Q (fun _ _=>False) s:=by
 refine cI ?_;rw [exec_Assign];refine Ab (B2 ?_);have hs':swapsWithSole [.Name x pos'] e pos.line env=pure true:=hs;rw [hs'];refine Ab (Aj ?_);rw [if_pos rfl,he];refine Ab (Ab (c.go s _ _ _ S.live aZ.rfl fun D0 C s' m kk hC hD hn r=>?_));have CF:C∉X:=fun m=>by refine ob11 (S.live.1 C m) fun o e=>?_;rw [hC] at e;cases e
 have DF:D0∉X:=fun m=>by refine ob11 (S.live.1 D0 m) fun o e=>?_;rw [hD] at e;cases e
 refine bI r.ofList fun a vs ea hp rs=>?_;cases ea;have CD:D0≠C:=fun e=>by refine ob11 hp fun n e2=>?_;clear hp;exact iD e2 (by rw [e];exact .head _)
 have hpl:s'.heap.PlainList D0 vs.toArray:=hp.at fun o e=>aR _ _ e;have dead:∀ y∈[C,D0],s.heap.get? y=none:=fun y m=>by
  refine cK m (fun e=>?_) fun m=>?_
  ·rw [e];exact hC
  ·rw [bH m];exact hD
 have S0:St w T s₀ F ([C]++(D0::X)) env s' l mu:=S.hide (Y:=[C,D0]) dead kk (fun y m=>by
  refine cK m (fun e=>?_) fun m=>?_
  ·rw [e];refine fW hn fun o _ _ e _=>?_;clear hn;exact ⟨o,e⟩
  ·rw [bH m];refine ob11 hpl fun n e=>?_;clear hpl;exact ⟨_,e⟩)
 have none0:∀ y∈[C,D0],y∈F∨s₀.heap.get? y=none:=fun y m=>by
  by_cases z:y∈F
  ·exact .inl z
  ·refine .inr ?_
   cases e:s₀.heap.get? y with
   | none=>rfl
   | some o=>have:=S.base.get z e;rw [dead y m] at this;cases this
 have S1:St w T s₀ F ([C]++(D0::X)) env s' l ((D0,.list ds)::mu):=S0.addMu (.tail _ (.head _)) (fun m=>DF (S.mem _ m)) (none0 D0 (.tail _ (.head _))) (fun p m e=>DF (e▸(S.mus p m).1)) (.list (vs:=vs) hpl (cG.flat rs hf));show Au _ _ (assignAll (.ref D0) [assign (.Name x pos') env]) _ _ _;refine assign_Name (S1.store (d:=.val (.ref D0)) (.val _) hk fun s2 S2 c2=>?_);have hn2:s2.heap.Ns C m:=hn.at' fun o e=>c2.get (fun m=>CF (S.mem C m)) e;refine ⟨m,hn2,fun h' hs2=>?_⟩;refine Aj (Aj ?_);have c3:Ch [C] s2 { s2 with heap:=h' }:=Ch.heap (tk:=s2.toks) fun b o n e=>hs2.extBut b o (fun q=>n (by rw [q];exact .head _)) e;exact Xs.go <| k D0 _ (S2.aside c3 (fun m=>by refine ob11 S.live.2 fun o e=>?_;rw [bH m,hC] at e;cases e) (fun g m=>by
  rw [bH m];exact ⟨fun q=>(AP.mp q).elim (fun e=>CD e.symm) CF,none0 C (.head _)⟩) (fun y m=>.tail _ (S.mem y m)) fun p m=>by
  refine cK m (fun e=>?_) fun m=>?_
  ·rw [e];exact .head _
  ·exact .tail _ (S.mus p m).1) hD
end
section
variable {w:Bl} {s:Ak} {A:Ba} {E:Ag→Ak→Prop} {b:Array UInt8} {t:Tok}
theorem vC {it:Addr} {i:Nat} {c:UInt8} {Q:Option Ag→Ak→Prop} (hit:CK s.heap it b t i) (hx:b[i]?=some c)
  (hQ:∀ h',CK h' it b t (i+1)→A4 it s.heap h'→Q (some (.int (c.toNat:Int) s.toks)) { s with heap:=h',toks:=s.toks+1 }) :
  Au (AI prog w) A (callSpecial? (.ref it) (BK "__next__")) Q E s:=by
 refine ob13 (id hit) fun o ho hc hd=>?_;refine AX (name:=BK "__next__") (DI hit) D7 (A9 D7 (DI hit) Iv ?_ (IW _));show Au _ _ (field (.ref it) 0 >>= _) _ _ s;refine Ab (Bt ho hd (x:=.bytes b t) rfl ?_);show Au _ _ (if (Ag.bytes b t==Ag.none)=true then _ else _) _ _ s;rw [if_neg (show ¬ ((Ag.bytes b t==Ag.none)=true) from CX)];show Au _ _ (field (.ref it) 1 >>= _) _ _ s;refine Ab (Bt ho hd (x:=.int i 0) rfl ?_);refine Ab (Dj (a:=b) rfl ?_);simp only [Ap,hx];refine Ab (Ci ho hd (by simp) (Ab (wpAny_mkInt (Aj ⟨_,rfl,hQ _ ?_ (A7 ..)⟩))));exact ⟨_,Br _ ho (Cc (Bq hd _)),(DL ..).trans hc,by
  rw [Bq hd];simp [Bh]⟩
theorem pX {it:Addr} {i:Nat} {c:UInt8} {Q:Ag→Ak→Prop} (hit:CK s.heap it b t i) (hx:b[i]?=some c)
  (hQ:∀ h',CK h' it b t (i+1)→A4 it s.heap h'→Q (.int (c.toNat:Int) s.toks) { s with heap:=h',toks:=s.toks+1 }) :
  Au (AI prog w) A (call (.builtin "next") [.ref it]) Q E s:=by
 refine D5 (by decide +kernel) (by decide +kernel) II (kdk_args_next _) ?_;unfold Dy.«next»
 refine Ab (m:=someArgs "next" 1 2 _) (Dj (a:=[Ag.ref it]) (by first | rfl | kernel_rfl!) ?_);dsimp only;refine Ab (Gq (name:=BK "__next__") (DI hit) D7.lookup ?_);refine Ef (fun hab=>absurd hab (by decide)) (fun _=>?_);refine Ab (vC hit hx fun h' hi' hs=>?_);exact Aj ⟨_,rfl,hQ h' hi' hs⟩
end
section
theorem St.unbaseG {G s1 l1 mu1 X1} (S:St w T s₀ F X env s l mu) (S1:St w T s G X1 env s1 l1 mu1) (tm:∀ g∈G,g∈F∨s₀.heap.get? g=none):St w T s₀ F X1 env s1 l1 mu1:=by
 refine ⟨S1.kind,S1.gl,S1.bl,S.base.step S1.base tm,S1.live,S.pl,S1.mem,S.own,S1.ns,S1.cs,S1.tot,S1.apart,S1.wd,fun p m=>?_,S1.mud⟩;refine eG (S1.mus p m) fun a b c d=>?_;refine ⟨a,b,?_,d⟩;refine BH c ?_ ?_ <;> clear c <;> intro c
 ·exact tm _ c
 ·by_cases z:p.1∈F
  ·exact .inl z
  ·refine .inr ?_
   cases e:s₀.heap.get? p.1 with
   | none=>rfl
   | some o=>rw [S.base.get z e] at c;cases c
theorem St.tmF (S:St w T s₀ F X env s l mu):∀ g∈Tm env mu,g∈F∨s₀.heap.get? g=none:=fun g m=>by
 refine gJ m (fun m=>?_) fun m=>?_
 ·exact S.own g m
 ·refine cX m ?_;rintro p mp rfl
  exact (S.mus p mp).2.2.1
theorem jA {F:List Addr} {s₀ s:Ak} (c:Ch F s₀ s) {b:Addr} (e:s.heap.get? b=none):b∈F∨s₀.heap.get? b=none:=by
 by_cases z:b∈F
 ·exact .inl z
 ·refine .inr ?_
  cases q:s₀.heap.get? b with
  | none=>rfl
  | some o=>rw [c.get z q] at e;cases e
noncomputable def nR (w:Bl) (A:Ba) (T:lU) (env:Env) (rest:List Stmt) (Q:Flow→Ak→Prop) (F:List Addr) (s₀ sA:Ak) (mA:List (Addr×D)) (XA:List Addr) (s1:Ak) (F1 X1:List Addr) (Inv1:(Str→Option D)→List (Addr×D)→Prop):Flow→Ak→Prop
 | .brk,s=>∃ N l mu,(∀ y∈N,s1.heap.get? y=none)∧St w T s1 F1 (N++X1) env s l mu∧(∀ X',(∀ y∈XA,y∈X')→St w T s₀ F X' env s l mu→(∀ b o,b∉Tm env mA→sA.heap.get? b=some o→s.heap.get? b=some o)→Xs w A rest env Q (fun _ _=>False) s)
 | .ret v,s=>Q (.ret v) s∨∃ N l mu,(∀ y∈N,s1.heap.get? y=none)∧St w T s1 F1 (N++X1) env s l mu∧(∀ X',(∀ y∈XA,y∈X')→St w T s₀ F X' env s l mu→(∀ b o,b∉Tm env mA→sA.heap.get? b=some o→s.heap.get? b=some o)→Q (.ret v) s)
 | _,s=>∃ N l mu,(∀ y∈N,s1.heap.get? y=none)∧Inv1 l mu∧St w T s1 F1 (N++X1) env s l mu
theorem xD {mA:List (Addr×D)} {XA F1 X1 N:List Addr} {sA s1:Ak} {Inv1:(Str→Option D)→List (Addr×D)→Prop} (hN:∀ y∈N,s1.heap.get? y=none) (hI:Inv1 l mu) (hS:St w T s1 F1 (N++X1) env s l mu) :
  nR w A T env rest Q F s₀ sA mA XA s1 F1 X1 Inv1 .next s:=⟨N,l,mu,hN,hI,hS⟩
theorem aEH {mA:List (Addr×D)} {XA F1 X1 N:List Addr} {sA s1:Ak} {Inv1:(Str→Option D)→List (Addr×D)→Prop} (hN:∀ y∈N,s1.heap.get? y=none) (hS:St w T s1 F1 (N++X1) env s l mu)
  (k:∀ X',(∀ y∈XA,y∈X')→St w T s₀ F X' env s l mu→(∀ b o,b∉Tm env mA→sA.heap.get? b=some o→s.heap.get? b=some o)→Xs w A rest env Q (fun _ _=>False) s) :
  nR w A T env rest Q F s₀ sA mA XA s1 F1 X1 Inv1 .brk s:=⟨N,l,mu,hN,hS,k⟩
theorem aAA {tup t iter body orelse pos items n} (hA:dF n A) (S:St w T s₀ F X env s l mu) (src:fX w X A tup env s.heap iter items) (htup:tup=true→∃ es k p,t=.Tuple es k p)
  (Inv:Nat→(Str→Option D)→List (Addr×D)→Prop) (h0:Inv 0 l mu)
  (turn:∀ i d X1 s1 l1 mu1,items[i]?=some d→Inv i l1 mu1→(∀ y∈X,y∈X1)→aZ (hx X s.heap) (hx X1 s1.heap)→St w T s₀ F X1 env s1 l1 mu1→
   ∃ l2,Tg env t d l1 l2∧∀ s2,St w T s1 (Tm env mu1) X1 env s2 l2 mu1→Xs w A body env (nR w A T env rest Q F s₀ s mu X s1 (Tm env mu1) X1 (Inv (i+1))) (fun _ _=>False) s2)
  (done:∀ X1 s1 l1 mu1,Inv items.length l1 mu1→(∀ y∈X,y∈X1)→aZ (hx X s.heap) (hx X1 s1.heap)→St w T s₀ F X1 env s1 l1 mu1→(∀ b o,b∉Tm env mu→s.heap.get? b=some o→s1.heap.get? b=some o)→Xs w A orelse env (Nx w A env rest Q (fun _ _=>False)) (fun _ _=>False) s1)
  (hs:autoParam (∀ x,Be iter env x=pure x) ak):Xs w A (.For t iter body orelse pos::rest) env Q (fun _ _=>False) s:=by
 refine cI (wpAny_For (src.use S.live aZ.rfl fun I fp wr Stt Mid s1 s2 k1 k2 it=>?_) hs);have k12:=aD k1 k2;have fresh0:∀ b∈wr,s.heap.get? b=none:=fun b m=>by
  cases e:s.heap.get? b with
  | none=>rfl
  | some o=>have:=aN k1 _ _ e;rw [it.fresh b m] at this;cases this
 have S2:St w T s₀ F (wr++X) env s2 l mu:=S.hide fresh0 k12 it.live;have wrF:∀ b∈wr,b∉X:=fun b m q=>by refine ob11 (S.live.1 b q) fun o e=>?_;rw [fresh0 b m] at e;cases e
 have s0none:∀ b∈wr,b∈F∨s₀.heap.get? b=none:=fun b m=>jA S.base (fresh0 b m)
 -- the base of the loop
 have B0:St w T s2 (wr++Tm env mu) (wr++X) env s2 l mu:=by
  have:=S2.rebase;exact ⟨this.kind,this.gl,this.bl,.rfl,this.live,this.pl,this.mem,fun a m=>(this.own a m).imp (Ad _) id,this.ns,this.cs,this.tot,this.apart,this.wd,
   fun p m=>let ⟨a,b,c,d⟩:=this.mus p m;⟨a,b,c.imp (Ad _) id,d⟩,this.mud⟩
 have tmB:∀ g∈wr++Tm env mu,g∈F∨s₀.heap.get? g=none:=fun g m=>by
  refine gJ m (fun m=>?_) fun m=>?_
  ·exact s0none g m
  ·exact S2.tmF g m
 have kept:∀ s4,Ch (wr++Tm env mu) s2 s4→∀ b o,b∉Tm env mu→s.heap.get? b=some o→s4.heap.get? b=some o:=fun s4 c b o n e=>c.get (fun m=>by
  refine gJ m (fun m=>?_) fun m=>?_
  ·rw [fresh0 b m] at e;cases e
  ·exact n m) (aN k12 _ _ e)
 have hleX:∀ s4 X4,Ch (wr++Tm env mu) s2 s4→(∀ y∈wr++X,y∈X4)→(∀ y∈X4,y∈wr++X∨s2.heap.get? y=none)→aZ (hx X s1.heap) (hx X4 s4.heap):=fun s4 X4 c a b=>by
  have q1:aZ (hx X s1.heap) (hx (wr++X) s2.heap):=aJ (fun b o _ e=>aN k2 b o e) fun y m=>(BM.mp m).elim (fun q=>.inr (it.fresh y q)) .inl;refine q1.trans (aJ (fun b o n e=>c.get (fun m=>n ?_) e) fun y m=>b y m);refine gJ m (fun m=>?_) fun m=>?_
  ·exact Ay _ m
  ·refine gJ m (fun m=>?_) fun m=>?_
   ·exact S2.mem b m
   ·refine cX m ?_;rintro p mp rfl;exact (S2.mus p mp).1
 have fpTm:∀ b∈fp,b∉Tm env mu:=fun b m q=>by
  have hX:b∈X:=by
   refine gJ q (fun q=>?_) fun q=>?_
   ·exact S.mem b q
   ·refine cX q ?_;rintro p mp rfl;exact (S.mus p mp).1
  refine BH (it.seen b m) (fun z=>?_) fun z=>?_
  ·exact wrF b z hX
  ·exact z hX
 refine codeAny_forLoop_any (fun k s3=>∃ i X3 l3 mu3,k=items.length - i∧i≤items.length∧Inv i l3 mu3∧(∀ y∈wr++X,y∈X3)∧(∀ y∈X3,y∈wr++X∨s2.heap.get? y=none)∧(∀ p∈mu3,p.1∈Tm env mu∨s2.heap.get? p.1=none)∧Stt i s3.heap∧St w T s2 (wr++Tm env mu) X3 env s3 l3 mu3) ?_ items.length
  ⟨0,wr++X,l,mu,rfl,Df _,h0,fun _ m=>m,fun _ m=>.inl m,fun p m=>.inl (Ad _ (B8 m)),it.start,B0⟩
 rintro k s3 ⟨i,X3,l3,mu3,rfl,hi,hI,hX3,hX3',hmu,hst,S3⟩;have wrNone:∀ (b:Addr),s2.heap.get? b=none→b∉wr:=fun b e m=>by refine ob11 (it.live b m) fun o q=>?_;rw [e] at q;cases q
 have muOff:∀ p∈mu3,p.1∉wr:=fun p m q=>by
  refine BH (hmu p m) (fun z=>?_) fun z=>?_
  ·have hX:p.1∈X:=by
    refine gJ z (fun z=>?_) fun z=>?_
    ·exact S.mem _ z
    ·refine cX z fun p' mp e=>?_;exact e▸(S.mus p' mp).1
   exact wrF _ q hX
  ·exact wrNone _ z q
 have stepWr:∀ {sa sb:Ak} {la},St w T s2 (wr++Tm env mu) X3 env sa la mu3→Ch wr sa sb→(∀ b∈wr,∃ o,sb.heap.get? b=some o)→St w T s2 (wr++Tm env mu) X3 env sb la mu3:=fun Sa c al=>
  Sa.step c (fun g m=>⟨hX3 g (Ay _ m),fun q=>wrF g m (S.mem g q),.inl (Ay _ m)⟩) (fun p m q=>muOff p m q) (Sa.live.ch c al)
 by_cases hlt:i<items.length
 ·obtain ⟨d,hd⟩:∃ d,items[i]?=some d:=⟨items[i],Ah hlt⟩
  refine wpF <| it.next i d X3 s3 _ hd hst S3.live (fun b m=>hX3 b (Ay _ m)) (hleX s3 X3 S3.base hX3 hX3') fun v4 sm cm hmid rdm=>?_
  have Sm:=stepWr S3 cm (it.malive _ _ _ hmid);refine wpF <| it.go i t v4 sm _ htup hmid fun s4 c4 hst4=>?_
  have S4:=stepWr Sm c4 (it.alive _ _ hst4);have rd4:Rp w (hx X3 s4.heap) v4 d:=rdm.mono (aJ (fun b o n e=>c4.get (fun m=>n (hX3 b (Ay _ m))) e) fun y m=>.inl m);have U4:St w T s₀ F X3 env s4 l3 mu3:=S2.unbaseG S4 tmB;refine ob12 (turn i d X3 s4 l3 mu3 hd hI (fun y m=>hX3 y (Ad _ m)) ((aL (aN k1)).trans (hleX s4 X3 S4.base hX3 hX3')) U4) fun l5 tg body5=>?_;refine St.target hA.hh U4.rebase tg rd4 fun s5 S5=>?_;refine cF (body5 s5 S5).go fun f s6 z=>?_;have tm4:∀ g∈Tm env mu3,g∈wr++Tm env mu∨s2.heap.get? g=none:=fun g m=>by
   refine gJ m (fun m=>?_) fun m=>?_
   ·exact .inl (Ad _ (Ay _ m))
   ·refine cX m ?_;rintro p mp rfl
    exact (hmu p mp).imp (Ad _) id
  have back:∀ {N l6 mu6 s6},(∀ y∈N,s4.heap.get? y=none)→St w T s4 (Tm env mu3) (N++X3) env s6 l6 mu6→St w T s2 (wr++Tm env mu) (N++X3) env s6 l6 mu6:=fun hN S6=>S4.unbaseG S6 tm4;have dead:∀ {y:Addr},s4.heap.get? y=none→y∈wr++X∨s2.heap.get? y=none:=fun {y} e=>by
   refine BH (jA S4.base e) (fun q=>?_) fun q=>?_
   ·refine gJ q (fun q=>?_) fun q=>?_
    ·exact .inl (Ay _ q)
    ·have:=S2.rebase.mem
     refine gJ q (fun q=>?_) fun q=>?_
     ·exact .inl (S2.mem _ q)
     ·refine cX q ?_;rintro p mp rfl;exact .inl (S2.mus p mp).1
   ·exact .inr q
  have fin:(∃ N l mu',(∀ y∈N,s4.heap.get? y=none)∧Inv (i+1) l mu'∧St w T s4 (Tm env mu3) (N++X3) env s6 l mu')→
    ∃ m,m<items.length - i∧∃ i X3 l3 mu3,m=items.length - i∧i≤items.length∧Inv i l3 mu3∧(∀ y∈wr++X,y∈X3)∧(∀ y∈X3,y∈wr++X∨s2.heap.get? y=none)∧(∀ p∈mu3,p.1∈Tm env mu∨s2.heap.get? p.1=none)∧Stt i s6.heap∧St w T s2 (wr++Tm env mu) X3 env s6 l3 mu3:=by
   rintro ⟨N,l6,mu6,hN,I6,S6⟩;refine ⟨_,?_,i+1,N++X3,l6,mu6,rfl,hlt,I6,fun y m=>Ad _ (hX3 y m),fun y m=>?_,fun p m=>?_,?_,back hN S6⟩
   ·exact N4 0 7 eB (cY (N2 0 6 hlt))
   ·refine gJ m (fun m=>?_) fun m=>?_
    ·exact dead (hN y m)
    ·exact hX3' y m
   ·refine eG (S6.mus p m) fun _ n6 c6 _=>?_
    refine BH c6 ?_ ?_ <;> clear c6 <;> intro c6
    ·refine gJ c6 (fun c6=>?_) fun c6=>?_
     ·exact (n6 c6).elim
     ·refine cX c6 fun p' mp e=>?_;exact e▸hmu p' mp
    ·refine .inr ?_
     cases e:s2.heap.get? p.1 with
     | none=>rfl
     | some o=>
      exfalso;have al:∃ o,s4.heap.get? p.1=some o:=by
       by_cases z:p.1∈wr++Tm env mu
       ·refine gJ z (fun z=>?_) fun z=>?_
        ·exact it.alive _ _ hst4 _ z
        ·exact S4.live.1 _ (hX3 _ (by
          refine gJ z (fun z=>?_) fun z=>?_
          ·exact S2.mem _ z
          ·refine cX z fun p' mp e=>?_;exact e▸(S2.mus p' mp).1))
       ·exact ⟨o,S4.base.get z e⟩
      refine ob11 al fun o q=>?_;clear al;rw [c6] at q;cases q
   ·refine it.frame (i+1) s4.heap s6.heap hst4 fun b m o e=>S6.base.get (fun q=>?_) e
    refine gJ q (fun q=>?_) fun q=>?_
    ·exact fpTm b m (Ay _ q)
    ·refine cX q ?_;rintro p mp rfl
     refine BH (hmu p mp) (fun z=>?_) fun z=>?_
     ·exact fpTm _ m z
     ·refine ob11 (it.flive _ m) fun o q=>?_;rw [z] at q;cases q
  cases f with
  | next=>exact fin z
  | cont=>exact fin z
  | brk=>
   refine xJ z fun N l6 mu6 hN S6 q=>?_;clear z;have B6:=back hN S6;exact (q _ (fun y m=>Ad _ (hX3 y (Ad _ m))) (S2.unbaseG B6 tmB) (kept _ B6.base)).go
  | ret v=>
   refine BH z id fun z=>?_;refine xJ z fun N l6 mu6 hN S6 q=>?_;clear z;have B6:=back hN S6;exact q _ (fun y m=>Ad _ (hX3 y (Ad _ m))) (S2.unbaseG B6 tmB) (kept _ B6.base)
 ·have hin:i=items.length:=by exact N2 0 8 hi hlt
  subst hin;refine wpF <| it.done s3 _ hst fun s4 c4=>?_
  have Sp:St w T s2 (wr++Tm env mu) (wr++X3.filter fun y=>decide (y∉wr)) env s3 l3 mu3:=S3.perm fun y=>by
   rw [BM,Bf,decide_eq_true_eq];refine ⟨fun m=>?_,fun m=>m.elim (fun q=>hX3 y (Ay _ q)) fun q=>q.1⟩
   by_cases z:y∈wr
   ·exact .inl z
   ·exact .inr ⟨m,z⟩
  have sub:∀ y∈X,y∈X3.filter fun y=>decide (y∉wr):=fun y m=>Bf.mpr ⟨hX3 y (Ad _ m),decide_eq_true fun q=>wrF y q m⟩;have S4:=Sp.aside c4 (fun m=>by refine ob11 S.live.2 fun o e=>?_;rw [fresh0 _ m] at e;cases e) (fun g m=>⟨fun q=>of_decide_eq_true (Bf.mp q).2 m,.inl (Ay _ m)⟩)
   (fun a m=>sub a (S.mem a m)) fun p m=>Bf.mpr ⟨(S3.mus p m).1,decide_eq_true (muOff p m)⟩
  have hle:aZ (hx X s.heap) (hx (X3.filter fun y=>decide (y∉wr)) s4.heap):=((aL (aN k1)).trans (hleX s3 X3 S3.base hX3 hX3')).trans (aJ (fun b o n e=>c4.get (fun m=>n (hX3 b (Ay _ m))) e) fun y m=>.inl (Bf.mp m).1);exact cF (done _ _ l3 mu3 hI sub hle (S2.unbaseG S4 tmB) (kept _ S4.base)).go fun f s5 z=>by cases f <;> first | exact Xs.go z | exact z
theorem St.less {Y} (S:St w T s₀ F X env s l mu) (h:∀ y∈Y,y∈X) (mem:∀ a∈Fp env,a∈Y) (hmu:∀ p∈mu,p.1∈Y):St w T s₀ F Y env s l mu:=
 S.move S.base (bV h) ⟨fun y m=>S.live.1 y (h y m),S.live.2⟩ mem (fun _ _ _ e=>e) fun p m=>⟨hmu p m,fun _ e=>e⟩
theorem fT {tup t iter body orelse pos items n} (hA:dF n A) (S:St w T s₀ F X env s l mu) (src:fX w X A tup env s.heap iter items) (htup:tup=true→∃ es k p,t=.Tuple es k p)
  (Inv:Nat→(Str→Option D)→List (Addr×D)→Prop) (h0:Inv 0 l mu)
  (turn:∀ i d X1 s1 l1 mu1,items[i]?=some d→Inv i l1 mu1→mu1.map (·.1)=mu.map (·.1)→(∀ y∈X,y∈X1)→aZ (hx X s.heap) (hx X1 s1.heap)→St w T s₀ F X1 env s1 l1 mu1→
   ∃ l2,Tg env t d l1 l2∧∀ s2,St w T s1 (Tm env mu1) X1 env s2 l2 mu1→∀ Q1:Flow→Ak→Prop,(∀ {f s},pU w A env rest Q (fun s l mu=>St w T s1 (Tm env mu1) X1 env s l mu) (fun s l mu=>St w T s₀ F X env s l mu) (Inv (i+1)) (mu1.map (·.1)) f s→Q1 f s)→Xs w A body env Q1 (fun _ _=>False) s2)
  (done:∀ s1 l1 mu1,Inv items.length l1 mu1→mu1.map (·.1)=mu.map (·.1)→St w T s₀ F X env s1 l1 mu1→Xs w A orelse env (Nx w A env rest Q (fun _ _=>False)) (fun _ _=>False) s1)
  (hs:autoParam (∀ x,Be iter env x=pure x) ak):Xs w A (.For t iter body orelse pos::rest) env Q (fun _ _=>False) s:=by
 have muX:∀ {mu1:List (Addr×D)},mu1.map (·.1)=mu.map (·.1)→∀ p∈mu1,p.1∈X:=fun e p m=>by
  refine ob12 (AY.mp (e▸B8 m:p.1∈mu.map (·.1))) fun p' mp e=>?_;exact e▸(S.mus p' mp).1
 refine aAA hA S src htup (fun i l1 mu1=>Inv i l1 mu1∧mu1.map (·.1)=mu.map (·.1)) ⟨h0,rfl⟩ (fun i d X1 s1 l1 mu1 hd hI hX hle S1=>?_) (fun X1 s1 l1 mu1 hI hX hle S1 _=>done s1 l1 mu1 hI.1 hI.2 (S1.less hX S.mem (muX hI.2))) hs;refine ob12 (turn i d X1 s1 l1 mu1 hd hI.1 hI.2 hX hle S1) fun l2 tg body2=>?_;refine ⟨l2,tg,fun s2 S2=>body2 s2 S2 _ fun {f s3} z=>?_⟩;cases f with
 | next=>refine bI z fun l mu I S3 e=>?_;exact ⟨[],l,mu,nofun,⟨I,e.trans hI.2⟩,S3⟩
 | cont=>refine bI z fun l mu I S3 e=>?_;exact ⟨[],l,mu,nofun,⟨I,e.trans hI.2⟩,S3⟩
 | brk=>refine bI z fun l mu S3 e k=>?_;exact ⟨[],l,mu,nofun,S3,fun X' hX' S' _=>k (S'.less hX' S.mem (muX (e.trans hI.2)))⟩
 | ret v=>refine BH z .inl fun z=>?_;refine bI z fun l mu S3 e k=>?_;exact .inr ⟨[],l,mu,nofun,S3,fun X' hX' S' _=>k (S'.less hX' S.mem (muX (e.trans hI.2)))⟩
end
section
theorem cG.set {vs:List Ag} {ds:List D} {h:Heap} (r:cG w h vs ds) (j:Nat) {v d} (q:Rp w h v d):cG w h (vs.set j v) (ds.set j d):=by
 induction vs generalizing ds j with
 | nil=>cases r;exact .nil
 | cons u us ih=>
  cases r with
  | cons a b=>
   cases j with
   | zero=>exact .cons q b
   | succ j=>exact .cons a (ih b j)
theorem sK {a:Addr} {items:Array Ag} {j:Nat} {k:Int} {t:Tok} {v:Ag} {Q:Unit→Ak→Prop} (hk:k=(j:Int)) (hl:s.heap.PlainList a items) (hj:j<items.size) (hsz:items.size≤100000)
  (hQ:∀ h',h'.PlainList a (items.setIfInBounds j v)→A4 a s.heap h'→Q () { s with heap:=h' }):Au (AI prog w) A (setItem (.ref a) (.int k t) v) Q E s:=by
 refine ob11 hl fun n ho=>?_;clear hl;have hT:s.TypeIs (.ref a) "list":=⟨_,ho,rfl⟩;unfold setItem;refine BA ?_;refine Ab (HF hT (by decide) ?_);refine Ab (AX (name:=BK "__setitem__") hT HC (A9 HC hT entry_list_setitem ?_ (args_list_setitem _ _ _)));show Au _ _ (Ih (.int k t) >>= _) _ _ s;refine Ab (wpAny_listSubscript_int (fitsIndex_of (by exact nS 1 2 hk) (by exact aD5 1 3 hk hj hsz)) ?_);subst hk;show Au _ _ ((seqItemAt a j >>= fun r=>pure (r.map (j,·))) >>= _) _ _ s;refine Ab (Ab (wpAny_seqItemAt ho rfl (Aj ?_)));rw [Bu hj];show Au _ _ (setSeqItemAt a j v >>= _) _ _ s;refine Ab (wpAny_setSeqItemAt ho rfl ?_);have fin:(s.heap.update a (Gd (·.setIfInBounds j v))).PlainList a (items.setIfInBounds j v):=⟨_,Br _ ho rfl⟩
 first
  | exact Ab (Aj (Aj ⟨.none,rfl,Aj (hQ _ fin (A7 ..))⟩))
  | exact Aj ⟨.none,rfl,Aj (hQ _ fin (A7 ..))⟩
theorem aEr {x p ke kp e pos a ds d pre post} {j:Nat} (S:St w T s₀ F X env s l (pre++(a,.list ds)::post)) (hl:l x=some (.val (.ref a))) (he:Ev w X A env s.heap e d) (hk:Ev w X A env s.heap ke (.int (j:Int))) (hj:j<ds.length) (hsz:ds.length≤100000)
  (k:∀ s',St w T s₀ F X env s' l (pre++(a,.list (ds.set j d))::post)→Xs w A rest env Q E s')
  (hd:autoParam ((x==("__debug__":Str))=false) ad) (hs:autoParam (Cd e (some (.Subscript (.Name x p) ke kp)) pos.line env=pure false) aq) :
  Xs w A (.Assign [.Subscript (.Name x p) ke kp] e pos::rest) env Q E s:=by
 refine cI (DD (he.use S.live aZ.rfl fun v s1 r1 k1=>(Ev.name (S.nm hl) hd).use (S.live.mono (aN k1)) (aN k1) fun ov s2 r2 k2=>hk.use (S.live.mono (aN (aD k1 k2))) (aN (aD k1 k2)) fun iv s3 r3 k3=>?_) hs);cases r2.ofVal;refine ob11 r3.ofInt ?_;rintro t rfl;have k123:=aD (aD k1 k2) k3;have S3:=S.keeps k123;refine eG (S3.mus (a,.list ds) (Ad _ (.head _))) fun aX _ _ mm=>?_;cases mm with
 | @list vs _ p rs=>
  have hv:vs.length=ds.length:=rs.length;refine sK rfl p (by rw [AH,hv];exact hj) (by rw [AH,hv];exact hsz) fun h' hp hs=>?_;have c:Ch [a] s3 { s3 with heap:=h' }:=Ch.heap (tk:=s3.toks) fun b o n e=>hs.extBut b o (fun q=>n (q▸.head _)) e;have hm:aZ (hx X s3.heap) (hx X h'):=aJ (fun b o n e=>hs.extBut b o (fun q=>n (q▸aX)) e) fun y m=>.inl m;have hp':h'.PlainList a (vs.set j v).toArray:=by
   have:(vs.set j v).toArray=vs.toArray.setIfInBounds j v:=by simp
   rw [this];exact hp
  refine ob11 (id hp) fun n eo=>?_;exact (k _ (S3.mutate c ⟨_,eo⟩ (.list hp' ((rs.set j (r1.kp (aD k2 k3))).mono hm)))).go
theorem yT {x pos' e pos ds} (S:St w T s₀ F X env s l mu) (he:Au (AI prog w) A (eval e env) (fun v s1=>A0 s s1∧∃ a vs,v=.ref a∧s.heap.get? a=none∧s1.heap.PlainList a vs.toArray∧cG w s1.heap vs ds) (fun _ _=>False) s) (hf:ds.all flat=true)
  (k:∀ a s',St w T s₀ F (a::X) env s' (up l x (.val (.ref a))) ((a,.list ds)::mu)→s.heap.get? a=none→Xs w A rest env Q E s')
  (hk:nB env x) (hs:autoParam (Cd e (some (.Name x pos')) pos.line env=pure false) aq) :
  Xs w A (.Assign [.Name x pos'] e pos::rest) env Q E s:=by
 refine cI (By (cF he fun v s1 z=>?_) hs);refine bM z fun k1 kz=>?_;clear z;refine jS kz ?_;clear kz;rintro a vs rfl ha hp rs;have S1:=S.newMu (d:=.list ds) k1 ha (let ⟨n,e⟩:=hp;⟨_,e⟩) (.list hp (cG.flat rs hf));exact S1.store (.val _) hk fun s2 S2 c=>(k _ s2 S2 ha).go
theorem aBm {e1 e2 p xs ys} (h1:Ev w X A env h e1 (.list xs)) (h2:Ev w X A env h e2 (.list ys)) (hs:xs.length+ys.length≤100000) (hX:XL X s.heap) (k:aZ h s.heap) :
  Au (AI prog w) A (eval (.BinOp e1 .Add e2 p) env) (fun v s1=>A0 s s1∧∃ a vs,v=.ref a∧s.heap.get? a=none∧s1.heap.PlainList a vs.toArray∧cG w s1.heap vs (xs++ys)) (fun _ _=>False) s:=
 wpAny_BinOp (h1.use hX k fun v1 s1 r1 k1=>h2.use (hX.mono (aN k1)) (k.trans (aN k1)) fun v2 s2 r2 k2=>by
  refine bI ((r1.kp k2).ofList) ?_;rintro a vs rfl ⟨n1,p1⟩ q1;refine bI r2.ofList ?_;rintro b us rfl ⟨n2,p2⟩ q2;refine P.add_list (n:=n1) (n2:=n2) (aR _ _ p1) (aR _ _ p2) ⟨aD (aD k1 k2) bT,s2.heap.objs.size,vs++us,rfl,?_,⟨0,?_⟩,((q1.append q2).mono aR).mono (aN bT)⟩ (by rw [AH,AH,q1.length,q2.length];exact Ao hs (by decide))
  ·cases e:s.heap.get? s2.heap.objs.size with
   | none=>rfl
   | some o=>exact absurd (AK (aN (aD k1 k2) _ _ e)) (CT _)
  ·have e:vs.toArray++us.toArray=(vs++us).toArray:=by simp
   rw [← e];exact Ae _ rfl)
theorem St.drop2 {a b d d'} (S:St w T s₀ F X env s l ((a,d)::(b,d')::mu)):St w T s₀ F X env s l ((a,d)::mu):=
 ⟨S.kind,S.gl,S.bl,S.base,S.live,S.pl,S.mem,S.own,S.ns,S.cs,S.tot,S.apart,S.wd,fun p m=>S.mus p (by
  refine cK m (fun e=>?_) fun m=>?_
  ·rw [e];exact .head _
  ·exact .tail _ (.tail _ m)),by
  refine bM (Bn.mp S.mud) fun h1 h2=>?_;exact Bn.mpr ⟨fun p m=>h1 p (.tail _ m),(Bn.mp h2).2⟩⟩
theorem Bo.mul_li {xs:List D} {k:Int} (h0:0≤k) (hk:k≤1000) (hx':xs.length≤1):Bo w X A h (Dh .Mult) (.list xs) (.int k) (.list (As k.toNat xs).flatten):=.mk fun s v1 v2 hX _ r1 r2=>by
 refine bI r1.ofList ?_;rintro a vs rfl ⟨n1,p1⟩ q1;refine ob11 r2.ofInt ?_;rintro t rfl;have hv:vs.length≤1:=by rw [q1.length];exact hx'
 have hsz:vs.toArray.size*k.toNat≤1000:=by
  rw [AH];have:vs.length*k.toNat≤1*k.toNat:=Nat.mul_le_mul_right _ hv;lia
 have ho:=aR _ _ p1;refine wpAny_binaryOp_repeat_ref (T:="list") (U:="int") (by decide) ⟨_,ho,rfl⟩ (fun s'=>typeIs_int s' k t) noFill_list_mul F.fills_int_mul H3 repeat_list F.slot_int_index.lookup
  (EN H3 (typeIs_int s k t) F.entry_int_rmul (F.args_int_rmul_2 _ _) (int___rmul___int_list k t a vs.toArray n1)
   ⟨ho,rfl,⟨_,ho,rfl⟩,EN F.slot_list_mul ⟨_,ho,rfl⟩ F.entry_list_mul (F.args_list_mul_2 _ _)
    (AutoListH.list___mul___list_int_3 a vs.toArray n1 k t (by simp [Im];lia) (by lia) (by simp only [IT,decide_eq_true_eq,CB];exact Ao hsz (by decide)))
    ⟨ho,?_,bT⟩⟩)
 have e:List.foldl (fun x1 x2=>x1++x2) #[] (As (if vs.toArray.isEmpty=true then 0 else k.toNat) vs.toArray)=(As k.toNat vs).flatten.toArray:=listMul_foldl_if ..;rw [e];refine .list (PlainList.new hX) ?_;have:∀ m:Nat,cG w (hx X s.heap) (As m vs).flatten (As m xs).flatten:=fun m=>by
  induction m with
  | zero=>exact .nil
  | succ m ih=>rw [D4,D4,BU,BU];exact q1.append ih
 exact (this _).mono (aL (aN bT))
theorem Cl.tuple_list {ds} (hl:ds.length≤100000):Cl w X A h (.type "tuple") [] [.list ds] (.tup ds):=.mk fun s fs vs hX _ r0 r=>by
 cases r0;refine ob12 r.c1 ?_;rintro _ rfl a;refine bI a.ofList ?_;rintro a' vs rfl hp rs;refine call_tuple_list (hp.at fun o e=>aR _ _ e).isList (fun h' hk=>?_) (by rw [AH,rs.length];exact Ao hl (by decide));have kk:A0 s { s with heap:=h'.push { cls:=.type "tuple",data:=.seq vs.toArray } }:=⟨_,s.toks,rfl,fun b o e=>Ai _ (hk _ _ e)⟩;refine ⟨.tup ⟨_,bU (Ae _ rfl) ((hX.mono hk).fresh (Am _)),rfl,0,rfl⟩ (rs.mono (aL (aN kk))),kk⟩
end
section
noncomputable def wo (a:Addr) (X:List Addr):List Addr:=X.filter fun y=>decide (y≠a)
theorem aGF {a:Addr} {X}:a∉wo a X:=fun m=>by
 have:=(Bf.mp m).2;simp at this
theorem oM {a y:Addr} {X} (m:y∈X) (n:y≠a):y∈wo a X:=Bf.mpr ⟨m,decide_eq_true n⟩
theorem aDX {a y:Addr} {X} (m:y∈wo a X):y∈X:=(Bf.mp m).1
theorem XL.wo {a:Addr} {X h} (x:XL X h):XL (wo a X) h:=⟨fun y m=>x.1 y (aDX m),x.2⟩
theorem St.froz {a d x} (S:St w T s₀ F X env s l [(a,d)]) (hl:l x=some (.val (.ref a))) (hz:d.frz=true):St w T s₀ F (wo a X) env s (up l x d) []:=by
 refine eG (S.mus _ (.head _)) fun aX aF _ _=>?_;have S1:St w T s₀ F (a::wo a X) env s l [(a,d)]:=S.perm fun y=>by
  by_cases z:y=a
  ·subst z;exact ⟨fun _=>.head _,fun _=>aX⟩
  ·exact ⟨fun m=>.tail _ (oM m z),fun m=>aDX ((AP.mp m).resolve_left z)⟩
 exact S1.freeze aGF hl hz (fun y m=>oM (S.mem y m) fun e=>aF (e▸m)) fun _ m=>nomatch m
theorem Ev.lookX {a e d} (x:Ev w (wo a X) A env h e d) (f:flat d=true):Ev w X A env h e d:=.mk fun s hX k=>
 cF (x.go s hX.wo k) fun v s' z=>⟨Rp.flat z.1 f,z.2⟩
theorem Tr.lookX {a e b} (x:Tr w (wo a X) A env h e b):Tr w X A env h e b:=.mk fun s hX k=>x.go s hX.wo k
theorem aCZ {x1 x2 x3 p1 p2 p3 e pos d} (S:St w T s₀ F X env s l mu) (he:Ev w X A env s.heap e d) (h1:nB env x1) (h2:nB env x2) (h3:nB env x3)
  (k:∀ s',St w T s₀ F X env s' (up (up (up l x1 d) x2 d) x3 d) mu→Ch (Fp env) s s'→Xs w A rest env Q E s')
  (hw:autoParam (swappedStores [.Name x1 p1,.Name x2 p2,.Name x3 p3] e env=pure none) aq):Xs w A (.Assign [.Name x1 p1,.Name x2 p2,.Name x3 p3] e pos::rest) env Q E s:=by
 refine cI (wpAny_Assign_three (he.use S.live aZ.rfl fun v s1 r k1=>assign_Name ((S.keeps k1).store r h1 fun s2 S2 c2=>assign_Name (S2.store ?_ h2 fun s3 S3 c3=>assign_Name (S3.store ?_ h3 fun s4 S4 c4=>(k s4 S4 (((Ch.of_keeps k1).trans c2).trans (c3.trans c4))).go)))) (by rfl) hw)
 ·exact r.mono (aJ (fun b o n e=>c2.get (fun m=>n (S.mem b m)) e) fun y m=>.inl m)
 ·exact r.mono ((aJ (fun b o n e=>c2.get (fun m=>n (S.mem b m)) e) fun y m=>.inl m:aZ _ (hx X s2.heap)).trans (aJ (fun b o n e=>c3.get (fun m=>n (S.mem b m)) e) fun y m=>.inl m))
theorem Ev.attrMu {o name pos C N tab d x dx mA v} (ho:Ev w X A env h o (.val (.ref x))) (W:Wd w T (hx X h)) (hm:(C,N,tab)∈T.cls) (I:kJ h x dx C mA) (hv:mA name=some v) (r:Rp w (hx X h) v d) (hp:autoParam (zO d=true) aq)
  (hng:autoParam (tab.lookup ("__getattribute__":Str)=Option.none) aq) (hna:autoParam (tab.lookup name=Option.none) aq) (hB:Hg (.type "object") name=pure Option.none:=by rw [BN,Bc];kernel_rfl)
  (he:∀ env,eval (.Attribute o name pos) env=(do
   let ov ← eval o env
   standAt pos.atName
   let r ← holding [ov] (getAttr ov name true)
   letTemporaryGo o ov r
   pure r):=by intro _;with_unfolding_all rfl):Ev w X A env h (.Attribute o name pos) d:=.mk fun s hX k=>by
 refine Gw (ho.use hX k fun v0 s1 r0 k1=>?_) (he _);cases r0.ofVal;have kk:=k.trans (aN k1);have K:=((W.mono (aL kk)).mono aR).cls _ hm;refine kY K.obj fun nm q bs sn sub col dd k0 k1' k2 k3 k5 hC=>?_;obtain ⟨hh,g,dr,t,os⟩:=s1;exact load_attr hC K.ns hng hna hB (I.at (fun o e=>kk _ _ e) (fun o e=>kk _ _ e)).inst hv (nI r hp) ⟨r.mono (aL kk),aD k1 dG⟩
theorem wF {x pos' p pos} (S:St w T s₀ F X env s l mu) (k:∀ a s',St w T s₀ F (a::X) env s' (up l x (.val (.ref a))) ((a,.list [])::mu)→s.heap.get? a=none→Ch (Fp env) s s'→Xs w A rest env Q E s')
  (hk:autoParam (nB env x) ak) (hs:autoParam (Cd (.List [] p) (some (.Name x pos')) pos.line env=pure false) aq) :
  Xs w A (.Assign [.Name x pos'] (.List [] p) pos::rest) env Q E s:=by
 refine cI (By (Gh (C9 ⟨by show 0≤sizeLine;decide,?_⟩)) hs);have ha:s.heap.get? s.heap.objs.size=none:=aH (Am _);have S1:=S.newMu (d:=.list []) bT ha ⟨_,Ae _ rfl⟩ (.list (vs:=[]) ⟨0,Ae _ rfl⟩ .nil);exact S1.store (.val _) hk fun s2 S2 c=>Xs.go <| k _ s2 S2 ha ((Ch.of_keeps bT).trans c)
end
section
structure nD (w:Bl) (X:List Addr) (A:Ba) (env:Env) (h:Heap) (e:AO) (d:D):Prop where
 go:∀ s:Ak,XL X s.heap→aZ h s.heap→Au (AI prog w) A (eval e env) (fun v s'=>A0 s s'∧∃ a,v=.ref a∧s.heap.get? a=none∧(∃ o,s'.heap.get? a=some o)∧∀ Y,cN w Y s'.heap a d) (fun _ _=>False) s
theorem nD.list {es p ds} (he:Es w X A env h es ds) (hf:ds.all flat=true) (hz:ds.length≤1000):nD w X A env h (.List es p) (.list ds):=.mk fun s hX k=>
 Gh (cF (he.go s p hX k) fun vs s1 z=>⟨by rw [z.1.length];exact Ao hz bD,aD z.2 bT,_,rfl,by
  cases e:s.heap.get? s1.heap.objs.size with
  | none=>rfl
  | some o=>exact absurd (AK (aN z.2 _ _ e)) (CT _),⟨_,Ae _ rfl⟩,fun Y=>.list (vs:=vs) ⟨0,Ae _ rfl⟩ (cG.flat z.1 hf)⟩)
theorem cZ.flat {g g':Heap} {kvs:List (Str×Ag)} {r:List (Str×D)} (q:cZ w g kvs r):(r.map (·.2)).all flat=true→cZ w g' kvs r:=by
 refine q.ind (M:=fun kvs r=>(r.map (·.2)).all Mine.Internal.flat=true→cZ w g' kvs r) (fun _=>.nil) fun a _ i f=>?_;rw [AC,FH,AJ] at f;exact .cons (Rp.flat a f.1) (i f.2)
theorem nD.dictS {ks vs pos} {r:List (Str×D)} (p:∀ a,h.get? a=Option.none→Ps w (a::X) A env h .str ks vs r) (hn:(r.map (·.1)).Nodup) (h0:ks≠[]) (hl:ks.length≤15) (hf:(r.map (·.2)).all Mine.Internal.flat=true):nD w X A env h (.Dict ks vs pos) (.sdict r):=.mk fun s hX kh=>by
 have pp:=p s.heap.objs.size (qU kh (Am _));have sh:=pp.shape;have kp:A0 s { s with heap:=s.heap.push { cls:=.type "dict",data:=.dict #[] } }:=bT;have hX1:XL (s.heap.objs.size::X) (s.heap.push { cls:=.type "dict",data:=.dict #[] }):=⟨fun y m=>(AP.mp m).elim (fun e=>by rw [e];exact ⟨_,Ae _ rfl⟩) fun m=>(hX.mono (aN kp)).1 y m,(hX.mono (aN kp)).2⟩;refine GN sh.1 sh.2.1 h0 hl (pp.runS hX1 (kh.trans (aN kp)) fun kvs pv s2 cc rr k2=>?_);have kn:(kvs.map (·.1)).Nodup:=by rw [rr.keys];exact hn
 refine GO (knd:=strKind prog w) pv kvs [] s2 _ cc ((D9 s.heap).keep (aN k2)) (by rw [AQ,DU,rr.length,← sh.2.2];exact Ao hl (by decide)) fun h' hd hs=>?_;rw [oD kn] at hd;have k02:=aD kp k2;refine fW (id hd) fun o es ep ho z=>?_;refine ⟨?_,_,rfl,aH (Am _),⟨o,ho⟩,fun Y=>.sdict (vD hX) hd (cZ.flat rr hf)⟩;refine fP k02 ?_;clear k02;rintro h2 t2 rfl kk;exact ⟨h',_,rfl,fun b o e=>hs.extBut b o (fun q=>by rw [q,aH (Am _)] at e;cases e) (kk b o e)⟩
theorem wE {e1 e2 kk pos d1 d2} {Q:Ag→Ak→Prop} (n1:nD w X A env h e1 d1) (n2:nD w X A env h e2 d2) (hX:XL X s.heap) (k:aZ h s.heap) (h1:AF [e1,e2] env=(false,eval e1 env)::AF [e2] env) (h2:AF [e2] env=(false,eval e2 env)::AF [] env)
  (q:∀ t a b s',A0 s s'→s.heap.get? a=none→s.heap.get? b=none→a≠b→(∃ o,s'.heap.get? a=some o)→(∃ o,s'.heap.get? b=some o)→(∀ Y,cN w Y s'.heap a d1)→(∀ Y,cN w Y s'.heap b d2)→s'.heap.IsTuple t #[.ref a,.ref b]→Q (.ref t) s') :
  Au (AI prog w) A (eval (.Tuple [e1,e2] kk pos) env) Q E s:=by
 refine H1 (Dw (cF (n1.go s hX k) fun v1 s1 z1=>Dw (cF (n2.go s1 (hX.mono (aN z1.1)) (k.trans (aN z1.1))) fun v2 s2 z2=>C9 ⟨by show 2≤sizeLine;decide,?_⟩) h2) h1);refine bM z1 fun k1 kz=>?_;clear z1;refine ob14 kz ?_;clear kz;rintro a rfl fa la ma;refine bM z2 fun k2 kz=>?_;clear z2;refine ob14 kz ?_;clear kz;rintro b rfl fb lb mb;have la2:∃ o,s2.heap.get? a=some o:=let ⟨o,e⟩:=la;⟨o,aN k2 _ _ e⟩;have kp:A0 s2 { s2 with heap:=s2.heap.push { cls:=.type "tuple",data:=.seq [Ag.ref a,Ag.ref b].toArray } }:=bT;refine q s2.heap.objs.size a b _ (aD (aD k1 k2) kp) fa ?_ ?_ (let ⟨o,e⟩:=la2;⟨o,aN kp _ _ e⟩) (let ⟨o,e⟩:=lb;⟨o,aN kp _ _ e⟩) (fun Y=>(ma Y).mono (aL (aN (aD k2 kp))) fun o e=>aN (aD k2 kp) _ _ e) (fun Y=>(mb Y).mono (aL (aN kp)) fun o e=>aN kp _ _ e) ⟨_,Ae _ rfl,rfl,0,rfl⟩
 ·cases e:s.heap.get? b with
  | none=>rfl
  | some o=>rw [aN k1 _ _ e] at fb;cases fb
 ·rintro rfl
  refine ob11 la fun o e=>?_;clear la;rw [e] at fb;cases fb
theorem St.newTwo {a b d1 d2} (S:St w T s₀ F X env s l mu) (k:A0 s s') (fa:s.heap.get? a=none) (fb:s.heap.get? b=none) (ne:a≠b) (la:∃ o,s'.heap.get? a=some o) (lb:∃ o,s'.heap.get? b=some o) (ma:∀ Y,cN w Y s'.heap a d1) (mb:∀ Y,cN w Y s'.heap b d2) :
  St w T s₀ F (b::a::X) env s' l ((b,d2)::(a,d1)::mu):=by
 have aX:a∉X:=fun m=>by refine ob11 (S.live.1 a m) fun o e=>?_;rw [fa] at e;cases e
 have bX:b∉X:=fun m=>by refine ob11 (S.live.1 b m) fun o e=>?_;rw [fb] at e;cases e
 have S1:St w T s₀ F ([b,a]++X) env s' l mu:=S.hide (Y:=[b,a]) (fun y m=>by
  refine cK m (fun e=>?_) fun m=>?_
  ·rw [e];exact fb
  ·rw [bH m];exact fa) k fun y m=>by
  refine cK m (fun e=>?_) fun m=>?_
  ·rw [e];exact lb
  ·rw [bH m];exact la
 have S2:=S1.addMu (a:=a) (d:=d1) (.tail _ (.head _)) (fun m=>aX (S.mem _ m)) (jA S.base fa) (fun p m e=>aX (e▸(S.mus p m).1)) (ma _);exact S2.addMu (a:=b) (d:=d2) (.head _) (fun m=>bX (S.mem _ m)) (jA S.base fb) (fun p m e=>by
  refine cK m (fun q=>?_) fun m=>?_
  ·rw [q] at e;exact ne e.symm
  ·exact bX (e▸(S.mus p m).1)) (mb _)
theorem uP {x y p1 p2 e1 e2 kk tpos kk2 pp pos d1 d2} (hh:A.handled=none) (S:St w T s₀ F X env s l mu) (n1:nD w X A env s.heap e1 d1) (n2:nD w X A env s.heap e2 d2) (ox:nB env x) (oy:nB env y)
  (k:∀ a b s',St w T s₀ F (b::a::X) env s' (up (up l x (.val (.ref a))) y (.val (.ref b))) ((b,d2)::(a,d1)::mu)→s.heap.get? a=none→s.heap.get? b=none→Xs w A rest env Q E s')
  (h1:autoParam (AF [e1,e2] env=(false,eval e1 env)::AF [e2] env) aq) (h2:autoParam (AF [e2] env=(false,eval e2 env)::AF [] env) aq)
  (hs:autoParam (swapsWithSole [.Tuple [.Name x p1,.Name y p2] kk tpos] (.Tuple [e1,e2] kk2 pp) pos.line env=pure false) aq) (hw:autoParam (swappedStores [.Tuple [.Name x p1,.Name y p2] kk tpos] (.Tuple [e1,e2] kk2 pp) env=pure none) aq):Xs w A (.Assign [.Tuple [.Name x p1,.Name y p2] kk tpos] (.Tuple [e1,e2] kk2 pp) pos::rest) env Q E s:=
 cI (Assign_Tuple (wE n1 n2 S.live aZ.rfl h1 h2 fun t a b s1 k1 fa fb ne la lb ma mb ht=>by
  have S1:=S.newTwo k1 fa fb ne la lb ma mb;have tg:Tgts env [.Name x p1,.Name y p2] [x,y]:=.cons ox (.cons oy .nil);refine Hh hh ht (by rw [tg.length];rfl) tg.star fun h' e=>?_;have kp:A0 s1 { s1 with heap:=h' }:=ExtBut.ch (G:=[]) e;exact (S1.keeps kp).inOrder tg (.cons (.val (.ref a)) (.cons (.val (.ref b)) .nil)) rfl fun s' S' c=>(k a b s' S' fa fb).go) hs hw)
theorem sD {x y p1 p2 e1 e2 kk tpos kk2 pp pos d1 d2} (hh:A.handled=none) (S:St w T s₀ F X env s l mu) (n1:nD w X A env s.heap e1 d1) (n2:nD w X A env s.heap e2 d2) (ox:nB env x) (oy:nB env y)
  (k:∀ a b s',St w T s₀ F (b::a::X) env s' (up (up l y (.val (.ref b))) x (.val (.ref a))) ((b,d2)::(a,d1)::mu)→s.heap.get? a=none→s.heap.get? b=none→Xs w A rest env Q E s')
  (h1:autoParam (AF [e1,e2] env=(false,eval e1 env)::AF [e2] env) aq) (h2:autoParam (AF [e2] env=(false,eval e2 env)::AF [] env) aq)
  (hs:autoParam (swapsWithSole [.Tuple [.Name x p1,.Name y p2] kk tpos] (.Tuple [e1,e2] kk2 pp) pos.line env=pure false) aq) (hw:autoParam (swappedStores [.Tuple [.Name x p1,.Name y p2] kk tpos] (.Tuple [e1,e2] kk2 pp) env=pure (some [x,y])) aq):Xs w A (.Assign [.Tuple [.Name x p1,.Name y p2] kk tpos] (.Tuple [e1,e2] kk2 pp) pos::rest) env Q E s:=
 cI (Gv (wE n1 n2 S.live aZ.rfl h1 h2 fun t a b s1 k1 fa fb ne la lb ma mb ht=>by
  have S1:=S.newTwo k1 fa fb ne la lb ma mb;have hsz:[x,y].length=#[Ag.ref a,Ag.ref b].size:=rfl;rw [hsz];refine F4 hh ht fun h' e=>?_;have kp:A0 s1 { s1 with heap:=h' }:=ExtBut.ch (G:=[]) e;have e1:[x,y].reverse=[y,x]:=rfl;have e2:#[Ag.ref a,Ag.ref b].toList.reverse=[.ref b,.ref a]:=rfl;rw [e1,e2];refine (S1.keeps kp).swapped (xs:=[y,x]) (vs:=[.ref b,.ref a]) (ds:=[.val (.ref b),.val (.ref a)]) (fun z m=>?_) (.cons (.val (.ref b)) (.cons (.val (.ref a)) .nil)) rfl fun s2 S2 c=>(k a b s2 S2 fa fb).go;refine cK m (fun e=>?_) fun m=>?_
  ·rw [e];exact oy
  ·rw [bH m];exact ox) hs hw)
theorem aEn {x p ke pos a ds d kk} (hn:Nm w X env h x (.val (.ref a))) (hm:cN w X h a (.sdict ds)) (hk:Ev w X A env h ke (.str kk)) (hf:bE ds kk=some d) (hd:autoParam ((x==("__debug__":Str))=false) ad)
  (hs:autoParam (hU ke) ak):Ev w X A env h (.Subscript (.Name x p) ke pos) d:=.mk fun s1 hX1 k1=>
 Gf ((Ev.name hn hd).use hX1 k1 fun ov s2 r2 k2=>hk.use (hX1.mono (aN k2)) (k1.trans (aN k2)) fun iv s3 r3 k3=>by
  cases r2.ofVal;refine ob11 r3.ofStr ?_;rintro t rfl;have kk2:aZ h s3.heap:=(k1.trans (aN k2)).trans (aN k3);have mm:=hm.mono (aL kk2) (fun o e=>kk2 _ _ e);refine ob11 (hs (.ref a) (.str kk t)) fun ops e=>?_;cases mm with
  | @sdict kvs _ q p rs=>
   refine ob12 (rs.find hf) fun v hv r=>?_;exact DK p.typeIs C8.lookup (CW (knd:=strKind prog w) (Fh prog w kk t) p.mapOf hv ⟨r,aD (aD k2 k3) dG⟩) e)
theorem qK {x p pos a d Y} (S:St w T s₀ F X env s l mu) (hl:l x=some (.val (.ref a))) (hm:(a,d)∈mu) (hz:d.frz=true) (hY:∀ y∈Y,y∈X) (ha:a∉Y) (k:∀ s',Rp w (hx Y s'.heap) (.ref a) d→St w T s₀ F X env s' l mu→A0 s s'→Q (.ret (.ref a)) s')
  (hd:autoParam ((x==("__debug__":Str))=false) ad):Xs w A (.Return (some (.Name x p)) pos::rest) env Q E s:=
 dJ S (Ev.name (S.nm hl) hd) fun v s' r S' k'=>by
  cases r.ofVal;exact k s' ((S'.muAt hm).thaw hz (bV hY) ha fun _ e=>e) S' k'
end
section
variable {w:Bl} {A:Ba} {E:Ag→Ak→Prop} {s:Ak}
structure Dr (w:Bl) (i t:Addr) (P:Nat→Heap→Prop) (xs:Array Ag):Prop where
 item:∀ (A:Ba) k (s:Ak) x (Q:Ag→Ak→Prop) (E:Ag→Ak→Prop),P k s.heap→xs[k]?=some x→(∀ h',P (k+1) h'→A4 i s.heap h'→Q x { s with heap:=h' })→
  Au (AI prog w) A (BI (.ref i)) Q E s
 done:∀ (A:Ba) k (s:Ak) (Q:Ag→Ak→Prop) (E:Ag→Ak→Prop),A.handled=none→P k s.heap→xs[k]?=none→
  (∀ h' e,HX i s.heap h'→(∃ o,h'.get? e=some o∧o.cls=.type "StopIteration")→E (.ref e) { s with heap:=h' })→Au (AI prog w) A (BI (.ref i)) Q E s
 far:∀ k h h',P k h→(∀ o,h.get? i=some o→h'.get? i=some o)→(∀ o,h.get? t=some o→h'.get? t=some o)→P k h'
 lt:∀ k h,P k h→i<h.objs.size
theorem Dr.tup {i t:Addr} {xs:Array Ag}:Dr w i t (fun k h=>h.IsTupleIter i t k∧h.IsTuple t xs∧t≠i) xs where
 item:=fun A k s x Q E P hx q=>by
  refine gM P fun hit ht ne=>?_;clear P;refine ob13 (id hit) fun o ho hc hd=>?_;refine ob13 (id ht) fun ol hol _ kz=>?_;refine ob11 kz fun nl hdl=>?_;clear kz;unfold BI;refine Ab (AX (name:=BK "__next__") hit.typeIs CZ (A9 CZ hit.typeIs E6 ?_ (EX _)));show Au _ _ (field (.ref i) 0 >>= _) _ _ s;refine Ab (Bt ho hd (x:=.ref t) rfl ?_);show Au _ _ (if (Ag.ref t==Ag.none)=true then _ else _) _ _ s;rw [if_neg (show ¬ ((Ag.ref t==Ag.none)=true) from CX)];show Au _ _ (field (.ref i) 1 >>= _) _ _ s;refine Ab (Bt ho hd (x:=.int k 0) rfl ?_);show Au _ _ (seqItems? (.ref t) >>= _) _ _ s;refine Ab (Dx hol hdl ?_);simp only [Ap,hx];have hs:A4 i s.heap (s.heap.update i (Bz (·.setIfInBounds 1 (Bh ((k:Int)+1))))):=A7 ..;have fin:(s.heap.update i (Bz (·.setIfInBounds 1 (Bh ((k:Int)+1))))).IsTupleIter i t (k+1):=
   ⟨_,Br _ ho (Cc (Bq hd _)),(DL ..).trans hc,by rw [Bq hd];simp [Bh]⟩
  exact Ab (Ci ho hd (by simp) (Aj ⟨x,rfl,Aj (q _ ⟨fin,ht.extBut hs.extBut ne,ne⟩ hs)⟩))
 done:=fun A k s Q E hh P hx q=>by
  refine gM P fun hit ht ne=>?_;clear P;refine ob13 (id hit) fun o ho hc hd=>?_;refine ob13 (id ht) fun ol hol _ kz=>?_;refine ob11 kz fun nl hdl=>?_;clear kz;unfold BI;refine Ab (AX (name:=BK "__next__") hit.typeIs CZ (A9 CZ hit.typeIs E6 ?_ (EX _)));show Au _ _ (field (.ref i) 0 >>= _) _ _ s;refine Ab (Bt ho hd (x:=.ref t) rfl ?_);show Au _ _ (if (Ag.ref t==Ag.none)=true then _ else _) _ _ s;rw [if_neg (show ¬ ((Ag.ref t==Ag.none)=true) from CX)];show Au _ _ (field (.ref i) 1 >>= _) _ _ s;refine Ab (Bt ho hd (x:=.int k 0) rfl ?_);show Au _ _ (seqItems? (.ref t) >>= _) _ _ s;refine Ab (Dx hol hdl ?_);simp only [Ap,hx];refine Ab (Ej (Ab (Ci ho hd (by simp) ?_)));show Au _ _ (newExc (.type "StopIteration") [] >>= _) _ _ _;refine Ab ?_;simp only [newExc,newTuple];refine Ab (AV ?_ (by size_fits));refine Ab (m:=firstArgMember _ _) (Dj (a:=Ag.none) (by first | rfl | (simp only [firstArgMember];rfl)) ?_);refine AV ?_ (by size_fits);simp only [raiseNew];refine Ab (FN ?_)
  first | rw [show A.in1.handled=none from hh] | rw [hh]
  exact Ab (Aj (GP (q _ _ (((A7 ..).extBut.push _).push _) ⟨_,Ae _ rfl,rfl⟩)))
 far:=fun k h h' P k1 k2=>⟨P.1.at k1,let ⟨o,ho,r⟩:=P.2.1;⟨o,k2 _ ho,r⟩,P.2.2⟩
 lt:=fun k h P=>let ⟨_,e,_⟩:=P.1;AK e
structure ZA (z TI TO i j t u:Addr):Prop where
 ne:TI≠z∧TO≠z∧i≠z∧j≠z∧TI≠TO∧TI≠i∧TI≠j∧TO≠i∧TO≠j∧i≠j
 t:t≠z∧t≠TI∧t≠TO∧t≠i∧t≠j
 u:u≠z∧u≠TI∧u≠TO∧u≠i∧u≠j
section
variable {z TI TO i j t u:Addr} {P1 P2:Nat→Heap→Prop} {xs ys:Array Ag}
structure ZR (P1 P2:Nat→Heap→Prop) (z TI TO i j:Addr) (f0:Ag) (k:Nat) (h:Heap):Prop where
 z:Iu h z TI TO f0
 ti:G7 h TI (.ref i) (.ref j)
 to:∃ a b,G7 h TO a b
 p1:P1 k h
 p2:P2 k h
theorem ZR.far (D1:Dr w i t P1 xs) (D2:Dr w j u P2 ys) {f0 k h h'} (x:ZR P1 P2 z TI TO i j f0 k h) (q:∀ b∈[z,TI,TO,i,j,t,u],∀ o,h.get? b=some o→h'.get? b=some o):ZR P1 P2 z TI TO i j f0 k h':=
 ⟨q z (.head _) _ x.z,q TI (.tail _ (.head _)) _ x.ti,let ⟨a,b,e⟩:=x.to;⟨a,b,q TO (.tail _ (.tail _ (.head _))) _ e⟩,D1.far _ _ _ x.p1 (q i (.tail _ (.tail _ (.tail _ (.head _))))) (q t (.tail _ (.tail _ (.tail _ (.tail _ (.tail _ (.head _))))))),D2.far _ _ _ x.p2 (q j (.tail _ (.tail _ (.tail _ (.tail _ (.head _)))))) (q u (.tail _ (.tail _ (.tail _ (.tail _ (.tail _ (.tail _ (.head _))))))))⟩
theorem nm4 {c a b d e:Addr} (h:c∉[a,b,d,e]):c≠a∧c≠b∧c≠d∧c≠e:=⟨fun q=>h (q▸.head _),fun q=>h (q▸.tail _ (.head _)),fun q=>h (q▸.tail _ (.tail _ (.head _))),fun q=>h (q▸.tail _ (.tail _ (.tail _ (.head _))))⟩
noncomputable def Off (z TO i j:Addr) (h h':Heap):Prop:=∀ c o,c≠z→c≠TO→c≠i→c≠j→h.get? c=some o→h'.get? c=some o
theorem aD1 {k:Nat} {x y:Ag} {Q:Ag→Ak→Prop} (D1:Dr w i t P1 xs) (D2:Dr w j u P2 ys) (D:ZA z TI TO i j t u) (R:ZR P1 P2 z TI TO i j .none k s.heap) (hx:xs[k]?=some x) (hy:ys[k]?=some y)
  (hQ:∀ h',ZR P1 P2 z TI TO i j (Bh s.heap.objs.size) (k+1) h'→G7 h' s.heap.objs.size x y→Off z TO i j s.heap h'→Q (.ref s.heap.objs.size) { s with heap:=h' }) :
  Au (AI prog w) A (Dy.«zip.__next__» ⟨[.ref z],[]⟩) (fun fin s'=>∃ v,fin=.done (.ret v)∧Q v s') E s:=by
 refine aDm D.ne fun TIz TOz iz jz TITO TIi TIj TOi TOj ij=>?_;have dt:=D.t;have du:=D.u;obtain ⟨hz,hTI,⟨a,b,hTO⟩,p1,p2⟩:=R;show Au _ _ (field (.ref z) 2 >>= _) _ _ _;refine Ab (Bt hz rfl (x:=.bool false) rfl ?_);show Au _ _ (field (.ref z) 3 >>= _) _ _ _;refine Ab (Bt hz rfl (x:=.ref TI) rfl ?_);refine Ab (Dx hTI rfl ?_);show Au _ _ (Ce (.ref z) >>= _) _ _ _;refine Ab ?_;unfold Ce;refine Ab (Bt hz rfl (x:=.none) rfl (Aj ?_));simp only [if_true];refine Ab (Ej (Ab (Bt hz rfl (x:=.ref TO) rfl (Ab (DG hz (by simp) fun g1 z1 s1=>?_)))))
 replace z1:Iu g1 z TI TO .ellipsis:=z1
 refine Ab ?_;simp only [HS,H8,Gm,Fe];have p1':=D1.far _ _ _ p1 (fun o e=>s1.extBut _ o iz e) (fun o e=>s1.extBut _ o dt.1 e);have p2':=D2.far _ _ _ p2 (fun o e=>s1.extBut _ o jz e) (fun o e=>s1.extBut _ o du.1 e);refine Ab (Ab (G2 ?_));show Au _ _ (BI (.ref i) >>= _) _ _ _;refine Ab (D1.item _ k _ x _ _ p1' hx fun g2 q1 s2=>Aj ?_);have o2:G7 g2 TO a b:=s2.extBut _ _ TOi (s1.extBut _ _ TOz hTO);refine Ab (Dx o2 rfl (Ab (GQ o2 fun g3 o3 s3=>?_)))
 replace o3:G7 g3 TO x b:=o3
 refine Ab (wpAny_letGo (Aj ?_));have p2'':=D2.far _ _ _ p2' (fun o e=>s3.extBut _ o TOj.symm (s2.extBut _ o ij.symm e)) (fun o e=>s3.extBut _ o du.2.2.1 (s2.extBut _ o du.2.2.2.1 e));refine Ab (Ab (G2 ?_));show Au _ _ (BI (.ref j) >>= _) _ _ _;refine Ab (D2.item _ k _ y _ _ p2'' hy fun g4 q2 s4=>Aj ?_);have o4:G7 g4 TO x b:=s4.extBut _ _ TOj o3;refine Ab (Dx o4 rfl (Ab (GQ o4 fun g5 o5 s5=>?_)))
 replace o5:G7 g5 TO x y:=o5
 refine Ab (wpAny_letGo (Aj (Aj (Ab (Dx o5 rfl (Ab (IM ?_)))))));have sz:g5.objs.size=s.heap.objs.size:=by rw [s5.1,s4.1,s3.1,s2.1,s1.1]
 have z5:Iu g5 z TI TO .ellipsis:=s5.extBut _ _ TOz.symm (s4.extBut _ _ jz.symm (s3.extBut _ _ TOz.symm (s2.extBut _ _ iz.symm z1)));have off5:Off z TO i j s.heap g5:=fun c o c1 c2 c3 c4 e=>s5.extBut _ _ c2 (s4.extBut _ _ c4 (s3.extBut _ _ c2 (s2.extBut _ _ c3 (s1.extBut _ _ c1 e))));have r1:P1 (k+1) g5:=D1.far _ _ _ q1 (fun o e=>s5.extBut _ o TOi.symm (s4.extBut _ o ij (s3.extBut _ o TOi.symm e))) (fun o e=>s5.extBut _ o dt.2.2.1 (s4.extBut _ o dt.2.2.2.2 (s3.extBut _ o dt.2.2.1 e)));have r2:P2 (k+1) g5:=D2.far _ _ _ q2 (fun o e=>s5.extBut _ o TOj.symm e) (fun o e=>s5.extBut _ o du.2.2.1 e);have lz:z<g5.objs.size:=AK z5;show Au _ _ (DZ (.ref z) (.ref g5.objs.size) >>= _) _ _ _;refine Ab ?_;unfold DZ;have z6:Iu (g5.push { cls:=.type "tuple",data:=.seq #[x,y] }) z TI TO .ellipsis:=Ai _ z5;refine Ab (DG z6 (by simp) fun g7 z7 s7=>?_)
 replace z7:Iu g7 z TI TO (Bh g5.objs.size):=z7
 refine DG z7 (by simp) fun g8 z8 s8=>?_
 replace z8:Iu g8 z TI TO (Bh g5.objs.size):=z8
 have up':∀ c o,c≠z→g5.get? c=some o→g8.get? c=some o:=fun c o c1 e=>s8.extBut _ _ c1 (s7.extBut _ _ c1 (Ai _ e));have T8:G7 g8 g5.objs.size x y:=s8.extBut _ _ (DB lz) (s7.extBut _ _ (DB lz) (Ae _ rfl));refine Aj ⟨_,rfl,?_⟩;show Q (.ref g5.objs.size) _;rw [sz] at z8 T8 ⊢;refine hQ g8 ⟨z8,up' _ _ TIz (off5 _ _ TIz TITO TIi TIj hTI),⟨x,y,up' _ _ TOz o5⟩,D1.far _ _ _ r1 (fun o e=>up' _ o iz e) (fun o e=>up' _ o dt.1 e),D2.far _ _ _ r2 (fun o e=>up' _ o jz e) (fun o e=>up' _ o du.1 e)⟩ T8 fun c o c1 c2 c3 c4 e=>up' _ _ c1 (off5 _ _ c1 c2 c3 c4 e)
theorem aD0 {k:Nat} {Q:Fin→Ak→Prop} (hh:A.handled=none) (D1:Dr w i t P1 xs) (D2:Dr w j u P2 ys) (D:ZA z TI TO i j t u) (R:ZR P1 P2 z TI TO i j .none k s.heap) (hx:xs[k]?=none)
  (hE:∀ h' e,Off z TO i j s.heap h'→(∃ o,h'.get? e=some o∧o.cls=.type "StopIteration")→E (.ref e) { s with heap:=h' }) :
  Au (AI prog w) A (Dy.«zip.__next__» ⟨[.ref z],[]⟩) Q E s:=by
 refine aDm D.ne fun TIz TOz iz jz TITO TIi TIj TOi TOj ij=>?_;have dt:=D.t;obtain ⟨hz,hTI,⟨a,b,hTO⟩,p1,p2⟩:=R;show Au _ _ (field (.ref z) 2 >>= _) _ _ _;refine Ab (Bt hz rfl (x:=.bool false) rfl ?_);show Au _ _ (field (.ref z) 3 >>= _) _ _ _;refine Ab (Bt hz rfl (x:=.ref TI) rfl ?_);refine Ab (Dx hTI rfl ?_);show Au _ _ (Ce (.ref z) >>= _) _ _ _;refine Ab ?_;unfold Ce;refine Ab (Bt hz rfl (x:=.none) rfl (Aj ?_));simp only [if_true];refine Ab (Ej (Ab (Bt hz rfl (x:=.ref TO) rfl (Ab (DG hz (by simp) fun g1 z1 s1=>?_)))))
 replace z1:Iu g1 z TI TO .ellipsis:=z1
 refine Ab ?_;simp only [HS,H8,Gm,Fe];have p1':=D1.far _ _ _ p1 (fun o e=>s1.extBut _ o iz e) (fun o e=>s1.extBut _ o dt.1 e);refine Ab (Ab (G2 ?_));show Au _ _ (BI (.ref i) >>= _) _ _ _;refine Ab (D1.done _ k _ _ _ hh p1' hx fun g2 e s2 he=>?_);refine ob12 he fun oe hoe hce=>?_;clear he;have z2:Iu g2 z TI TO .ellipsis:=s2 _ _ iz.symm z1;have hez:e≠z:=fun x=>by subst x;rw [z2] at hoe;cases hoe;simp at hce
 exact DG z2 (by simp) fun g3 _ s3=>hE g3 e (fun c o c1 _ c3 _ x=>s3.extBut _ _ c1 (s2 _ _ c3 (s1.extBut _ _ c1 x))) ⟨oe,s3.extBut _ _ hez hoe,hce⟩
theorem aB1 (hl:ys.size=xs.size) (D1:Dr w i t P1 xs) (D2:Dr w j u P2 ys) (D:ZA z TI TO i j t u) (hh:A.handled=none) :
  WalksU prog w A z [z,TI,TO,i,j,t,u] [z,TO,i,j] xs.size (fun k vals=>∃ x y,xs[k]?=some x∧ys[k]?=some y∧vals=#[x,y]) (fun k h=>ZR P1 P2 z TI TO i j .none k h) (fun k T h=>ZR P1 P2 z TI TO i j (Bh T) (k+1) h∧T∉[z,TO,i,j]) where
 sub:=qQ (.head _) (qQ (.tail _ (.tail _ (.head _))) (qQ (.tail _ (.tail _ (.tail _ (.head _)))) (qQ (.tail _ (.tail _ (.tail _ (.tail _ (.head _))))) fmn)))
 frame:=fun k h h' st hk=>st.far D1 D2 hk
 item:=fun k s Q E hk st q=>by
  have hy:k<ys.size:=by exact N3 1 4 hl hk
  have hT:s.TypeIs (.ref z) "zip":=⟨_,st.z,rfl⟩;unfold pyNext;refine Ab (D8 (AX (name:=BK "__next__") hT EY (A9 EY hT HJ (aD1 D1 D2 D st (Bu hk) (Bu hy) fun h' R' T' off=>Aj ?_) (Hm _))));refine q s.heap.objs.size #[xs[k],ys[k]] h' s.toks ⟨_,_,Bu hk,Bu hy,rfl⟩ ⟨_,T',rfl,_,rfl⟩ ⟨R',fun m=>?_⟩ fun c o hc e=>?_
  ·have lt:∀ {c o},s.heap.get? c=some o→s.heap.objs.size≠c:=fun e=>DB (AK e)
   have l1:=D1.lt _ _ st.p1;have l2:=D2.lt _ _ st.p2;refine aEP st.to fun a b eo=>?_;refine cK m (lt st.z) fun m=>cK m (lt eo) fun m=>cK m (fun m=>?_) fun m=>cK m (fun m=>?_) nofun
   ·exact absurd l1 (by rw [← m];exact CT _)
   ·exact absurd l2 (by rw [← m];exact CT _)
  ·have hc:=nm4 hc
   exact off c o hc.1 hc.2.1 hc.2.2.1 hc.2.2.2 e
 go:=fun elts n pos k T s Q E hm q=>by
  refine aF4 D.ne fun TIz TOz iz jz _=>?_;have dt:=D.t;have du:=D.u;refine bM hm ?_;clear hm;rintro ⟨hz,hTI,⟨a,b,hTO⟩,p1,p2⟩ _;refine wpAny_letOwnedTupleGo_zip hz fun h' hz' hs'=>q h' ⟨hz',hs'.extBut _ _ TIz hTI,⟨a,b,hs'.extBut _ _ TOz hTO⟩,D1.far _ _ _ p1 (fun o e=>hs'.extBut _ o iz e) (fun o e=>hs'.extBut _ o dt.1 e),D2.far _ _ _ p2 (fun o e=>hs'.extBut _ o jz e) (fun o e=>hs'.extBut _ o du.1 e)⟩ fun c o hc e=>hs'.extBut _ _ (fun x=>hc (x▸.head _)) e
 apart:=fun k T h hm=>hm.2
 done:=fun s Q E st q=>by
  have hT:s.TypeIs (.ref z) "zip":=⟨_,st.z,rfl⟩;unfold pyNext;refine Ab (D8 (AX (name:=BK "__next__") hT EY (A9 EY hT HJ (aD0 hh D1 D2 D st (Array.getElem?_eq_none (Am _)) fun h' e off he=>?_) (Hm _))));refine ob12 he fun o ho hc=>?_;clear he;refine Ab (EQ (T:="StopIteration") (b:=true) ⟨o,ho,hc⟩ GL (Aj (q h' s.toks fun c o hc e=>?_)));have hc:=nm4 hc;exact off c o hc.1 hc.2.1 hc.2.2.1 hc.2.2.2 e
 self:=fun k s Q E st q=>HW st.z q
end
end
noncomputable def nA (h:Heap) (l1 l2:Addr):Heap:=
 ((((h.push { cls:=.type "tuple_iterator",data:=.fields #[.ref l1,.int 0 0] }).push { cls:=.type "tuple_iterator",data:=.fields #[.ref l2,.int 0 0] }).push
  { cls:=.type "tuple",data:=.seq #[.ref h.objs.size,.ref (h.objs.size+1)] }).push { cls:=.type "tuple",data:=.seq #[.none,.none] }).push
  { cls:=.type "zip",data:=.fields #[.none,.bool false,.bool false,.ref (h.objs.size+2),.ref (h.objs.size+3)] }
theorem uY {h:Heap} {a:Addr} {xs:Array Ag} (x:h.IsTuple a xs) (o:Obj):(h.push o).IsTuple a xs:=let ⟨ob,e,r⟩:=x;⟨ob,Ai _ e,r⟩
theorem sF (l1 l2:Addr) (xs ys:Array Ag) :
  Meets (Dy.«zip.__new__» ⟨[.type "zip",.ref l1,.ref l2],[]⟩) (fun _ R s=>s.heap.IsTuple l1 xs∧s.heap.IsTuple l2 ys∧
   R (.ok (.ret (.ref (s.heap.objs.size+4)))) { s with heap:=nA s.heap l1 l2 }):=
 .of_wp fun prog w A R s h=>by
  obtain ⟨hp,g,d,tk,os⟩:=s;refine gM h ?_;clear h;intro hl1 hl2 h;have hsub:=sub_zip;have hL1:Cp (JG ⟨hp,g,d,tk,os⟩) l1 xs:=hl1;have hL2:Cp (JG ⟨hp.push { cls:=.type "tuple_iterator",data:=.fields #[.ref l1,.int 0 0] },g,d,tk,os⟩) l2 ys:=uY hl2 _
  wp_walk using Fj hL1,Fj hL2
  refine ⟨_,rfl,?_⟩;unfold nA at h;dsimp only at h ⊢;simp only [Cr] at h ⊢;exact h
section
variable {w:Bl} {A:Ba} {E:Ag→Ak→Prop} {s:Ak}
theorem uG {l1 l2:Addr} {xs ys:Array Ag} {Q:Ag→Ak→Prop} (hl1:s.heap.IsTuple l1 xs) (hl2:s.heap.IsTuple l2 ys)
  (q:∀ z TI TO i j s',A0 s s'→ZA z TI TO i j l1 l2→(∀ b∈[z,TI,TO,i,j],s.heap.get? b=none∧∃ o,s'.heap.get? b=some o)→
   ZR (fun k h=>h.IsTupleIter i l1 k∧h.IsTuple l1 xs∧l1≠i) (fun k h=>h.IsTupleIter j l2 k∧h.IsTuple l2 ys∧l2≠j) z TI TO i j .none 0 s'.heap→Q (.ref z) s') :
  Au (AI prog w) A (call (.type "zip") [.ref l1,.ref l2]) Q E s:=by
 refine callType_new F.called_zip (by decide) (F.typeCall_zip_2 _ _) (F.newCall_zip_2 _ _) (fun obj=>F.args_object_init_3 obj _ _) F.entry_zip_new
  (sF l1 l2 xs ys) ⟨hl1,hl2,?_⟩
 refine ob12 (id hl1) fun o1 e1 r1=>?_;refine ob12 (id hl2) fun o2 e2 r2=>?_;have lt1:=AK e1;have lt2:=AK e2;generalize hn:s.heap.objs.size=n at *;have m1:@Iw Nat _ l1 n:=lt1;have m2:@Iw Nat _ l2 n:=lt2;have q1:∀ o,((s.heap.push o).objs.size)=n+1:=fun o=>by rw [Cr,hn]
 have kp:∀ c o,s.heap.get? c=some o→(nA s.heap l1 l2).get? c=some o:=fun c o e=>by
  unfold nA;exact Ai _ (Ai _ (Ai _ (Ai _ (Ai _ e))))
 have g5:(nA s.heap l1 l2).get? (n+4)=some { cls:=.type "zip",data:=.fields #[.none,.bool false,.bool false,.ref (n+2),.ref (n+3)] }:=by
  unfold nA;rw [hn];have:=Ae (h:=(((s.heap.push { cls:=.type "tuple_iterator",data:=.fields #[.ref l1,.int 0 0] }).push { cls:=.type "tuple_iterator",data:=.fields #[.ref l2,.int 0 0] }).push
   { cls:=.type "tuple",data:=.seq #[.ref n,.ref (n+1)] }).push { cls:=.type "tuple",data:=.seq #[.none,.none] }) (o:={ cls:=.type "zip",data:=.fields #[.none,.bool false,.bool false,.ref (n+2),.ref (n+3)] }) rfl
  simpa only [Cr,hn] using this
 have g4:(nA s.heap l1 l2).get? (n+3)=some { cls:=.type "tuple",data:=.seq #[.none,.none] }:=by
  unfold nA;rw [hn];have:=Ae (h:=((s.heap.push { cls:=.type "tuple_iterator",data:=.fields #[.ref l1,.int 0 0] }).push { cls:=.type "tuple_iterator",data:=.fields #[.ref l2,.int 0 0] }).push
   { cls:=.type "tuple",data:=.seq #[.ref n,.ref (n+1)] }) (o:={ cls:=.type "tuple",data:=.seq #[.none,.none] }) rfl
  simp only [Cr,hn] at this;exact Ai _ this
 have g3:(nA s.heap l1 l2).get? (n+2)=some { cls:=.type "tuple",data:=.seq #[.ref n,.ref (n+1)] }:=by
  unfold nA;rw [hn];have:=Ae (h:=(s.heap.push { cls:=.type "tuple_iterator",data:=.fields #[.ref l1,.int 0 0] }).push { cls:=.type "tuple_iterator",data:=.fields #[.ref l2,.int 0 0] })
   (o:={ cls:=.type "tuple",data:=.seq #[.ref n,.ref (n+1)] }) rfl
  simp only [Cr,hn] at this;exact Ai _ (Ai _ this)
 have g2:(nA s.heap l1 l2).get? (n+1)=some { cls:=.type "tuple_iterator",data:=.fields #[.ref l2,.int 0 0] }:=by
  unfold nA;rw [hn];have:=Ae (h:=s.heap.push { cls:=.type "tuple_iterator",data:=.fields #[.ref l1,.int 0 0] }) (o:={ cls:=.type "tuple_iterator",data:=.fields #[.ref l2,.int 0 0] }) rfl;simp only [Cr,hn] at this;exact Ai _ (Ai _ (Ai _ this))
 have g1:(nA s.heap l1 l2).get? n=some { cls:=.type "tuple_iterator",data:=.fields #[.ref l1,.int 0 0] }:=by
  unfold nA;rw [hn];have:=Ae (h:=s.heap) (o:={ cls:=.type "tuple_iterator",data:=.fields #[.ref l1,.int 0 0] }) rfl;rw [hn] at this;exact Ai _ (Ai _ (Ai _ (Ai _ this)))
 have fr:∀ m,n≤m→s.heap.get? m=none:=fun m x=>aH (by rw [hn];exact x);have dd:ZA (n+4) (n+2) (n+3) n (n+1) l1 l2:=by
  have q:∀ {a b:Nat},a<b→(n+a:Nat)≠n+b:=fun h e=>Bi h (Nat.add_left_cancel e);have q0:∀ {a b:Nat},a<b→(n+b:Nat)≠n+a:=fun h e=>Bi h (Nat.add_left_cancel e.symm);have p1:∀ {a:Nat},l1≠n+a:=fun {a}=>Bi (C3 lt1 (BP n a));have p2:∀ {a:Nat},l2≠n+a:=fun {a}=>Bi (C3 lt2 (BP n a));exact ⟨⟨q (by decide),q (by decide),q (a:=0) (by decide),q (by decide),q (by decide),q0 (a:=0) (by decide),q0 (by decide),q0 (a:=0) (by decide),q0 (by decide),q (a:=0) (by decide)⟩,⟨p1,p1,p1,p1 (a:=0),p1⟩,⟨p2,p2,p2,p2 (a:=0),p2⟩⟩
 have n1:l1≠n:=Bi lt1;have n2:l2≠n+1:=Bi (Fw lt2);refine ⟨⟨_,g5,rfl⟩,?_⟩;refine q (n+4) (n+2) (n+3) n (n+1) { s with heap:=nA s.heap l1 l2 } ?_ dd ?_ ?_
 ·exact ⟨_,_,rfl,kp⟩
 ·exact qQ ⟨fr _ (BP _ _),_,g5⟩ (qQ ⟨fr _ (BP _ _),_,g3⟩ (qQ ⟨fr _ (BP _ _),_,g4⟩ (qQ ⟨fr _ (Am _),_,g1⟩ (qQ ⟨fr _ (BP _ _),_,g2⟩ fmn))))
 ·exact ⟨g5,g3,⟨_,_,g4⟩,⟨⟨_,g1,rfl,rfl⟩,⟨o1,kp _ _ e1,r1⟩,n1⟩,⟨⟨_,g2,rfl,rfl⟩,⟨o2,kp _ _ e2,r2⟩,n2⟩⟩
end
section
variable {w:Bl} {h h':Heap}
noncomputable def dC (l:List Int):List D:=l.map .int
theorem cG.intAt {vs:List Ag} {l:List Int} (r:cG w h vs (dC l)) {k:Nat} {i:Int} (e:l[k]?=some i):∃ t,vs[k]?=some (.int i t):=by
 refine ob12 (r.get (i:=k) (d:=.int i) (by unfold dC;rw [Ar,e];rfl)) fun v hv rv=>?_;refine ob11 rv.ofInt ?_;rintro t rfl;exact ⟨t,hv⟩
theorem aDF {vs:List Ag} {l:List Int} (hl:vs.length=l.length) (hk:∀ (k:Nat) v,vs[k]?=some v→∃ i t,l[k]?=some i∧v=.int i t):cG w h vs (dC l):=by
 induction vs generalizing l with
 | nil=>cases l with
  | nil=>exact .nil
  | cons=>cases hl
 | cons v vs ih=>cases l with
  | nil=>cases hl
  | cons i l=>
   refine fP (hk 0 v rfl) ?_;rintro i' t e rfl;cases e;exact .cons (.int _ _) (ih (Jh hl) fun k v' e'=>hk (k+1) v' e')
end
section
theorem aCY {x p ke kp e pos a kk pre post ds} (S:St w T s₀ F X env s l mu) (hl:l x=some (.val (.ref a)))
  (he:Au (AI prog w) A (eval e env) (fun v s1=>∃ d,Rp w (hx X s1.heap) v d∧St w T s₀ F X env s1 l (pre++(a,.idict ds)::post)∧∀ s',St w T s₀ F X env s' l (pre++(a,.idict (dU ds kk d))::post)→Xs w A rest env Q E s') E s)
  (hk:∀ s1,St w T s₀ F X env s1 l (pre++(a,.idict ds)::post)→Ev w X A env s1.heap ke (.int kk)) (hsz:ds.length≤100000)
  (hd:autoParam ((x==("__debug__":Str))=false) ad) (hs:autoParam (Cd e (some (.Subscript (.Name x p) ke kp)) pos.line env=pure false) aq) :
  Xs w A (.Assign [.Subscript (.Name x p) ke kp] e pos::rest) env Q E s:=by
 refine cI (DD (B9 he (fun v s1 z=>?_) fun _ _ x=>x) hs);refine ob13 z fun d r1 S1 k=>?_;clear z;refine (Ev.name (S1.nm hl) hd).use S1.live aZ.rfl fun ov s2 r2 k2=>(hk s1 S1).use (S1.live.mono (aN k2)) (aN k2) fun iv s3 r3 k3=>?_;cases r2.ofVal;refine ob11 r3.ofInt ?_;rintro t rfl;have S3:=S1.keeps (aD k2 k3);refine eG (S3.mus (a,.idict ds) (Ad _ (.head _))) fun aX _ _ mm=>?_;cases mm with
 | @idict kvs _ q p rs=>
  refine D6 (knd:=BL prog w) (k:=kk) (C4 prog w kk t) p (fun h' hp hs=>?_) (by rw [rs.length];exact Ao hsz (by decide));have c:Ch [a] s3 { s3 with heap:=h',toks:=s3.toks+1 }:=Ch.heap fun b o n e=>hs.extBut b o (fun q=>n (q▸.head _)) e;have hm:aZ (hx X s3.heap) (hx X h'):=aJ (fun b o n e=>hs.extBut b o (fun q=>n (q▸aX)) e) fun y m=>.inl m;refine fW (id hp) fun o' es' ep' ho' _=>?_;exact (k _ (S3.mutate c ⟨_,ho'⟩ (.idict q hp ((rs.stored (r1.kp (aD k2 k3))).mono hm)))).go
noncomputable def gsc:C6:={ kind:=.function,names:=[((".0":Str),.local),(("i":Str),.local),(("j":Str),.local)],isGenerator:=true,isCoroutine:=false,more:=[] }
theorem kZ {n:Nat}:passing (fun _=>true) n 0=Aa n:=by simp [passing]
theorem mZ {M:IA} {A:Ba} {E:Ag→Ak→Prop} {s:Ak} {env:Env} {c P:Addr} {ps:Array Ag} {pos:Pos} {qualname:Str} {scope:C6} {Q:Ag→Ak→Prop} (hc:env.code=.ref c) (hok:s.heap.IsCode c P ps) (ht:s.heap.TableAt c P ps)
  (hQ:∀ code h' tk ps',HX P s.heap h'→h'.IsCode c P ps'→h'.TableAt c P ps'→Q code { s with heap:=h',toks:=tk }) :
  Au M A (genexprCode env pos qualname scope) Q E s:=by
 cases e:codeAmong pos ps.toList with
 | some v=>exact wpAny_genexprCode_hit hc hok e (hQ v s.heap s.toks ps (JX _ _) hok ht)
 | none=>exact wpAny_genexprCodeX hc hok ht e fun c' h' tk a _ _ b _ t _=>hQ _ h' tk _ a b t
theorem aAS {α:Type} {M:IA} {m:Sem α} {P:α→Ak→Prop} (k:∀ Q0:α→Ak→Prop,(∀ {v s},P v s→Q0 v s)→Au M A m Q0 E s):Au M A m P E s:=k P fun x=>x
theorem aEo {q0 q1 q2 q3 q4 q5 q6 q7 q8 q9 q10 e1 e2 pre post} {xs ys:List Int} {n:Nat} (hA:dF n A) (S:St w (T1 w.params) s₀ F X env s l (pre++(aK,.ctab)::post))
  (hcode:env.code=.ref 62) (h1:Ev w X A env s.heap e1 (.tup (dC xs))) (h2:Ev w X A env s.heap e2 (.tup (dC ys))) (hl:ys.length=xs.length) (hsz:xs.length≤1000)
  (hn1:env.kindOf "tuple"=some .globalImplicit) (hn2:env.kindOf "zip"=some .globalImplicit)
  (hes:Es w X A env s.heap [e1,e2] [.tup (dC xs),.tup (dC ys)])
  (hp1:∀ pos,(backTo pos (AF [e1,e2] env)).any (·.1)=false) (hp2:∀ pos,(backTo pos (AF [(AO.GeneratorExp (.BinOp (.Name "i" q0) .Add (.Name "j" q1) q2) [⟨.Tuple [.Name "i" q3,.Name "j" q4] 0 q5,.Call (.Name "zip" q6) [e1,e2] [] q7,[],0⟩] gsc q8)] env)).any (·.1)=false) :
  Au (AI prog w) A (eval (.Call (.Name "tuple" q9) [(.GeneratorExp (.BinOp (.Name "i" q0) .Add (.Name "j" q1) q2) [⟨.Tuple [.Name "i" q3,.Name "j" q4] 0 q5,.Call (.Name "zip" q6) [e1,e2] [] q7,[],0⟩] gsc q8)] [] q10) env)
   (fun v s'=>Rp w (hx X s'.heap) v (.tup (dC (AU (·+·) xs ys)))∧St w (T1 w.params) s₀ F X env s' l (pre++(aK,.ctab)::post)) E s:=by
 show Au _ _ (do callWith q10 (← eval (.Name "tuple" q9) env) [] (backTo q10 (AF _ env)) []) _ _ _;refine Ab ((Ev.name (Nm.boot (v:=.type "tuple") S.gb S.wd (frM (by kernel_rfl)) (by boot_fact) hn1 (by decide))).use S.live aZ.rfl fun vt s1 r1 k1=>?_);cases r1.ofVal;have S1:=S.keeps k1;refine H0 (P:=fun _=>True) (by rw [hp2];rfl) (fun g _=>Kp.type (w:=w) (h:=g)) (gR (hp2 _) (Dw ?_));have hcl:closureFor gsc env=pure (gL env gsc.names []):=lY (by rfl);refine wpAny_GeneratorExp_walksQT hA.hh rfl hcl (by decide) rfl rfl rfl (by decide) rfl hA.room ?_ (by intro _;rfl);refine aAS fun Q0 kq=>?_;refine eU S1.live (aN k1) ((Ev.name (Nm.boot (v:=.type "zip") S.gb S.wd (frM (by kernel_rfl)) (by boot_fact) hn2 (by decide)))) Kp.type hes (fun vs s2 r2 k2=>?_) (hp1 _);refine bI r2.c2 ?_;rintro _ _ rfl ra rb;refine bI ra.ofTup ?_;rintro t va rfl ta rsa;refine bI rb.ofTup ?_;rintro u vb rfl tb rsb;have ta':=Cp.keep' ta aR;have tb':=Cp.keep' tb aR;have S2:=S1.keeps k2;refine uG ta' tb' fun z TI TO i j s3 k3 D fr R=>?_;have S3:=S2.keeps k3;refine kq (HW R.z ⟨S3.wd.nolimit.keeps aR,aAS fun Q1 kq1=>?_⟩);have mt:=S3.muAt (a:=aK) (d:=.ctab) (Ad _ (.head _));have tX:aK∈X:=(S3.mus (aK,.ctab) (Ad _ (.head _))).1;cases mt with
 | @ctab ps op chd hop hod htr=>
 refine aDo (id chd) fun o6 vs6 file tf flags tg inF text tt c1 c2 c3 c4 c5 c6 c7 c8 c9 c10=>?_;have hcd:s3.heap.IsCode 62 aK ps:=⟨o6,vs6,file,tf,flags,tg,inF,text,tt,op,aR _ _ c1,c3,c5,c6,c7,c8,c9,hop,hod▸rfl,htr,c10⟩;refine mZ hcode hcd ((chd.keeps aR).tab (hop.trans (congrArg some hod))) fun code h4 tk4 ps4 kb4 hc4 ht4=>?_;have up4:∀ b o,b≠aK→s3.heap.get? b=some o→h4.get? b=some o:=fun b o n e=>kb4 b o n e;refine (id hc4).elim fun o6' h4x=>aDo h4x fun vs6' _ _ _ _ _ _ _ op4 _ _ _ _ _ _ _ hop4 hod4 htr4=>?_;have hod4':op4=tabObj ps4:=BC (hop4.symm.trans ht4.2);have hle4:aZ (hx X s3.heap) (hx X h4):=aJ (fun b o n e=>up4 b o (fun q=>n (q▸tX)) e) fun y m=>.inl m;have W4:=S3.wd.mono hle4;refine aF7 W4.bmod fun mg bm ob hg hgb hne hob hb1 hb2 hb3=>?_;have hst:∃ o,s.heap.get? aK=some o:=S.live.2;have frs:∀ b∈[z,TI,TO,i,j],s.heap.get? b=none:=fun b m=>by
  cases e:s.heap.get? b with
  | none=>rfl
  | some o=>have:=(fr b m).1;rw [aN (aD k1 k2) _ _ e] at this;cases this
 have neT:∀ b∈[z,TI,TO,i,j],b≠aK:=fun b m e=>by
  refine ob11 hst fun o eo=>?_;clear hst;rw [e] at m;rw [frs _ m] at eo;cases eo
 have tX':∀ {b o},(hx X s2.heap).get? b=some o→b≠aK:=fun e q=>iD e (q▸tX);have m0:z∈[z,TI,TO,i,j]:=.head _;have m1:TI∈[z,TI,TO,i,j]:=.tail _ (.head _);have m2:TO∈[z,TI,TO,i,j]:=.tail _ (.tail _ (.head _));have m3:i∈[z,TI,TO,i,j]:=.tail _ (.tail _ (.tail _ (.head _)));have m4:j∈[z,TI,TO,i,j]:=.tail _ (.tail _ (.tail _ (.tail _ (.head _))));have m5:∀ {b},b∈[z,TO,i,j]→b∈[z,TI,TO,i,j]:=fun m=>cK m (fun e=>e▸m0) fun m=>.tail _ (.tail _ m);have neT2:∀ b∈[z,TI,TO,i,j,t,u],b≠aK:=
  qQ (neT _ m0) (qQ (neT _ m1) (qQ (neT _ m2) (qQ (neT _ m3) (qQ (neT _ m4) (qQ (ob12 ta fun o e _=>tX' e) (qQ (ob12 tb fun o e _=>tX' e) fmn))))))
 have live3:∀ b∈[z,TI,TO,i,j,t,u],∃ o,s3.heap.get? b=some o:=
  qQ (fr _ m0).2 (qQ (fr _ m1).2 (qQ (fr _ m2).2 (qQ (fr _ m3).2 (qQ (fr _ m4).2 (qQ (ob12 ta' fun o e _=>⟨o,aN k3 _ _ e⟩) (qQ (ob12 tb' fun o e _=>⟨o,aN k3 _ _ e⟩) fmn))))))
 have lt4:∀ b∈[z,TI,TO,i,j,t,u],b<h4.objs.size:=fun b m=>let ⟨o,e⟩:=live3 b m;AK (up4 b o (neT2 b m) e);have R4:=R.far (w:=w) Dr.tup Dr.tup (h':=h4) fun b m o e=>up4 b o (neT2 b m) e;have lx:va.length=xs.length:=by rw [rsa.length];simp [dC]
 have ly:vb.length=ys.length:=by rw [rsb.length];simp [dC]
 refine ob12 S3.wd.nolimit fun mc hmc hmc0=>?_;refine kq1 (wpAny_builtinsFor (m:=mg) (bm:=bm) (o:=ob) (by rw [S3.gl];exact hg.keeps aR) hgb hne (aR _ _ hob) hb1 hb2 hb3 ?_);refine ⟨z,[z,TI,TO,i,j,t,u],[z,TO,i,j],xs.length,fun k vals=>∃ x y,va.toArray[k]?=some x∧vb.toArray[k]?=some y∧vals=#[x,y],fun k h=>ZR (fun k h=>h.IsTupleIter i t k∧h.IsTuple t va.toArray∧t≠i) (fun k h=>h.IsTupleIter j u k∧h.IsTuple u vb.toArray∧u≠j) z TI TO i j .none k h,fun k T h=>ZR (fun k h=>h.IsTupleIter i t k∧h.IsTuple t va.toArray∧t≠i) (fun k h=>h.IsTupleIter j u k∧h.IsTuple u vb.toArray∧u≠j) z TI TO i j (Bh T) (k+1) h∧T∉[z,TO,i,j],fun _=>true,fun k y=>∃ a b tk,xs[k]?=some a∧ys[k]?=some b∧y=.int (a+b) tk,rfl,fun A' hh'=>?_,?_,R4,lt4,W4.nolimit.keeps aR,?_,?_,?_⟩
 ·have W:=aB1 (w:=w) (A:=A') (xs:=va.toArray) (ys:=vb.toArray) (by show vb.length=va.length;rw [lx,ly,hl]) Dr.tup Dr.tup D hh'
  have e:va.toArray.size=xs.length:=by simp [lx]
  rw [e] at W;exact W
 ·rintro k vals ⟨x,y,_,_,rfl⟩
  exact ⟨x,y,rfl⟩
 ·intro m
  have hn:∃ o,s.heap.get? cStatics=some o:=by
   refine ob12 S.wd.nolimit fun mc hmc _=>?_;refine fW hmc fun o es ep e _=>?_;clear hmc;exact ⟨o,aR _ _ e⟩
  refine ob11 hn fun o e=>?_;clear hn;rw [frs _ (m5 m)] at e;cases e
 ·intro href hhref
  refine ⟨fun A' E' k a b s5 m hh' hP hn ha hb hk=>?_,fun A' E' k a b s5 m hh' hP _ hn ha hb hk=>?_⟩
  ·exact Aj ⟨rfl,dM⟩
  ·refine bI hP fun x y ex ey e=>?_;clear hP
   obtain ⟨rfl,rfl⟩:a=x∧b=y:=by simpa using e
   have kx:k<xs.length:=by rw [← lx];have:=(BD.mp ex).1;simpa using this
   have ky:k<ys.length:=by exact N3 1 4 hl kx
   refine ob11 (rsa.intAt (Ah kx)) fun tx ex'=>?_;refine ob11 (rsb.intAt (Ah ky)) fun ty ey'=>?_;have ea:a=.int xs[k] tx:=by have q:=ex;rw [Ca,ex'] at q;exact (BC q).symm
   have eb:b=.int ys[k] ty:=by have q:=ey;rw [Ca,ey'] at q;exact (BC q).symm
   subst ea;subst eb;have tb5:XL [] s5.heap:=by
    refine ⟨(fun x m=>by cases m),?_⟩;exact ⟨op4,hk aK (Bb.mpr (AK hop4)) (fun m=>neT _ (m5 m) rfl) _ (hhref _ _ hop4)⟩
   have n1:Nm w [] (genEnv gsc (gL env gsc.names []) h4.objs.size code builtinsNs env) s5.heap "i" (.int xs[k]):=⟨_,vQ.local rfl rfl hn ha,.int _ _⟩;have n2:Nm w [] (genEnv gsc (gL env gsc.names []) h4.objs.size code builtinsNs env) s5.heap "j" (.int ys[k]):=⟨_,vQ.local rfl rfl hn hb,.int _ _⟩;refine (Ev.bin (Ev.name n1) (Ev.name n2) Bo.add).use tb5 aZ.rfl fun v s6 r6 k6=>⟨?_,k6⟩;refine ob11 r6.ofInt ?_;rintro tk rfl;exact ⟨xs[k],ys[k],tk,Ah kx,Ah ky,rfl⟩
 ·intro g h5 tk gs hgs hlt hsz5 keep5 WS hG0
  refine C9 ⟨trivial,?_⟩
  refine' call_tuple_gen (hsz:=?zs) WS.in4_3 (fun i' s' st=>st.1.typeIs) hG0 (fun b hb=>?lt) (.head _) fun s6 acc hm hacc=>?fin
  case zs=>rw [kZ,Al];exact Ao hsz (by decide)
  case lt=>
   show b<h5.objs.size;have q1:@Iw Nat _ h4.objs.size g:=hlt;refine cK hb (fun e=>?_) fun hb=>cK hb (fun e=>?_) fun hb=>?_
   ·rw [e,hsz5];exact FW _
   ·rw [e];show @Iw Nat _ _ _;exact N3 1 5 hsz5 q1
   ·have q2:@Iw Nat _ b h4.objs.size:=Bb.mp hb
    show @Iw Nat _ _ _;exact N4 1 6 hsz5 q1 q2
  case fin=>
   refine fP (id k3) fun h3' t3' e3 kk3=>?_;have nw:∀ {b o},s2.heap.get? b=some o→b≠aK→b∉h4.objs.size::[z,TO,i,j]:=fun {b o} e n m=>by
    refine cK m (fun m=>?_) fun m=>?_
    ·have q1:@Iw Nat _ b h4.objs.size:=AK (up4 _ _ n (aN k3 _ _ e))
     have q2:@Eq Nat b h4.objs.size:=m;exact N3 1 7 m q1 hsz
    ·have:=(fr b (m5 m)).1
     rw [e] at this;cases this
   have nT:aK∉h4.objs.size::[z,TO,i,j]:=fun m=>by
    refine cK m (fun m=>?_) fun m=>?_
    ·have q1:@Iw Nat _ aK h4.objs.size:=AK hop4
     have q2:@Eq Nat aK h4.objs.size:=m;exact N3 1 7 m q1 hsz
    ·exact neT aK (m5 m) rfl
   have p6:∀ b o,b≠aK→s2.heap.get? b=some o→s6.heap.get? b=some o:=fun b o n e=>hm.heap b o (nw e n) (keep5 _ _ (up4 _ _ n (aN k3 _ _ e)));have hop6:s6.heap.get? aK=some op4:=hm.heap _ _ nT (keep5 _ _ hop4);have hdr:s6.drawn=s2.drawn:=hm.drawn.trans (by rw [e3]);have hos:s6.os=s2.os:=hm.os.trans (by rw [e3]);have hge:Hi s2.gens→Hi s6.gens:=fun x=>AllBare.movedS (AllBare.push (by rw [e3];exact x) hgs) hm;have c27:Ch [aK] s2 { s6 with heap:=s6.heap.push { cls:=.type "tuple",data:=.seq acc } }:=by
    refine ⟨s6.heap.push { cls:=.type "tuple",data:=.seq acc },s6.toks,(s6.gens,s6.drawn),?_,fun b o n e=>Ai _ (p6 b o (fun q=>n (by rw [q];exact .head _)) e),fun _ n=>absurd (.head _) n,hge⟩;rw [← hos]
   have fx:s6.heap.objs.size∉X:=fun m=>by
    refine ob11 (S2.live.1 _ m) fun o e=>?_
    by_cases hq:s6.heap.objs.size=aK
    ·have:=AK hop6
     rw [hq] at this;exact CT _ this
    ·exact CT _ (AK (p6 _ _ hq e))
   have hle7:aZ (hx X s2.heap) (hx X (s6.heap.push { cls:=.type "tuple",data:=.seq acc })):=aJ (fun b o n e=>Ai _ (p6 b o (fun q=>n (q▸tX)) e)) fun y m=>.inl m;have mt2:=S2.muAt (a:=aK) (d:=.ctab) (Ad _ (.head _));cases mt2 with
   | ctab chd2 _ _ _=>
   refine ⟨.tup (vs:=acc.toList) ⟨_,bU (Ae _ rfl) fx,rfl,0,by simp⟩ (aDF ?_ fun k v e=>?_),S2.mutate c27 ⟨_,Ai _ hop6⟩ (.ctab (chd2.keeps hle7) (Ai _ hop6) hod4' htr4.1)⟩
   ·rw [A6,hacc.1,kZ,Al,E2,hl,Nat.min_self]
   ·refine ob12 (hacc.2 k v (by simpa using e)) fun k' ek kz=>?_;refine xJ kz ?_;clear kz;rintro a b tk ea eb rfl
    rw [kZ] at ek;obtain rfl:k=k':=by
     have q:=(Aw.mp ek);refine ob11 q ?_;clear q;intro _ q;simpa using q
    exact ⟨_,tk,by rw [List.getElem?_zipWith,ea,eb],rfl⟩
end
section
theorem aEp {x p ke kp op e pos a kk pre post ds d0 d1 d} (S:St w T s₀ F X env s l (pre++(a,.idict ds)::post)) (hl:l x=some (.val (.ref a))) (hk:Ev w X A env s.heap ke (.int kk)) (hf:bE ds kk=some d0)
  (he:Ev w X A env s.heap e d1) (ho:Bo w X A s.heap (inplaceOp op) d0 d1 d) (hsz:ds.length≤100000)
  (k:∀ s',St w T s₀ F X env s' l (pre++(a,.idict (dU ds kk d))::post)→Xs w A rest env Q E s')
  (hd:autoParam ((x==("__debug__":Str))=false) ad) (hi:autoParam (∀ ov iv new,augStore ke ov iv new=(do holding [new,ov,iv] (setItem ov iv new);release [new,ov,iv] [];pure .next)) ak) :
  Xs w A (.AugAssign (.Subscript (.Name x p) ke kp) op e pos::rest) env Q E s:=by
 refine cI (wpAny_AugAssign_SubscriptAny ((Ev.name (S.nm hl) hd).use S.live aZ.rfl fun ov s2 r2 k2=>hk.use (S.live.mono (aN k2)) (aN k2) fun iv s3 r3 k3=>?_) hi);cases r2.ofVal;refine ob11 r3.ofInt ?_;rintro t rfl;have k23:=aD k2 k3;have S3:=S.keeps k23;have mm:=S3.muAt (a:=a) (d:=.idict ds) (Ad _ (.head _));cases mm with
 | @idict kvs _ q p rs=>
 refine ob12 (rs.find hf) fun v hv r=>?_;refine CW (knd:=BL prog w) (C4 prog w kk t) p.mapOf hv ?_;have k3':A0 s { s3 with toks:=s3.toks+1 }:=aD k23 dG
 first
  | refine he.use (S.live.mono (aN k3')) (aN k3') fun v4 s4 r4 k4=>?_
  | refine he.use (S.live.mono (aN k23)) (aN k23) fun v4 s4 r4 k4=>?_
 have k4':A0 s s4:=by first | exact aD k3' k4 | exact aD k23 k4
 have r':Rp w (hx X s4.heap) v d0:=by first | exact r.kp k4 | exact Rp.kp r (aD dG k4)
 refine cF (ho.go s4 v v4 (S.live.mono (aN k4')) (aN k4') r' r4) fun v5 s5 z=>?_;refine bM z fun r5 k5=>?_;clear z;have S5:=S.keeps (aD k4' k5);refine eG (S5.mus (a,.idict ds) (Ad _ (.head _))) fun aX _ _ mm=>?_;cases mm with
 | @idict kvs _ q p rs=>
  refine D6 (knd:=BL prog w) (k:=kk) (C4 prog w kk t) p (fun h' hp hs=>?_) (by rw [rs.length];exact Ao hsz (by decide));have c:Ch [a] s5 { s5 with heap:=h',toks:=s5.toks+1 }:=Ch.heap fun b o n e=>hs.extBut b o (fun q=>n (q▸.head _)) e;have hm:aZ (hx X s5.heap) (hx X h'):=aJ (fun b o n e=>hs.extBut b o (fun q=>n (q▸aX)) e) fun y m=>.inl m;refine fW (id hp) fun o' es' ep' ho' _=>?_;exact (k _ (S5.mutate c ⟨_,ho'⟩ (.idict q hp ((rs.stored r5).mono hm)))).go
end
noncomputable def mH (d:D):List Int:=match d with
 | .tup ds=>ds.map fun | .int i=>i | _=>0
 | _=>[]
theorem fF {l:List Int}:mH (.tup (dC l))=l:=by
 simp [mH,dC,Function.comp_def]
noncomputable def aD9 (old new:D):D:=match old,new with
 | .int a,.int b=>.int (a+b)
 | .tup x,.tup y=>.tup (dC (AU (·+·) (mH (.tup y)) (mH (.tup x))))
 | _,_=>.none
noncomputable def cE (acc:List (Int×D)) (p:Int×D):List (Int×D):=dU acc p.1 (match bE acc p.1 with | some d=>aD9 d p.2 | none=>p.2)
noncomputable def fQ (t:List (Int×D)):List (Int×D):=t.foldl (fun acc p=>dU acc p.1 p.2) []
noncomputable def nU (t s:List (Int×D)):List (Int×D):=s.foldl cE (fQ t)
noncomputable def tJ (odd:Int→Bool) (p:Int×D):Prop:=if odd p.1 then ∃ l,p.2=.tup (dC l)∧l.length=3 else ∃ i,p.2=.int i
theorem xZ {ds:List (Int×D)} {k:Int} {d:D} {p} (m:p∈dU ds k d):p=(k,d)∨p∈ds:=by
 unfold dU at m;split at m
 ·refine cX m fun q hq e=>?_
  split at e
  ·rename_i h;subst e;exact .inl (by rw [h])
  ·exact .inr (e▸hq)
 ·refine gJ m (fun m=>?_) fun m=>?_
  ·exact .inr m
  ·exact .inl (bH m)
theorem rP {ds:List (Int×D)} {k:Int} {d:D}:(dU ds k d).length≤ds.length+1:=by
 unfold dU;split <;> simp
theorem sV {ds:List (Int×D)} {k:Int} {d:D} (e:bE ds k=some d):(k,d)∈ds:=by
 unfold bE at e;refine ob12 (Ge.mp e) ?_;rintro p hp rfl;have:=List.find?_some hp;have m:=List.mem_of_find?_eq_some hp;have q:p.1=k:=by simpa using this
 rw [← q];exact m
theorem aDv {odd acc p} (ha:∀ q∈acc,tJ odd q) (hp:tJ odd p):∀ q∈cE acc p,tJ odd q:=by
 intro q m;unfold cE at m;rcases xZ m with rfl | m
 ·cases e:bE acc p.1 with
  | none=>exact hp
  | some d=>
   have h1:=ha _ (sV e);unfold tJ at h1 hp ⊢;show if odd p.1=true then _ else _;dsimp only at h1
   by_cases ho:odd p.1=true
   ·rw [if_pos ho] at h1 hp ⊢
    refine ob12 h1 ?_;clear h1;rintro x rfl hx;refine ob12 hp fun y hy hyl=>?_;clear hp;rw [hy];refine ⟨AU (·+·) y x,?_,by rw [E2,hx,hyl];rfl⟩;show D.tup (dC (AU (·+·) (mH (.tup (dC y))) (mH (.tup (dC x)))))=_;rw [fF,fF]
   ·rw [if_neg ho] at h1 hp ⊢
    refine ob11 h1 ?_;clear h1;rintro x rfl;refine ob11 hp fun y hy=>?_;clear hp;rw [hy];exact ⟨x+y,rfl⟩
 ·exact ha q m
theorem qT {α β:Type} (f:β→α→β) (b:β) {l:List α} {i:Nat} {x:α} (e:l[i]?=some x):(l.take (i+1)).foldl f b=f ((l.take i).foldl f b) x:=by
 rw [gY e,Dd];rfl
theorem lM {f:List (Int×D)→(Int×D)→List (Int×D)} (hf:∀ a p,(f a p).length≤a.length+1):∀ (l b:List (Int×D)),(l.foldl f b).length≤b.length+l.length
 | [],b=>by simp
 | p::l,b=>by
  have:=lM hf l (f b p);have h2:=hf b p;simp only [CL,Aq];exact N4 1 8 this h2
theorem qS {odd} {f:List (Int×D)→(Int×D)→List (Int×D)} (hf:∀ a p,(∀ q∈a,tJ odd q)→tJ odd p→∀ q∈f a p,tJ odd q):∀ (l b:List (Int×D)),(∀ q∈b,tJ odd q)→(∀ q∈l,tJ odd q)→∀ q∈l.foldl f b,tJ odd q
 | [],b,hb,_=>hb
 | p::l,b,hb,hl=>qS hf l (f b p) (hf b p hb (hl p (.head _))) fun q m=>hl q (.tail _ m)
theorem aEi {odd t} (ht:∀ q∈t,tJ odd q):∀ q∈fQ t,tJ odd q:=
 qS (fun a p ha hp q m=>by
  rcases xZ m with rfl | m
  ·exact hp
  ·exact ha q m) t [] (fun _ m=>by cases m) ht
section
structure pL (w:Bl) (T:lU) (s₀:Ak) (F X:List Addr) (A:Ba) (env:Env) (l:Str→Option D) (mu:List (Addr×D)) (e:AO) (d:D) (mu':List (Addr×D)):Prop where
 go:∀ s:Ak,St w T s₀ F X env s l mu→Au (AI prog w) A (eval e env) (fun v s'=>Rp w (hx X s'.heap) v d∧aZ (hx X s.heap) (hx X s'.heap)∧St w T s₀ F X env s' l mu') (fun _ _=>False) s
structure EsS (w:Bl) (T:lU) (s₀:Ak) (F X:List Addr) (A:Ba) (env:Env) (l:Str→Option D) (mu:List (Addr×D)) (es:List AO) (ds:List D) (mu':List (Addr×D)):Prop where
 go:∀ (s:Ak) pos,St w T s₀ F X env s l mu→Au (AI prog w) A (spliced (backTo pos (AF es env))) (fun vs s'=>cG w (hx X s'.heap) vs ds∧aZ (hx X s.heap) (hx X s'.heap)∧St w T s₀ F X env s' l mu') (fun _ _=>False) s
theorem pL.of {e d} (k:∀ s:Ak,St w T s₀ F X env s l mu→Ev w X A env s.heap e d):pL w T s₀ F X A env l mu e d mu:=.mk fun s S=>
 cF ((k s S).go s S.live aZ.rfl) fun v s' z=>⟨z.1,aL (aN z.2),S.keeps z.2⟩
theorem Ch.up {a} (c:Ch [a] s s') (m:a∈X):aZ (hx X s.heap) (hx X s'.heap):=
 aJ (fun b o n e=>c.get (fun q=>n (by rw [bH q];exact m)) e) fun y m=>.inl m
theorem cN.live {a d} (m:cN w X h a d):∃ o,h.get? a=some o:=by
 cases m with
 | list p _=>refine ob11 p fun n ho=>?_;clear p;exact ⟨_,ho⟩
 | idict _ p _=>refine fW p fun o es ep ho _=>?_;clear p;exact ⟨o,ho⟩
 | sdict _ p _=>refine fW p fun o es ep ho _=>?_;clear p;exact ⟨o,ho⟩
 | sset p _ _ _=>refine vF p fun o es ep t ho _=>?_;clear p;exact ⟨o,ho⟩
 | ctab _ p _ _=>exact ⟨_,p⟩
 | biter p=>refine ob12 p fun o ho _=>?_;clear p;exact ⟨o,ho⟩
theorem pL.call {x p es pos f ds a d1 d2 d pre post} (hf:∀ s:Ak,St w T s₀ F X env s l (pre++(a,d1)::post)→Ev w X A env s.heap (.Name x p) (.val f)∧Kp w s.heap f∧Es w X A env s.heap es ds)
  (c:∀ (s:Ak) vs,St w T s₀ F X env s l (pre++(a,d1)::post)→cG w (hx X s.heap) vs ds→cN w X s.heap a d1→
   Au (AI prog w) A (call f vs []) (fun v s'=>Rp w (hx X s'.heap) v d∧Ch [a] s s'∧cN w X s'.heap a d2) (fun _ _=>False) s)
  (hpl:autoParam ((backTo pos (AF es env)).any (·.1)=false) aq) :
  pL w T s₀ F X A env l (pre++(a,d1)::post) (.Call (.Name x p) es [] pos) d (pre++(a,d2)::post):=.mk fun s S=>by
 refine gM (hf s S) fun h1 kp h2=>?_;have ma:(a,d1)∈pre++(a,d1)::post:=Ad _ (.head _);refine eU S.live aZ.rfl h1 kp h2 (fun vs s1 r1 k1=>?_) hpl;have S1:=S.keeps k1;refine cF (c s1 vs S1 r1 (S1.muAt ma)) fun v s2 z=>?_;exact ⟨z.1,(aL (aN k1)).trans (z.2.1.up (S1.mus _ ma).1),S1.mutate z.2.1 z.2.2.live z.2.2⟩
theorem EsS.nil:EsS w T s₀ F X A env l mu [] [] mu:=.mk fun s p S=>C9 ⟨.nil,aZ.rfl,S⟩
theorem EsS.cons {e es d ds mu1 mu2} (a:pL w T s₀ F X A env l mu e d mu1) (b:EsS w T s₀ F X A env l mu1 es ds mu2) (he:autoParam (AF (e::es) env=(false,eval e env)::AF es env) aq) :
  EsS w T s₀ F X A env l mu (e::es) (d::ds) mu2:=.mk fun s p S=>
 Dw (cF (a.go s S) fun v s1 z1=>cF (b.go s1 p z1.2.2) fun vs s2 z=>⟨.cons (z1.1.mono z.2.1) z.1,z1.2.1.trans z.2.1,z.2.2⟩) he
theorem pL.tup {es x1 p ds mu'} (a:EsS w T s₀ F X A env l mu es ds mu') (hl:autoParam (ds.length≤1000) ak):pL w T s₀ F X A env l mu (.Tuple es x1 p) (.tup ds) mu':=.mk fun s S=>
 H1 (cF (a.go s p S) fun vs s1 z=>⟨by rw [z.1.length];exact Ao hl bD,.tup (IsTuple.new z.2.2.live) (z.1.mono (aL (aN bT))),z.2.1.trans (aL (aN bT)),z.2.2.keeps bT⟩)
theorem aEq {e pos d mu'} (S:St w T s₀ F X env s l mu) (he:pL w T s₀ F X A env l mu e d mu') (k:∀ v s',Rp w (hx X s'.heap) v d→St w T s₀ F X env s' l mu'→Q (.ret v) s'):Xs w A (.Return (some e) pos::rest) env Q E s:=
 cI (HD (cF (he.go s S) fun v s1 z=>k v s1 z.1 z.2.2))
theorem mN {x pos' e pos d mu'} (S:St w T s₀ F X env s l mu) (he:pL w T s₀ F X A env l mu e d mu') (k:∀ s',St w T s₀ F X env s' (up l x d) mu'→Xs w A rest env Q E s')
  (hk:autoParam (nB env x) ak) (hs:autoParam (Cd e (some (.Name x pos')) pos.line env=pure false) aq):Xs w A (.Assign [.Name x pos'] e pos::rest) env Q E s:=
 cI (By (cF (he.go s S) fun v s1 z=>z.2.2.store z.1 hk fun s2 S2 c=>(k s2 S2).go) hs)
theorem aA3 {t1 e op yG p p1 b de dc mu'} {r:Bool} (S:St w T s₀ F X env s l mu) (h1:Tr w X A env s.heap t1 b)
  (h2:b=true→pL w T s₀ F X A env l mu e de mu') (h3:∀ s1:Ak,St w T s₀ F X env s1 l mu'→Ev w X A env s1.heap yG dc) (h4:∀ s1:Ak,St w T s₀ F X env s1 l mu'→Bo w X A s1.heap (B3 op) de dc (.bool r))
  (hm:FM op yG=false:=by with_unfolding_all rfl) :
  Au (AI prog w) A (isTrue (.BoolOp .And [t1,.Compare e [op] [yG] p1] p) env (eval (.BoolOp .And [t1,.Compare e [op] [yG] p1] p) env))
   (fun x s'=>(b=false∧x=false∧St w T s₀ F X env s' l mu)∨(b=true∧x=r∧St w T s₀ F X env s' l mu')) E s:=by
 refine E3 (DE (cF (h1.go s S.live aZ.rfl) fun x s1 z=>?_));refine bM z ?_;clear z;rintro rfl k1;have S1:=S.keeps k1;cases x with
 | false=>exact .inl ⟨rfl,rfl,S1⟩
 | true=>
  refine DE (EJ (cF ((h2 rfl).go s1 S1) fun v s2 z2=>?_) hm);refine gM z2 fun r2 _ S2=>?_;clear z2;refine (h3 s2 S2).use S2.live aZ.rfl fun v3 s3 r3 k3=>?_;have S3:=S2.keeps k3;refine cF ((h4 s2 S2).go s3 v v3 S3.live (aN k3) (r2.kp k3) r3) fun v4 s4 z4=>?_;refine bM z4 fun r4 k4=>?_;clear z4;rw [Rp.ofBool r4];have S4:=S3.keeps k4;refine Dk ?_;cases r with
  | false=>exact .inr ⟨rfl,rfl,S4⟩
  | true=>exact Gr (.inr ⟨rfl,rfl,S4⟩)
end
section
variable {w:Bl} {s:Ak} {A:Ba} {E:Ag→Ak→Prop} {b:Array UInt8} {t:Tok}
structure aB8 (h h':Heap) (e:Addr) (cls:String):Prop where
 keeps:∀ b o,h.get? b=some o→h'.get? b=some o
 new:h.get? e=none
 there:∃ ob vs,h'.get? e=some ob∧ob.cls=.type cls∧ob.data=.fields vs∧vs[1]?=some .none
theorem oF {it:Addr} {i:Nat} {Q:Option Ag→Ak→Prop} (hh:A.handled=none) (hit:CK s.heap it b t i) (hx:b[i]?=none)
  (hE:∀ g h' e,A4 it s.heap g→(∃ o,g.get? it=some o)→aB8 g h' e "StopIteration"→E (.ref e) { s with heap:=h' }) :
  Au (AI prog w) A (callSpecial? (.ref it) (BK "__next__")) Q E s:=by
 refine ob13 (id hit) fun o ho hc hd=>?_;refine AX (name:=BK "__next__") (DI hit) D7 (A9 D7 (DI hit) Iv ?_ (IW _));show Au _ _ (field (.ref it) 0 >>= _) _ _ s;refine Ab (Bt ho hd (x:=.bytes b t) rfl ?_);show Au _ _ (if (Ag.bytes b t==Ag.none)=true then _ else _) _ _ s;rw [if_neg (show ¬ ((Ag.bytes b t==Ag.none)=true) from CX)];show Au _ _ (field (.ref it) 1 >>= _) _ _ s;refine Ab (Bt ho hd (x:=.int i 0) rfl ?_);refine Ab (Dj (a:=b) rfl ?_);simp only [Ap,hx];refine Ab (Ej (Ab (Ci ho hd (by simp) ?_)));show Au _ _ (newExc (.type "StopIteration") [] >>= _) _ _ _;refine Ab ?_;simp only [newExc,newTuple];refine Ab (AV ?_ (by size_fits));refine Ab (m:=firstArgMember _ _) (Dj (a:=Ag.none) (by first | rfl | (simp only [firstArgMember];rfl)) ?_);refine AV ?_ (by size_fits);simp only [raiseNew];refine Ab (FN ?_);rw [show A.in1.handled=none from hh];refine Ab (Aj (GP ?_));have hu:A4 it s.heap (s.heap.update it (Bz (·.setIfInBounds 0 Ag.none))):=A7 ..;refine hE _ _ _ hu ⟨_,Br _ ho (Cc (Bq hd _))⟩ ⟨fun b o hb=>Ai _ (Ai _ hb),Heap.get?_none_of_le (by simp),_,_,Ae _ rfl,rfl,rfl,?_⟩;rfl
theorem sB {it:Addr} {i:Nat} {Q:Ag→Ak→Prop} (hh:A.handled=none) (hit:CK s.heap it b t i) (hx:b[i]?=none)
  (hE:∀ g h' e,A4 it s.heap g→(∃ o,g.get? it=some o)→aB8 g h' e "StopIteration"→E (.ref e) { s with heap:=h' }) :
  Au (AI prog w) A (call (.builtin "next") [.ref it]) Q E s:=by
 refine D5 (by decide +kernel) (by decide +kernel) II (kdk_args_next _) ?_;unfold Dy.«next»
 refine Ab (m:=someArgs "next" 1 2 _) (Dj (a:=[Ag.ref it]) (by first | rfl | kernel_rfl!) ?_);dsimp only;refine Ab (Gq (name:=BK "__next__") (DI hit) D7.lookup ?_);refine Ef (fun hab=>absurd hab (by decide)) (fun _=>?_);exact Ab (oF hh hit hx hE)
end
section
structure nF (outer:List Env) (Ls:List Addr) (h:Heap):Prop where
 kind:∀ env∈outer,env.scope.kind≠.module
 fr:outer.map (·.frame)=Ls.map some
 live:∀ L∈Ls,∃ o,h.get? L=some o∧∀ vs,o.data≠.fields vs
theorem nF.funs:∀ {outer:List Env} {Ls:List Addr} {base:Heap},nF outer Ls h→(∀ L∈Ls,base.get? L=none)→h.FunFrames base outer
 | [],_,_,_,_=>trivial
 | env::outer,[],_,x,_=>by cases x.fr
 | env::outer,L::Ls,base,x,hb=>by
  have e:=x.fr;rw [AC,AC,Gl] at e;refine ob12 (x.live L (.head _)) fun o ho hd=>?_;exact ⟨x.kind env (.head _),⟨L,o,e.1,hb L (.head _),ho,hd⟩,nF.funs (Ls:=Ls) ⟨fun y m=>x.kind y (.tail _ m),e.2,fun y m=>x.live y (.tail _ m)⟩ fun y m=>hb y (.tail _ m)⟩
theorem nF.keep {outer Ls} (x:nF outer Ls h) (k:∀ L∈Ls,∀ o,h.get? L=some o→∃ q,h'.get? L=some { o with slots:=q }):nF outer Ls h':=
 ⟨x.kind,x.fr,fun L m=>let ⟨o,ho,hd⟩:=x.live L m;let ⟨q,e⟩:=k L m o ho;⟨_,e,hd⟩⟩
theorem aBF {M:IA} {base:Heap} {outer:List Env} {L e:Addr} {cls:Ag} {Q:Unit→Ak→Prop}
  (hfr:A.frames=some (env::outer)) (hl:s.heap.FunFrames base (env::outer)) (hf:env.frame=some L) (ht:s.heap.Traced base e cls) (hkb:base.StaysIn s.heap) (hen:base.get? e=none)
  (q:∀ h',Heap.Left base (env::outer) e cls s.heap h'→Q () { s with heap:=h' }):Au M A (noteFrame (.ref e) env) (fun _ s'=>Au M A (setFlight (.ref e) none) Q E s') E s:=by
 refine aHk ht ?_;clear ht;rintro oe vs T oT ts he rfl hd h1 hnT hTe hT hdT h3;have same:∀ b,b≠T→(s.heap.update T (Bz (·.setIfInBounds 3 Ag.none))).get? b=s.heap.get? b:=fun b hb=>Dz _ _ hb.symm;have offT:∀ b o,s.heap.get? b=some o→(∀ vs,o.data≠.fields vs)→b≠T:=fun b o hb hnf e=>by
  rw [e,hT] at hb;cases hb;exact hnf ts hdT
 unfold noteFrame;simp only [hf];refine Ab (Bt he hd h1 ?_);rw [if_pos (show (Ag.ref T != Ag.none)=true from by simp)];refine Ab (Bt hT hdT h3 ?_);rw [if_neg (show ¬ ((Ag.none==Bh L)=true) from by simp [Bh])];refine Ab (Ci hT hdT (BD.mp h3).1 ?_);refine wpAny_newEntry hfr (hl.of_keeps fun b o hb hnf=>⟨o,(same b (offT b o hb hnf)).trans hb,rfl⟩) hf ((same e hTe.symm).trans he) (fun b o hb=>(same b fun z=>by rw [z,hnT] at hb;cases hb).trans (hkb b o hb)) hen hd (BD.mp h1).1
  fun h' z=>q h' ⟨z.1,z.2.1,z.2.2.1,fun b o hb hnf=>z.2.2.2 b o ((same b (offT b o hb hnf)).trans hb) hnf⟩
structure Fly (Ls:List Addr) (it e:Addr) (s s':Ak):Prop where
 st:∃ h' tk,s'={ s with heap:=h',toks:=tk }
 base:∃ base:Heap,(∀ b o,b≠it→b∉Ls→s.heap.get? b=some o→base.get? b=some o)∧(∃ o,base.get? it=some o)∧(∀ L∈Ls,base.get? L=none)∧base.StaysIn s'.heap∧base.get? e=none∧s'.heap.Traced base e (.type "StopIteration")
 sl:∀ L∈Ls,∀ o,s.heap.get? L=some o→∃ q,s'.heap.get? L=some { o with slots:=q }
theorem aBz {fd a L} {outer:List Env} {Ls:List Addr} {it e:Addr} {g:Heap} {s1:Ak} {E':Ag→Ak→Prop} (hk:fd.scope.kind=.function) (hfr:A.frames=some outer) (ho:nF outer Ls s.heap) (hit:it∉Ls) (hL:s.heap.get? L=none) (nst:∃ m,s1.heap.Ns L m)
  (c:Ch [it] s s1) (hp:∃ o,s.heap.get? aK=some o) (hpt:aK≠it) (hg:A4 it s1.heap g) (hgi:∃ o,g.get? it=some o) (hLi:L≠it) (n:aB8 g h' e "StopIteration")
  (q:∀ s',Fly Ls it e s s'→E (.ref e) s') :
  Au (AI prog w) (A.deeper (aI fd a L)) (leaving (aI fd a L) (.ref e)) (fun _ s''=>E (.ref e) s'') E' { s1 with heap:=h' }:=by
 refine jS n.there fun oe vs he hcls hd h1=>?_;have hLL:∀ L'∈Ls,∃ o,s.heap.get? L'=some o∧g.get? L'=some o∧∀ vs,o.data≠.fields vs:=fun L' m=>by
  refine ob12 (ho.live L' m) fun o ho hd=>?_;have ne:L'≠it:=fun z=>hit (z▸m);exact ⟨o,ho,hg.extBut _ _ ne (c.get (fun z=>ne (bH z)) ho),hd⟩
 have hfr':(A.deeper (aI fd a L)).frames=some (aI fd a L::outer):=ER hfr;have base_none:∀ y∈L::Ls,(hx (L::Ls) g).get? y=none:=fun y m=>uX m;have stays:(hx (L::Ls) g).StaysIn h':=fun b o hb=>n.keeps _ _ (aR _ _ hb);refine aF8 nst fun m oL es ep hoL hdL _=>?_;clear nst;have hgL:g.get? L=some oL:=hg.extBut _ _ hLi hoL;have outs:nF (aI fd a L::outer) (L::Ls) h':=⟨fun y m=>by
   refine cK m (fun z=>?_) fun m=>?_
   ·rw [z];show fd.scope.kind≠_;rw [hk];intro z;cases z
   ·exact ho.kind y m,by rw [AC,AC,ho.fr];rfl,fun y m=>by
   refine cK m (fun z=>?_) fun m=>?_
   ·rw [z];exact ⟨oL,n.keeps _ _ hgL,fun vs z=>by rw [hdL] at z;cases z⟩
   ·refine ob13 (hLL y m) fun o _ h2 h3=>?_
    exact ⟨o,n.keeps _ _ h2,h3⟩⟩
 have hen:(hx (L::Ls) g).get? e=none:=by
  cases z:(hx (L::Ls) g).get? e with
  | none=>rfl
  | some o=>have:=aR _ _ z;rw [n.new] at this;cases this
 refine wpAny_leaving_first (s:={ s1 with heap:=h' }) hfr' (outs.funs base_none) rfl he stays hen hd h1 fun h2 lf=>q _ ?_;refine eG lf fun z1 z2 z3 z4=>?_;clear lf;refine pH c ?_;clear c;rintro hc tc gc rfl kc gc' _;have ge:gc=(s.gens,s.drawn):=gc' hp fun z=>hpt (bH z);refine ⟨⟨h2,tc,by rw [ge]⟩,⟨hx (L::Ls) g,fun b o b1 b2 hb=>?_,?_,fun y m=>base_none y (.tail _ m),z1,hen,by rw [hcls] at z3;exact z3⟩,fun y m o hy=>?_⟩
 ·refine bU (hg.extBut _ _ b1 (kc b o (fun z=>b1 (bH z)) hb)) fun z=>?_
  refine cK z (fun z=>?_) fun z=>?_
  ·rw [z,hL] at hb;cases hb
  ·exact b2 z
 ·refine ob11 hgi fun o ho'=>?_;clear hgi
  exact ⟨o,bU ho' fun z=>by
   refine cK z (fun z=>?_) fun z=>?_
   ·exact hLi z.symm
   ·exact hit z⟩
 ·refine ob13 (hLL y m) fun o' h1' h2' h3'=>?_
  rw [hy] at h1';cases h1';exact z4 y o (n.keeps _ _ h2') h3'
end
section
structure Fl2 (Ls:List Addr) (it:Addr) (s s':Ak):Prop where
 st:∃ h' tk,s'={ s with heap:=h',toks:=tk }
 up:∀ b o,b≠it→b∉Ls→s.heap.get? b=some o→s'.heap.get? b=some o
 sl:∀ L∈Ls,∀ o,s.heap.get? L=some o→∃ q,s'.heap.get? L=some { o with slots:=q }
theorem St.caught {it L m ds} {Ls0:List Addr} (S:St w T s₀ F X env s l ((m,.list ds)::mu)) (f:Fl2 (L::Ls0) it s s') (hL:env.locals=L) (hc:env.cells=[]) (iX:it∈X) (lX:∀ y∈L::Ls0,y∈X) (il:∃ o,s'.heap.get? it=some o)
  (ti:aK≠it) (tL:aK∉L::Ls0) (mi:m≠it) (mL:m∉L::Ls0) (hiL:it∉L::Ls0):St w T s' [L,m] X env s' l [(m,.list ds)]:=by
 have hm:aZ (hx X s.heap) (hx X s'.heap):=aJ (fun b o n e=>f.up b o (fun z=>n (z▸iX)) (fun z=>n (lX b z)) e) fun y m=>.inl m;have hfp:Fp env=[L]:=by
  unfold Fp oc;rw [hc,hL];rfl
 refine eG (S.mus _ (.head _)) fun mX mF _ mm=>?_;have ot:=S.live.2;refine ⟨S.kind,S.gl,S.bl,.rfl,⟨fun y my=>?_,?_⟩,?_,S.mem,fun a ma=>.inl ?_,?_,fun x c hx'=>(by rw [hc] at hx';cases hx'),S.tot,?_,S.wd.mono hm,fun p mp=>?_,AS _ _⟩
 ·refine ob11 (S.live.1 y my) fun o ho=>?_
  by_cases z1:y=it
  ·rw [z1];exact il
  ·by_cases z2:y∈L::Ls0
   ·refine ob11 (f.sl y z2 o ho) fun q e=>?_
    exact ⟨_,e⟩
   ·exact ⟨o,f.up y o z1 z2 ho⟩
 ·refine ob11 ot fun o ho=>?_;clear ot
  exact ⟨o,f.up _ o ti tL ho⟩
 ·refine ob11 ot fun o ho=>?_;clear ot
  exact ⟨o,f.up _ o ti tL ho⟩
 ·rw [hfp] at ma;rw [bH ma];exact .head _
 ·refine ob12 S.ns ?_;rintro nm ⟨o,es,ep,ho,hd,r⟩ k
  rw [hL] at ho ⊢;refine ob11 (f.sl L (.head _) o ho) fun q e=>?_;refine ⟨nm,⟨_,es,ep,e,hd,r⟩,fun x d e1 e2=>?_⟩;refine ob12 (k x d e1 e2) fun v hv rv=>?_;exact ⟨v,hv,rv.mono hm⟩
 ·have:oc env=[]:=by unfold oc;rw [hc];rfl
  rw [this];exact .nil
 ·rw [bH mp]
  exact ⟨mX,mF,.inl (.tail _ (.head _)),mm.mono hm fun o e=>f.up m o mi mL e⟩
theorem yP {it e L} {outer0:List Env} {Ls0:List Addr} {m ds t hpos b₀ suite} {s1:Ak} (hfr:A.frames=some (env::outer0)) (hfe:env.frame=some L) (ho:nF (env::outer0) (L::Ls0) s.heap) (S:St w T s₀ F X env s l ((m,.list ds)::mu)) (fl:Fly (L::Ls0) it e s s1)
  (hL:env.locals=L) (hc:env.cells=[]) (iX:it∈X) (lX:∀ y∈L::Ls0,y∈X) (ti:aK≠it) (tL:aK∉L::Ls0) (mi:m≠it) (mL:m∉L::Ls0) (hiL:it∉L::Ls0)
  (hev:∀ s2,St w T s2 [L,m] X env s2 l [(m,.list ds)]→Ev w X (A.mark (some (.ref e))) env s2.heap t (.val (.type "StopIteration")))
  (k:∀ s3,St w T s3 [L,m] X env s3 l [(m,.list ds)]→Fl2 (L::Ls0) it s s3→Xs w (A.mark (some (.ref e))) (b₀::suite) env Q (fun _ _=>False) s3) :
  Au (AI prog w) A (noteFrame (.ref e) env) (fun _ s2=>Au (AI prog w) A (setFlight (.ref e) none) (fun _ s3=>Au (AI prog w) A (handleBy (.ref e) env [.ExceptHandler (some t) none (b₀::suite) hpos]) Q E s3) E s2) E s1:=by
 obtain ⟨⟨h1,tk1,rfl⟩,⟨base,b1,b2,b3,b4,b5,b6⟩,sl⟩:=fl;have ho1:nF (env::outer0) (L::Ls0) h1:=ho.keep sl;refine aBF (base:=base) (s:={ s with heap:=h1,toks:=tk1 }) hfr (ho1.funs b3) hfe b6 b4 b5 fun h2 lf=>?_;refine eG lf fun z1 z2 z3 z4=>?_;clear lf;refine aHk z3 fun oe vs Tb oT ts he hcls hd hv1 hnT hTe hT hdT h3=>?_;clear z3;have sl2:∀ L'∈L::Ls0,∀ o,s.heap.get? L'=some o→∃ q,h2.get? L'=some { o with slots:=q }:=fun L' m o e=>by
  refine ob12 (ho.live L' m) fun o0 e0 nf=>?_;rw [e] at e0;cases e0;refine ob11 (sl L' m o e) fun q e1=>?_;refine ob11 (z4 L' _ e1 nf) fun q2 e2=>?_;exact ⟨q2,e2⟩
 have f2:Fl2 (L::Ls0) it s { s with heap:=h2,toks:=tk1 }:=⟨⟨h2,tk1,rfl⟩,fun b o n1 n2 e=>z1 b o (b1 b o n1 n2 e),sl2⟩;refine ob11 b2 fun oi hoi=>?_;clear b2;have S2:=S.caught f2 hL hc iX lX ⟨oi,z1 _ _ hoi⟩ ti tL mi mL hiL;refine wpAny_handleBy_builtin (X:="StopIteration") (T:="StopIteration") (b:=true) (by rw [Dv];kernel_rfl) (by rw [Dv];kernel_rfl) (by rw [Dv];kernel_rfl) ((hev _ S2).use S2.live aZ.rfl fun v s3 r3 k3=>?_);cases r3.ofVal;refine fP k3 ?_;clear k3;rintro h3' tk3 rfl kk;refine ⟨rfl,⟨oe,kk _ _ he,hcls⟩,?_⟩;rw [if_pos rfl];have hT3:=kk _ _ hT;have hsz:=(BD.mp h3).1;refine wpAny_setFlight_none (kk _ _ he) hd hv1 hT3 hdT hsz ?_;have keepT:∀ b o,b≠Tb→h2.get? b=some o→(h3'.update Tb (Bz (·.setIfInBounds 3 Ag.none))).get? b=some o:=fun b o n e=>(Dz _ _ n.symm).trans (kk _ _ e);have f3:Fl2 (L::Ls0) it s { s with heap:=h3'.update Tb (Bz (·.setIfInBounds 3 Ag.none)),toks:=tk3 }:=⟨⟨_,_,rfl⟩,fun b o n1 n2 e=>keepT b o (fun z=>by
   have:=b1 b o n1 n2 e;rw [z,hnT] at this;cases this) (f2.up b o n1 n2 e),fun L' m' o e=>by
  refine ob11 (sl2 L' m' o e) fun q e1=>?_;refine ob12 (ho.live L' m') fun o0 e0 nf=>?_;rw [e] at e0;cases e0;exact ⟨q,keepT _ _ (fun z=>by rw [z,hT] at e1;cases e1;exact nf ts hdT) e1⟩⟩
 have S3:=S.caught f3 hL hc iX lX ⟨oi,keepT _ _ (fun z=>by rw [← z,hoi] at hnT;cases hnT) (z1 _ _ hoi)⟩ ti tL mi mL hiL;exact B9 (k _ S3 f3).go (fun _ _ x=>x) fun _ _ x=>x.elim
end
section
theorem zF {vs:List Ag} {is:List Int} (r:cG w h vs (is.map D.int)):IntsAre vs is:=by
 induction is generalizing vs with
 | nil=>rw [r.c0];exact .nil
 | cons i is ih=>
  refine bI r.cc fun v us e a b=>?_;rw [e];refine ob11 a.ofInt ?_;rintro t rfl;exact .cons _ _ (ih b)
theorem Cl.bytes {n} {is:List Int} (hA:dF n A) (hr:∀ n∈is,0≤n∧n<256) (hz:is.length≤100000):Cl w X A h (.type "bytes") [] [.list (is.map D.int)] (.bytes (byteArr is)):=.mk fun s fs vs hX _ r0 r=>by
 cases r0;refine ob12 r.c1 ?_;rintro _ rfl a;refine bI a.ofList ?_;rintro a vs rfl p q;have hl:vs.length=is.length:=by rw [q.length,Ac]
 exact call_bytes_ints (PlainList.live p) (zF q) hr (by rw [hl];exact Ao hz (by decide)) hA.hh fun h' t k hk=>⟨.bytes _ _,h',k,rfl,hk⟩
theorem St.muSub {mu'} (S:St w T s₀ F X env s l mu) (hs:∀ p∈mu',p∈mu) (hp:mu'.Pairwise fun x y=>x.1≠y.1):St w T s₀ F X env s l mu':=
 ⟨S.kind,S.gl,S.bl,S.base,S.live,S.pl,S.mem,S.own,S.ns,S.cs,S.tot,S.apart,S.wd,fun p m=>S.mus p (hs p m),hp⟩
theorem yU {x pos' q e pos pos2 b} (S:St w T s₀ F X env s l mu) (he:Ev w X A env s.heap e (.bytes b)) (hn:Nm w X env s.heap "iter" (.val (.builtin "iter")))
  (k:∀ it s',St w T s₀ F (it::X) env s' (up l x (.val (.ref it))) ((it,.biter b 0)::mu)→s.heap.get? it=none→Xs w A rest env Q E s')
  (hst:autoParam (AF [e] env=(false,eval e env)::AF [] env) aq)
  (hpl:autoParam ((backTo pos (AF [e] env)).any (·.1)=false) aq)
  (hk:autoParam (nB env x) ak) (hs:autoParam (Cd (.Call (.Name "iter" q) [e] [] pos) (some (.Name x pos')) pos2.line env=pure false) aq) :
  Xs w A (.Assign [.Name x pos'] (.Call (.Name "iter" q) [e] [] pos) pos2::rest) env Q E s:=by
 refine cI (By (eU S.live aZ.rfl (Ev.name hn) Kp.builtin (Es.one he hst) (fun vs s1 r1 k1=>?_) hpl) hs);refine ob12 r1.c1 ?_;rintro _ rfl rv;refine ob11 rv.ofBytes ?_;rintro t rfl;have S1:=S.keeps k1;refine D5 (by decide +kernel) (by decide +kernel) kdk_entry_iter (kdk_args_iter _) ?_;unfold Dy.«iter»;refine Ab (m:=someArgs "iter" 1 2 _) (Dj (a:=[Ag.bytes b t]) (by first | rfl | kernel_rfl!) ?_);show Au _ _ (pyIter (.bytes b t) >>= _) _ _ _;refine Ab (KBw.pyIter_bytes ?_);have ha:s1.heap.get? s1.heap.objs.size=none:=aH (Am _);have S2:=S1.newMu (s':={ s1 with heap:=s1.heap.push { cls:=.type "bytes_iterator",data:=.fields #[.bytes b t,.int 0 0] } }) (a:=s1.heap.objs.size) (d:=.biter b 0) bT ha ⟨_,Ae _ rfl⟩ (.biter ⟨_,Ae _ rfl,rfl,rfl⟩);refine Aj ⟨_,rfl,S2.store (.val _) hk fun s3 S3 c=>(k _ s3 S3 ?_).go⟩;cases z:s.heap.get? s1.heap.objs.size with
 | none=>rfl
 | some o=>rw [aN k1 _ _ z] at ha;cases ha
end
section
open PySem PySem.W PySem.Calls PyProof.Rows Builtin.Str
noncomputable abbrev aT:=List Bool
noncomputable def rW (b:Bool):Nat:=if b then 98 else 97
noncomputable def aC (p:aT):Str:=⟨(p.map rW).toArray⟩
theorem aEb {a b:Bool} (h:rW a=rW b):a=b:=by cases a <;> cases b <;> first | rfl | cases h
theorem oU:∀ {a b:aT},a.map rW=b.map rW→a=b
 | [],[],_=>rfl
 | [],_::_,h=>by cases h
 | _::_,[],h=>by cases h
 | a::r,b::t,h=>by
  rw [AC,AC,Gl] at h;rw [aEb h.1,oU h.2]
theorem lR {a b:aT} (h:aC a=aC b):a=b:=by
 have:(a.map rW).toArray=(b.map rW).toArray:=congrArg Str.cps h;exact oU (by simpa using this)
theorem rU {a b:aT}:(aC a==aC b)=(a==b):=by
 by_cases h:a=b
 ·subst h;simp
 ·have:aC a≠aC b:=fun e=>h (lR e)
  rw [beq_eq_false_iff_ne.mpr this,beq_eq_false_iff_ne.mpr h]
theorem cH {a:aT}:(aC a).length=a.length:=by show (a.map rW).toArray.size=_;simp
theorem kD (m:Nat):EO 0 (m:Int) 1=Aa m:=by
 unfold EO;have:(if 0<m then (m:Int) else 0).toNat=m:=by split <;> (first | exact N2 22 22 (BG _) (tn1 (N1 7 16)) | exact N2 23 1 (by assumption) (tn1 (N0 23 0)))
 simp [this]
theorem gC {α:Type} (xs:List α) (m:Nat):(Aa m).filterMap (xs[·]?)=xs.take m:=by
 induction m with
 | zero=>rfl
 | succ m ih=>
  rw [AT,EF,ih,CI];cases e:xs[m]? <;> simp [e]
theorem rN {x:Str} {m:Nat}:DV x none (some (m:Int))=⟨(x.cps.toList.take m).toArray⟩:=by
 unfold DV;have e0:strSliceIndices none (some (m:Int)) 1 x.length=Aa (min m x.length):=by
  unfold strSliceIndices;simp only [show (1:Int) > 0 by decide,if_true];rw [if_neg (by exact N1 0 12)];rw [zmn,kD]
 rw [e0,Al];have hx':x.length=x.cps.toList.length:=by show x.cps.size=_;simp
 split
 ·rename_i h
  have h':min m x.length=x.length:=by simpa using h
  have:x.cps.toList.take m=x.cps.toList:=BJ (by rw [← hx'];exact N3 1 9 h' (AN _ _));rw [this]
 ·congr 1
  have:(Aa (min m x.length)).filterMap (x.cps[·]?)=(Aa (min m x.length)).filterMap (x.cps.toList[·]?):=by congr 1;funext i;simp
  rw [this,gC,hx'];congr 1;rw [List.take_eq_take_iff];exact N2 1 11 (AN _ _) (tG (N2 1 10 (CA _ _)))
theorem aDO {p:aT}:DV (aC p) none (some (-1))=aC p.dropLast:=by
 have e0:strSliceIndices none (some (-1)) 1 (aC p).length=Aa (p.length - 1):=by
  unfold strSliceIndices;simp only [show (1:Int) > 0 by decide,if_true];rw [if_pos (by decide),cH];have:max 0 (min (-1+(p.length:Int)) (p.length:Int))=((p.length - 1:Nat):Int):=by
   rw [← m1n,Ea (Cs (Gx (by decide:(-1:Int)≤0) _) (F7 (Dc _))),Int.toNat_eq_max];exact Int.max_comm _ _
  rw [this,kD]
 unfold DV;rw [e0,Al,cH]
 by_cases h0:p=[]
 ·subst h0;rfl
 ·have hl:0<p.length:=D3.mpr h0
  rw [if_neg (by simp;exact Bi (N2 1 14 (cY (N1 0 19 hl))))];unfold aC;congr 1;have:(Aa (p.length - 1)).filterMap ((p.map rW).toArray[·]?)=(Aa (p.length - 1)).filterMap ((p.map rW)[·]?):=by congr 1;funext i;simp
  rw [this,gC,← CC,List.dropLast_eq_take]
theorem zY {p:aT} {m:Nat}:DV (aC p) none (some (m:Int))=aC (p.take m):=by
 rw [rN];unfold aC;rw [CC]
theorem aBy {p:aT} (h:p≠[]):(seqIndex? (-1) (aC p).length).bind ((aC p).cps[·]?)=some (rW (p.getLast?.getD false)):=by
 have hl:0<p.length:=D3.mpr h;have:seqIndex? (-1) (aC p).length=some (p.length - 1):=by
  unfold seqIndex?;rw [cH];simp only [show ((-1:Int)<0) by decide,if_true];have h1:(decide (0≤(-1:Int)+(p.length:Int))&&decide ((-1:Int)+(p.length:Int)<(p.length:Int)))=true:=by simp;exact ⟨N1 1 12 hl,N1 1 13⟩
  rw [if_pos h1,m1n]
 rw [this];show (aC p).cps[p.length - 1]?=_;have:(aC p).cps[p.length - 1]?=(p.map rW)[p.length - 1]?:=by unfold aC;simp
 rw [this,Ar,Fm,Ah (by exact N2 1 14 (cY (N1 0 19 hl)))];rfl
structure dW (rows:List aT):Prop where
 hd:rows[0]?=some []
 nd:rows.Nodup
 pre:∀ i r,1≤i→rows[i]?=some r→r≠[]∧r.dropLast∈rows.take i
 len:rows.length≤12
 dep:∀ r∈rows,r.length≤5
noncomputable def aFH:List (Str×Str):=[("\t","  "),(" ","\t"),("   \t","  \t  "),("\t"," \t")]
noncomputable def iE (k:Nat) (b:Bool):Str:=let q:=aFH[k]?.getD ("","");if b then q.2 else q.1
noncomputable def dA (m:List (aT×Str)) (p:aT):Str:=((m.find? fun q=>q.1=p).map (·.2)).getD ""
noncomputable def mQ (rows:List aT) (p:aT):Nat:=(rows.idxOf? p).getD 0
noncomputable def iP (seed:Nat) (rows:List aT) (m:List (aT×Str)) (r:aT):List (aT×Str):=m++[(r,dA m r.dropLast++iE ((seed+mQ rows r.dropLast) % 4) (r.getLast?.getD false))]
noncomputable def nJ (seed:Nat):Str:=DV " \t" none (some ((seed % 3:Nat):Int))
noncomputable def dK (seed:Nat) (rows:List aT) (i:Nat):List (aT×Str):=((rows.drop 1).take i).foldl (iP seed rows) [([],nJ seed)]
noncomputable def cS (seed:Nat) (rows:List aT):List (aT×Str):=(rows.drop 1).foldl (iP seed rows) [([],nJ seed)]
noncomputable def mD (m:List (aT×Str)):List (Str×D):=m.map fun q=>(aC q.1,D.str q.2)
theorem gF {seed rows i r} (h:(rows.drop 1)[i]?=some r):dK seed rows (i+1)=iP seed rows (dK seed rows i) r:=by
 unfold dK;rw [CI,h,Dd];rfl
theorem xC {seed rows m r}:(iP seed rows m r).map (·.1)=m.map (·.1)++[r]:=by unfold iP;rw [Ax];rfl
theorem fE {seed rows} (h:rows[0]?=some []):∀ i,i≤rows.length - 1→(dK seed rows i).map (·.1)=rows.take (i+1)
 | 0,_=>by
  cases rows with
  | nil=>cases h
  | cons a r=>cases h;rfl
 | i+1,hi=>by
  have hlt:i<(rows.drop 1).length:=by rw [AW];lia
  have e:(rows.drop 1).take (i+1)=(rows.drop 1).take i++[(rows.drop 1)[i]]:=by rw [CI,Ah hlt];rfl
  have ih:=fE (seed:=seed) h i (by lia);rw [gF (Ah hlt),xC,ih,CI (i:=i+1)];congr 1;have:rows[i+1]?=some (rows.drop 1)[i]:=by rw [← Ah hlt,Bj,CG]
  rw [this];rfl
theorem wI {m:List (aT×Str)} {p:aT} (h:p∈m.map (·.1)):bE (mD m) (aC p)=some (.str (dA m p)):=by
 unfold bE mD dA
 induction m with
 | nil=>cases h
 | cons a r ih=>
  rw [AC,BY,BY]
  by_cases z:a.1=p
  ·rw [decide_eq_true (by rw [z]),decide_eq_true z];rfl
  ·rw [decide_eq_false (fun e=>z (lR e)),decide_eq_false z]
   exact ih ((AP.mp h).resolve_left fun e=>z e.symm)
theorem aE9 {m:List (aT×Str)} {p:aT} {s:Str} (h:p∉m.map (·.1)):dU (mD m) (aC p) (.str s)=mD (m++[(p,s)]):=by
 unfold dU mD;rw [if_neg,Ax];rfl;intro q;refine ob12 (Dp.mp q) fun x mx e=>?_;refine cX mx ?_;rintro y my rfl;exact h (AY.mpr ⟨y,my,lR (of_decide_eq_true e)⟩)
theorem qX {rows:List aT} {p:aT} (h:p∈rows):(rows.map aC).idxOf? (aC p)=some (mQ rows p):=by
 unfold mQ
 induction rows with
 | nil=>cases h
 | cons a r ih=>
  rw [AC,HO,HO,rU]
  by_cases z:a=p
  ·subst z;simp
  ·rw [beq_eq_false_iff_ne.mpr z]
   have:=ih ((AP.mp h).resolve_left fun e=>z e.symm);simp only [Cz,if_false];rw [this];cases e:Jv p r with
   | none=>
    rw [e] at this;have hm:=(AP.mp h).resolve_left fun e=>z e.symm;rw [List.idxOf?_eq_none_iff] at e;exact (e hm).elim
   | some k=>simp
theorem aEx {rows:List aT} {p:aT} (h:p∈rows):mQ rows p<rows.length:=by
 have:=qX h;rw [List.idxOf?_eq_some_iff] at this;refine ob11 this fun a _=>?_;clear this;simpa using a
theorem tK {k:Nat} {b:Bool}:(iE k b).length≤5:=by
 unfold iE
 match k with
 | 0=>cases b <;> decide
 | 1=>cases b <;> decide
 | 2=>cases b <;> decide
 | 3=>cases b <;> decide
 | k+4=>
  have:aFH[k+4]?=none:=rfl;rw [this];cases b <;> decide
theorem oB {m:List (aT×Str)} {p:aT} (h:p∈m.map (·.1)):(p,dA m p)∈m:=by
 unfold dA
 induction m with
 | nil=>cases h
 | cons a r ih=>
  rw [BY]
  by_cases z:a.1=p
  ·rw [decide_eq_true z];show (p,a.2)∈a::r;rw [← z];exact .head _
  ·rw [decide_eq_false z]
   exact .tail _ (ih ((AP.mp h).resolve_left fun e=>z e.symm))
theorem iG {a b:Str}:(a++b).length=a.length+b.length:=by show (a.cps++b.cps).size=_;rw [Array.size_append];rfl
theorem jQ {seed rows} (R:dW rows):∀ i,i≤rows.length - 1→∀ q∈dK seed rows i,q.2.length≤2+5*q.1.length
 | 0,_,q,m=>by
  have:q=([],nJ seed):=by simpa [dK] using m
  subst this;have:=Jl " \t" none (some ((seed % 3:Nat):Int));exact Ao this (show 2≤2+5*0 by decide)
 | i+1,hi,q,m=>by
  have hlt:i<(rows.drop 1).length:=by rw [AW];lia
  have hr:(rows.drop 1)[i]?=some (rows.drop 1)[i]:=Ah hlt;have hr':rows[i+1]?=some (rows.drop 1)[i]:=by rw [← hr,Bj,CG]
  refine bM (R.pre (i+1) _ (by lia) hr') fun ne pm=>?_;rw [gF hr] at m;unfold iP at m;refine gJ m (fun m=>?_) fun m=>?_
  ·exact jQ R i (by lia) q m
  ·rw [bH m]
   dsimp only;rw [iG];have k:=jQ (seed:=seed) R i (by lia) _ (oB (m:=dK seed rows i) (p:=(rows.drop 1)[i].dropLast) (by rw [fE R.hd i (by lia)];exact pm));dsimp only at k;rw [List.length_dropLast] at k;have hl:0<(rows.drop 1)[i].length:=D3.mpr ne;have:=@tK ((seed+mQ rows (rows.drop 1)[i].dropLast) % 4) ((rows.drop 1)[i].getLast?.getD false);exact N4 1 15 k this (cY (N1 0 19 hl))
end
noncomputable abbrev Tb:=List (Nat×Int)
section
variable (hits:Nat→Int) (odd:Nat→Bool)
noncomputable def kG (k:Nat) (v:Int):D:=if odd k then .tup (dC [v,hits k*v,-(k:Int)*v]) else .int v
noncomputable def cC (t:Tb):List (Int×D):=t.map fun p=>((p.1:Int),kG hits odd p.1 p.2)
noncomputable def dH (t:Tb):Int:=(t.map fun p=>hits p.1).sum
noncomputable def bR (t:Tb):Int:=(t.map fun p=>hits p.1*p.2).sum
noncomputable def jR (t:Tb):Int:=(t.map (·.2)).sum
noncomputable def gT (t:Tb):Tb:=t.map fun p=>(p.1,p.2+1)
noncomputable def oY (t:Tb):Tb:=t.map fun p=>(p.1,1)
noncomputable def bP (t u:Tb):Tb:=gT (t++u)
noncomputable def bF (t:Tb):List Nat:=t.map (·.1)
end
section
variable {hits:Nat→Int} {odd:Nat→Bool}
theorem aAW {ds:List (Int×D)} {k:Int} {d:D} (h:∀ p∈ds,p.1≠k):dU ds k d=ds++[(k,d)]:=by
 unfold dU;rw [if_neg];rw [Bool.not_eq_true,List.any_eq_false];intro p m;simpa using h p m
theorem aBo {ds:List (Int×D)} {k:Int} (h:∀ p∈ds,p.1≠k):bE ds k=none:=by
 unfold bE;rw [DA.mpr]
 ·rfl
 ·intro p m
  simpa using h p m
theorem nY {a b:List (Int×D)} {k:Int} {d:D} (h:∀ p∈a,p.1≠k):bE (a++(k,d)::b) k=some d:=by
 unfold bE;rw [Ey,DA.mpr (fun p m=>by simpa using h p m)];simp
theorem aDR {a b:List (Int×D)} {k:Int} {d d':D} (ha:∀ p∈a,p.1≠k) (hb:∀ p∈b,p.1≠k):dU (a++(k,d)::b) k d'=a++(k,d')::b:=by
 unfold dU;rw [if_pos (by rw [List.any_append];simp)];rw [Ax,AC];congr 1
 ·rw [Av (g:=id) fun p m=>by simp [ha p m]];simp
 ·simp only [if_true]
  congr 1;rw [Av (g:=id) fun p m=>by simp [hb p m]];simp
theorem sZ:∀ (l acc:List (Int×D)),(∀ p∈l,∀ q∈acc,q.1≠p.1)→(l.map (·.1)).Nodup→l.foldl (fun acc p=>dU acc p.1 p.2) acc=acc++l
 | [],acc,_,_=>by simp
 | p::l,acc,h,n=>by
  rw [AC,Ec] at n;rw [CL,aAW (h p (.head _)),sZ l _ ?_ n.2,AG];rfl;intro q m r mr;refine gJ mr (fun mr=>?_) fun mr=>?_
  ·exact h q (.tail _ m) r mr
  ·rw [bH mr]
   exact fun e=>n.1 (AY.mpr ⟨q,m,e.symm⟩)
theorem qF {t:List (Int×D)} (n:(t.map (·.1)).Nodup):fQ t=t:=by
 unfold fQ;rw [sZ t [] (fun _ _ _ m=>by cases m) n];rfl
theorem sY:∀ (l acc:List (Int×D)),(∀ p∈l,∀ q∈acc,q.1≠p.1)→(l.map (·.1)).Nodup→l.foldl cE acc=acc++l
 | [],acc,_,_=>by simp
 | p::l,acc,h,n=>by
  rw [AC,Ec] at n;have e:cE acc p=acc++[p]:=by
   unfold cE;rw [aBo (h p (.head _)),aAW (h p (.head _))]
  rw [CL,e,sY l _ ?_ n.2,AG];rfl;intro q m r mr;refine gJ mr (fun mr=>?_) fun mr=>?_
  ·exact h q (.tail _ m) r mr
  ·rw [bH mr]
   exact fun e=>n.1 (AY.mpr ⟨q,m,e.symm⟩)
theorem aBX {t:Tb}:(cC hits odd t).map (·.1)=(bF t).map fun (k:Nat)=>(k:Int):=by
 unfold cC bF;rw [An,An];rfl
theorem yO {l:List Nat} (n:l.Nodup):(l.map fun (k:Nat)=>(k:Int)).Nodup:=
 Eu _ (fun a b h q=>h (by exact N2 1 16 q)) n
theorem jW {t:Tb} (n:(bF t).Nodup):((cC hits odd t).map (·.1)).Nodup:=by rw [aBX];exact yO n
theorem cW {t u:Tb}:bF (t++u)=bF t++bF u:=Ax
theorem pB {t u:Tb}:cC hits odd (t++u)=cC hits odd t++cC hits odd u:=Ax
theorem nO {t:Tb} {p} (m:p∈cC hits odd t):∃ k∈bF t,p.1=(k:Int):=by
 refine cX m ?_;rintro q hq rfl;exact ⟨q.1,AY.mpr ⟨q,hq,rfl⟩,rfl⟩
theorem aCb {t u:Tb} (n:(bF (t++u)).Nodup):nU (cC hits odd t) (cC hits odd u)=cC hits odd (t++u):=by
 rw [cW,Cu] at n;unfold nU;rw [qF (jW n.1),sY _ _ ?_ (jW n.2.1),pB];intro p mp q mq e;refine ob12 (nO mp) fun i hi ei=>?_;refine ob12 (nO mq) fun j hj ej=>?_;exact n.2.2 j hj i hi (by exact yI 1 17 e ei ej)
theorem aEa {k:Nat} {v:Int}:aD9 (kG hits odd k v) (kG hits odd k 1)=kG hits odd k (v+1):=by
 unfold kG;cases odd k with
 | false=>rfl
 | true=>
  simp only [if_true];show D.tup (dC (AU (·+·) (mH (.tup (dC _))) (mH (.tup (dC _)))))=_;rw [fF,fF];simp only [List.zipWith_cons_cons,List.zipWith_nil_right];congr 3
  ·exact cO 1 18
  ·congr 1
   ·rw [CS];exact gK 1 19
   ·congr 1
    rw [CS];exact nS 1 20
theorem nG:∀ (b a:Tb),(bF (a++b)).Nodup→(cC hits odd (oY b)).foldl cE (cC hits odd (gT a)++cC hits odd b)=cC hits odd (gT (a++b))
 | [],a,_=>by simp [oY,cC]
 | (k,v)::b,a,n=>by
  have n0:=n;rw [cW,Cu] at n;refine gM n fun n1 n2 n3=>?_;clear n;have hk:∀ p∈cC hits odd (gT a),p.1≠(k:Int):=fun p m e=>by
   refine ob12 (nO m) fun i hi ei=>?_;have:i∈bF a:=by
    unfold bF gT at hi;rw [An] at hi;exact hi
   exact n3 i this k (.head _) (by exact aD5 1 21 e ei)
  have hb:∀ p∈cC hits odd b,p.1≠(k:Int):=fun p m e=>by
   refine ob12 (nO m) fun i hi ei=>?_;have:=(Ec.mp n2).1;have hik:i=k:=by exact aD5 1 21 e ei
   exact this (hik▸hi)
  have e:cE (cC hits odd (gT a)++cC hits odd ((k,v)::b)) ((k:Int),kG hits odd k 1)=cC hits odd (gT (a++[(k,v)]))++cC hits odd b:=by
   unfold cE;show dU (cC hits odd (gT a)++((k:Int),kG hits odd k v)::cC hits odd b) (k:Int) (match bE (cC hits odd (gT a)++((k:Int),kG hits odd k v)::cC hits odd b) (k:Int) with | some d=>aD9 d (kG hits odd k 1) | none=>kG hits odd k 1)=_;rw [nY hk];show dU _ _ (aD9 (kG hits odd k v) (kG hits odd k 1))=_;rw [aEa,aDR hk hb];unfold gT;rw [Ax,pB,AG];rfl
  show (cC hits odd (oY b)).foldl cE (cE _ ((k:Int),kG hits odd k 1))=_;rw [e,nG b (a++[(k,v)]) (by rw [AG];exact n0),AG];rfl
theorem aA7 {t:Tb} (n:(bF t).Nodup):nU (cC hits odd t) (cC hits odd (oY t))=cC hits odd (gT t):=by
 unfold nU;rw [qF (jW n)];exact nG t [] n
theorem vM {t:Tb}:∀ q∈cC hits odd t,tJ (fun i=>odd i.toNat) q:=by
 intro q m;refine cX m ?_;rintro p hp rfl;unfold tJ kG;show if odd ((p.1:Int).toNat)=true then _ else _;rw [Ap];cases odd p.1 with
 | true=>exact ⟨_,rfl,rfl⟩
 | false=>exact ⟨_,rfl⟩
theorem lE {t:Tb}:(cC hits odd t).length=t.length:=Ac _
theorem rV {t u:Tb}:dH hits (t++u)=dH hits t+dH hits u:=by unfold dH;rw [Ax,BZ]
theorem uH {t u:Tb}:bR hits (t++u)=bR hits t+bR hits u:=by unfold bR;rw [Ax,BZ]
theorem zJ {t u:Tb}:jR (t++u)=jR t+jR u:=by unfold jR;rw [Ax,BZ]
theorem aFl {t:Tb}:dH hits (gT t)=dH hits t:=by unfold dH gT;rw [An];rfl
theorem aBj {t:Tb}:bR hits (gT t)=bR hits t+dH hits t:=by
 induction t with
 | nil=>rfl
 | cons p t ih=>
  have e1:bR hits (gT (p::t))=hits p.1*(p.2+1)+bR hits (gT t):=rfl;have e2:bR hits (p::t)=hits p.1*p.2+bR hits t:=rfl;have e3:dH hits (p::t)=hits p.1+dH hits t:=rfl;rw [e1,e2,e3,ih,CS];exact aD4 1 22
theorem aEJ {t:Tb}:jR (gT t)=jR t+t.length:=by
 induction t with
 | nil=>rfl
 | cons p t ih=>
  have e1:jR (gT (p::t))=(p.2+1)+jR (gT t):=rfl;have e2:jR (p::t)=p.2+jR t:=rfl;rw [e1,e2,ih,Aq];push_cast;exact aA6 2 0
theorem aBx {t:Tb}:bF (gT t)=bF t:=by unfold bF gT;rw [An];rfl
end
class inductive Joined (wt:Tb→Int):List Tb→Tb→Prop
 | one {t}:Joined wt [t] t
 | step {line:List Tb} {i g:Nat} {x y e:Tb}:line[i]?=some x→line[i+1]?=some y→
   (∀ j a b,j<i→line[j]?=some a→line[j+2]?=some b→wt b<wt a)→(∀ a b,line[i]?=some a→line[i+2]?=some b→wt a≤wt b)→
   g≤i→(∀ j a,g≤j→j<i→(line.take i++line.drop (i+2))[j]?=some a→wt a<wt (bP x y))→(∀ a,0<g→(line.take i++line.drop (i+2))[g - 1]?=some a→wt (bP x y)≤wt a)→
   Joined wt ((line.take i++line.drop (i+2)).take g++[bP x y]++(line.take i++line.drop (i+2)).drop g) e→Joined wt line e
section
variable {hits:Nat→Int} {odd:Nat→Bool}
theorem tS {α:Type} {ln:List α} {i:Nat} {x y:α} (h1:ln[i]?=some x) (h2:ln[i+1]?=some y):ln=ln.take i++x::y::ln.drop (i+2):=by
 have l1:=(Aw.mp h1);have l2:=(Aw.mp h2);refine ob11 l1 fun a1 b1=>?_;clear l1;refine ob11 l2 fun a2 b2=>?_;clear l2;have e:ln.drop i=x::y::ln.drop (i+2):=by
  rw [Bv a1,Bv a2,b1,b2]
 rw [← e,Bs]
theorem kB {t:Tb} {ts:List Tb}:bF (t::ts).flatten=bF t++bF ts.flatten:=by rw [BU,cW]
theorem jP {u v:List Tb} {x y:Tb}:bF (u++x::y::v).flatten=bF u.flatten++(bF (x++y)++bF v.flatten):=by
 rw [B5,cW,kB,kB,cW,AG]
theorem zH {x y:Tb}:bF (bP x y)=bF (x++y):=aBx
theorem aBv {r u v:List Tb} {x y:Tb} {g:Nat} (hr:r=u++v):(bF ((r.take g++[bP x y]++r.drop g).flatten)).Perm (bF (u++x::y::v).flatten):=by
 have e1:bF ((r.take g++[bP x y]++r.drop g).flatten)=bF (r.take g).flatten++bF (x++y)++bF (r.drop g).flatten:=by
  rw [B5,B5,cW,cW];congr 2;rw [BU,FQ,AZ,zH]
 have e2:bF (r.take g).flatten++bF (r.drop g).flatten=bF u.flatten++bF v.flatten:=by
  rw [← cW,← B5,Bs,hr,B5,cW]
 rw [e1,jP];refine List.Perm.trans (l₂:=bF (x++y)++(bF (r.take g).flatten++bF (r.drop g).flatten)) ?_ ?_
 ·rw [← AG]
  exact Ew _ EG
 ·rw [e2,← AG,← AG]
  exact Ew _ EG
theorem iZ {t:Tb}:(bF t).length=t.length:=Ac _
theorem aBH {t:Tb}:(oY t).length=t.length:=Ac _
theorem aA5 {x y:Tb}:dH hits (bP x y)=dH hits y+dH hits x:=by unfold bP;rw [aFl,rV];exact gK 2 1
theorem aBk {x y:Tb}:bR hits (bP x y)=(dH hits y+dH hits x)+(bR hits y+bR hits x):=by unfold bP;rw [aBj,uH,rV];exact aD4 2 2
theorem aEK {x y:Tb}:jR (bP x y)=((y.length:Int)+x.length)+(jR y+jR x):=by unfold bP;rw [aEJ,zJ,Af];push_cast;exact yI 2 3
theorem aDf {x y:Tb}:((bP x y).length:Int)=(y.length:Int)+x.length:=by unfold bP gT;rw [Ac,Af];push_cast;exact N2 2 4
end
noncomputable def sG (n k:Int):Int:=(n.fdiv (64 ^ k.toNat)).fmod 64+64*(if decide (0<k)=true then (1:Int) else 0)
noncomputable def aDr (n k:Int):Bool:=(k==0) || decide (64 ^ k.toNat≤n)
noncomputable def lV (n:Int):List Int:=(([5,4,3,2,1,0]:List Int).filter (aDr n)).map (sG n)
noncomputable def mT (row:List Int):List Int:=row.flatMap lV
noncomputable def vK (row:List Int):List Int:=match mT row with
 | []=>[]
 | c::r=>(128+c)::r
noncomputable def cL (drawn:List (List Int)):List Int:=drawn.flatMap vK
noncomputable def dY (torn:Nat):List Int:=([64,65]:List Int).take torn
noncomputable def pG:D→Int
 | .int k=>k
 | _=>0
noncomputable def jL:D→List D
 | .list l=>l
 | .tup l=>l
 | _=>[]
noncomputable def jI (d:D) (k:Nat):Int:=pG ((jL d)[k]?.getD .none)
theorem aDt {n:Int}:(lV n).length≤6:=by
 unfold lV;rw [Ac];exact BS _ _
theorem aBG {n:Int}:∃ l,lV n=l++[sG n 0]:=by
 unfold lV;have:(([5,4,3,2,1,0]:List Int))=[5,4,3,2,1]++[0]:=rfl;rw [this,G9,Ax];exact ⟨_,rfl⟩
theorem aAN {n:Int}:lV n≠[]:=by
 refine ob11 (aBG (n:=n)) fun l e=>?_;rw [e];simp
theorem zM {n k:Int}:0≤sG n k∧sG n k<128:=by
 unfold sG;have h1:=F5 (n.fdiv (64 ^ k.toNat)) (show (0:Int)<64 by decide);have h2:=G6 (n.fdiv (64 ^ k.toNat)) (show (0:Int)<64 by decide);split
 ·exact ⟨Ep h1 (by decide),Fa h2 (by decide:(64:Int)*1≤64)⟩
 ·exact ⟨Ep h1 (by decide),Fa h2 (by decide:(64:Int)*0≤64)⟩
theorem zN {n c:Int} (m:c∈lV n):0≤c∧c<128:=by
 refine cX m ?_;rintro k _ rfl;exact zM
theorem xT {row:List Int}:(mT row).length≤6*row.length:=by
 induction row with
 | nil=>exact Am _
 | cons a r ih=>
  unfold mT at ih ⊢;rw [AL,Af,Aq];have:=aDt (n:=a);exact N3 2 5 ih this
theorem rI {row:List Int} {c:Int} (m:c∈mT row):0≤c∧c<128:=by
 refine ob12 (Cm.mp m) fun n _ m=>?_;exact zN m
theorem aEZ {row:List Int} (h:row≠[]):mT row≠[]:=by
 cases row with
 | nil=>exact absurd rfl h
 | cons a r=>
  unfold mT;rw [AL];intro q;exact aAN (Ga.mp q).1
theorem xU {row:List Int}:(vK row).length=(mT row).length:=by
 unfold vK;split <;> rename_i h <;> rw [h] <;> rfl
theorem zR {row:List Int} {c:Int} (m:c∈vK row):0≤c∧c<256:=by
 unfold vK at m;split at m
 ·cases m
 ·rename_i c0 r h
  refine cK m (fun e=>?_) fun m=>?_
  ·have:=rI (row:=row) (c:=c0) (h▸.head _)
   exact ⟨gK 2 6 e this.1,gK 2 7 e this.2⟩
  ·have:=rI (row:=row) (c:=c) (h▸.tail _ m)
   exact ⟨cO 2 8 this.1,cO 2 9 this.2⟩
theorem yE {drawn:List (List Int)} {c:Int} (m:c∈cL drawn):0≤c∧c<256:=by
 refine ob12 (Cm.mp m) fun n _ m=>?_;exact zR m
theorem uQ {torn:Nat} {c:Int} (m:c∈dY torn):0≤c∧c<256:=by
 have:=Cn m;simp at this;lia
theorem tU {drawn:List (List Int)} (h:∀ r∈drawn,r.length≤3):(cL drawn).length≤18*drawn.length:=by
 induction drawn with
 | nil=>exact Am _
 | cons a r ih=>
  have h1:=ih fun y m=>h y (.tail _ m);unfold cL at h1 ⊢;rw [AL,Af,Aq,xU];have h2:=xT (row:=a);have h3:=h a (.head _);exact N4 2 10 h1 h2 h3
section
theorem aHE {elt target iter ifs target' iter' ifs' scope pos}:∀ I D0 env',compTurn (.ListComp elt [⟨target,iter,ifs,0⟩,⟨target',iter',ifs',0⟩] scope pos) 0 (.ref I) (.ref D0) env'=eY target iter ifs (.ref I) env' (mK (.ListComp elt [⟨target,iter,ifs,0⟩,⟨target',iter',ifs',0⟩] scope pos) iter' env' D0) (.compLoop (.ListComp elt [⟨target,iter,ifs,0⟩,⟨target',iter',ifs',0⟩] scope pos) 0 (.ref I) (.ref D0) env'):=by
 intro I D0 env';unfold compTurn eY mK jX;dsimp only;simp only [FR,Ek,bind_assoc,pure_bind];rfl
theorem aGA {elt target iter ifs target' iter' ifs' scope pos}:∀ I D0 env',compTurn (.SetComp elt [⟨target,iter,ifs,0⟩,⟨target',iter',ifs',0⟩] scope pos) 0 (.ref I) (.ref D0) env'=eY target iter ifs (.ref I) env' (mK (.SetComp elt [⟨target,iter,ifs,0⟩,⟨target',iter',ifs',0⟩] scope pos) iter' env' D0) (.compLoop (.SetComp elt [⟨target,iter,ifs,0⟩,⟨target',iter',ifs',0⟩] scope pos) 0 (.ref I) (.ref D0) env'):=by
 intro I D0 env';unfold compTurn eY mK jX;dsimp only;simp only [FR,Ek,bind_assoc,pure_bind];rfl
theorem Cq.lc2 {n tup tup' elt target iter ifs target' iter' ifs' scope pos items} {asg:D→(Str→Option D)→(Str→Option D)} {asg':D→D→(Str→Option D)→(Str→Option D)}
  {p:D→Bool} {its:D→List D} {p':D→D→Bool} {f:D→D→D} {Kl:D→(Str→Option D)→Prop} (hA:dF n A) (ec:EC w T X env h)
  (src:fX w X A tup env h iter items) (hlen:(items.flatMap its).length≤1000)
  (tgt:∀ C d l,d∈items→Tg (cv scope C env) target d l (asg d l))
  (tst:∀ C Xc h' d l,d∈items→CE w T X env h Xc (cv scope C env) h' (asg d l)→Ts w Xc A (cv scope C env) h' ifs (p d))
  (hK0:∀ d l,d∈items→Kl d (asg d l)) (hK1:∀ d d' l,Kl d l→Kl d (asg' d d' l))
  (src':∀ C Xc h' d l,d∈items→CE w T X env h Xc (cv scope C env) h' (asg d l)→fX w Xc A tup' (cv scope C env) h' iter' (its d))
  (tgt':∀ C d d' l,d∈items→d'∈its d→Tg (cv scope C env) target' d' l (asg' d d' l))
  (tst':∀ C Xc h' d d' l,d∈items→d'∈its d→Kl d l→CE w T X env h Xc (cv scope C env) h' (asg' d d' l)→Ts w Xc A (cv scope C env) h' ifs' (p' d d'))
  (el:∀ C Xc h' d d' l,d∈items→d'∈its d→p' d d'=true→Kl d l→CE w T X env h Xc (cv scope C env) h' (asg' d d' l)→Ev w Xc A (cv scope C env) h' elt (f d d'))
  (htup:autoParam (tup=true→∃ es k p,target=.Tuple es k p) ak)
  (htup':autoParam (tup'=true→∃ es k p,target'=.Tuple es k p) ak)
  (hfree:autoParam (iC env scope.names=true) aq) (hkind:autoParam (scope.kind=.function) aq) (hnames:autoParam (iK scope.names=true) aq) (hs:autoParam (∀ env x,Be iter env x=pure x) ak)
  (hs':autoParam (∀ env x,Be iter' env x=pure x) ak)
  (heq':autoParam (∀ I D0 env',compTurn (.ListComp elt [⟨target,iter,ifs,0⟩,⟨target',iter',ifs',0⟩] scope pos) 1 (.ref I) (.ref D0) env'=eY target' iter' ifs' (.ref I) env' (aAw elt env' D0) (.compLoop (.ListComp elt [⟨target,iter,ifs,0⟩,⟨target',iter',ifs',0⟩] scope pos) 1 (.ref I) (.ref D0) env')) ak) :
  Cq w X A env h (.ListComp elt [⟨target,iter,ifs,0⟩,⟨target',iter',ifs',0⟩] scope pos) (.list ((items.filter p).flatMap fun d=>((its d).filter (p' d)).map (f d))):=
 Cq.two (ok:=fun _=>True) (un:=jL) (mk:=.list) (Kl:=Kl) hA ec gN.list tZ.list (fun _ _=>rfl) (fun _=>rfl) src hlen aHE heq' (fun _ _ _=>rfl) (fun _ _ _=>rfl) (fun _ _ _=>rfl) (fun _ _ _=>rfl) tgt tst hK0 hK1 src' tgt' tst' el (fun _ _ _ _=>trivial) htup htup' hfree hkind hnames hs hs'
end
section
variable {M:IA} {A:Ba} {E:Ag→Ak→Prop} {s:Ak}
theorem vN {src:Source} {n:Nat} {Q:Nat→Ak→Prop} (hn:n≠0) (h:∀ i dr,i<n→Q i { s with drawn:=dr }):Au M A (choose src n) Q E s:=fun Γ p hΓ=>
 ⟨hn,h _ _ (Gc _ (Nat.pos_of_ne_zero hn))⟩
theorem iL {α:Type}:∀ {l:List α} {i:Nat} (h:i<l.length),(l[i]::l.eraseIdx i).Perm l
 | a::l,0,_=>.rfl
 | a::l,i+1,h=>by
  rw [List.getElem_cons_succ,List.eraseIdx_cons_succ];exact (List.Perm.swap _ _ _).trans (List.Perm.cons _ (iL (ED h)))
theorem kN {α:Type}:∀ (n:Nat) (xs:List α) (s:Ak) (Q:List α→Ak→Prop),xs.length=n→(∀ ys dr,ys.Perm xs→Q ys { s with drawn:=dr })→Au M A (drawOrder n xs) Q E s
 | 0,xs,s,Q,hl,h=>by
  have:xs=[]:=El.mp hl;subst this;exact Aj (h [] s.drawn .rfl)
 | n+1,[],s,Q,hl,h=>by cases hl
 | n+1,x::xs,s,Q,hl,h=>by
  refine Ab (vN (by simp) fun i dr hi=>?_);rw [Ah hi];dsimp only;refine Ab (kN n ((x::xs).eraseIdx i) _ _ (by rw [GF,if_pos hi];exact N3 2 12 hl eB (cY (N2 2 11 hl))) fun ys dr' hp=>Aj (h _ dr' ?_));exact (List.Perm.cons _ hp).trans (iL hi)
theorem pA {α:Type} (next:Nat→Nat):∀ (n k:Nat) (left:List α) (out:Array α),left.length=n→(Jm next n k left out).toList.Perm (out.toList++left)
 | 0,k,left,out,hl=>by
  have:left=[]:=El.mp hl;subst this;show out.toList.Perm (out.toList++[]);rw [AZ]
 | n+1,k,left,out,hl=>by
  have hi:next k % left.length<left.length:=Gc _ (by exact N2 2 13 hl)
  show (match left[next k % left.length]? with | some x=>Jm next n (k+1) (left.eraseIdx (next k % left.length)) (out.push x) | none=>out).toList.Perm _;rw [Ah hi];dsimp only;refine (pA next n (k+1) _ _ (by rw [GF,if_pos hi];exact N3 2 12 hl eB (cY (N2 2 11 hl)))).trans ?_;rw [Hj,AG];exact List.Perm.append_left _ (iL hi)
theorem tM {α:Type} {next:Nat→Nat} {xs:Array α}:(pickOrder next xs).toList.Perm xs.toList:=by
 unfold pickOrder;simpa using pA next xs.size 0 xs.toList #[] (by simp)
end
theorem eJ:Slot "set_iterator" "__next__" "set_iterator.__next__":=
 .of (owner:="set_iterator") (n:="__next__") (by rw [BN,Bc];kernel_rfl) (by decide +kernel) (by decide +kernel) (by decide +kernel)
  (by first | exact .inl (by decide +kernel) | exact .inr (by decide +kernel)) (by rw [Dv];kernel_rfl)
theorem mG:Slot "set" "__iter__" "set.__iter__":=
 .of (owner:="set") (n:="__iter__") (by rw [BN,Bc];kernel_rfl) (by decide +kernel) (by decide +kernel) (by decide +kernel)
  (by first | exact .inl (by decide +kernel) | exact .inr (by decide +kernel)) (by rw [Dv];kernel_rfl)
theorem lO:entryFor table "set_iterator.__next__"=some Dy.«set_iterator.__next__»:=entryFor_of_tree (by kernel_rfl)
theorem rJ:entryFor table "set.__iter__"=some Dy.«frozenset.__iter__»:=GK (id':="frozenset.__iter__") (by kernel_rfl) rfl (by decide +kernel) (by kernel_rfl)
theorem nN (a:Ag):argsOk "set_iterator.__next__" ⟨[a],[]⟩:=by unfold argsOk;kernel_rfl
theorem sL (a:Ag):argsOk "set.__iter__" ⟨[a],[]⟩:=by unfold argsOk;kernel_rfl
section
variable {w:Bl} {A:Ba} {E:Ag→Ak→Prop} {s:Ak}
noncomputable def yJ (I tup a:Addr) (places:List Nat) (es:Array (Int×Ag)) (ep i:Nat) (h:Heap):Prop:=
 (∃ o,h.get? I=some o∧o.cls=.type "set_iterator"∧o.data=.fields #[.ref tup,.int i 0,.ref a,.int es.size 0,.int ep 0])∧
 (∃ o n,h.get? tup=some o∧o.data=.seq (places.map fun (p:Nat)=>Ag.int p 0).toArray n)∧(∃ o t,h.get? a=some o∧o.data=.set es ep t∧t.fits es.size=true)
theorem yJ.typeIs {I tup a places es ep i} (x:yJ I tup a places es ep i s.heap):s.TypeIs (.ref I) "set_iterator":=x.1.elim fun o q=>⟨o,q.1,q.2.1⟩
theorem aBT {I tup a:Addr} {places:List Nat} {es:Array (Int×Ag)} {ep i p:Nat} {h0:Int} {x:Ag} {Q:Option Ag→Ak→Prop} (D:yJ I tup a places es ep i s.heap) (hIt:I≠tup) (hIa:I≠a) (hp:places[i]?=some p) (hx:es[p]?=some (h0,x))
  (q:∀ h',yJ I tup a places es ep (i+1) h'→A4 I s.heap h'→Q (some x) { s with heap:=h' }):Au (AI prog w) A (pyNext (.ref I)) Q E s:=by
 refine gM (id D) ?_;rintro ⟨o,ho,hc,hd⟩ ⟨ot,nt,hot,hdt⟩ ⟨oa,t,hoa,hda,hf⟩;unfold pyNext;refine Ab (D8 (AX (name:=BK "__next__") D.typeIs eJ (A9 eJ D.typeIs lO ?_ (nN _))));show Au _ _ (fieldsOf (.ref I) >>= _) _ _ s;refine Ab (Fi ho hd ?_);show Au _ _ (setEntries a >>= _) _ _ s;refine Ab (Dn hoa hda hf ?_);dsimp only;rw [if_neg (by simp)];refine Ab ?_;unfold seqItems?;refine Ab (Gi hot ?_);rw [hdt];refine Aj ?_;have hpi:(places.map fun (p:Nat)=>Ag.int p 0).toArray[((i:Int)).toNat]?=some (.int p 0):=by
  rw [Ap,Ca,Ar,hp];rfl
 dsimp only;rw [hpi];dsimp only;unfold setNextDrawn;refine Ab (Ab (DM hoa hda hf ?_));dsimp only;rw [if_neg (by simp),Ap,hx];refine Aj ?_;refine Ab (Ci ho hd (by simp) ?_);have hu:A4 I s.heap (s.heap.update I (Bz (·.setIfInBounds 1 (Bh ((i:Int)+1))))):=A7 ..;refine Aj ⟨_,rfl,?_⟩
 skip
 refine Aj (q _ ⟨⟨_,Br _ ho (Cc (Bq hd _)),(DL ..).trans hc,?_⟩,⟨ot,nt,hu.extBut _ _ hIt.symm hot,hdt⟩,⟨oa,t,hu.extBut _ _ hIa.symm hoa,hda,hf⟩⟩ hu);rw [Bq hd];simp [Bh]
theorem aDM {I tup a:Addr} {places:List Nat} {es:Array (Int×Ag)} {ep i:Nat} {Q:Option Ag→Ak→Prop} (hh:A.handled=none) (D:yJ I tup a places es ep i s.heap) (hp:places[i]?=none)
  (q:∀ h',(∀ b o,b≠I→s.heap.get? b=some o→h'.get? b=some o)→Q none { s with heap:=h' }):Au (AI prog w) A (pyNext (.ref I)) Q E s:=by
 refine gM (id D) ?_;rintro ⟨o,ho,hc,hd⟩ ⟨ot,nt,hot,hdt⟩ ⟨oa,t,hoa,hda,hf⟩;unfold pyNext;refine Ab (D8 (AX (name:=BK "__next__") D.typeIs eJ (A9 eJ D.typeIs lO ?_ (nN _))));show Au _ _ (fieldsOf (.ref I) >>= _) _ _ s;refine Ab (Fi ho hd ?_);show Au _ _ (setEntries a >>= _) _ _ s;refine Ab (Dn hoa hda hf ?_);dsimp only;rw [if_neg (by simp)];refine Ab ?_;unfold seqItems?;refine Ab (Gi hot ?_);rw [hdt];refine Aj ?_;have hpi:(places.map fun (p:Nat)=>Ag.int p 0).toArray[((i:Int)).toNat]?=none:=by
  rw [Ap,Ca,Ar,hp];rfl
 dsimp only;rw [hpi];dsimp only;refine Ab (Ci ho hd (by simp) ?_);have ho2:=Br (Bz (·.setIfInBounds 0 (Bh 0))) ho (Cc (Bq hd _));have hd2:=Bq hd (·.setIfInBounds 0 (Bh 0));have hu:A4 I s.heap (s.heap.update I (Bz (·.setIfInBounds 0 (Bh 0)))):=A7 ..;refine Ab (Ci ho2 hd2 (by simp) ?_);have hu2:=hu.trans (A7 (s.heap.update I (Bz (·.setIfInBounds 0 (Bh 0)))) I (Bz (·.setIfInBounds 2 Ag.none)));refine Ab ?_;simp only [newExc,newTuple];refine Ab (AV ?_ (by size_fits));refine Ab (m:=firstArgMember _ _) (Dj (a:=Ag.none) (by first | rfl | (simp only [firstArgMember];rfl)) ?_);refine AV ?_ (by size_fits);simp only [raiseNew];refine Ab (FN ?_);rw [show A.in1.handled=none from hh];refine Ab (Aj (GP ?_));refine Ab (EQ (T:="StopIteration") (b:=true) ⟨_,Ae _ rfl,rfl⟩ GL ?_);exact Aj (q _ fun b o n e=>Ai _ (Ai _ (hu2.extBut _ _ n e)))
end
section
variable {w:Bl} {A:Ba} {E:Ag→Ak→Prop} {s:Ak}
theorem zT {b:Bool} {Q:Bool→Ak→Prop} (hb:w.params.followText "set-order"=b) (q:Q b s):Au (AI prog w) A setsByText Q E s:=by
 unfold setsByText;refine Ab (F3 (Aj ?_));show Q (w.params.followText "set-order") s;rw [hb];exact q
noncomputable def yK (I a:Addr) (es:Array (Int×Ag)) (ep i:Nat) (h:Heap):Prop:=
 (∃ o,h.get? I=some o∧o.cls=.type "set_iterator"∧o.data=.fields #[.int 0 0,.int i 0,.ref a,.int es.size 0,.int ep 0])∧(∃ o t,h.get? a=some o∧o.data=.set es ep t∧t.fits es.size=true)
theorem yK.typeIs {I a es ep i} (x:yK I a es ep i s.heap):s.TypeIs (.ref I) "set_iterator":=let ⟨⟨o,ho,hc,_⟩,_⟩:=x;⟨o,ho,hc⟩
theorem nM {a:Addr} {o:Obj} {t:Ff} {es:Array (Int×Ag)} {ep i:Nat} {Q:Option (Ag×Nat)→Ak→Prop} (hb:w.params.followText "set-order"=true) (hoa:s.heap.get? a=some o) (hda:o.data=.set es ep t) (hf:t.fits es.size=true)
  (q:Q ((pickOrder (w.params.setOrder a ep) es)[i]?.map fun e=>(e.2,0)) s):Au (AI prog w) A (setNext a 0 i ep) Q E s:=by
 unfold setNext;refine Ab (DM hoa hda hf ?_);dsimp only;refine Ab (zT hb ?_);rw [if_pos rfl,if_neg (by simp)];refine Ab ?_;unfold setWalk;refine Ab (DM hoa hda hf ?_);dsimp only;refine Ab (zT hb ?_);rw [if_pos rfl];refine Ab (F3 (Aj ?_));exact Aj q
theorem aBU {I a:Addr} {es:Array (Int×Ag)} {ep i:Nat} {h0:Int} {x:Ag} {Q:Option Ag→Ak→Prop} (hb:w.params.followText "set-order"=true) (D:yK I a es ep i s.heap) (hIa:I≠a) (hx:(pickOrder (w.params.setOrder a ep) es)[i]?=some (h0,x))
  (q:∀ h',yK I a es ep (i+1) h'→A4 I s.heap h'→Q (some x) { s with heap:=h' }):Au (AI prog w) A (pyNext (.ref I)) Q E s:=by
 refine bM (id D) ?_;rintro ⟨o,ho,hc,hd⟩ ⟨oa,t,hoa,hda,hf⟩;unfold pyNext;refine Ab (D8 (AX (name:=BK "__next__") D.typeIs eJ (A9 eJ D.typeIs lO ?_ (nN _))));show Au _ _ (fieldsOf (.ref I) >>= _) _ _ s;refine Ab (Fi ho hd ?_);show Au _ _ (setEntries a >>= _) _ _ s;refine Ab (Dn hoa hda hf ?_);dsimp only;rw [if_neg (by simp)];simp only [Ap,It];refine Ab (nM hb hoa hda hf ?_);rw [hx];dsimp only [Option.map_some];refine Ab (Ci ho hd (by simp) ?_);have hd1:=Bq hd (·.setIfInBounds 0 (Bh ((0:Nat):Int)));have ho1:=Br (Bz (·.setIfInBounds 0 (Bh ((0:Nat):Int)))) ho (Cc hd1);refine Ab (Ci ho1 hd1 (by simp) ?_);have hu:A4 I s.heap (s.heap.update I (Bz (·.setIfInBounds 0 (Bh ((0:Nat):Int))))):=A7 ..;have hu2:=hu.trans (A7 (s.heap.update I (Bz (·.setIfInBounds 0 (Bh ((0:Nat):Int))))) I (Bz (·.setIfInBounds 1 (Bh ((i:Int)+1)))));refine Aj ⟨_,rfl,?_⟩;dsimp only;refine Aj (q _ ⟨⟨_,Br _ ho1 (Cc (Bq hd1 _)),(DL ..).trans ((DL ..).trans hc),?_⟩,⟨oa,t,hu2.extBut _ _ hIa.symm hoa,hda,hf⟩⟩ hu2);rw [Bq hd1];simp [Bh]
theorem aDN {I a:Addr} {es:Array (Int×Ag)} {ep i:Nat} {Q:Option Ag→Ak→Prop} (hb:w.params.followText "set-order"=true) (hh:A.handled=none) (D:yK I a es ep i s.heap) (hx:(pickOrder (w.params.setOrder a ep) es)[i]?=none)
  (q:∀ h',(∀ b o,b≠I→s.heap.get? b=some o→h'.get? b=some o)→Q none { s with heap:=h' }):Au (AI prog w) A (pyNext (.ref I)) Q E s:=by
 refine bM (id D) ?_;rintro ⟨o,ho,hc,hd⟩ ⟨oa,t,hoa,hda,hf⟩;unfold pyNext;refine Ab (D8 (AX (name:=BK "__next__") D.typeIs eJ (A9 eJ D.typeIs lO ?_ (nN _))));show Au _ _ (fieldsOf (.ref I) >>= _) _ _ s;refine Ab (Fi ho hd ?_);show Au _ _ (setEntries a >>= _) _ _ s;refine Ab (Dn hoa hda hf ?_);dsimp only;rw [if_neg (by simp)];simp only [Ap,It];refine Ab (nM hb hoa hda hf ?_);rw [hx];dsimp only [Option.map_none];refine Ab (Ci ho hd (by simp) ?_);have hu:A4 I s.heap (s.heap.update I (Bz (·.setIfInBounds 2 Ag.none))):=A7 ..;refine Ab ?_;simp only [newExc,newTuple];refine Ab (AV ?_ (by size_fits));refine Ab (m:=firstArgMember _ _) (Dj (a:=Ag.none) (by first | rfl | (simp only [firstArgMember];rfl)) ?_);refine AV ?_ (by size_fits);simp only [raiseNew];refine Ab (FN ?_);rw [show A.in1.handled=none from hh];refine Ab (Aj (GP ?_));refine Ab (EQ (T:="StopIteration") (b:=true) ⟨_,Ae _ rfl,rfl⟩ GL ?_);exact Aj (q _ fun b o n e=>Ai _ (Ai _ (hu.extBut _ _ n e)))
theorem xW:Slot "set_iterator" "__iter__" "set_iterator.__iter__":=
 .of (owner:="set_iterator") (n:="__iter__") (by rw [BN,Bc];kernel_rfl) (by decide +kernel) (by decide +kernel) (by decide +kernel)
  (by first | exact .inl (by decide +kernel) | exact .inr (by decide +kernel)) (by rw [Dv];kernel_rfl)
theorem rK:entryFor table "set_iterator.__iter__"=some Dy.«dict_keyiterator.__iter__»:=GK (id':="dict_keyiterator.__iter__") (by kernel_rfl) rfl (by decide +kernel) (by kernel_rfl)
theorem sM (a:Ag):argsOk "set_iterator.__iter__" ⟨[a],[]⟩:=by unfold argsOk;kernel_rfl
theorem rM {I:Addr} {Q:Ag→Ak→Prop} (hT:s.TypeIs (.ref I) "set_iterator") (h:Q (.ref I) s):Au (AI prog w) A (pyIter (.ref I)) Q E s:=by
 refine FA hT xW (A9 xW hT rK ?_ (sM _));show Au _ _ (ret (.ref I)) _ _ s;exact Aj ⟨_,rfl,"set_iterator",_,hT,eJ.lookup,h⟩
theorem aGB {I tup a:Addr} {places:List Nat} {es:Array (Int×Ag)} {ep:Nat} (hh:A.handled=none) (hIt:I≠tup) (hIa:I≠a) (hpl:∀ p∈places,p<es.size) :
  JW prog w A I [I,tup,a] [I] places.length (fun i v=>∃ p e,places[i]?=some p∧es[p]?=some e∧v=e.2) (fun i h=>yJ I tup a places es ep i h) where
 sub:=fun b m=>by rw [bH m];exact .head _
 frame:=fun i h h' D k=>by
  refine gM D ?_;clear D;rintro ⟨o,ho,r⟩ ⟨ot,nt,hot,hdt⟩ ⟨oa,t,hoa,r2⟩;exact ⟨⟨o,k I (.head _) _ ho,r⟩,⟨ot,nt,k tup (.tail _ (.head _)) _ hot,hdt⟩,⟨oa,t,k a (.tail _ (.tail _ (.head _))) _ hoa,r2⟩⟩
 item:=fun i s Q E hi D q=>by
  have hp:places[i]?=some places[i]:=Ah hi;have hp2:=hpl _ (EL hi);have hx:es[places[i]]?=some (es[places[i]].1,es[places[i]].2):=Bu hp2;refine aBT D hIt hIa hp hx fun h' D' hs=>?_;exact q _ h' s.toks ⟨_,_,hp,hx,rfl⟩ D' fun b o n e=>hs.extBut b o (fun z=>n (by rw [z];exact .head _)) e
 done:=fun s Q E D q=>aDM hh D (BB (Am _)) fun h' k=>q h' s.toks fun b o n e=>k b o (fun z=>n (by rw [z];exact .head _)) e
 self:=fun i s Q E D q=>rM D.typeIs q
theorem aGC {I a:Addr} {es:Array (Int×Ag)} {ep:Nat} (hb:w.params.followText "set-order"=true) (hh:A.handled=none) (hIa:I≠a) :
  JW prog w A I [I,a] [I] (pickOrder (w.params.setOrder a ep) es).size (fun i v=>∃ e,(pickOrder (w.params.setOrder a ep) es)[i]?=some e∧v=e.2) (fun i h=>yK I a es ep i h) where
 sub:=fun b m=>by rw [bH m];exact .head _
 frame:=fun i h h' D k=>by
  refine bM D ?_;clear D;rintro ⟨o,ho,r⟩ ⟨oa,t,hoa,r2⟩;exact ⟨⟨o,k I (.head _) _ ho,r⟩,⟨oa,t,k a (.tail _ (.head _)) _ hoa,r2⟩⟩
 item:=fun i s Q E hi D q=>by
  have hx:(pickOrder (w.params.setOrder a ep) es)[i]?=some ((pickOrder (w.params.setOrder a ep) es)[i].1,(pickOrder (w.params.setOrder a ep) es)[i].2):=Bu hi;refine aBU hb D hIa hx fun h' D' hs=>?_;exact q _ h' s.toks ⟨_,hx,rfl⟩ D' fun b o n e=>hs.extBut b o (fun z=>n (by rw [z];exact .head _)) e
 done:=fun s Q E D q=>aDN hb hh D (by simp) fun h' k=>q h' s.toks fun b o n e=>k b o (fun z=>n (by rw [z];exact .head _)) e
 self:=fun i s Q E D q=>rM D.typeIs q
end
section
variable {w:Bl} {A:Ba} {E:Ag→Ak→Prop} {s:Ak}
theorem zG {es:Array (Int×Ag)} {places:List Nat} {acc:Array Ag} (hp:places.Perm (Aa es.size)) (h:ItemsOf (fun i v=>∃ p e,places[i]?=some p∧es[p]?=some e∧v=e.2) acc places.length):acc.toList.Perm (es.toList.map (·.2)):=by
 have e1:acc.toList=places.map fun p=>(es[p]?.map (·.2)).getD .none:=by
  apply Fu;intro i;rw [Ar];cases e:acc.toList[i]? with
  | none=>
   have hl:acc.toList.length≤i:=Fl.mp e;rw [A6,h.1] at hl;rw [BB hl];rfl
  | some v=>
   refine bI (h.2 i v (by rw [← C5];exact e)) ?_;rintro p en hp1 hp2 rfl;rw [hp1];simp [hp2]
 have e2:(Aa es.size).map (fun p=>(es[p]?.map (·.2)).getD Ag.none)=es.toList.map (·.2):=by
  apply Fu;intro i;rw [Ar,Ar]
  by_cases hi:i<es.size
  ·rw [B7 hi,C5,Bu hi]
   simp [hi]
  ·rw [BB (by simp;lia),BB (by simp;lia)];rfl
 rw [e1,← e2];exact hp.map _
theorem wZ {es W:Array (Int×Ag)} {acc:Array Ag} (hp:W.toList.Perm es.toList) (h:ItemsOf (fun i v=>∃ e,W[i]?=some e∧v=e.2) acc W.size):acc.toList.Perm (es.toList.map (·.2)):=by
 have e1:acc.toList=W.toList.map (·.2):=by
  apply Fu;intro i;rw [Ar];cases e:acc.toList[i]? with
  | none=>
   have hl:acc.toList.length≤i:=Fl.mp e;rw [A6,h.1] at hl;rw [BB (by simpa using hl)];rfl
  | some v=>
   refine ob12 (h.2 i v (by rw [← C5];exact e)) ?_;rintro en hp2 rfl;rw [C5,hp2];rfl
 rw [e1];exact hp.map _
theorem aDJ {r:Addr} {Q:Bool→Ak→Prop} (hT:s.TypeIs (.ref r) "set") (h:Q false s):Au (AI prog w) A (E5 (.ref r)) Q E s:=by
 unfold E5;refine Ab (Gq hT PySem.F.slot_set_len.lookup ?_);generalize hid:("set.__len__":String)=id0
 wp_delta
 rw [show splitId id0=some ("set","__len__") from by subst hid;decide +kernel];subst hid;refine Ab (EQ (T:="set") (b:=true) hT (by rw [Dv];kernel_rfl) ?_);refine Ef (fun hab=>absurd hab (by decide)) (fun _=>?_);refine Ef (fun _=>?_) (fun hab=>absurd (by decide +kernel) hab);refine Ab (HI hT ?_);exact Aj h
theorem tR {a:Addr} {o:Obj} {t:Ff} {es:Array (Int×Ag)} {ep:Nat} {b:Bool} {Q:Bool→Ak→Prop} (hb:w.params.followText "set-order"=b) (hoa:s.heap.get? a=some o) (hda:o.data=.set es ep t) (hf:t.fits es.size=true)
  (q:Q (!b&&(!t.plain&&decide (es.size > 1))) s):Au (AI prog w) A (setDrawn a) Q E s:=by
 unfold setDrawn;refine Ab (DM hoa hda hf ?_);dsimp only;refine Ab (zT hb ?_);exact Aj q
theorem aDc {a:Addr} {o:Obj} {t:Ff} {es:Array (Int×Ag)} {ep:Nat} {Q:Ag→Ak→Prop} (hh:A.handled=none) (hoa:s.heap.get? a=some o) (hex:o.ExactSet) (hda:o.data=.set es ep t) (hf:t.fits es.size=true) (hpl:t.plain=false) (h2:2≤es.size) (hz:es.size≤4096)
  (q:∀ I fp P St nn h1 dr,JW prog w A I fp [I] nn P St→St 0 h1→(∀ b o,s.heap.get? b=some o→h1.get? b=some o)→(∀ b∈fp,s.heap.get? b=none∨b=a)→s.heap.get? I=none→nn≤4096→(∀ acc,ItemsOf P acc nn→acc.toList.Perm (es.toList.map (·.2)))→(∀ b∈fp,∃ o,h1.get? b=some o)→Q (.ref I) { s with heap:=h1,drawn:=dr }) :
  Au (AI prog w) A (pyIter (.ref a)) Q E s:=by
 have hT:s.TypeIs (.ref a) "set":=⟨o,hoa,hex.1⟩;have hlt:=AK hoa;refine FA hT mG (A9 mG hT rJ ?_ (sL _));unfold Dy.«frozenset.__iter__»;refine Ab (m:=I9 "__iter__" _) (Dj (a:=a) (by first | rfl | kernel_rfl!) ?_);refine Ab (m:=FB a) ?_;unfold FB;refine Ab (Dn hoa hda hf (Aj ?_));cases hb:w.params.followText "set-order" with
 | true=>
  refine Ab (tR hb hoa hda hf ?_);simp only [Bool.not_true,Bool.false_and,Cz,if_false];refine Ab (Aj ?_);refine Ab (HG hoa hda hf ?_);refine Ab (AV ?_ (by size_fits));have up:∀ b ob,s.heap.get? b=some ob→(s.heap.push { cls:=.type "set_iterator",data:=.fields [Bh 0,Bh 0,Ag.ref a,Bh es.size,Bh ep].toArray }).get? b=some ob:=fun b ob e=>Ai _ e;have D:yK s.heap.objs.size a es ep 0 (s.heap.push { cls:=.type "set_iterator",data:=.fields [Bh 0,Bh 0,Ag.ref a,Bh es.size,Bh ep].toArray }):=
   ⟨⟨_,Ae _ rfl,rfl,rfl⟩,⟨o,t,up _ _ hoa,hda,hf⟩⟩
  refine Aj ⟨_,rfl,"set_iterator",_,⟨_,Ae _ rfl,rfl⟩,eJ.lookup,?_⟩;have fr:s.heap.get? s.heap.objs.size=none:=aH (Am _);refine q s.heap.objs.size [s.heap.objs.size,a] _ _ _ _ s.drawn (aGC hb hh (fun z=>by rw [← z,fr] at hoa;cases hoa)) D up (fun b m=>?_) fr ?_ (fun acc h=>wZ tM h) fun b m=>?_
  ·refine cK m (fun e=>?_) fun m=>?_
   ·rw [e];exact .inl fr
   ·exact .inr (bH m)
  ·have:=(tM (next:=w.params.setOrder a ep) (xs:=es)).length_eq
   rw [A6,A6] at this;exact N2 2 14 hz this
  ·refine cK m (fun e=>?_) fun m=>?_
   ·rw [e];exact ⟨_,Ae _ rfl⟩
   ·rw [bH m];exact ⟨_,up _ _ hoa⟩
 | false=>
  refine Ab (tR hb hoa hda hf ?_);have hd1:(!false&&(!t.plain&&decide (es.size > 1)))=true:=by rw [hpl];simp;lia
  rw [hd1,if_pos rfl];refine Ab (kN es.size (Aa es.size) _ _ (by simp) fun places dr hp=>?_);refine Ab (IM ?_ (by rw [Ac,hp.length_eq,Al,EV];exact N1 2 15 hz));have ft:s.heap.get? s.heap.objs.size=none:=aH (Am _);have up1:∀ b ob,s.heap.get? b=some ob→(s.heap.push { cls:=.type "tuple",data:=.seq (places.map fun (i:Nat)=>Bh i).toArray }).get? b=some ob:=fun b ob e=>Ai _ e;refine Ab (HG (up1 _ _ hoa) hda hf ?_);refine Ab (AV ?_ (by size_fits));have hsz:(s.heap.push { cls:=.type "tuple",data:=.seq (places.map fun (i:Nat)=>Bh i).toArray }).objs.size=s.heap.objs.size+1:=Cr _ _;have fI:s.heap.get? (s.heap.objs.size+1)=none:=aH (Jw _);have up:∀ b ob,s.heap.get? b=some ob→((s.heap.push { cls:=.type "tuple",data:=.seq (places.map fun (i:Nat)=>Bh i).toArray }).push { cls:=.type "set_iterator",data:=.fields [Ag.ref s.heap.objs.size,Bh 0,Ag.ref a,Bh es.size,Bh ep].toArray }).get? b=some ob:=fun b ob e=>Ai _ (up1 _ _ e);have gI:((s.heap.push { cls:=.type "tuple",data:=.seq (places.map fun (i:Nat)=>Bh i).toArray }).push { cls:=.type "set_iterator",data:=.fields [Ag.ref s.heap.objs.size,Bh 0,Ag.ref a,Bh es.size,Bh ep].toArray }).get? (s.heap.objs.size+1)=some { cls:=.type "set_iterator",data:=.fields [Ag.ref s.heap.objs.size,Bh 0,Ag.ref a,Bh es.size,Bh ep].toArray }:=by
   rw [← hsz];exact Ae _ rfl
  have gt:((s.heap.push { cls:=.type "tuple",data:=.seq (places.map fun (i:Nat)=>Bh i).toArray }).push { cls:=.type "set_iterator",data:=.fields [Ag.ref s.heap.objs.size,Bh 0,Ag.ref a,Bh es.size,Bh ep].toArray }).get? s.heap.objs.size=some { cls:=.type "tuple",data:=.seq (places.map fun (i:Nat)=>Bh i).toArray }:=Ai _ (Ae _ rfl);have D:yJ (s.heap.objs.size+1) s.heap.objs.size a places es ep 0 ((s.heap.push { cls:=.type "tuple",data:=.seq (places.map fun (i:Nat)=>Bh i).toArray }).push { cls:=.type "set_iterator",data:=.fields [Ag.ref s.heap.objs.size,Bh 0,Ag.ref a,Bh es.size,Bh ep].toArray }):=
   ⟨⟨_,gI,rfl,rfl⟩,⟨_,0,gt,rfl⟩,⟨o,t,up _ _ hoa,hda,hf⟩⟩
  have hI:(s.heap.push { cls:=.type "tuple",data:=.seq (places.map fun (i:Nat)=>Bh i).toArray }).objs.size=s.heap.objs.size+1:=hsz;have key:=q (s.heap.objs.size+1) [s.heap.objs.size+1,s.heap.objs.size,a] _ _ _ _ dr (aGB hh (HU _) (fun z=>by rw [← z,fI] at hoa;cases hoa) fun p m=>fN (hp.mem_iff.mp m)) D up (fun b m=>?_) fI ?_ (fun acc h=>zG hp h) fun b m=>?_
  ·refine Aj ⟨_,rfl,"set_iterator",_,⟨_,Ae _ rfl,rfl⟩,eJ.lookup,?_⟩
   rw [hI];exact key
  ·refine cK m (fun e=>?_) fun m=>?_
   ·rw [e];exact .inl fI
   ·refine cK m (fun e=>?_) fun m=>?_
    ·rw [e];exact .inl ft
    ·exact .inr (bH m)
  ·rw [hp.length_eq,Al];exact hz
  ·refine cK m (fun e=>?_) fun m=>?_
   ·rw [e];exact ⟨_,gI⟩
   ·refine cK m (fun e=>?_) fun m=>?_
    ·rw [e];exact ⟨_,gt⟩
    ·rw [bH m];exact ⟨_,up _ _ hoa⟩
theorem wA {a:Addr} {o:Obj} {t:Ff} {es:Array (Int×Ag)} {ep:Nat} {R:List Ag→Ak→Prop} (hh:A.handled=none) (hoa:s.heap.get? a=some o) (hex:o.ExactSet) (hda:o.data=.set es ep t) (hf:t.fits es.size=true) (hpl:t.plain=false) (h2:2≤es.size) (hz:es.size≤4096)
  (q:∀ h' tk dr vs,(∀ b o,s.heap.get? b=some o→h'.get? b=some o)→vs.Perm (es.toList.map (·.2))→R vs { s with heap:=h',toks:=tk,drawn:=dr }) :
  Au (AI prog w) A (collect (.ref a)) R E s:=by
 have hlt:=AK hoa;unfold collect;refine Ab (wpAny_runValue (Ie entry_proto_collect' ?_));rw [Gu PySem.F.plain_proto_collect _];show Au _ A.in1 (newList [] >>= fun l=>again (.builtin "list.__iadd__" ⟨[l,.ref a],[]⟩)) _ _ s;refine Ab (AV ?_);refine Aj ⟨G1 FY _,Ie entry_list_iadd' ?_⟩;rw [Gu FY _];have gS:(s.heap.push { cls:=.type "list",data:=.seq ([]:List Ag).toArray }).get? s.heap.objs.size=some { cls:=.type "list",data:=.seq #[] }:=Ae _ rfl;have hoa1:(s.heap.push { cls:=.type "list",data:=.seq ([]:List Ag).toArray }).get? a=some o:=Ai _ hoa;have hT1:({ s with heap:=s.heap.push { cls:=.type "list",data:=.seq ([]:List Ag).toArray } }:Ak).TypeIs (.ref a) "set":=⟨o,hoa1,hex.1⟩;show Au _ A.in1 (E4 (.ref s.heap.objs.size) (.ref a) (.ref s.heap.objs.size)) _ _ _;unfold E4;refine Ab (HI hT1 ?_);have h1:FC (.ref s.heap.objs.size) (.ref a)=false:=by simp [FC,DB hlt]
 have h3:(Ag.type "set"==Ag.type "list")=false:=by decide
 have h4:(Ag.type "set"==Ag.type "tuple")=false:=by decide
 simp only [h1,h3,h4,Bool.or_false,Cz,if_false];refine Ab (aDc (A:=A.in1) hh hoa1 hex hda hf hpl h2 hz fun I fp P St nn hp1 dr W st up fpn fI nz per lv=>?_);have hT2:({ s with heap:=hp1,drawn:=dr }:Ak).TypeIs (.ref a) "set":=⟨o,up _ _ hoa1,hex.1⟩;have hS1:=up _ _ gS;have hSf:s.heap.objs.size∉fp:=fun m=>by
  refine BH (fpn _ m) (fun z=>?_) fun z=>?_
  ·have z':(s.heap.push { cls:=.type "list",data:=.seq ([]:List Ag).toArray }).get? s.heap.objs.size=none:=z
   rw [gS] at z';cases z'
  ·exact absurd z (DB hlt)
 have fin:∀ (R':Result→Ak→Prop),(∀ h' tk acc' c',(∀ b o,s.heap.get? b=some o→h'.get? b=some o)→h'.get? s.heap.objs.size=some { cls:=.type "list",dict:=none,data:=.seq acc' c',slots:=#[] }→acc'.toList.Perm (es.toList.map (·.2))→R' (.ok (.ret (.ref s.heap.objs.size))) { s with heap:=h',toks:=tk,drawn:=dr })→
   ∀ (h:Heap) (c tk:Nat),St 0 h→(∀ b o,b≠s.heap.objs.size→hp1.get? b=some o→h.get? b=some o)→h.get? s.heap.objs.size=some { cls:=.type "list",data:=.seq #[] c }→
   codeAny (AI prog w) A (.builtin "list.extend.loop" ⟨[.ref s.heap.objs.size,.ref I,.ref s.heap.objs.size],[]⟩) R' { s with heap:=h,toks:=tk,drawn:=dr }:=by
  intro R' hR h c tk st0 kp gS0;refine codeAny_extend_loopS W.toS (by rw [EV];exact N1 2 15 nz) s.heap.objs.size hSf _ nn 0 _ #[] c rfl (Df _) st0 gS0 (ItemsOf.nil _) fun s' acc' c' hm hS' hacc=>?_;rw [Moved.eq_with hm];refine hR s'.heap s'.toks acc' c' (fun b ob e=>hm.heap b ob (fun m=>?_) (kp b ob (fun z=>?_) (up _ _ (Ai _ e)))) hS' (per acc' hacc)
  ·refine cK m (fun z=>?_) fun m=>?_
   ·rw [z,aH (Am _)] at e;cases e
   ·have e2:=Ai (h:=s.heap) { cls:=.type "list",data:=.seq ([]:List Ag).toArray } e
    rw [bH m] at e2;have fI':(s.heap.push { cls:=.type "list",data:=.seq ([]:List Ag).toArray }).get? I=none:=fI;rw [fI'] at e2;cases e2
  ·rw [z,aH (Am _)] at e;cases e
 refine Ab (BA (aDJ hT2 ?_));refine Ef (fun _=>?_) (fun _=>Aj ⟨G1 Fq _,?_⟩)
 ·refine Ab (Ej (Ab ?_))
  show Au _ _ (updateSeq s.heap.objs.size (·.push .none) >>= fun _=>updateSeq s.heap.objs.size (·.pop)) _ _ _;refine Ab (Ig hS1 rfl ?_);have hS2:=Br (Gd (·.push Ag.none)) hS1 rfl;refine Ig hS2 rfl ?_;have hS3:=Br (Gd (·.pop)) hS2 rfl;have oth:∀ b o,b≠s.heap.objs.size→hp1.get? b=some o→((hp1.update s.heap.objs.size (Gd (·.push Ag.none))).update s.heap.objs.size (Gd (·.pop))).get? b=some o:=
   fun b o hb e=>(Dz _ _ (Ne.symm hb)).trans ((Dz _ _ (Ne.symm hb)).trans e)
  refine Aj ⟨G1 Fq _,?_⟩;refine fin _ (fun h' tk acc' c' kp gS' pm=>?_) _ _ s.toks (W.frame 0 _ _ st fun b m o e=>oth b o (fun z=>hSf (z▸m)) e) oth hS3;exact Ab (Gi gS' (Aj (q h' tk dr acc'.toList kp pm)))
 ·refine fin _ (fun h' tk acc' c' kp gS' pm=>?_) hp1 _ s.toks st (fun b o _ e=>e) hS1
  exact Ab (Gi gS' (Aj (q h' tk dr acc'.toList kp pm)))
end
section
theorem yB {α:Type} [DecidableEq α]:∀ {l2 l1:List α},l2.Nodup→(∀ x∈l2,x∈l1)→∃ r,l1.Perm (l2++r)
 | [],l1,_,_=>⟨l1,.rfl⟩
 | a::t,l1,n,h=>by
  have n':=Ec.mp n;have ha:=h a (.head _);refine ob11 (yB (l2:=t) (l1:=l1.erase a) n'.2 fun x m=>by
   have hx:=h x (.tail _ m);exact (List.mem_erase_of_ne (fun (e:x=a)=>n'.1 (by rw [← e];exact m))).mpr hx) fun r hr=>?_
  exact ⟨r,(List.perm_cons_erase ha).trans (List.Perm.cons _ hr)⟩
theorem xP {α:Type} [DecidableEq α] {l2 l1:List α} (n:l2.Nodup) (h:∀ x∈l2,x∈l1) (hl:l1.length≤l2.length):l1.Perm l2:=by
 refine ob11 (yB n h) fun r hr=>?_;have:=hr.length_eq;rw [Af] at this;have:r=[]:=El.mp (by exact N3 2 16 hl this);subst this
 rwa [AZ] at hr
theorem pD {a:Addr} {xs target:List Str} {Q:Ag→Ak→Prop} (hh:A.handled=none) (rp:Rp w h (.ref a) (.sset xs)) (hle:aZ h s.heap) (h2:2≤(fO xs).length) (h64:(fO xs).length<64)
  (tgt:∀ ss',ss'.Perm (fO xs)→EU ss'=true→ss'=target)
  (q:∀ Da h' tk dr (out:Array Ag),(∀ b o,s.heap.get? b=some o→h'.get? b=some o)→s.heap.get? Da=none→h'.PlainList Da out→StrsAre out.toList target→Q (.ref Da) { s with heap:=h',toks:=tk,drawn:=dr }) :
  Au (AI prog w) A (call (.builtin "sorted") [.ref a]) Q E s:=by
 refine aH7 rp.ofSset fun a' S n ea hS hm hn np=>?_;cases ea;refine aHj hS fun o es ep t hoa hex hda hel hmem hb hf hsz=>?_;clear hS;refine aF8 np fun o' es' ep' t' ho' hd' hpl=>?_;clear np;rw [hoa] at ho';cases ho';rw [hda] at hd';cases hd';have shape:∀ v∈es.toList.map (·.2),∃ x t,v=Ag.str x t:=fun v m=>by
  refine cX m ?_;rintro e he rfl;refine bM (hel e he) ?_;rintro ⟨k,hk,_⟩ _;refine ob11 (GZ hk) fun t ht=>?_;exact ⟨k,t,ht⟩
 have pk:((es.toList.map (·.2)).map strOf).Perm (fO xs):=by
  refine xP yQ (fun x m=>?_) ?_
  ·have:S x=true:=by rw [hm x,decide_eq_true_eq];exact wB.mp m
   refine ob12 ((hmem x).mp this) fun e he hk=>?_;refine ob11 (GZ hk) fun t ht=>?_;exact AY.mpr ⟨e.2,AY.mpr ⟨e,he,rfl⟩,by rw [ht];rfl⟩
  ·rw [Ac,Ac,A6,hsz];exact hn
 have hes:es.size=(fO xs).length:=by
  have:=pk.length_eq
  rwa [Ac,Ac,A6] at this
 have plain:t.plain=false:=hpl.resolve_right fun z=>by exact N2 2 17 hes z h2
 have h4:es.size≤4096:=CR hb;refine D5 kind_sorted plain_sorted entry_sorted (args_sorted1 _) ?_;unfold Dy.«sorted»;refine Ab (m:=checkCount "sorted" 1 1 _) (Aj ?_);refine Ab (wA (A:=A.in1) hh (hle _ _ hoa) hex hda hf plain (by exact N2 2 18 h2 hes) h4 fun h' tk dr vs kp pm=>?_);have hvl:vs.length=(fO xs).length:=by rw [pm.length_eq,Ac,A6,hes]
 have hS:StrsAre vs (vs.map strOf):=strsAre_map vs fun v m=>shape v (pm.mem_iff.mp m);refine Ab (wpAny_newList ?_ (by rw [hvl,EV];exact N1 2 19 h64));have hoL:(h'.push (seqObj "list" vs.toArray 0)).get? h'.objs.size=some (seqObj "list" vs.toArray 0):=Ae _ rfl;have fD:s.heap.get? h'.objs.size=none:=by
  cases z:s.heap.get? h'.objs.size with
  | none=>rfl
  | some o=>exact absurd (AK (kp _ _ z)) (CT _)
 show Au _ _ _ _ _ { s with heap:=h'.push (seqObj "list" vs.toArray 0),toks:=tk,drawn:=dr };refine Ab (BA (A9 slot_list_sort ⟨_,hoL,rfl⟩ entry_list_sort (list_sort_treeK ID hoL hS.keysOf (fun v₁ v₂ rest e=>keyKind_strs (by rw [← e];exact hS)) (by exact N2 2 20 h64 hvl) fun st' a1 a2=>⟨_,rfl,?_⟩) (args_list_sort _)));refine ob13 (sorted_out_str hS a1 a2) fun ss' t1 t2 t3=>?_;refine ob11 (sortedHeap_at (out:=(arrOf st').map (·.2)) hoL) fun e he=>?_;have:=tgt ss' (t2.trans ((pm.map strOf).trans pk)) t3;rw [this] at t1;refine Aj ⟨_,rfl,q h'.objs.size _ tk dr _ (fun b ob hb=>?_) fD ⟨e,he⟩ t1⟩;have hb':=kp b ob hb;have hlt:=AK hb';rw [sortedHeap_old (Bi hlt) (by rw [size_push'];exact Fw hlt)];exact Ai _ hb'
theorem aDG {vs:List Ag} {ss:List Str} (p:StrsAre vs ss):cG w h vs (ss.map .str):=by
 induction p with
 | nil=>exact .nil
 | cons x t _ ih=>exact .cons (.str x t) ih
end
section
theorem Bo.slice_tup {v sl ds} {b:Nat} (hb:b<ds.length) (hl:ds.length≤1000) (hs:autoParam (hU sl) ak):Bo w X A h (Cg v sl) (.tup ds) (.slc none (some (b:Int)) none) (.tup (ds.take b)):=.mk fun s v1 v2 hX _ r1 r2=>by
 refine bI r1.ofTup ?_;rintro a vs rfl hp rs;refine aF9 r2.ofSlc ?_;rintro c x y z rfl hc p1 p2 p3;cases p1;cases p3;cases p2 with
 | int _ u=>
 refine ob11 (hs (.ref a) (.ref c)) fun ops e=>?_;have hsl:s.heap.IsSliceOf c .none (.int (b:Int) u) .none:=by refine ob12 hc fun o ho r=>?_;clear hc;exact ⟨o,aR _ _ ho,r⟩
 have ht:s.heap.IsTuple a vs.toArray:=Cp.keep' hp aR;have hsz:vs.toArray.size=ds.length:=by rw [AH,rs.length]
 refine DK ht.typeIs Ei.lookup ?_ e;refine ob13 (id hsl) fun os hos hcs hds=>?_;have hTs:s.TypeIs (.ref c) "slice":=⟨os,hos,hcs⟩;have adj:Fk none (some (b:Int)) 1 (vs.toArray.size:Int)=(0,(b:Int)):=by
  rw [hsz];refine Prod.ext rfl ?_;show (if (b:Int)<0 then max ((b:Int)+(ds.length:Int)) (if (1:Int)<0 then -1 else 0) else min (b:Int) (if (1:Int)<0 then (ds.length:Int) - 1 else (ds.length:Int)))=_;rw [if_neg (DN.mpr (BW _)),if_neg (by decide),Ea (CQ.mpr (CR hb))]
 have plc:C7 0 (b:Int) 1=b:=by
  unfold C7;rw [if_pos (by decide)];cases b with
  | zero=>rfl
  | succ b=>rw [if_pos (H5.mpr (Hy _)),Int.ediv_one,Jc,Int.sub_add_cancel,Ap]
 have pick:((Aa b).filterMap fun (k:Nat)=>vs.toArray[((0:Int)+(k:Int)*1).toNat]?).toArray=(vs.take b).toArray:=by
  have e2:(fun (k:Nat)=>vs.toArray[((0:Int)+(k:Int)*1).toNat]?)=fun k=>vs[k]?:=by
   funext k;have:((0:Int)+(k:Int)*1).toNat=k:=by rw [Dc,Gy,Ap]
   rw [this];simp
  rw [e2];congr 1;have:∀ m,(Aa m).filterMap (fun k=>vs[k]?)=vs.take m:=fun m=>by
   induction m with
   | zero=>rfl
   | succ m ih=>
    rw [AT,EF,ih,CI];cases e:vs[m]? <;> simp [e]
  exact this b
 unfold getItem
 try with_reducible refine BA ?_
 first | refine Ab (Aj ?_) | skip
 refine Ab (HF ht.typeIs (by decide) ?_);refine Ab (AX (name:=BK "__getitem__") ht.typeIs Ei
  (A9 Ei ht.typeIs entry_tuple_getitem ?_ (args_tuple_getitem _ _)))
 show Au _ _ (Ip (.ref a) >>= _) _ _ s;refine Ab (tupleItemsOf_ ht ?_);refine Ab (HI hTs ?_);rw [if_pos (by decide)];refine Ab ?_;unfold Io IN;refine Ab (Ab (Bt hos hds (x:=.none) rfl (Ab (Bt hos hds (x:=.int (b:Int) u) rfl (Ab (Bt hos hds (x:=.none) rfl (Aj ?_)))))));refine Ab (IJ ?_);show Au _ _ (if ((1:Int)==0)=true then _ else _) _ _ s;rw [if_neg (by decide)];refine Ab (IJ (Ab (slicePart_int (Ab (Aj ?_)))));show Au _ _ (match Fk none (some (b:Int)) 1 (vs.toArray.size:Int) with | (lo,hi)=>pure (lo,(1:Int),C7 lo hi 1)) _ _ s;rw [adj];show Au _ _ (pure ((0:Int),(1:Int),C7 0 (b:Int) 1)) _ _ s;rw [plc];refine Aj ?_;have hno:¬ (((0:Int)==0&&(1:Int)==1&&b==vs.toArray.size)=true):=by
  have:(b==vs.toArray.size)=false:=by rw [beq_eq_false_iff_ne,hsz];lia
  rw [this];simp
 show Au _ _ (if ((0:Int)==0&&(1:Int)==1&&b==vs.toArray.size)=true then _ else _) _ _ s;rw [if_neg hno,pick];have hdr:sizeOk (.seq (vs.take b).toArray):=by
  show (vs.take b).toArray.size≤sizeLine;rw [AH,AE,EV];rw [AH] at hsz;exact N3 2 21 hb hl (AN _ _)
 have fin:Rp w (hx X (s.heap.push { cls:=.type "tuple",data:=.seq (vs.take b).toArray })) (.ref s.heap.objs.size) (.tup (ds.take b)):=.tup (IsTuple.new hX) ((rs.mono (aL (aN bT))).take b);have hk:A0 s { s with heap:=s.heap.push { cls:=.type "tuple",data:=.seq (vs.take b).toArray } }:=bT
 first
  | exact Ab (m:=Dl _) (AV (Aj ⟨_,rfl,Aj ⟨fin,hk⟩⟩) hdr)
  | exact Ab (m:=Dl _) (AV (Ab (Aj (Aj ⟨_,rfl,Aj ⟨fin,hk⟩⟩))) hdr)
  | exact Ab (Ab (m:=Dl _) (AV (Aj (Aj ⟨_,rfl,Aj ⟨fin,hk⟩⟩)) hdr))
  | exact Ab (Ab (m:=Dl _) (AV (Aj ⟨_,rfl,Aj ⟨fin,hk⟩⟩) hdr))
theorem Cl.list_tup {ds} (hl:ds.length≤1000):Cl w X A h (.type "list") [] [.tup ds] (.list ds):=.mk fun s fs vs hX _ r0 r=>by
 cases r0;refine ob12 r.c1 ?_;rintro _ rfl ra;refine bI ra.ofTup ?_;rintro a vs rfl hp rs;refine ob13 (id (Cp.keep' hp aR)) fun o ho hc kz=>?_;refine ob11 kz fun n hd=>?_;clear kz;refine call_list_seq a (.inr rfl) ho hc hd (fun h' c' hk hS=>?_) (by rw [AH,rs.length,EV];exact N1 2 22 hl);have kp:A0 s { s with heap:=h' }:=⟨h',s.toks,rfl,hk⟩;exact ⟨.list ⟨c',bU hS (hX.fresh (Am _))⟩ (rs.mono (aL (aN kp))),kp⟩
theorem St.remu {G mu'} (S:St w T s₀ F X env s l mu) (c:Ch G s s') (hG:∀ g∈G,g∈mu.map (·.1)) (hm:mu'.map (·.1)=mu.map (·.1)) (hd:∀ p∈mu',cN w X s'.heap p.1 p.2):St w T s₀ F X env s' l mu':=by
 have info:∀ g∈mu.map (·.1),g∈X∧g∉Fp env∧(g∈F∨s₀.heap.get? g=none):=fun g m=>by
  refine cX m ?_;rintro p mp rfl;exact ⟨(S.mus p mp).1,(S.mus p mp).2.1,(S.mus p mp).2.2.1⟩
 have lv:∀ g∈G,∃ o,s'.heap.get? g=some o:=fun g m=>by
  have:=hG g m;rw [← hm] at this;refine cX this ?_;rintro p mp rfl;exact (hd p mp).live
 have hle:aZ (hx X s.heap) (hx X s'.heap):=aJ (fun b o n e=>c.get (fun m=>n (info b (hG b m)).1) e) fun y m=>.inl m;have fp:∀ b∈Fp env,∀ o,s.heap.get? b=some o→s'.heap.get? b=some o:=fun b m o e=>c.get (fun q=>(info b (hG b q)).2.1 m) e;refine ⟨S.kind,S.gl,S.bl,S.base.step c fun g m=>(info g (hG g m)).2.2,S.live.ch c lv,S.pl,S.mem,S.own,?_,?_,S.tot,S.apart,S.wd.mono hle,fun p m=>?_,?_⟩
 ·refine ob12 S.ns fun m n q=>?_
  exact ⟨m,n.at' (fp _ (.head _)),fun x d a b=>let ⟨v,e,r⟩:=q x d a b;⟨v,e,r.mono hle⟩⟩
 ·intro x c' hc lt hk
  refine ob12 (S.cs x c' hc lt hk) ?_;rintro v ⟨o,ho,hd'⟩ q;exact ⟨v,⟨o,fp c' (xK hc lt) o ho,hd'⟩,fun d e=>let ⟨u,e',r⟩:=q d e;⟨u,e',r.mono hle⟩⟩
 ·have:p.1∈mu.map (·.1):=hm▸B8 m
  refine gM (info _ this) fun a b c=>?_;exact ⟨a,b,c,hd p m⟩
 ·have:=S.mud
  rw [← Ht (f:=fun p:Addr×D=>p.1) (R:=fun a b=>a≠b)] at this ⊢
  rwa [hm]
theorem St.slots {L} (S:St w T s₀ F X env s l mu) (hL:env.locals=L) (c:Ch [L] s s') (hs:∀ o,s.heap.get? L=some o→∃ q,s'.heap.get? L=some { o with slots:=q }):St w T s₀ F X env s' l mu:=by
 subst hL;have LX:env.locals∈X:=S.mem _ (.head _);have Lo:=S.own env.locals (.head _);have hle:aZ (hx X s.heap) (hx X s'.heap):=aJ (fun b o n e=>c.get (fun m=>n (by rw [bH m];exact LX)) e) fun y m=>.inl m;refine ob12 S.ns fun nm nn nq=>?_;refine xJ (id nn) fun oL es ep hoL hdL rL=>?_;refine ob11 (hs oL hoL) fun q hq=>?_;refine ⟨S.kind,S.gl,S.bl,S.base.step c fun g m=>by rw [bH m];exact Lo,S.live.ch c fun g m=>by rw [bH m];exact ⟨_,hq⟩,S.pl,S.mem,S.own,?_,?_,S.tot,S.apart,S.wd.mono hle,fun p m=>?_,S.mud⟩
 ·exact ⟨nm,⟨_,es,ep,hq,hdL,rL⟩,fun x d a b=>let ⟨v,e,r⟩:=nq x d a b;⟨v,e,r.mono hle⟩⟩
 ·intro x c' hc lt hk
  refine ob12 (S.cs x c' hc lt hk) ?_;rintro v ⟨o,ho,hd'⟩ q;exact ⟨v,⟨o,c.get (fun m=>by rw [bH m] at lt;exact CT _ lt) ho,hd'⟩,fun d e=>let ⟨u,e',r⟩:=q d e;⟨u,e',r.mono hle⟩⟩
 ·refine eG (S.mus p m) fun x1 x2 x3 x4=>?_
  exact ⟨x1,x2,x3,x4.mono hle fun o e=>c.get (fun q=>x2 (by rw [bH q];exact .head _)) e⟩
noncomputable def sS (ds:List D):List D:=(Aa ds.length).map fun (i:Nat)=>.tup [.int (i:Int),ds[i]?.getD .none]
theorem aCP {ds:List D} {i:Nat} {d:D} (h:ds[i]?=some d):(sS ds)[i]?=some (.tup [.int (i:Int),d]):=by
 unfold sS;have:=(Aw.mp h).1;rw [Ar,B7 this];show some (D.tup [.int (i:Int),ds[i]?.getD .none])=_;rw [h];rfl
theorem fX.enum {n e x pos ds} (hA:dF n A) (he:Ev w X A env h e (.list ds)) (hf:Ev w X A env h (.Name "enumerate" x) (.val (.type "enumerate")))
  (hst:AF [e] env=(false,eval e env)::AF [] env) (hpl:(backTo pos (AF [e] env)).any (·.1)=false):fX w X A true env h (.Call (.Name "enumerate" x) [e] [] pos) (sS ds):=.mk fun s Q hX k q=>by
 refine eU hX k hf Kp.type (Es.one he hst) (fun vs s1 r1 k1=>?_) hpl;refine ob12 r1.c1 ?_;rintro _ rfl ra;refine bI ra.ofList ?_;rintro a vs rfl hp rs;have hl:=PlainList.live hp;refine call_enumerate_list hl fun h' he' hit hz kp=>?_;refine wpAny_pyIter_enum he' ?_;refine ob12 (id hl) fun oa hoa _=>?_;have hlt:=AK hoa;have haX:a∉X:=by refine ob11 hp fun n e=>?_;clear hp;exact iD e
 have kk:A0 s1 { s1 with heap:=h' }:=⟨h',s1.toks,rfl,kp⟩;have W:=WalksT.enumerate (prog:=prog) (w:=w) hA.hh (s1.heap.objs.size+1) s1.heap.objs.size a (HU _) (Bi (Fw hlt)) (Bi hlt) vs.toArray;have hlen:vs.toArray.size=(sS ds).length:=by unfold sS;rw [AH,rs.length,Ac,Al]
 have hla:h'.IsList a vs.toArray:=hl.at fun o e=>kp _ _ e;refine q _ _ _ _ _ s1 _ k1 kk (vP.ofWalksT (by rw [← hlen];exact W) (by exact ⟨⟨_,he'⟩,hit,hla⟩) (fun b m=>?_) (fun b m=>?_) (fun b m=>?_) (fun b m=>?_) (fun i g st b m=>?_) (fun i T g st b m=>?_) (fun i vals hi hP=>?_))
 ·refine cK m (fun z=>?_) fun m=>?_
  ·rw [z];exact aH (Jw _)
  ·rw [bH m];exact aH (Am _)
 ·refine cK m (fun z=>?_) fun m=>?_
  ·rw [z];exact ⟨_,he'⟩
  ·rw [bH m];refine ob12 hit fun o ho _=>?_;clear hit;exact ⟨o,ho⟩
 ·refine cK m (fun z=>?_) fun m=>?_
  ·exact .inl (by rw [z];exact .head _)
  ·refine cK m (fun z=>?_) fun m=>?_
   ·exact .inl (by rw [z];exact .tail _ (.head _))
   ·exact .inr (by rw [bH m];exact haX)
 ·refine cK m (fun z=>?_) fun m=>?_
  ·rw [z];exact ⟨_,he'⟩
  ·refine cK m (fun z=>?_) fun m=>?_
   ·rw [z];refine ob12 hit fun o ho _=>?_;clear hit;exact ⟨o,ho⟩
   ·rw [bH m];exact ⟨oa,kp _ _ hoa⟩
 ·refine gM st ?_;clear st;rintro ⟨old,h1⟩ ⟨o,h2,_⟩ _
  refine cK m (fun z=>?_) fun m=>?_
  ·rw [z];exact ⟨_,h1⟩
  ·rw [bH m];exact ⟨o,h2⟩
 ·refine gM st ?_;clear st;rintro ⟨old,h1⟩ ⟨o,h2,_⟩ _
  refine cK m (fun z=>?_) fun m=>?_
  ·rw [z];exact ⟨_,h1⟩
  ·rw [bH m];exact ⟨o,h2⟩
 ·refine fP hP ?_;clear hP;rintro t x hx' rfl
  refine ob12 (rs.at (i:=i) (v:=x) (by simpa using hx')) fun d hd rd=>?_;exact ⟨_,aCP hd,.cons (.int _ _) (.cons rd .nil)⟩
end
section
open PySem PySem.W PySem.Calls PyProof.Rows PySem.SeqAt
section
theorem aDE {us:List (Int×Ag)} {es:List (Int×D)} {k:Int} {d:D} (r:cP w h us es) (m:(k,d)∈es):∃ (i:Nat) (u:Ag),us[i]?=some (k,u)∧Rp w h u d:=by
 induction es generalizing us with
 | nil=>cases m
 | cons p es ih=>
  obtain ⟨k0,d0⟩:=p;refine bI r.cc fun v us' e1 a b=>?_;subst e1;refine cK m (fun e=>?_) fun m=>?_
  ·cases e;exact ⟨0,v,rfl,a⟩
  ·refine fP (ih b m) fun i u e r=>⟨i+1,u,e,r⟩
theorem aCR {ds:List (Int×D)} (ok:kO ds=true) {A:Ba} {s:Ak} {vs:List (Int×Ag)} (r0:cP w s.heap vs ds) {us:List (Int×Ag)} {es:List (Int×D)} (he:∀ p∈ds,p∈es)
  (r:cP w s.heap us es) (hn:(us.map (·.1)).Nodup) (hu:A.units+kF ds<cLine):KeqHits A s us vs true:=by
 induction ds generalizing vs with
 | nil=>cases r0;exact .nil
 | cons p ds ih=>
  obtain ⟨k,d⟩:=p;refine bI r0.cc fun v vs' e1 a b=>?_;subst e1;have ok':iS d=true∧kO ds=true:=Bg.mp ok;have hu1:A.units+max (dep d) (kF ds)<cLine:=hu;refine fP (aDE r (he _ (.head _))) fun i u e ru=>?_;have one:=aEm d ok'.1 a ru (Bp (CN (Ed _ _) _) hu1);have more:=ih ok'.2 b (fun p m=>he p (.tail _ m)) (Bp (CN (DR _ _) _) hu1);exact .hit (e:=true) (b:=true) (rT hn e) one more
theorem cG.split {vs:List Ag} {a b:List D} (r:cG w h vs (a++b)):∃ v1 v2,vs=v1++v2∧cG w h v1 a∧cG w h v2 b:=by
 induction a generalizing vs with
 | nil=>exact ⟨[],vs,rfl,.nil,r⟩
 | cons d a ih=>
  cases r with
  | cons ra rb=>
   refine bI (ih rb) ?_;rintro v1 v2 rfl r1 r2;exact ⟨_::v1,v2,rfl,.cons ra r1,r2⟩
theorem Bo.ne_tup_perm {n pre t1 t2} (hA:dF n A) (ok:gO pre=true) (ok1:kO t1=true) (hp:∀ p∈t1,p∈t2) (hl:t1.length=t2.length) (hd:eW pre≤300) (hd1:kF t1≤300) :
  Bo w X A h (B3 .NotEq) (.tup (pre++[.idict t1])) (.tup (pre++[.idict t2])) (.bool false):=.mk fun s v1 v2 _ _ r1 r2=>by
 refine bI r1.full.ofTup ?_;rintro a vs rfl p1 q1;refine bI r2.full.ofTup ?_;rintro b us rfl p2 q2;refine bI q1.split ?_;rintro va vb rfl ra rb;refine bI q2.split ?_;rintro ua ub rfl sa sb;refine ob12 rb.c1 ?_;rintro _ rfl x1;refine ob12 sb.c1 ?_;rintro _ rfl y1;refine jS x1.ofIdict ?_;rintro c ka rfl z1 pc qc;refine jS y1.ofIdict ?_;rintro e kb rfl z2 pe qe;have hu':A.in1.units+eW pre<cLine:=by have:=hA.cl (k:=eW pre+1) (by exact N1 3 0 hd);show A.units+1+_<_;exact N3 0 16 this
 have e1:=wD pre ok (A:=A.in1) ra sa hu';have la:va.length=ua.length:=ra.length.trans sa.length.symm;have n':(va++[Ag.ref c]).length=(ua++[Ag.ref e]).length:=by rw [Af,Af,la];rfl
 have hn:(kb.map (·.1)).Nodup:=by refine aER (id pe) fun _ _ _ _ _ _ _ _ hn=>?_;exact hn
 have last:EqAt A.in1 s (.ref c) (.ref e) true:=by
  by_cases z:c=e
  ·subst z;exact EqAt.same _
  ·refine EqAt.of_refs z ?_
   have hu2:A.in1.in1.units+kF t1<cLine:=by have:=hA.cl (k:=kF t1+2) (by exact N1 3 1 hd1);show A.units+1+1+_<_;exact N3 3 2 this
   exact xR z1 z2 pc pe (by have:=hA.cl (k:=1) (by lia);show A.units+1<_;lia) (by rw [qc.length,qe.length,hl]) (aCR ok1 qc hp qe hn hu2)
 have:=RcNeAt.tuples (e:=fun _=>true) p1 p2 (hA.cl (k:=0) (by lia)) fun j j1 j2=>by
  by_cases hj:j<va.length
  ·have:=e1 j hj (by exact N3 3 3 la hj)
   have h1:(va++[Ag.ref c])[j]'(by simp at j1 ⊢;lia)=va[j]:=FI hj;have h2:(ua++[Ag.ref e])[j]'(by simp at j2 ⊢;lia)=ua[j]'(by exact N3 3 3 la hj):=FI (by exact N3 3 3 la hj);have g1:(va++[Ag.ref c]).toArray[j]=va[j]:=by simpa using h1
   have g2:(ua++[Ag.ref e]).toArray[j]=ua[j]'(by exact N3 3 3 la hj):=by simpa using h2
   rw [g1,g2];exact this
  ·have hj':j=va.length:=by simp at j1;exact N2 3 4 hj j1
   subst hj';have g1:(va++[Ag.ref c]).toArray[va.length]=.ref c:=by simp
   have g2:(ua++[Ag.ref e]).toArray[va.length]=.ref e:=by simp [la]
   rw [g1,g2];exact last
 rw [iF (fun _ _=>rfl)] at this;have e2:(!(true&&(va++[Ag.ref c]).toArray.size==(ua++[Ag.ref e]).toArray.size))=false:=by simp [la]
 rw [e2] at this;exact this prog w _ _ ⟨.bool _,dM⟩
theorem Cq.sc2 {n tup tup' elt target iter ifs target' iter' ifs' scope pos items} {asg:D→(Str→Option D)→(Str→Option D)} {asg':D→D→(Str→Option D)→(Str→Option D)}
  {p:D→Bool} {its:D→List D} {p':D→D→Bool} {f:D→D→Str} {Kl:D→(Str→Option D)→Prop} (hA:dF n A) (ec:EC w T X env h)
  (src:fX w X A tup env h iter items) (hlen:(items.flatMap its).length≤1000)
  (tgt:∀ C d l,d∈items→Tg (cv scope C env) target d l (asg d l))
  (tst:∀ C Xc h' d l,d∈items→CE w T X env h Xc (cv scope C env) h' (asg d l)→Ts w Xc A (cv scope C env) h' ifs (p d))
  (hK0:∀ d l,d∈items→Kl d (asg d l)) (hK1:∀ d d' l,Kl d l→Kl d (asg' d d' l))
  (src':∀ C Xc h' d l,d∈items→CE w T X env h Xc (cv scope C env) h' (asg d l)→fX w Xc A tup' (cv scope C env) h' iter' (its d))
  (tgt':∀ C d d' l,d∈items→d'∈its d→Tg (cv scope C env) target' d' l (asg' d d' l))
  (tst':∀ C Xc h' d d' l,d∈items→d'∈its d→Kl d l→CE w T X env h Xc (cv scope C env) h' (asg' d d' l)→Ts w Xc A (cv scope C env) h' ifs' (p' d d'))
  (el:∀ C Xc h' d d' l,d∈items→d'∈its d→p' d d'=true→Kl d l→CE w T X env h Xc (cv scope C env) h' (asg' d d' l)→Ev w Xc A (cv scope C env) h' elt (.str (f d d')))
  (htup:autoParam (tup=true→∃ es k p,target=.Tuple es k p) ak)
  (htup':autoParam (tup'=true→∃ es k p,target'=.Tuple es k p) ak)
  (hfree:autoParam (iC env scope.names=true) aq) (hkind:autoParam (scope.kind=.function) aq) (hnames:autoParam (iK scope.names=true) aq) (hs:autoParam (∀ env x,Be iter env x=pure x) ak)
  (hs':autoParam (∀ env x,Be iter' env x=pure x) ak)
  (heq':autoParam (∀ I D0 env',compTurn (.SetComp elt [⟨target,iter,ifs,0⟩,⟨target',iter',ifs',0⟩] scope pos) 1 (.ref I) (.ref D0) env'=eY target' iter' ifs' (.ref I) env' (aAx elt env' D0) (.compLoop (.SetComp elt [⟨target,iter,ifs,0⟩,⟨target',iter',ifs',0⟩] scope pos) 1 (.ref I) (.ref D0) env')) ak) :
  Cq w X A env h (.SetComp elt [⟨target,iter,ifs,0⟩,⟨target',iter',ifs',0⟩] scope pos) (.sset ((items.filter p).flatMap fun d=>((its d).filter (p' d)).map (f d))):=by
 have:=Cq.two (ok:=aDb) (un:=fun d=>match d with | .sset l=>l.map .str | _=>[]) (mk:=fun ds=>.sset (ds.map fM)) (f:=fun d d'=>.str (f d d')) (Kl:=Kl) hA ec gN.set tZ.set (fun xs g=>by
  show D.sset ((((xs.map fM).map D.str)++g).map fM)=.sset ((xs++g).map fM);rw [Ax,Ax,An];congr 2;rw [show (fM∘D.str)=id from rfl,Fv]) (fun _=>rfl) src hlen aGA heq' (fun _ _ _=>rfl) (fun _ _ _=>rfl) (fun _ _ _=>rfl) (fun _ _ _=>rfl) tgt tst hK0 hK1 src' tgt' tst' el (fun _ _ _ _=>trivial) htup htup' hfree hkind hnames hs hs'
 have e:(((items.filter p).flatMap fun d=>((its d).filter (p' d)).map fun d'=>D.str (f d d')).map fM)=(items.filter p).flatMap fun d=>((its d).filter (p' d)).map (f d):=by
  rw [Ds];congr 1;funext d;rw [An];rfl
 rw [e] at this;exact this
theorem uO {n x pos' q e pos pos2 xs target pre post} (hA:dF n A) (S:St w T s₀ F X env s l (pre++(aK,.ctab)::post)) (he:Ev w X A env s.heap e (.sset xs)) (hf:Ev w X A env s.heap (.Name "sorted" q) (.val (.builtin "sorted"))) (h2:2≤(fO xs).length) (h64:(fO xs).length<64)
  (tgt:∀ ss',ss'.Perm (fO xs)→EU ss'=true→ss'=target)
  (k:∀ s',St w T s₀ F X env s' (up l x (.list (target.map .str))) (pre++(aK,.ctab)::post)→Xs w A rest env Q E s')
  (hst:autoParam (AF [e] env=(false,eval e env)::AF [] env) aq) (hpl:autoParam ((backTo pos (AF [e] env)).any (·.1)=false) aq)
  (hk:autoParam (nB env x) ak) (hs:autoParam (Cd (.Call (.Name "sorted" q) [e] [] pos) (some (.Name x pos')) pos2.line env=pure false) aq) :
  Xs w A (.Assign [.Name x pos'] (.Call (.Name "sorted" q) [e] [] pos) pos2::rest) env Q E s:=by
 refine cI (By (eU S.live aZ.rfl hf Kp.builtin (Es.one he hst) (fun vs s1 r1 k1=>?_) hpl) hs);have S1:=S.keeps k1;refine ob12 r1.c1 ?_;rintro _ rfl ra;refine fW ra.ofSset fun a _ _ ea _=>?_;subst ea;refine pD hA.hh ra aR h2 h64 tgt fun Da h' tk dr out kp fD hp ho=>?_;have c:Ch [aK] s1 { s1 with heap:=h',toks:=tk,drawn:=dr }:=⟨h',tk,(s1.gens,dr),rfl,fun b o _ e=>kp b o e,fun _ n=>absurd (.head _) n,id⟩;have mt:=S1.muAt (a:=aK) (d:=.ctab) (Ad _ (.head _));refine ob11 mt.live fun oT hoT=>?_;have hle:aZ (hx X s1.heap) (hx X h'):=aL kp;have S2:=S1.mutate c ⟨oT,kp _ _ hoT⟩ (mt.mono hle fun o e=>kp _ _ e);have DX:Da∉X:=fun m=>by refine ob11 (S1.live.1 _ m) fun o e=>?_;rw [fD] at e;cases e
 have rl:Rp w (hx X h') (.ref Da) (.list (target.map .str)):=by
  refine ob11 hp fun m e=>?_;clear hp;exact .list (vs:=out.toList) ⟨m,bU (by simpa using e) DX⟩ (aDG ho)
 exact S2.store rl hk fun s3 S3 c3=>(k s3 S3).go
end
end
noncomputable def dD {α:Type} (l:List α) (lo hi st:Option Int):List α:=(EO (BR lo hi st l.length).1 (BR lo hi st l.length).2.1 (BR lo hi st l.length).2.2).filterMap (l[·]?)
theorem jD {α:Type} {f:α→D} {l:List α} {lo hi st:Option Int}:gP (l.map f) lo hi st=(dD l lo hi st).map f:=by
 unfold gP dD;rw [Ac,Ha];congr 1;funext i;rw [Ar]
theorem aBO {α β:Type} {f:α→β} {l:List α} {lo hi st:Option Int}:dD (l.map f) lo hi st=(dD l lo hi st).map f:=by
 unfold dD;rw [Ac,Ha];congr 1;funext i;rw [Ar]
theorem lN {l:List Int} {lo hi st:Option Int}:(dD l lo hi st).length≤l.length:=by
 have h1:(dD (l.map fun x=>Ag.int x 0) lo hi st).length=(dD l lo hi st).length:=by rw [aBO,Ac]
 have h2:=slicePick_size_le (l.map fun x=>Ag.int x 0).toArray lo hi st;have h3:slicePick (l.map fun x=>Ag.int x 0).toArray lo hi st=(dD (l.map fun x=>Ag.int x 0) lo hi st).toArray:=by
  unfold slicePick dD;simp
 rw [h3,AH,AH,Ac] at h2;exact N3 1 9 h1 h2
noncomputable def rE:List Int:=[304,105,101,3,200,205,1915]
noncomputable def rS:Int:=10 ^ (10:Int).toNat
noncomputable def yC (script:List Int) (k:Nat) (own:Int):Int:=own+((dD (dD script none (some 60) none) (some (k:Int)) none (some 7)).map fun x=>x.fmod rS).sum
noncomputable def rR (script:List Int):List Int:=(Aa 7).map fun k=>yC script k (rE[k]?.getD 0)
section
variable (V:Nat→Nat)
noncomputable def aB:Nat:=6 - V 6 % 5
noncomputable def dR:Int:=1 - ((V 6 / 15 % 2:Nat):Int)*2
noncomputable def aW:Nat:=V 6 / 30 % 28
noncomputable def bK:Nat:=V 6 / 840
noncomputable def mI:Nat:=V 6 / 5 % 3
noncomputable def sI (k:Nat):List Int:=[((1+V k % 70:Nat):Int),((V k % 100:Nat):Int),((V k / 100:Nat):Int)]
noncomputable def bS:List (List Int):=(Aa (aB V)).map (sI V)
noncomputable def cA:List Int:=(bS V).flatten
noncomputable def iO (k:Nat):Int:=((V k % 100+V k / 100:Nat):Int)
noncomputable def bJ (k:Nat):Bool:=V k % 100 % 2==1
noncomputable def aQ:List Int:=(Aa (aB V)).map (iO V)
noncomputable def eR (n:Nat):List Tb:=(Aa n).map fun k=>[(k,0)]
end
theorem fB {V:Nat→Nat}:2≤aB V∧aB V≤6:=by unfold aB;exact ⟨N2 3 5 eB oV,N1 3 6 (AD _ _)⟩
theorem aAe {V:Nat→Nat}:dR V=1∨dR V = -1:=by
 unfold dR;have:V 6 / 15 % 2=0∨V 6 / 15 % 2=1:=by lia
 rcases this with h | h <;> rw [h] <;> decide
theorem dT (a b:Nat):((a:Nat):Int).fmod (b:Int)=((a % b:Nat):Int):=by
 rw [Fc _ (by lia)];rfl
theorem fL (a b:Nat):((a:Nat):Int).fdiv (b:Int)=((a / b:Nat):Int):=by
 rw [Fb _ (by lia)];rfl
theorem aAM {V:Nat→Nat}:cA V=(Aa (aB V)).flatMap (sI V):=by unfold cA bS;rw [Ck]
theorem iV (f:Nat→List Int) (hf:∀ k,(f k).length=3):∀ n,((Aa n).flatMap f).length=3*n
 | 0=>rfl
 | n+1=>by rw [AT,Cw,Af,iV f hf n,AL,EK,AZ,hf];exact N1 3 7
theorem wL (f:Nat→List Int) (hf:∀ k,(f k).length=3) {k j:Nat} (hj:j<3):∀ {n:Nat},k<n→((Aa n).flatMap f)[3*k+j]?=(f k)[j]?
 | 0,h=>absurd h (Ee _)
 | n+1,h=>by
  rw [AT,Cw,AL,EK,AZ]
  by_cases hk:k<n
  ·rw [Bw (by rw [iV f hf];exact N3 3 8 hj hk)]
   exact wL f hf hj hk
  ·have:k=n:=by exact N2 3 9 h hk
   subst this;rw [BF (by rw [iV f hf];lia),iV f hf];congr 1;exact N3 3 11 eB (cY (N2 3 10))
theorem jB {V:Nat→Nat}:(cA V).length=3*aB V:=by rw [aAM];exact iV _ (fun _=>rfl) _
theorem pP {V:Nat→Nat} {k j:Nat} (hk:k<aB V) (hj:j<3):(cA V)[3*k+j]?=(sI V k)[j]?:=by rw [aAM];exact wL _ (fun _=>rfl) hj hk
theorem aAG {V:Nat→Nat} {k:Nat} (hk:k<aB V):(aQ V)[k]?=some (iO V k):=by unfold aQ;rw [Ar,B7 hk];rfl
theorem eF {V:Nat→Nat}:(aQ V).length=aB V:=by unfold aQ;rw [Ac,Al]
structure pT where
 i:Nat
 g:Nat
 a:List Nat
 b:List (Nat×Nat)
noncomputable def nC:Nat→List (List Nat)
 | 1=>[[0]]
 | 2=>[[1,1]]
 | 3=>[[1,2,2],[2,2,1]]
 | 4=>[[1,2,3,3],[1,3,3,2],[2,2,2,2],[2,3,3,1],[3,3,2,1]]
 | 5=>[[1,2,3,4,4],[1,2,4,4,3],[1,3,3,3,3],[1,3,4,4,2],[1,4,4,3,2],[2,2,2,3,3],[2,2,3,3,2],[2,3,3,2,2],[3,3,2,2,2],[2,3,4,4,1],[2,4,4,3,1],[3,3,3,3,1],[3,4,4,2,1],[4,4,3,2,1]]
 | 6=>[[1,2,3,4,5,5],[1,2,3,5,5,4],[1,2,4,4,4,4],[1,2,4,5,5,3],[1,2,5,5,4,3],[1,3,3,3,4,4],[1,3,3,4,4,3],[1,3,4,4,3,3],[1,4,4,3,3,3],[1,3,4,5,5,2],[1,3,5,5,4,2],[1,4,4,4,4,2],[1,4,5,5,3,2],[1,5,5,4,3,2],[2,2,2,3,4,4],[2,2,2,4,4,3],[2,2,3,3,3,3],[2,2,3,4,4,2],[2,2,4,4,3,2],[2,3,3,2,3,3],[2,3,3,3,3,2],[3,3,2,2,3,3],[3,3,2,3,3,2],[2,3,4,4,2,2],[2,4,4,3,2,2],[3,3,3,3,2,2],[3,4,4,2,2,2],[4,4,3,2,2,2],[2,3,4,5,5,1],[2,3,5,5,4,1],[2,4,4,4,4,1],[2,4,5,5,3,1],[2,5,5,4,3,1],[3,3,3,4,4,1],[3,3,4,4,3,1],[3,4,4,3,3,1],[4,4,3,3,3,1],[3,4,5,5,2,1],[3,5,5,4,2,1],[4,4,4,4,2,1],[4,5,5,3,2,1],[5,5,4,3,2,1]]
 | _=>[]
noncomputable def aG3:List pT:=[⟨0,0,[0],[]⟩]
noncomputable def aG4:List pT:=[⟨0,0,[576,0],[]⟩,
 ⟨1,0,[0,295472],[]⟩,
 ⟨1,1,[0,295472],[]⟩]
noncomputable def aG5:List pT:=[⟨0,0,[155484720,155484688,0,593,1],[]⟩,
 ⟨1,0,[163889728,320064,0,1,303681],[]⟩,
 ⟨1,1,[608,0,624,1,303681],[]⟩,
 ⟨2,0,[320064,163890240,0,159941152,159941120],[(0,0),(32,40)]⟩,
 ⟨2,1,[0,311872,640,86059287072,86059287040],[(0,0),(32,20519)]⟩,
 ⟨2,2,[0,311872,1,159941153,159941121],[]⟩]
noncomputable def aG6:List pT:=[⟨0,0,[81894081072,81894072864,159687184,81894072849,159949841,0,1,610,2,159687219,159687187,3,612,4],[]⟩,
 ⟨1,0,[86063489600,86063489568,328272,302310481,590929,0,626,2,311890,168092243,328275,3,4,311892],[(0,0),(34,20006),(0,0),(0,0),(0,0)]⟩,
 ⟨1,1,[163881536,163881504,0,625,1,640,626,2,311890,627,3,643,4,311892],[]⟩,
 ⟨2,0,[90366608464,176497744,336464,599121,306505297,642,2,320082,1,336467,172287059,3,164143651,164143619],[(34,20519),(0,0),(0,0),(0,0),(35,42)]⟩,
 ⟨2,1,[172294736,336464,0,1,320081,642,2,320082,1185,3,320083,675,90358456867,90358456835],[(0,0),(0,0),(0,0),(0,0),(35,21545)]⟩,
 ⟨2,2,[640,0,656,1,320081,642,2,320082,163890258,3,320083,4,164143652,164143620],[]⟩,
 ⟨3,0,[176497744,90366608976,336464,88215429680,88215429648,2,328274,0,311888,168600624,86323257872,86059557424,86323241472,44062627602944],[(0,0),(0,0),(0,0),(32,21062),(32,11031110)]⟩,
 ⟨3,1,[336464,172295248,0,168337968,168337936,2,328274,688,180666960,154779296304,154779296272,302565456,79248749797888,79248884277760],[(0,0),(32,42),(0,0),(32,21542),(32,21062)]⟩,
 ⟨3,2,[0,328272,672,90362651184,90362651152,2,328274,168092754,86063236690,46334267662896,46334267662864,90496878672,223636672080,223636934736],[(0,0),(32,21545),(0,0),(32,11031078),(32,21574)]⟩,
 ⟨3,3,[0,328272,1,168337969,168337937,2,328274,172278353,172541009,154779296305,154779296273,302565457,223636672080,223636934736],[]⟩]
noncomputable def aG7:List pT:=[⟨0,0,[43100152300080,84179977264,84045750816,43100148097569,84179969057,163889680,163889681,84045750802,164152338,43100148097555,43100143895059,164152339,84179969044,164414996,0,1,2,3,4,629,630,5,6,163889719,163889687,7,632,8,84045759033,84045750825,163889689,84045750810,164152346,9,10,635,11,163889724,163889692,12,637,13],[]⟩,
 ⟨1,0,[45166304207424,45166304199216,88215175712,45166304199201,88215438369,336480,336481,306512994,599138,156934914627,156934914595,599139,440731236,861796,0,1,645,168084038,168084006,5,6,320101,320102,172294759,336487,7,8,320104,88215175753,88215175721,336489,306513002,599146,9,651,11,320107,172294764,336492,12,13,320109],[(0,0),(0,0),(37,20519),(38,10505764),(38,10522146),(0,0),(0,0),(0,0),(0,0),(0,0),(43,20519),(0,0),(0,0),(0,0)]⟩,
 ⟨1,1,[86193250880,86193242672,168084000,86193242657,168346657,0,1,642,2,168084035,168084003,3,644,4,656,657,645,168084038,168084006,5,6,320101,320102,647,7,663,8,320104,168084041,168084009,9,650,10,665,651,11,320107,652,12,668,13,320109],[]⟩,
 ⟨2,0,[47369367110224,47369367110192,180700256,161237771873,314918497,344672,310715490,607330,310707810,92652512867,180962915,607331,869988,444926052,172278357,172278325,5,180691558,352870,328293,6,2,320102,344679,176489575,7,168346151,168346119,92518294633,180700265,344681,607338,310707818,667,11,328299,10,344684,176489580,12,168346156,168346124],[(37,10768421),(34,11031080),(0,0),(38,5782147111),(38,11309127),(0,0),(0,0),(0,0),(39,43),(43,21032),(0,0),(0,0),(0,0),(44,43)]⟩,
 ⟨2,1,[90366853712,90366853680,344672,310715489,607329,0,658,2,328290,176497251,344675,3,4,328292,172278357,172278325,5,176497254,344678,328293,6,1202,320102,7,328295,695,92510143015,92510142983,176497257,344681,9,10,328298,667,11,328299,1210,12,328300,700,92510143020,92510142988],[(0,0),(34,21032),(0,0),(0,0),(0,0),(0,0),(0,0),(0,0),(39,22058),(0,0),(0,0),(0,0),(0,0),(44,22058)]⟩,
 ⟨2,2,[172278352,172278320,0,657,1,672,658,2,328290,659,3,675,4,328292,172278357,172278325,5,662,6,328293,678,168092773,176480870,7,328295,8,168346152,168346120,665,9,681,10,328298,667,11,328299,168092779,12,328300,13,168346157,168346125],[]⟩,
 ⟨3,0,[48539749378144,94804174944,184902752,319120993,163389450337,314917986,615522,314910306,352865,185165411,94804191331,615523,161234338355,161234338323,92518278245,180675685,5,361062,184886374,328293,6,168092773,320102,172540470,172540438,172287078,3,320099,184902761,94669973097,352873,92514599481,92514599449,11,336491,9,320105,172803129,88474935833,88211243577,88474919433,45164290908681],[(34,11293737),(34,11293224),(37,10768423),(0,0),(0,0),(0,0),(0,0),(0,0),(38,22567),(0,0),(0,0),(0,0),(41,22087),(41,11556423)]⟩,
 ⟨3,1,[94669980768,184902752,352864,615521,314910305,674,2,336482,1,352867,180692067,3,172540467,172540435,184894053,361061,5,352870,180692070,328293,6,168092773,320102,172540470,172540438,172287078,1235,323281507,352873,180692073,9,172540473,172540441,11,336491,729,189063785,156930982457,156930982425,306767977,80350413111817,80350547591689],[(34,21545),(0,0),(0,0),(0,0),(35,44),(0,0),(0,0),(38,44),(38,22055),(0,0),(41,44),(0,0),(41,22567),(41,22087)]⟩,
 ⟨3,2,[180699744,352864,0,1,336481,674,2,336482,1217,3,336483,707,94661820979,94661820947,180699749,352869,5,6,336486,328293,710,168092773,184869478,94661820982,94661820950,94661567590,157068618342,157068880998,9,336489,713,94661820985,94661820953,11,336491,172295275,88214922859,48535442604601,48535442604569,94796048489,225788358249,225788620905],[(0,0),(0,0),(0,0),(0,0),(35,22571),(0,0),(0,0),(38,22571),(0,0),(0,0),(41,22571),(0,0),(41,11556391),(41,22599)]⟩,
 ⟨3,3,[672,0,688,1,336481,674,2,336482,172295266,3,336483,4,172540468,172540436,677,5,693,6,336486,180683365,7,92509889637,320103,172540471,172540439,172287079,315155556,315418212,9,336489,10,172540474,172540442,11,336491,180675178,180937834,156930982458,156930982426,306767978,225788358249,225788620905],[]⟩,
 ⟨4,0,[94804174944,48539749378656,184902752,48471030678080,48471030678048,615522,314918498,352864,180683872,92519056448,47369756639776,47369363178048,47369756623376,24253114081362448,180675685,92518278757,5,176734789,176734757,328293,176489573,168092773,90362406501,0,328288,2,168346146,168346114,177260096,90756907552,90363184192,46467402449424,23688235142365712,176997442,90622427682,46265950044706,46265950044674,46467394052608,23688235133968896,90363184128,46334937940992,90497926656],[(0,0),(0,0),(0,0),(0,0),(0,0),(0,0),(0,0),(0,0),(37,11554855),(34,10211578472),(34,5228328177703),(34,38984),(32,19976263),(32,28364871)]⟩,
 ⟨4,1,[184902752,94669981280,352864,92518793792,92518793760,2,344674,0,328288,176997440,90622427680,90362921536,90622411280,46265950028304,361061,184894565,5,176734789,176734757,328293,176489573,168092773,90362406501,736,193266272,1250,167684671072,85854551074912,98961507904,50668291785248,50667898061888,81450456334848,81519310029312,167680721986,327730240,167672333376,85847970989120,81452076680192,81452211160064,50667898061824,25942032795321344,50668032804352],[(0,0),(0,0),(0,0),(32,22088),(32,11556424),(0,0),(0,0),(37,22568),(37,11292711),(32,12097128),(32,19714087),(34,20485704),(32,19714119),(32,6202118215)]⟩,
 ⟨4,2,[352864,180700256,0,176734784,176734752,2,344674,720,189071968,159082660416,159082660384,310970464,81452076417552,81452210897424,352869,180700261,5,176734789,176734757,328293,176489573,168092773,90362406501,90367115797,46267704066581,46267703289957,46267838546437,23689132804456965,81789347709461,81789213753877,41702702371324437,116636583248384,116636717728256,81450456351237,81450456334853,81519310029317,159217402885,59753114196296192,59753182916035072,41703463394223109,21352208579657212933,41703532382135813],[(0,0),(32,44),(0,0),(32,22568),(32,22088),(0,0),(37,44),(37,22056),(0,0),(37,14506545697),(32,11571239),(37,5228328144935),(32,11571271),(37,2676904010223137)]⟩,
 ⟨4,3,[0,344672,704,94666015296,94666015264,2,344674,176497762,90366608994,48537594282560,48537594282528,94800250976,227940044384,227940307040,5,344677,709,94666015301,94666015269,184877669,94665770085,94657373285,48468874028645,48468878222946,24816065653827682,319349858,232230807648,232231070304,42865646385022016,42865646916370944,42865715104498240,24886434533786112,24886434668265984,83653377180738,60844860656370240,60844929376109120,60844929510588992,12741889664871612928,12741889733591351808,21947212118978773504,21947212187564295168,21947212187698775040],[(0,0),(32,22571),(0,0),(32,11556392),(32,22600),(0,0),(37,22571),(0,0),(0,0),(32,10220228647),(32,10211856423),(34,19961415),(32,14506823751),(32,14506823783)]⟩,
 ⟨4,4,[0,344672,1,176734785,176734753,2,344674,180683361,180946017,159082660417,159082660385,310970465,227940044384,227940307040,5,344677,6,176734790,176734758,328294,176489574,168092774,90362406502,159220304485,159220567141,46267703289958,46267838546438,23689132804456966,116635096876069,227802924581,227937141797,116636583248385,116636717728257,81450456351238,81450456334854,81519310029318,159217402886,59753114196296193,59753182916035073,116705303249925,59753184251626501,116705437992453],[]⟩]
noncomputable def un (j k:Nat):Int:=cond (Nat.beq j k) 1 0
noncomputable def sv (l:List Nat) (k:Nat):Int:=((l[k]?.getD 0:Nat):Int)
noncomputable abbrev Vf:=Nat→Int
noncomputable def gwH (m i g:Nat):List Vf:=
 ((Aa m).map fun j k=>un j k - un m k)++[un m]++((Aa i).map fun j k=>un j k - un (j+2) k - un m k)++
 (if i+2<m then [fun k=>un (i+2) k - un i k] else [])++((Aa (i - g)).map fun d k=>un i k+un (i+1) k - un (g+d) k - un m k)++
 (if 0<g then [fun k=>un (g - 1) k - un i k - un (i+1) k] else [])
noncomputable def gwU (i g k c:Nat):Int:=if k<g then un k c else if k=g then un i c+un (i+1) c else un (if k - 1<i then k - 1 else k+1) c
noncomputable def pK (i g:Nat) (T:List Nat) (c:Nat):Int:=((Aa T.length).map fun k=>sv T k*gwU i g k c).sum
noncomputable def jU (i g:Nat) (l:List Nat):List Nat:=((l.take g++l.drop (g+1)).take i)++[l[g]?.getD 0+1,l[g]?.getD 0+1]++((l.take g++l.drop (g+1)).drop i)
noncomputable def kL (H:List Vf):Nat→Nat→Vf
 | 0,_=>fun _=>0
 | f+1,n=>if n=0 then fun _=>0 else fun k=>((n / 32 % 16:Nat):Int)*((H[n % 32]?).getD fun _=>0) k+kL H f (n / 512) k
noncomputable def eqV (n:Nat) (a b:Vf):Bool:=(Aa n).all fun k=>a k==b k
noncomputable def wX (m:Nat) (c:pT):Bool:=
 let H:=gwH m c.i c.g
 let S:=nC (m - 1)
 ((nC m).zip c.a).all (fun p=>match S[p.2 % 16]? with
  | some T'=>eqV (m+1) (fun k=>sv p.1 k - un c.i k - un (c.i+1) k - pK c.i c.g T' k) (kL H 9 (p.2 / 16))
  | none=>false)&&(c.a.length==(nC m).length)&&
 (Aa S.length).all fun q=>match S[q]? with
  | none=>false
  | some l=>eqV (m+1) (sv (jU c.i c.g l)) (fun k=>pK c.i c.g l k+un c.i k+un (c.i+1) k)&&((nC m).contains (jU c.i c.g l) ||
   (eqV m (fun k=>kL (S.map fun T' k=>pK c.i c.g T' k - pK c.i c.g l k) 9 ((c.b[q]?.getD (0,0)).1) k+kL H 9 ((c.b[q]?.getD (0,0)).2) k) (fun _=>0)&&
    decide (kL (S.map fun T' k=>pK c.i c.g T' k - pK c.i c.g l k) 9 ((c.b[q]?.getD (0,0)).1) m+kL H 9 ((c.b[q]?.getD (0,0)).2) m<0)))
noncomputable def tA (m:Nat) (t:List pT):Bool:=t.all (wX m)
theorem gw2:tA 2 aG3=true:=by decide +kernel
theorem gw3:tA 3 aG4=true:=by decide +kernel
theorem gw4:tA 4 aG5=true:=by decide +kernel
theorem gw5:tA 5 aG6=true:=by decide +kernel
theorem gw6:tA 6 aG7=true:=by decide +kernel
noncomputable def bY (n:Nat) (v w:Vf):Int:=((Aa n).map fun k=>v k*w k).sum
section
variable {n:Nat} {a b w:Vf}
theorem cV {v:Vf}:bY (n+1) v w=bY n v w+v n*w n:=by
 unfold bY;rw [AT,Ax,BZ];simp
theorem gQ:∀ {n},bY n (fun k=>a k+b k) w=bY n a w+bY n b w
 | 0=>rfl
 | n+1=>by rw [cV,cV,cV,gQ,Jt];exact aD4 13 12
theorem eN:∀ {n},bY n (fun k=>a k - b k) w=bY n a w - bY n b w
 | 0=>rfl
 | n+1=>by rw [cV,cV,cV,eN,Int.sub_mul];exact aD4 13 13
theorem uK {c:Int}:∀ {n},bY n (fun k=>c*a k) w=c*bY n a w
 | 0=>by show (0:Int)=c*0;exact cO 13 14
 | n+1=>by rw [cV,cV,uK,CS,FF]
theorem iR:∀ {n},bY n (fun _=>0) w=0
 | 0=>rfl
 | n+1=>by rw [cV,iR];exact cO 13 15
theorem lJ (h:∀ k<n,a k=b k):bY n a w=bY n b w:=by
 unfold bY;congr 1;exact Av fun k hk=>by rw [h k (fN hk)]
theorem qG {w':Vf} (h:∀ k<n,w k=w' k):bY n a w=bY n a w':=by
 unfold bY;congr 1;exact Av fun k hk=>by rw [h k (fN hk)]
theorem aFh {j:Nat}:un j j=1:=by unfold un;rw [Nat.beq_refl];rfl
theorem aFL {j k:Nat} (h:j≠k):un j k=0:=by
 unfold un;cases e:Nat.beq j k with
 | false=>rfl
 | true=>exact absurd (Nat.eq_of_beq_eq_true e) h
theorem aAu {j:Nat}:∀ {n},n≤j→bY n (un j) w=0
 | 0,_=>rfl
 | n+1,h=>by rw [cV,aAu (by lia),aFL (by exact (Bi (N2 1 14 h)).symm)];exact cO 13 15
theorem dN {j:Nat}:∀ {n},j<n→bY n (un j) w=w j
 | 0,h=>absurd h (Ee _)
 | n+1,h=>by
  rw [cV]
  by_cases e:j=n
  ·subst e;rw [aAu (Am _),aFh];exact cO 13 16
  ·rw [dN (by exact (Cj e).elim (fun z2=>N2 24 3 z2) fun z2=>N2 24 4 h z2),aFL e];exact gK 13 17
theorem aAt {u:Nat→Vf} {c:Nat→Int}:∀ {L},bY n (fun k=>((Aa L).map fun j=>c j*u j k).sum) w=((Aa L).map fun j=>c j*bY n (u j) w).sum
 | 0=>iR
 | L+1=>by
  have e:(fun k=>((Aa (L+1)).map fun j=>c j*u j k).sum)=fun k=>((Aa L).map fun j=>c j*u j k).sum+c L*u L k:=by
   funext k;rw [AT,Ax,BZ];simp
  rw [e,gQ,aAt,uK,AT,Ax,BZ];simp
theorem iH {H:List Vf} (hH:∀ h∈H,0≤bY n h w):∀ f c,0≤bY n (kL H f c) w
 | 0,_=>by unfold kL;rw [iR];exact BV _
 | f+1,c=>by
  unfold kL
  by_cases q:c=0
  ·rw [if_pos q,iR];exact BV _
  ·rw [if_neg q,gQ,uK]
   have h1:0≤bY n ((H[c % 32]?).getD fun _=>0) w:=by
    cases e:H[c % 32]? with
    | none=>rw [Dt,iR];exact BV _
    | some h=>exact hH h (AB e)
   exact Ep (Iq (by lia) h1) (iH hH f _)
theorem uL (h:eqV n a b=true):bY n a w=bY n b w:=
 lJ fun k hk=>beq_iff_eq.mp (A8.mp h k (Bb.mpr hk))
end
structure GwW (m i g:Nat) (w:Vf):Prop where
 hi:i+1<m
 hg:g≤i
 pos:∀ j<m,1≤w j
 one:w m=1
 dn:∀ j<i,w (j+2)<w j
 up:i+2<m→w i≤w (i+2)
 mid:∀ j,g≤j→j<i→w j<w i+w (i+1)
 top:0<g→w i+w (i+1)≤w (g - 1)
theorem zC {m i g w} (G:GwW m i g w):∀ h∈gwH m i g,0≤bY (m+1) h w:=by
 obtain ⟨hi,hg,pos,one,dn,up,mid,top⟩:=G;intro h q;unfold gwH at q;refine gJ q (fun q=>?_) fun q=>?_
 ·refine gJ q (fun q=>?_) fun q=>?_
  ·refine gJ q (fun q=>?_) fun q=>?_
   ·refine gJ q (fun q=>?_) fun q=>?_
    ·refine gJ q (fun q=>?_) fun q=>?_
     ·refine cX q ?_;rintro j hj rfl
      have hj:=fN hj;rw [eN,dN (by lia),dN (by exact N1 7 22),one];have:=pos j hj;exact cO 13 18 this
     ·rw [bH q,dN (by exact N1 7 22),one];decide
    ·refine cX q ?_;rintro j hj rfl
     have hj:=fN hj;rw [eN,eN,dN (by exact N3 13 19 hi hj),dN (by exact N3 13 20 hi hj),dN (by exact N1 7 22),one];have:=dn j hj;exact gK 13 21 this
   ·split at q
    ·rw [bH q,eN,dN (by lia),dN (by exact N2 13 22 hi)]
     have:=up (by assumption);exact gK 14 0 this
    ·cases q
  ·refine cX q ?_;rintro d hd rfl
   have hd:=fN hd;rw [eN,eN,gQ,dN (by exact N2 13 22 hi),dN (by lia),dN (by exact N5 14 1 hi hd (cY (N2 1 10 hg))),dN (by exact N1 7 22),one];have:=mid (g+d) (by lia) (by exact N4 14 2 hd (cY (N2 1 10 hg)));exact aB7 14 3 this
 ·split at q
  ·rw [bH q,eN,eN,dN (by exact N4 14 4 hi hg (AD _ _)),dN (by exact N2 13 22 hi),dN (by lia)]
   have:=top (by assumption);exact aB7 14 5 this
  ·cases q
theorem aC3 {m:Nat} {c:pT} {w:Vf} (chk:wX m c=true) (G:GwW m c.i c.g w) {l:List Nat} (hl:l∈nC (m - 1)) (ho:∀ T∈nC (m - 1),bY (m+1) (pK c.i c.g l) w≤bY (m+1) (pK c.i c.g T) w) :
  jU c.i c.g l∈nC m∧∀ T∈nC m,bY (m+1) (sv (jU c.i c.g l)) w≤bY (m+1) (sv T) w:=by
 unfold wX at chk;dsimp only at chk;rw [AJ,AJ] at chk;refine bM chk ?_;clear chk;rintro ⟨c1,c2⟩ c3;have nn:=zC G;refine ob11 (BX.mp hl) ?_;rintro q ⟨hq,rfl⟩;have c3:=A8.mp c3 q (Bb.mpr hq);rw [Ah hq] at c3;dsimp only at c3;rw [AJ,CJ] at c3;refine bM c3 fun e1 c4=>?_;clear c3;have e1:=uL (w:=w) e1;rw [gQ,gQ] at e1;refine ⟨?_,fun T hT=>?_⟩
 ·refine BH c4 ?_ ?_ <;> clear c4 <;> intro c4
  ·exact Cy.mp c4
  ·exfalso
   rw [AJ] at c4;refine bM c4 fun z neg=>?_;clear c4;have z:=uL (w:=w) z;have neg:=of_decide_eq_true neg;rw [iR] at z;have tot:0≤bY (m+1) (fun k=>kL ((nC (m - 1)).map fun T' k=>pK c.i c.g T' k - pK c.i c.g ((nC (m - 1))[q]) k) 9 ((c.b[q]?.getD (0,0)).1) k+kL (gwH m c.i c.g) 9 ((c.b[q]?.getD (0,0)).2) k) w:=by
    rw [gQ];refine Ep (iH (fun h hh=>?_) _ _) (iH nn _ _);refine cX hh ?_;rintro T' hT' rfl;rw [eN];have:=ho T' hT';exact gK 14 0 this
   rw [cV,z,G.one] at tot;exact yI 14 6 neg tot hq
 ·refine ob11 (BX.mp hT) ?_;rintro t ⟨ht,rfl⟩
  have c2:=beq_iff_eq.mp c2;have hz:((nC m)[t],c.a[t]'(by lia))∈(nC m).zip c.a:=by
   rw [BX];exact ⟨t,by rw [H7];exact N3 14 7 ht (tG (N2 24 6 c2)),by rw [List.getElem_zip]⟩
  have c1:=A8.mp c1 _ hz;dsimp only at c1;split at c1
  ·rename_i T' hT'
   have c1:=uL (w:=w) c1;have c5:=iH nn 9 (c.a[t]'(by lia) / 16);have c6:=ho T' (AB hT');rw [← c1,eN,eN,eN] at c5;exact aGP 24 7 e1 c5 c6
  ·cases c1
theorem aFX {m i g:Nat} (hm:m≤6) (hi:i+1<m) (hg:g≤i):∃ c:pT,c.i=i∧c.g=g∧wX m c=true:=by
 have pick:∀ {t:List pT},tA m t=true→(t.any fun c=>c.i==i&&c.g==g)=true→∃ c:pT,c.i=i∧c.g=g∧wX m c=true:=fun h1 h2=>by
  refine ob12 (Dp.mp h2) fun c hc e=>?_;rw [AJ] at e;exact ⟨c,beq_iff_eq.mp e.1,beq_iff_eq.mp e.2,A8.mp h1 c hc⟩
 have t2:∀ i<1,∀ g<i+1,(aG3.any fun c=>c.i==i&&c.g==g)=true:=by decide
 have t3:∀ i<2,∀ g<i+1,(aG4.any fun c=>c.i==i&&c.g==g)=true:=by decide
 have t4:∀ i<3,∀ g<i+1,(aG5.any fun c=>c.i==i&&c.g==g)=true:=by decide
 have t5:∀ i<4,∀ g<i+1,(aG6.any fun c=>c.i==i&&c.g==g)=true:=by decide
 have t6:∀ i<5,∀ g<i+1,(aG7.any fun c=>c.i==i&&c.g==g)=true:=by decide
 obtain rfl | rfl | rfl | rfl | rfl:m=2∨m=3∨m=4∨m=5∨m=6:=by lia
 ·exact pick gw2 (t2 i (by exact N1 14 8 hi) g (by lia))
 ·exact pick gw3 (t3 i (by exact N1 14 9 hi) g (by lia))
 ·exact pick gw4 (t4 i (by exact N1 14 10 hi) g (by lia))
 ·exact pick gw5 (t5 i (by exact N1 14 11 hi) g (by lia))
 ·exact pick gw6 (t6 i (by exact N1 14 12 hi) g (by lia))
local macro_rules | `(tactic| kct_strs) => `(tactic| first | assumption | decide | lia | (simp; done) | (simp; lia))
local macro_rules | `(tactic| tb_rel) => pt ":q|:a"
local macro_rules | `(tactic| tb_start) => `(tactic| (rw [BN, Bc]; kernel_rfl))
local macro_rules | `(tactic| lsm_bools) => `(tactic| first | (with_unfolding_all rfl) | (intro _; with_unfolding_all rfl))
local macro_rules | `(tactic| cell_call) => `(tactic| first | $(pq "" "Nat.le_of_ble_eq_true Q|frM K|Kp.builtin|Kp.type|Cl.len_list S|Cl.len_str S|Cl.abs|Cl.range1|Cl.range2|Cl.isi_int|Tt.int|Tt.bool|cls45|cls147|St.wd A"):tactic | (simp; done) | decide)
local macro_rules | `(tactic| kcj_in) => pt "Bo.add|Bo.sub|Bo.lt|Bo.gt|Bo.le|Bo.ge|Bo.eqi|Bo.nei|Bo.eqs|Bo.iadd|Bo.isub|Bo.band|Bo.ior|Bo.ixor|Bo.sub_bb|Bo.mul_ib|Bo.is_bb|Bo.is_ib|Bo.isNot_ib|Bo.fmod S|Bo.in_idict|Bo.item_list3 STS|Bo.item_tup3 STS|Bo.mul"
local macro_rules | `(tactic| lcg_off) => pt "nmS at|nmC at|nmR aatqqq|nmD aaqq|nmG aqq|nmB anbq|nmH aqq|nmI anbq"
local macro_rules | `(tactic| kcj_m) => pt "Es.nil|Es.cons rmQ"
local macro_rules | `(tactic| ktr_rel) => pt "Ev.int|Ev.str|Ev.bool|Ev.none|:o|Ev.bin rri|Ev.cmp rriU|Ev.neg r|Ev.sub rri|Ev.attr rnnqqqqxu|Ev.call rnmnQ|Ev.tup mn|Ev.list mn"
local macro_rules | `(tactic| kcf_m) => pt "Tr.cmp rriU|Tr.not f|Tr.val rnU"
section
theorem aCz {n a b} (hA:dF (n+1) A) (W:Wd w (T1 w.params) (hx X h)):Cl w X A h (.ref 70) [] [.sdict [("f",.int a),("g",.int b)]] (.int (a+b)):=by
 refine Cl.def_ wO hA W rfl fun s L s1 hA' S Q0 k0=>?_;refine aO S Ev.int fun s2 S2 c2=>?_;refine fT hA' S2 (fX.of (Ev.meth (nmS S2 rfl) Mt.sdict_values Kp.builtin Es.nil Cl.sdict_values) (iQ.vview hA')) (by intro q;cases q)
  (fun i l mu=>l "nc"=some (.int (match i with | 0=>0 | 1=>a | _=>a+b))) rfl ?_ ?_
 ·intro i d X1 s3 l3 mu3 hd hI hmu hX hle S3
  refine ⟨_,.name (.inl rfl),fun s4 S4 Q1 kq=>?_⟩;cases i with
  | zero=>
   cases hd;refine iM S4 (d0:=.int 0) (by exact hI) (by ktr_rel) (by kcj_in) fun s5 S5 c5=>aG (kq ⟨_,_,?_,S5,rfl⟩);show some _=some _;simp
  | succ i=>
   cases i with
   | succ i=>cases hd
   | zero=>
   cases hd;exact iM S4 (d0:=.int a) (by exact hI) (by ktr_rel) (by kcj_in) fun s5 S5 c5=>aG (kq ⟨_,_,rfl,S5,rfl⟩)
 ·intro s3 l3 mu3 hI hmu S3
  refine aG (dJ S3 (nmS S3 hI) fun v s4 r S4 k4=>k0 r S4.base)
noncomputable def gA (L R:Int→Int):List (Int×Int)→Int
 | []=>0
 | (i,d)::r=>if L i<R i then -d else if R i<L i then d else gA L R r
theorem gV {L R:Int→Int} {i d:Int} {r:List (Int×Int)}:gA L R ((i,d)::r)=if L i<R i then -d else if R i<L i then d else gA L R r:=rfl
noncomputable def sJ (sel:List (Int×Int)):D:=.obj 45 [("comp_select_list",.list (sel.map fun p=>.tup [.int p.1,.int p.2]))]
theorem qB {n} {L R:Int→Int} {ls rs:List D} {sel:List (Int×Int)} (hA:dF (n+1) A) (W:Wd w (T1 w.params) (hx X h))
  (hs:∀ p∈sel,0≤p.1∧p.1<2 ^ 63∧ls[p.1.toNat]?=some (.int (L p.1))∧rs[p.1.toNat]?=some (.int (R p.1))) :
  Cl w X A h (.ref 42) [sJ sel] [.tup ls,.tup rs] (.int (gA L R sel)):=by
 refine Cl.meth_ eX hA W rfl fun s L0 s1 hA' S Q0 k0=>?_;refine fT hA' S (fX.of (by ktr_rel) (iQ.list hA')) (by intro q;cases q)
  (fun i l mu=>mu=[]∧l "left"=some (.tup ls)∧l "right"=some (.tup rs)∧gA L R sel=gA L R (sel.drop i)) ⟨rfl,rfl,rfl,rfl⟩ ?_ ?_
 ·intro i d X1 s3 l3 mu3 hd hI
  refine eG hI ?_;clear hI;rintro rfl hl1 hl2 hc;refine mpL hd fun c hj q=>?_;clear hd;subst q;obtain ⟨j,dir⟩:=c;intro hmu hX hle S3;refine eG (hs _ (AB hj)) fun h1 h2 h3 h4=>?_;have hdr:sel.drop i=(j,dir)::sel.drop (i+1):=by
   have hlt:=(Aw.mp hj).1;rw [Bv hlt,(Aw.mp hj).2]
  refine ⟨_,.tup (xs:=["index","direction"]) (.cons (.inl rfl) (.cons (.inl rfl) .nil)) rfl,fun s4 S4 Q1 kq=>?_⟩;refine aO S4 (by ktr_rel) fun s5 S5 c5=>aO S5 (by ktr_rel) fun s6 S6 c6=>?_;refine gB S6 (by kcf_m) (fun hb s7 S7 k7=>?_) fun hb s7 S7 k7=>?_
  ·refine dJ S7 (by ktr_rel) fun v s8 r8 S8 k8=>kq (Or.inr ⟨_,[],S8,rfl,fun S9=>k0 ?_ S9.base⟩)
   have e:gA L R sel = -dir:=by rw [hc,hdr];rw [gV,if_pos (of_decide_eq_true hb)]
   rw [e];exact r8.mono (bV hX)
  ·refine aG (gB S7 (by kcf_m) (fun hb2 s8 S8 k8=>?_) fun hb2 s8 S8 k8=>?_)
   ·refine dJ S8 (by ktr_rel) fun v s9 r9 S9 k9=>kq (Or.inr ⟨_,[],S9,rfl,fun S9=>k0 ?_ S9.base⟩)
    have e:gA L R sel=dir:=by rw [hc,hdr];rw [gV,if_neg (of_decide_eq_false hb),if_pos (of_decide_eq_true hb2)]
    rw [e];exact r9.mono (bV hX)
   ·refine aG (aG (kq ⟨_,[],?_,S8,rfl⟩))
    exact ⟨rfl,hl1,hl2,by rw [hc,hdr];rw [gV,if_neg (of_decide_eq_false hb),if_neg (of_decide_eq_false hb2)]⟩
 ·intro s3 l3 mu3 hI hmu S3
  refine eG hI ?_;clear hI;rintro - - - hc;refine aG (dJ S3 Ev.int fun v s4 r S4 k4=>k0 ?_ S4.base);rw [hc,Ac,HM];exact r
end
noncomputable def lL:List Str:=["OPTIMIZED","NEWLOCALS","VARARGS","VARKEYWORDS","NESTED","GENERATOR","NOFREE","COROUTINE","ITERABLE_COROUTINE","ASYNC_GENERATOR"]
noncomputable def aEk (k:Nat):Nat:=match k % 4 with | 0=>49 | 1=>50 | 2=>52 | _=>56
noncomputable def fR (k:Nat):Str:=if k<10 then (lL[k]?).getD "" else ("0x"++⟨#[aEk k]⟩)++Ik "0" ((k / 4:Nat):Int)
theorem aEl:∀ k:Fin 32,(seqIndex? ((k.val:Int).fmod 4) 4).bind (("1248":Str).cps[·]?)=some (aEk k.val):=by decide +kernel
theorem aF1 (k:Fin 32):MulOk "0" ((k.val / 4:Nat):Int):=by
 have h:k.val / 4<8:=by lia
 refine ⟨by simp;lia,fun h1 h2=>?_,fun h1 h2=>?_⟩
 ·have e:("0":Str).length=1:=rfl
  rw [e];have:(1:Int)≤(2 ^ 63 - 1) / ((k.val / 4:Nat):Int):=by rw [Int.le_ediv_iff_mul_le (by exact N1 3 12 h1)];exact N1 3 13 h
  exact cO 3 14 this
 ·have e:("0":Str).length=1:=rfl
  rw [e];show decide (_ > sizeLine)=false;have:(1000:Nat)≤sizeLine:=bD;simp;lia
theorem aH3:∀ k:Fin 32,((("0x":Str)++⟨#[aEk k.val]⟩):Str).length+(Ik "0" ((k.val / 4:Nat):Int)).length≤sizeLine:=by decide +kernel
theorem aG2:∀ k:Fin 32,(k.val:Int).fdiv 4=((k.val / 4:Nat):Int):=by decide +kernel
section
theorem aAn {n} {k:Nat} (hk:k<32) (hA:dF (n+1) A) (W:Wd w (T1 w.params) (hx X h)):Cl w X A h (.ref 185) [] [.int (k:Int)] (.str (fR k)):=by
 refine Cl.def_ uT hA W rfl fun s L s1 hA' S Q0 k0=>?_;refine aO S (by ktr_rel) fun s2 S2 c2=>?_;refine dJ S2 (Ev.ite (b:=decide (k<10)) ?t (fun hb=>?x) fun hb=>?y) fun v s4 r S4 k4=>k0 r S4.base
 case t=>
  have e:decide ((k:Int)<10)=decide (k<10):=by simp;lia
  rw [← e];kcf_m
 case x=>
  have hb':k<10:=of_decide_eq_true hb;have e:fR k=(lL[k]?).getD "":=if_pos hb';rw [e];refine Ev.sub (by ktr_rel) (by ktr_rel) (Bo.item_list ⟨by lia,?_⟩ (by exact N1 3 15 hk));show (lL.map D.str)[k]?=_;rw [Ar,Ah (show k<lL.length from hb')];rfl
 case y=>
  have hb':¬ k<10:=of_decide_eq_false hb;have e:fR k=("0x"++⟨#[aEk k]⟩)++Ik "0" ((k / 4:Nat):Int):=if_neg hb';rw [e];have d0:=aEl ⟨k,hk⟩;have d1:=aG2 ⟨k,hk⟩
  refine' Ev.bin ?a1 ?b1 (Bo.adds ?c1)
  case a1=>
   refine' Ev.bin ?a2 ?b2 (Bo.adds ?c2)
   case a2=>ktr_rel
   case b2=>
    refine' Ev.sub ?a3 ?b3 ?c3
    case a3=>ktr_rel
    case b3=>
     refine' Ev.bin ?a4 ?b4 ?c4
     case a4=>ktr_rel
     case b4=>ktr_rel
     case c4=>exact Bo.fmod (by decide)
    case c3=>
     have:∀ j:Fin 32,(decide ((j.val:Int).fmod 4 < -(2 ^ 63:Int)) || decide ((j.val:Int).fmod 4≥2 ^ 63))=false:=by decide +kernel
     exact Bo.item_str (this ⟨k,hk⟩) d0
   case c2=>show 2+1≤sizeLine;decide
  case b1=>
   refine' Ev.bin ?a2 ?b2 ?c2
   case a2=>ktr_rel
   case b2=>
    refine' Ev.bin ?a3 ?b3 ?c3
    case a3=>ktr_rel
    case b3=>ktr_rel
    case c3=>exact Bo.fdiv (by decide) (A5 (by decide))
   case c2=>
    rw [d1];exact Bo.mul_si (aF1 ⟨k,hk⟩)
  case c1=>exact aH3 ⟨k,hk⟩
noncomputable def eE (left base:Nat):List Str:=((Aa 5).filter fun bit=>left / 2 ^ bit % 2==1).map fun bit=>fR (base+bit)
end
section
noncomputable def mU (a b:Int):Int:=b2i (decide (b<a)) - b2i (decide (a<b))
theorem aBe {n a ds} {t way lf rt:Int} {vs:List Ag} (hA:dF (n+1) A) (hX:XL X s.heap) (W:Wd w (T1 w.params) (hx X s.heap)) (ha:a∈X) (hm:cN w X s.heap a (.list ds)) (hl:ds.length≤90000)
  (r:cG w (hx X s.heap) vs [.int t,.int way,.int lf,.int rt,.val (.ref a)]) (h1:GC way (mU lf rt)) (h2:GC t way) :
  Au (AI prog w) A (call (.ref 163) vs []) (fun v s'=>Rp w (hx X s'.heap) v (.int (t*way))∧Ch [a] s s'∧cN w X s'.heap a (.list (ds++[.bool (t==way*mU lf rt)]))) (fun _ _=>False) s:=by
 refine fZ (F:=[a]) (mu:=[(a,.list ds)]) aAF hA hX W r rfl (fun y m=>by rw [bH m];exact ha) (fun p m=>by rw [bH m];exact ⟨.head _,hm⟩) (AS _ _) fun L s1 hA' S k1 Q0 k0=>?_;refine eO (pre:=[]) (post:=[]) S rfl (d:=.bool (t==way*mU lf rt)) ?e (by exact N1 3 16 hl) fun s2 S2=>?_
 case e=>
  have e:(.bool (t==way*mU lf rt):D)=.bool (true&&(true&&(true&&(t==way*mU lf rt)))):=by simp
  rw [e]
  refine' Ev.andC ?a1 (fun _=>Ev.andC ?a2 fun _=>Ev.andC ?a3 fun _=>Ev.and1 ?a4)
  case a1=>exact Ev.call (by ktr_rel) Kp.builtin (by kcj_m) Cl.isi_int
  case a2=>ktr_rel
  case a3=>ktr_rel
  case a4=>
   refine' Ev.cmp ?b1 ?b2 Bo.eqi (by with_unfolding_all rfl)
   case b1=>ktr_rel
   case b2=>exact Ev.bin (by ktr_rel) (by ktr_rel) (Bo.mul h1)
 refine dJ S2 (Ev.bin (by ktr_rel) (by ktr_rel) (Bo.mul h2)) fun v s3 r3 S3 k3=>?_;exact k0 ⟨r3.mono (bV fun y m=>Ad _ m),S3.base,(S3.muAt (.head _)).mono (bV fun y m=>Ad _ m) fun o e=>e⟩
noncomputable def pI (hit:Int) (od:Bool) (k:Nat):D:=if od then .tup [.int 1,.int hit,.int (-(k:Int))] else .int 1
noncomputable def lH (od:Bool):D:=if od then .tup [.int 0,.int 0,.int 0] else .int 0
noncomputable def gG (hits:List Int) (odd:Nat→Bool):List (Int×D):=(Aa hits.length).map fun (k:Nat)=>((k:Int),pI (hits[k]?.getD 0) (odd k) k)
noncomputable def iJ (hits:List Int) (odd:Nat→Bool):List D:=(Aa hits.length).map fun (k:Nat)=>.tup [.int 1,.int (hits[k]?.getD 0),.int 0,.int 0,.idict [((k:Int),lH (odd k))]]
theorem aGm (m:Nat):rH 0 1 (AM 0 (m:Int) 1).toNat=(Aa m).map fun (k:Nat)=>D.int (k:Int):=by
 have:(AM 0 (m:Int) 1).toNat=m:=by
  unfold AM;simp;lia
 rw [this];unfold rH;simp
theorem St.ecf {fd a L} (S:St w T s₀ F X (aI fd a L) s l mu):EC w T X (aI fd a L) s.heap:=
 ⟨S.gb,S.wd,fun p m=>S.live.1 _ (S.mem _ (.tail _ (AY.mpr ⟨p,Bf.mpr ⟨m,decide_eq_true (by
  refine BH (eM _ _ _ p m) (fun q=>?_) fun q=>?_
  ·cases q
  ·exact q)⟩,rfl⟩)))⟩
noncomputable def aU:D→Nat
 | .int k=>k.toNat
 | _=>0
theorem aDP {m:Nat} (h:m≤1000):GR 0 (m:Int) 1=true:=Jb (by decide) (by decide) (by exact N1 3 17) (by exact N1 3 18 h)
theorem aY {e:AO} {m:Nat} {n} (hA:dF n A) (he:Ev w X A env h e (.rng 0 (m:Int) 1)) (hm:m≤1000):fX w X A false env h e ((Aa m).map fun (k:Nat)=>D.int (k:Int)):=by
 have:=fX.of he (iQ.rng hA (aDP hm))
 rwa [aGm] at this
theorem aAo {n} {hits:List Int} {odd:Nat→Bool} (hA:dF (n+1) A) (W:Wd w (T1 w.params) (hx X h)) (hl:hits.length≤6) :
  Cl w X A h (.ref 168) [] [.list (hits.map .int),.list ((Aa hits.length).map fun k=>.int (if odd k then 1 else 0))] (.tup [.idict (gG hits odd),.list (iJ hits odd)]):=by
 refine Cl.def_ uV hA W rfl fun s L s1 hA' S Q0 k0=>?_;have hodd:∀ k,k<hits.length→((Aa hits.length).map fun k=>D.int (if odd k then 1 else 0))[k]?=some (.int (if odd k then 1 else 0)):=fun k hk=>by
  rw [Ar,B7 hk];rfl
 have hhit:∀ k,k<hits.length→(hits.map D.int)[k]?=some (.int (hits[k]?.getD 0)):=fun k hk=>by
  rw [Ar,Ah hk];rfl
 have ctst:∀ (b:Bool),(((if b then 1 else 0:Int)) != 0)=b:=by decide
 refine eC (d:=.idict (gG hits odd)) S ?c (fun s2 S2=>?_) (.inl rfl) rfl (fun _=>rfl)
 case c=>
  have e:gG hits odd=((Aa hits.length).map fun (k:Nat)=>D.int (k:Int)).map fun d=>(((aU d:Nat):Int),pI (hits[aU d]?.getD 0) (odd (aU d)) (aU d)):=by
   unfold gG;rw [An];apply Av;intro k _;rfl
  rw [e];refine Cq.dcomp (asg:=fun d l=>up l "place" d) (kf:=fun d=>((aU d:Nat):Int)) (vf:=fun d=>pI (hits[aU d]?.getD 0) (odd (aU d)) (aU d)) hA' S.ecf gN.dict (aY (m:=hits.length) hA' ?e1 (by exact N1 3 19 hl)) ?e2 ?e3 ?e4 ?e5 ?e6
  case e1=>
   have:(hits.length:Int)=((hits.map D.int).length:Int):=by simp
   rw [this]
   refine' Ev.call ?a1 ?b1 ?c1 ?d1 (by rfl)
   case a1=>ktr_rel
   case b1=>exact Kp.type
   case c1=>
    refine' Es.cons ?a2 ?b2 (by rfl)
    case a2=>
     refine' Ev.call ?a3 ?b3 ?c3 ?d3 (by rfl)
     case a3=>ktr_rel
     case b3=>exact Kp.builtin
     case c3=>kcj_m
     case d3=>exact Cl.len_list (by simp only [Ac];exact N1 3 20 hl)
    case b2=>exact Es.nil
   case d1=>exact Cl.range1
  case e2=>simp;exact N1 3 19 hl
  case e3=>
   rw [An];refine Eu _ (fun a b hab=>?_) EM;intro q;apply hab;have:((a:Nat):Int)=((b:Nat):Int):=by simpa [aU] using q
   exact N2 1 16 this
  case e4=>intro C d l _;exact .name (.inl rfl)
  case e5=>
   intro C Xc h' d l m ce;refine cX m ?_;rintro k hk rfl;exact nmC ce rfl
  case e6=>
   intro C Xc h' d l m ce;refine cX m ?_;rintro k hk rfl;have hk':=fN hk;show Ev w Xc _ _ h' _ (pI (hits[k]?.getD 0) (odd k) k);refine Ev.ite (b:=odd k) ?t (fun hb=>?x) fun hb=>?y
   case t=>
    have:=ctst (odd k);refine this▸Tr.val (Ev.sub (by ktr_rel) (by ktr_rel) (Bo.item_list ⟨by lia,?_⟩ (by exact N2 3 21 hl hk'))) Tt.int (by intro _;rfl);exact hodd k hk'
   case x=>
    unfold pI;rw [if_pos hb]
    refine' Ev.tup (Es.cons ?a1 (Es.cons ?a2 (Es.cons ?a3 .nil (by rfl)) (by rfl)) (by rfl)) (by krn_off)
    case a1=>ktr_rel
    case a2=>exact Ev.sub (by ktr_rel) (by ktr_rel) (Bo.item_list ⟨by lia,hhit k hk'⟩ (by exact N2 3 21 hl hk'))
    case a3=>ktr_rel
   case y=>
    unfold pI;rw [if_neg (by rw [hb];decide)];ktr_rel
 have hones:∀ (y:Str) d,bQ (fun _=>none) ["hits","odd"] [D.list (hits.map .int),D.list ((Aa hits.length).map fun k=>.int (if odd k then 1 else 0))] y=some d→up (bQ (fun _=>none) ["hits","odd"] [D.list (hits.map .int),D.list ((Aa hits.length).map fun k=>.int (if odd k then 1 else 0))]) "ones" (.idict (gG hits odd)) y=some d∨y="ones":=fun y d e=>by
  by_cases q:y="ones"
  ·exact .inr q
  ·exact .inl ((aA q).trans e)
 refine dJ S2 (Ev.tup (Es.cons ?a1 (Es.cons ?a2 .nil (by rfl)) (by rfl)) (by krn_off)) fun v s4 r S4 k4=>k0 r S4.base
 case a1=>ktr_rel
 case a2=>
  have e:iJ hits odd=((((Aa hits.length).map fun (k:Nat)=>D.int (k:Int)).filter fun _=>true).map fun d=>.tup [.int 1,.int (hits[aU d]?.getD 0),.int 0,.int 0,.idict [(((aU d:Nat):Int),lH (odd (aU d)))]]):=by
   unfold iJ;rw [Az.mpr (fun _ _=>rfl),An];apply Av;intro k _;rfl
  rw [e];refine Ev.ofCq (Cq.lc (asg:=fun d l=>up l "place" d) hA' S2.ecf (aY (m:=hits.length) hA' ?e1 (by exact N1 3 19 hl)) ?e2 ?e4 ?e5 ?e6) rfl
  case e1=>
   have:(hits.length:Int)=((hits.map D.int).length:Int):=by simp
   rw [this];ktr_rel
  case e2=>simp;exact N1 3 19 hl
  case e4=>intro C d l _;exact .name (.inl rfl)
  case e5=>intro C Xc h' d l _ ce;exact Ts.nil
  case e6=>
   intro C Xc h' d l m _ ce;refine cX m ?_;rintro k hk rfl;have hk':=fN hk;show Ev w Xc _ _ h' _ (.tup [.int 1,.int (hits[k]?.getD 0),.int 0,.int 0,.idict [((k:Int),lH (odd k))]])
   refine' Ev.tup (Es.cons ?b1 (Es.cons ?b2 (Es.cons ?b3 (Es.cons ?b4 (Es.cons ?b5 .nil (by rfl)) (by rfl)) (by rfl)) (by rfl)) (by rfl)) (by krn_off)
   case b1=>ktr_rel
   case b2=>exact Ev.sub (by ktr_rel) (by ktr_rel) (Bo.item_list ⟨by lia,hhit k hk'⟩ (by exact N2 3 21 hl hk'))
   case b3=>ktr_rel
   case b4=>ktr_rel
   case b5=>
    refine Ev.dictI (fun a ha=>.cons ?c1 ?c2 .nil) (by krn_off) (by krn_off) (by krn_off)
    case c1=>
     have ce:=ce.hide ha;ktr_rel
    case c2=>
     have ce:=ce.hide ha;refine Ev.ite (b:=odd k) ?t (fun hb=>?x) fun hb=>?y
     case t=>
      have:=ctst (odd k);refine this▸Tr.val (Ev.sub (by ktr_rel) (by ktr_rel) (Bo.item_list ⟨by lia,?_⟩ (by exact N2 3 21 hl hk'))) Tt.int (by intro _;rfl);exact hodd k hk'
     case x=>
      unfold lH;rw [if_pos hb];ktr_rel
     case y=>
      unfold lH;rw [if_neg (by rw [hb];decide)];ktr_rel
end
section
theorem aDj {h0 h1:Heap} {x dx C:Addr} (Mk:Heap.MadeObj h0 h1 x dx C):kJ h1 x dx C (fun _=>none):=by
 refine ob14 Mk.inst fun ox hx hcx hncx hdx=>?_;have hdd:=Mk.dict ox hx;rcases hdx with ⟨hn0,_⟩ | ⟨d',hd',hne',hns'⟩
 ·rw [hn0] at hdd;cases hdd
 ·obtain rfl:=BC (hd'.symm.trans hdd)
  exact ⟨⟨ox,hx,hcx,hdd,hncx⟩,hns',hne'⟩
theorem aAp {n d} (hA:dF (n+2) A) (W:Wd w (T1 w.params) (hx X h)):Cl w X A h (.ref 45) [] [d] (.obj 45 [("comp_select_list",d)]):=.mk fun s fs vs hX k rf rv=>by
 cases rf;refine ob12 rv.c1 ?_;rintro _ rfl a;rename_i v;have W':=W.mono (aL k);have Wl:=W'.mono aR;have K:=Wl.cls _ cls45;refine kY K.obj fun nm q bs sn sub col dd k0 k1 k2 k3 k5 hC=>?_;obtain ⟨⟨o,ho,hc,hd⟩,_⟩:=Wl.fns _ (wS (P:=w.params)).mem;obtain ⟨hh,g,dr,tk,os⟩:=s;refine G0 IF hC K.ns rfl ho hc fun h1 x dx Mk=>?_;have k1':A0 ⟨hh,g,dr,tk,os⟩ ⟨h1,g,dr,tk,os⟩:=⟨h1,tk,rfl,Mk.keeps⟩;have I0:=aDj Mk;have dxa:∃ o,h1.get? dx=some o:=let ⟨o,_,_,e,_⟩:=I0.ns;⟨o,e⟩;have hX':XL (x::dx::X) h1:=⟨fun y m=>by
  refine cK m (fun e=>?_) fun m=>?_
  ·rw [e];exact let ⟨o,e,_⟩:=I0.obj;⟨o,e⟩
  ·refine cK m (fun e=>?_) fun m=>?_
   ·rw [e];exact dxa
   ·exact (hX.mono (aN k1')).1 y m,(hX.mono (aN k1')).2⟩
 have up:aZ (hx X hh) (hx (x::dx::X) h1):=aJ (fun b o _ e=>Mk.keeps _ _ e) fun y m=>by
  refine cK m (fun e=>?_) fun m=>?_
  ·exact .inr (e▸Mk.newX)
  ·refine cK m (fun e=>?_) fun m=>?_
   ·exact .inr (e▸Mk.newD)
   ·exact .inl m
 refine nV (s:=⟨h1,g,dr,tk,os⟩) (F:=[x,dx]) (mu:=[]) wS (yF hA) hX' (W'.mono up) (.cons (.val _) (.cons (a.mono up) .nil)) rfl (fun y m=>by
  refine cK m (fun e=>?_) fun m=>?_
  ·rw [e];exact .head _
  ·rw [bH m];exact .tail _ (.head _)) (fun _ m=>nomatch m) .nil fun L s1 hA' S k2 fr=>?_
 have notE:∀ y,(∃ o,h1.get? y=some o)→y∉Fp (aI uR 35 L):=fun y ⟨o,e⟩ m=>by rw [fr y m] at e;cases e
 refine fU (x:=x) (dx:=dx) S rfl (by ktr_rel) (I0.at (fun o e=>aN k2 _ _ e) (fun o e=>aN k2 _ _ e)) cls45 ⟨Ad _ (.head _),Ad _ (.tail _ (.head _))⟩ ⟨.head _,.tail _ (.head _)⟩
  ⟨notE x (let ⟨o,e,_⟩:=I0.obj;⟨o,e⟩),notE dx dxa⟩ (fun _ m=>nomatch m) (fun v s2 r S2 I2 _=>?_) Fg (by decide)
 refine aG ⟨rfl,?_,?_⟩
 ·have xX:x∉X:=fun m=>by refine ob11 (hX.1 x m) fun o e=>?_;rw [Mk.newX] at e;cases e
  have dX:dx∉X:=fun m=>by refine ob11 (hX.1 dx m) fun o e=>?_;rw [Mk.newD] at e;cases e
  have less:aZ (hx (Fp (aI uR 35 L)++x::dx::X) s2.heap) (hx X s2.heap):=bV fun y m=>Ad _ (.tail _ (.tail _ m));refine .obj (m:=fun y=>if y="comp_select_list" then some v else none) ?_ (fun n hn=>?_) (.cons (if_pos rfl) (r.mono less) .nil)
  ·refine ob14 I2.obj fun o ho hc hd hn=>?_
   refine ⟨o,bU ho xX,hc,hn,.inr ⟨dx,hd,I2.ne,?_⟩⟩;refine fW I2.ns fun o2 es ep ho2 z=>?_;exact ⟨o2,es,ep,bU ho2 dX,z⟩
  ·by_cases z:n="comp_select_list"
   ·subst z;cases hn
   ·exact if_neg z
 ·have c:=S2.base
  refine pH c ?_;clear c;rintro h3 t3 g3 rfl kk gg _;have hp:(∃ o,h1.get? aK=some o):=hX'.2;have nT:aK∉[x,dx]:=fun m=>by
   refine ob11 hX.2 fun o e=>?_;refine cK m (fun q=>?_) fun m=>?_
   ·rw [q,Mk.newX] at e;cases e
   ·rw [bH m,Mk.newD] at e;cases e
  cases gg hp nT;refine ⟨h3,t3,rfl,fun b o e=>kk b o (fun m=>?_) (Mk.keeps _ _ e)⟩;refine cK m (fun q=>?_) fun m=>?_
  ·rw [q,Mk.newX] at e;cases e
  ·rw [bH m,Mk.newD] at e;cases e
end
noncomputable def gE (heads:List Int) (a:Int):List Nat:=(Aa heads.length).filter fun r=>heads[r]?==some a
noncomputable def jN (heads:List Int) (cm:Nat→Int) (way:Int):Nat→Nat→Nat→Option (Nat×Nat)
 | 0,_,_=>none
 | k+1,a,n=>if heads.contains (a:Int) then
   (match (gE heads a).head?,(gE heads a).getLast? with
    | some x,some y=>jN heads cm way k (if cm a==-way then x else y) (n+1)
    | _,_=>none)
  else some (a,n)
noncomputable def bW (t:Int×Int×Int):D:=.tup [.int t.1,.int t.2.1,.int t.2.2]
noncomputable def dO (t:Int×Int×Int) (i:Int):Int:=if i=0 then t.1 else if i=1 then t.2.1 else t.2.2
noncomputable def lB (way:Int):List (Int×Int):=[(2,way),(1,-way),(0,way)]
section
theorem dL {fd a L x} (hk:(aI fd a L).kindOf x=some .cell) (hc:((aI fd a L).cells.lookup x).isSome=true):nB (aI fd a L) x:=by
 refine ob11 (CH.mp hc) fun c e=>?_;refine .inr ⟨hk,c,e,?_⟩;refine BH (eM _ _ _ _ (mem_of_lookup e)) (fun q=>?_) fun q=>?_
 ·cases q
 ·exact q
theorem aCB {n fuel} {heads:List Int} {spots:List (Int×Int×Int)} {way:Int} {here:Int×Int×Int} {r a:Nat} (hA:dF (n+4) A) (W:Wd w (T1 w.params) (hx X h)) (hl:heads.length≤100) (hsp:spots.length=heads.length) (h0:0<heads.length)
  (hf:jN heads (fun at'=>gA (dO here) (dO (spots[at']?.getD (0,0,0))) (lB way)) way fuel 0 0=some (r,a)) :
  Cl w X A h (.ref 200) [] [.list (heads.map .int),.list (spots.map bW),.int way,bW here] (.tup [.int (r:Int),.int (a:Int)]):=by
 refine Cl.def_ wQ hA W rfl fun s L s1 hA' S Q0 k0=>?_;have hspot:∀ k,k<heads.length→(spots.map bW)[k]?=some (bW (spots[k]?.getD (0,0,0))):=fun k hk=>by
  rw [Ar,Ah (hsp▸hk)];rfl
 have okat:nB (aI yW 200 L) "at":=dL rfl rfl;refine fV (xs:=["by","at","asked"]) hA'.hh S (.cons (.inl rfl) (.cons okat (.cons (.inl rfl) .nil))) (ds:=[sJ (lB way),.int 0,.int 0]) ?e1 rfl (fun s2 S2 c2=>?_)
 case e1=>
  refine' Ev.tup (Es.cons ?a1 (Es.cons ?a2 (Es.cons ?a3 .nil (by rfl)) (by rfl)) (by rfl)) (by krn_off)
  case a2=>ktr_rel
  case a3=>ktr_rel
  case a1=>
   have e:sJ (lB way)=.obj 45 [("comp_select_list",.list [.tup [.int 2,.int way],.tup [.int 1,.int (-way)],.tup [.int 0,.int way]])]:=rfl;rw [e];exact Ev.call (by ktr_rel) (Kp.cls S.wd cls45) (by kcj_m) (aAp hA' S.wd)
 refine kQ (S:=S2) (Inv:=fun k l mu=>∃ (at' asked:Nat),at'<heads.length∧l "heads"=some (.list (heads.map .int))∧l "spots"=some (.list (spots.map bW))∧l "way"=some (.int way)∧l "here"=some (bW here)∧l "by"=some (sJ (lB way))∧
   l "at"=some (.int (at':Int))∧l "asked"=some (.int (asked:Int))∧mu=[]∧jN heads (fun at'=>gA (dO here) (dO (spots[at']?.getD (0,0,0))) (lB way)) way k at' asked=some (r,a)) fuel
  ⟨0,0,h0,rfl,rfl,rfl,rfl,rfl,rfl,rfl,rfl,hf⟩ ?_
 intro k s3 l3 mu3 hI9;refine aDn hI9 ?_;clear hI9;rintro at' asked hat hl1 hl2 hl3 hl4 hl5 hl6 hl7 rfl hk;rintro - S3 Q1 kq;refine (Tr.cmp (b:=heads.contains (at':Int)) (by ktr_rel) (by ktr_rel) (aEy hA') (by with_unfolding_all rfl)).use S3.live aZ.rfl fun s4 k4=>?_;have S4:=S3.keeps k4;cases k with
 | zero=>cases hk
 | succ k=>
  unfold jN at hk;cases hc:heads.contains (at':Int) with
  | false=>
   rw [hc,if_neg (by decide)] at hk;cases hk;rw [if_neg (by decide)];exact aG (dJ S4 (by ktr_rel) fun v s5 r5 S5 k5=>k0 r5 S5.base)
  | true=>
   rw [hc,if_pos rfl] at hk;rw [if_pos rfl];have hk2:∃ x y,(gE heads at').head?=some x∧(gE heads at').getLast?=some y∧jN heads (fun at'=>gA (dO here) (dO (spots[at']?.getD (0,0,0))) (lB way)) way k (if gA (dO here) (dO (spots[at']?.getD (0,0,0))) (lB way)==-way then x else y) (asked+1)=some (r,a):=by
    cases e1:(gE heads at').head? with
    | none=>rw [e1] at hk;cases hk
    | some x=>
     cases e2:(gE heads at').getLast? with
     | none=>rw [e1,e2] at hk;cases hk
     | some y=>rw [e1,e2] at hk;exact ⟨x,y,rfl,rfl,hk⟩
   refine bI hk2 fun x y hx1 hy1 hk3=>?_;clear hk2;refine eC (d:=.list ((gE heads at').map fun (k:Nat)=>.int (k:Int))) S4 ?c (fun s5 S5=>?_) (.inl rfl) rfl (fun _=>rfl)
   case c=>
    have e:((gE heads at').map fun (k:Nat)=>D.int (k:Int))=((((Aa heads.length).map fun (k:Nat)=>D.int (k:Int)).filter fun d=>heads[aU d]?==some (at':Int)).map fun d=>d):=by
     unfold gE;rw [Hs,Eb];rfl
    rw [e];refine Cq.lc (asg:=fun d l=>up l "row" d) hA' S4.ecf (aY (m:=heads.length) hA' ?e1 (by exact N1 3 22 hl)) ?e2 ?e4 ?e5 ?e6
    case e1=>
     have:(heads.length:Int)=((heads.map D.int).length:Int):=by simp
     rw [this];ktr_rel
    case e2=>simp;exact N1 3 22 hl
    case e4=>intro C d l _;exact .name (.inl rfl)
    case e5=>
     intro C Xc h' d l m ce;refine cX m ?_;rintro z hz rfl;have hz':=fN hz;have hh:(heads.map D.int)[z]?=some (.int (heads[z]?.getD 0)):=by rw [Ar,Ah hz'];rfl
     have e:(heads[aU (.int (z:Int))]?==some (at':Int))=(heads[z]?.getD 0==(at':Int)):=by
      show (heads[z]?==_)=_;rw [Ah hz'];rfl
     rw [e];exact Ts.one (Tr.cmp (Ev.sub (by ktr_rel) (by ktr_rel) (Bo.item_list ⟨by lia,hh⟩ (by exact N2 4 0 hl hz'))) (by ktr_rel) Bo.eqi (by with_unfolding_all rfl))
    case e6=>
     intro C Xc h' d l m _ ce;exact nmC ce rfl
   have hin:∀ z∈gE heads at',z<heads.length:=fun z m=>fN (Bf.mp m).1;have hx2:x<heads.length:=hin x (List.mem_of_mem_head? hx1);have hy2:y<heads.length:=hin y (List.mem_of_getLast? hy1);have hcmp:∀ p∈lB way,0≤p.1∧p.1<2 ^ 63∧[D.int here.1,.int here.2.1,.int here.2.2][p.1.toNat]?=some (.int (dO here p.1))∧[D.int (spots[at']?.getD (0,0,0)).1,.int (spots[at']?.getD (0,0,0)).2.1,.int (spots[at']?.getD (0,0,0)).2.2][p.1.toNat]?=some (.int (dO (spots[at']?.getD (0,0,0)) p.1)):=by
    intro p m;unfold lB at m;simp only [AP,FU,or_false] at m;rcases m with rfl | rfl | rfl <;> exact ⟨by dsimp only;decide,by dsimp only;decide,rfl,rfl⟩
   refine aO (d:=.int ((if gA (dO here) (dO (spots[at']?.getD (0,0,0))) (lB way)==-way then x else y:Nat):Int)) S5 ?e (fun s6 S6 c6=>?_) okat rfl
   case e=>
    refine Ev.ite (b:=gA (dO here) (dO (spots[at']?.getD (0,0,0))) (lB way)==-way) ?t (fun hb=>?u) fun hb=>?v
    case t=>
     refine Tr.cmp (Ev.meth (d0:=sJ (lB way)) (by ktr_rel) (Mt.obj S5.wd cls45 rfl (eX (P:=w.params)).mem rfl) (Kp.fn S5.wd (eX (P:=w.params)).mem) (Es.cons (d:=bW here) (by ktr_rel) (Es.cons (d:=bW (spots[at']?.getD (0,0,0))) ?g1 .nil (by rfl)) (by rfl)) (qB hA' S5.wd hcmp)) (by ktr_rel) Bo.eqi (by with_unfolding_all rfl)
     case g1=>exact Ev.sub (by ktr_rel) (by ktr_rel) (Bo.item_list ⟨by lia,hspot at' hat⟩ (by exact N2 4 0 hl hat))
    case u=>
     rw [if_pos hb];refine Ev.sub (by ktr_rel) (by ktr_rel) (Bo.item_list ⟨by decide,?_⟩ (by decide));show ((gE heads at').map fun (k:Nat)=>D.int (k:Int))[0]?=_;rw [Ar,← List.head?_eq_getElem?,hx1];rfl
    case v=>
     rw [if_neg (by rw [hb];decide)];refine Ev.sub (by ktr_rel) (Ev.un Ev.int Uo.neg) (Bo.item_last ?_ ?_)
     ·rw [List.getLast?_map,hy1];rfl
     ·rw [Ac]
      have:(gE heads at').length≤heads.length:=by
       unfold gE;exact Ao (BS _ _) (by krn_off)
      exact N2 4 1 hl this
   refine iM (d0:=.int (asked:Int)) (d:=.int ((asked:Int)+1)) S6 hl7 (by ktr_rel) Bo.iadd fun s7 S7 c7=>aG (kq ⟨_,[],?_,S7,rfl⟩);refine ⟨k,FW _,_,asked+1,?_,hl1,hl2,hl3,hl4,hl5,rfl,?_,rfl,hk3⟩
   ·split <;> assumption
   ·show some _=some _
    simp
end
noncomputable def jC (hits:List Int):Nat→Nat→Nat→Int
 | 0,_,_=>0
 | k+1,f,s=>if s≤1 then 0 else mn ((Aa (s - 1)).map fun p=>jC hits k f (p+1)+jC hits k (f+(p+1)) (s - (p+1)))+((hits.drop f).take s).sum
theorem pQ {hits}:∀ (k f s:Nat),s≤k→jC hits k f s=jC hits (k+1) f s
 | 0,f,s,h=>by
  have:s=0:=by exact N1 4 2 h
  subst this;unfold jC;rfl
 | k+1,f,s,h=>by
  rw [jC,jC]
  by_cases q:s≤1
  ·rw [if_pos q,if_pos q]
  ·rw [if_neg q,if_neg q]
   congr 2;apply Av;intro p hp;have:=fN hp;rw [pQ k f (p+1) (by exact N4 4 4 h this (cY (N1 4 3 q))),pQ k (f+(p+1)) (s - (p+1)) (by exact N4 4 6 h (cY (N3 4 5 this (AD _ _))))]
noncomputable def oZ (hits:List Int) (f s:Nat):Int:=jC hits 9 f s
theorem aGa {hits:List Int} {f s:Nat} (h:s≤8):oZ hits f s=if s≤1 then 0 else mn ((Aa (s - 1)).map fun p=>oZ hits f (p+1)+oZ hits (f+(p+1)) (s - (p+1)))+((hits.drop f).take s).sum:=by
 unfold oZ;rw [jC]
 by_cases q:s≤1
 ·rw [if_pos q,if_pos q]
 ·rw [if_neg q,if_neg q]
  congr 2;apply Av;intro p hp;have:=fN hp;rw [pQ 8 f (p+1) (by exact N3 4 7 h this (AD _ _)),pQ 8 (f+(p+1)) (s - (p+1)) (by exact N2 4 8 h (AD _ _))]
theorem aHu (m:Nat):rH 1 1 (AM 1 (m:Int) 1).toNat=(Aa (m - 1)).map fun (k:Nat)=>D.int ((k+1:Nat):Int):=by
 have:(AM 1 (m:Int) 1).toNat=m - 1:=by
  unfold AM;simp;cases m with
  | zero=>rfl
  | succ k=>
   split
   ·show ((k:Int)+1 - 1).toNat=k
    rw [Int.add_sub_cancel];rfl
   ·have:k=0:=by exact N1 23 2 (by assumption)
    rw [this];rfl
 rw [this];unfold rH;apply Av;intro k _;congr 1
 push_cast
 exact N1 4 9
theorem aBW {ds:List (Int×D)} {k j:Int} {d:D}:bE (dU ds k d) j=if j=k then some d else bE ds j:=by
 unfold dU;split
 ·rename_i q
  induction ds with
  | nil=>cases q
  | cons p r ih=>
   obtain ⟨a,b⟩:=p;unfold bE at ih ⊢;rw [AC,BY,BY]
   by_cases ha:a=k
   ·subst ha
    by_cases hj:a=j
    ·subst hj;simp
    ·simp only [if_true,hj,decide_false]
     have hj2:¬ j=a:=fun e=>hj e.symm;rw [if_neg hj2]
     by_cases hr:(r.any fun p=>decide (p.1=a))=true
     ·have:=ih hr;rw [if_neg hj2] at this;exact this
     ·have:r.map (fun p=>if p.1=a then (p.1,d) else p)=r:=by
       conv=>rhs;rw [← Fv r]
       apply Av;intro p hp;rw [if_neg fun e=>hr (Dp.mpr ⟨p,hp,decide_eq_true e⟩)];rfl
      rw [this]
   ·rw [if_neg ha]
    by_cases hj:a=j
    ·subst hj;simp [ha]
    ·simp only [hj,decide_false]
     exact ih (by simpa [ha] using q)
 ·rename_i q
  unfold bE;rw [Ey]
  by_cases hj:j=k
  ·subst hj
   rw [if_pos rfl];have:ds.find? (fun p=>decide (p.1=j))=none:=DA.mpr fun p hp e=>q (Dp.mpr ⟨p,hp,e⟩);rw [this];simp
  ·rw [if_neg hj]
   have:(List.find? (fun p=>decide (p.1=j)) [(k,d)])=none:=by
    simp;exact fun e=>hj e.symm
   rw [this];simp
section
noncomputable def aFn (hits:List Int) (ds:List (Int×D)) (i j:Nat):Prop:=
 ∀ f s:Nat,1≤s→f+s≤hits.length→(s≤i∨(s=i+1∧f<j))→bE ds (8*(f:Int)+(s:Int))=some (.int (oZ hits f s))
theorem rO {e:AO} {m:Nat} {n} (hA:dF n A) (he:Ev w X A env h e (.rng 1 (m:Int) 1)) (hm:m≤1000):fX w X A false env h e ((Aa (m - 1)).map fun (k:Nat)=>D.int ((k+1:Nat):Int)):=by
 have:=fX.of he (iQ.rng hA (Jb (by decide) (by decide) (by exact N1 3 17) (by exact N1 3 18 hm)))
 rwa [aHu] at this
theorem aCC {n} {hits:List Int} (hA:dF (n+1) A) (W:Wd w (T1 w.params) (hx X h)) (hl:1≤hits.length∧hits.length≤6) :
  Cl w X A h (.ref 178) [] [.list (hits.map .int)] (.int (oZ hits 0 hits.length)):=by
 refine Cl.def_ wU hA W rfl fun s L s1 hA' S Q0 k0=>?_;have oklea:nB (aI yX 178 L) "least":=dL rfl rfl;have hlen:((hits.map D.int).length:Int)=(hits.length:Int):=by simp
 refine qJ S (fun a s2 S2 ha=>?_) oklea rfl
 let Iv0:Nat→(Str→Option D)→List (Addr×D)→Prop:=fun i l mu=>∃ ds,mu=[(a,.idict ds)]∧l "hits"=some (.list (hits.map .int))∧l "least"=some (.val (.ref a))∧aFn hits ds i 0∧ds.length≤100*i
 refine fT hA' S2 (rO (m:=hits.length+1) hA' ?src (by exact N1 4 10 hl.2)) (by intro q;cases q)
  Iv0 ⟨[],rfl,rfl,rfl,fun f s h1 h2 h3=>by lia,by simp⟩ ?_ ?_
 case src=>
  have:((hits.length+1:Nat):Int)=((hits.map D.int).length:Int)+1:=by simp
  rw [this];exact Ev.call (by ktr_rel) Kp.type (by kcj_m) Cl.range2
 ·intro i d X1 s3 l3 mu3 hd hI
  refine ob15 hI ?_;clear hI;rintro ds rfl hl1 hl2 hG hdl;refine mpR hd fun hin q=>?_;clear hd;subst q;intro hmu hX hle S3;refine ⟨_,.name (dL rfl rfl),fun s4 S4 Q1 kq=>?_⟩
  let Iv1:Nat→(Str→Option D)→List (Addr×D)→Prop:=fun j l mu=>∃ ds,mu=[(a,.idict ds)]∧l "hits"=some (.list (hits.map .int))∧l "least"=some (.val (.ref a))∧l "size"=some (.int ((i+1:Nat):Int))∧aFn hits ds i j∧ds.length≤100*i+j
  refine fT hA' S4 (aY (m:=hits.length - i) hA' ?src (by exact N2 4 11 hl.2 (AD _ _))) (by intro q;cases q)
   Iv1 ⟨ds,rfl,hl1,hl2,rfl,hG,by lia⟩ ?_ ?_
  case src=>
   have:((hits.length - i:Nat):Int)=((hits.map D.int).length:Int) - ((i+1:Nat):Int)+1:=by simp;exact N3 4 13 eB (cY (N2 4 12 hin))
   rw [this];exact Ev.call (by ktr_rel) Kp.type (by kcj_m) Cl.range1
  ·intro j d X2 s5 l5 mu5 hd hI hmu5 hX5 hle5 S5
   refine ob16 hI ?_;clear hI;rintro ds5 rfl hm1 hm2 hm3 hG5 hdl5;refine mpR hd fun hjn q=>?_;clear hd;subst q;refine ⟨_,.name (dL rfl rfl),fun s6 S6 Q1 kq=>?_⟩;have waysE:((Aa i).map fun (p:Nat)=>D.int (oZ hits j (p+1)+oZ hits (j+(p+1)) (i+1 - (p+1))))=((Aa i).map fun (p:Nat)=>oZ hits j (p+1)+oZ hits (j+(p+1)) (i+1 - (p+1))).map D.int:=by rw [An];rfl
   refine eC (d:=.list ((Aa i).map fun (p:Nat)=>D.int (oZ hits j (p+1)+oZ hits (j+(p+1)) (i+1 - (p+1))))) S6 ?c (fun s7 S7=>?_) (.inl rfl) rfl (fun _=>rfl)
   case c=>
    have e:((Aa i).map fun (p:Nat)=>D.int (oZ hits j (p+1)+oZ hits (j+(p+1)) (i+1 - (p+1))))=((((Aa i).map fun (k:Nat)=>D.int ((k+1:Nat):Int)).filter fun _=>true).map fun d=>.int (oZ hits j (aU d)+oZ hits (j+aU d) (i+1 - aU d))):=by
     rw [Az.mpr (fun _ _=>rfl),An];apply Av;intro k _;rfl
    rw [e];refine Cq.lc (asg:=fun d l=>up l "part" d) hA' S6.ecf (rO (m:=i+1) hA' ?e1 (by exact N2 4 14 hl.2 hin)) ?e2 ?e4 ?e5 ?e6
    case e1=>exact Ev.call (by ktr_rel) Kp.type (by kcj_m) Cl.range2
    case e2=>simp;exact N2 4 15 hl.2 hin
    case e4=>intro C d l _;exact .name (.inl rfl)
    case e5=>intro C Xc h' d l _ ce;exact Ts.nil
    case e6=>
     intro C Xc h' d l m _ ce;refine cX m ?_;rintro p hp rfl;have hp':p<i:=by simpa using hp
     have mu6:=(S6.muAt (.head _)).mono ce.up (fun o e=>ce.full _ _ e);have nml:Nm w Xc _ h' "least" (.val (.ref a)):=pZ ce (S6.cap (d:=.val (.ref a)) hm2 rfl) rfl rfl;have g1:=hG5 j (p+1) (by lia) (by exact N5 4 16 hjn hp' (cY (N2 4 12 hin))) (.inl (by lia));have g2:=hG5 (j+(p+1)) (i+1 - (p+1)) (by exact N3 4 17 hp' eB) (by exact N6 4 19 hjn (cY (N2 4 18 hp')) (cY (N2 4 12 hin))) (.inl (by exact N3 4 20 (cY (N2 4 18 hp'))));show Ev w Xc _ _ h' _ (.int (oZ hits j (p+1)+oZ hits (j+(p+1)) (i+1 - (p+1))));refine Ev.bin (aAy nml mu6 (kk:=8*(j:Int)+((p+1:Nat):Int)) (by ktr_rel) ?f1) (aAy nml mu6 (kk:=8*((j:Int)+((p+1:Nat):Int))+((i+1:Nat):Int) - ((p+1:Nat):Int)) (by ktr_rel) ?f2) Bo.add
     case f1=>exact g1
     case f2=>rw [← g2];congr 1;exact N4 4 21 eB (cY (N2 4 18 hp'))
   have oeq:=aGa (hits:=hits) (f:=j) (s:=i+1) (by exact N2 4 22 hl.2 hin);refine uN (pre:=[]) (post:=[]) (d:=.int (oZ hits j (i+1))) (kk:=8*(j:Int)+((i+1:Nat):Int)) S7 hm2 ?v (by ktr_rel) (by exact N5 5 0 hl.2 hin hdl5 hjn (AD _ _)) (fun s8 S8=>?_)
   case v=>
    refine Ev.ite (b:=!((Aa i).map fun (p:Nat)=>D.int (oZ hits j (p+1)+oZ hits (j+(p+1)) (i+1 - (p+1)))).isEmpty) (Tr.cmp (by ktr_rel) (by ktr_rel) (Bo.ne_nil hA') (by with_unfolding_all rfl)) (fun hb=>?x) fun hb=>?y
    case x=>
     have hi0:i≠0:=by
      intro q;subst q;simp at hb
     rw [oeq,if_neg (by exact (Cj hi0).elim (fun z11=>N1 23 3 z11) fun z11=>N1 23 4 z11),Hc];have hsl:(hits.drop j).take (i+1)=(hits.drop j).take (j+(i+1) - j):=by congr 1;exact N3 5 2 eB (cY (N2 5 1))
     have hpk:gP (hits.map D.int) (some (j:Int)) (some ((j:Int)+((i+1:Nat):Int))) Option.none=((hits.drop j).take (i+1)).map D.int:=by
      have e:((j:Int)+((i+1:Nat):Int))=((j+(i+1):Nat):Int):=by simp
      rw [e,aBN (by lia) (by rw [Ac];exact N4 5 3 hjn (cY (N2 4 12 hin))),hsl,CC,FJ]
     refine Ev.bin (Ev.call (ds:=[.list (FT D.int ((Aa i).map fun (p:Nat)=>oZ hits j (p+1)+oZ hits (j+(p+1)) (i+1 - (p+1))))]) (by ktr_rel) Kp.builtin ?m1 (Cl.min hA' ?m2)) (Ev.call (ds:=[.list (FT D.int ((hits.drop j).take (i+1)))]) (by ktr_rel) Kp.builtin ?m3 (Cl.sum hA')) Bo.add
     case m1=>rw [← waysE];kcj_m
     case m2=>
      intro q;have:=congrArg De q;simp at this;exact hi0 this
     case m3=>
      rw [← hpk];refine Es.one (Ev.sub (by ktr_rel) (Ev.slc (.some (by ktr_rel)) (.some (by ktr_rel)) .none) (Bo.slice_list (by decide) (by rw [Ac];exact N1 3 20 hl.2))) (by rfl)
    case y=>
     have hi0:i=0:=by
      cases i with
      | zero=>rfl
      | succ i=>simp [AT] at hb
     rw [oeq,if_pos (by exact N1 5 4 hi0)];ktr_rel
   refine aG (kq ⟨_,_,?_,S8,rfl⟩);refine ⟨_,rfl,hm1,hm2,hm3,?_,?_⟩
   ·intro f s h1 h2 h3
    rw [aBW]
    by_cases q:f=j∧s=i+1
    ·refine bM q ?_;clear q;rintro rfl rfl
     rw [if_pos rfl]
    ·rw [if_neg (by lia)]
     exact hG5 f s h1 h2 (by lia)
   ·have:(dU ds5 (8*(j:Int)+((i+1:Nat):Int)) (.int (oZ hits j (i+1)))).length≤ds5.length+1:=by
     unfold dU;split
     ·rw [Ac];lia
     ·rw [Af];exact Am _
    exact N4 5 5 hdl5 this
  ·intro s5 l5 mu5 hI
   refine ob16 hI ?_;clear hI;rintro ds5 rfl hm1 hm2 hm3 hG5 hdl5;intro hmu5 S5;refine aG (aG (kq ⟨_,_,?_,S5,rfl⟩));refine ⟨ds5,rfl,hm1,hm2,?_,?_⟩
   ·intro f s h1 h2 h3
    refine hG5 f s h1 h2 ?_;simp only [Ac,Al];lia
   ·simp only [Ac,Al] at hdl5
    exact N4 5 6 hl.2 hdl5 (AD _ _)
 ·intro s3 l3 mu3 hI
  refine ob15 hI ?_;clear hI;rintro ds rfl hl1 hl2 hG hdl;intro hmu S3;have key:=hG 0 hits.length hl.1 (by exact N1 5 7) (.inl (by krn_off));refine aG (dJ S3 (aCT (kk:=(hits.length:Int)) S3 hl2 (.head _) ?zk ?zf) fun v s4 r S4 k4=>k0 (r.mono (bV fun y m=>.tail _ m)) S4.base)
  case zk=>rw [← hlen];ktr_rel
  case zf=>rw [← key];congr 1;exact N1 5 8
end
noncomputable def mE (hi:Int):Str:=(((if hi<0 then "-" else "")++"0x")++(toString (if hi<0 then -hi else hi):String))++Ik "0" 8
noncomputable def cM (left base:Nat) (hi:Int):List Str:=eE left base++(if hi≠0 then [mE hi] else [])
noncomputable def bB (left base:Nat) (hi:Int):Str:=if (cM left base hi).isEmpty then "0x0" else iI ", " (cM left base hi)
theorem aFO:∀ (l:Fin 32) (b:Fin 5),((((l.val:Int).fdiv (2 ^ ((b.val:Int)).toNat)).fmod 2)==1)=(l.val / 2 ^ b.val % 2==1):=by decide +kernel
section
theorem Cl.str {i:Int} (hi:i.natAbs.log2<1920):Cl w X A h (.type "str") [] [.int i] (.str (toString i:String)):=.mk fun s fs vs hX _ r0 r=>by
 cases r0;refine ob12 r.c1 ?_;rintro _ rfl a;refine ob11 a.ofInt ?_;rintro t rfl;exact PySem.P.str_of_int hi ⟨.str _ _,dG⟩
theorem aEM:MulOk "0" 8:=by
 refine ⟨by decide,fun _ _=>by decide,fun _ _=>by decide⟩
theorem aGk:∀ b:Fin 5,(CM 2:Int)*(b.val:Int)≤2 ^ 27:=by decide +kernel
theorem aCA {n} {left base:Nat} {hi:Int} (hA:dF (n+2) A) (W:Wd w (T1 w.params) (hx X h)) (h1:left<32) (h2:base<28) (h3:-2≤hi∧hi≤2) (hj:(iI ", " (cM left base hi)).length≤1000)
  (hj2:B4 ((cM left base hi).toArray.foldl (·+·.length+(", ":Str).length) 0)=false) :
  Cl w X A h (.ref 190) [] [.int (left:Int),.int (base:Int),.int hi] (.str (bB left base hi)):=by
 refine Cl.def_ wP hA W rfl fun s L s1 hA' S Q0 k0=>?_;refine aBn (ds:=(eE left base).map .str) S ?c ?f (fun a s2 S2 ha=>?_) (.inl rfl) rfl (fun _=>rfl)
 case f=>rw [List.all_map];exact A8.mpr fun _ _=>rfl
 case c=>
  have e:(eE left base).map D.str=((((Aa 5).map fun (k:Nat)=>D.int (k:Int)).filter fun d=>left / 2 ^ aU d % 2==1).map fun d=>.str (fR (base+aU d))):=by
   unfold eE;rw [Eb,An,An];rfl
  rw [e];refine Cq.lc (asg:=fun d l=>up l "bit" d) hA' S.ecf (aY (m:=5) hA' (Ev.call (by ktr_rel) Kp.type (by kcj_m) Cl.range1) (by lia)) ?e2 ?e4 ?e5 ?e6
  case e2=>simp
  case e4=>intro C d l _;exact .name (.inl rfl)
  case e5=>
   intro C Xc h' d l m ce;refine cX m ?_;rintro b hb rfl;have hb':=fN hb;have:=aFO ⟨left,h1⟩ ⟨b,hb'⟩;show Ts w Xc _ _ h' _ (left / 2 ^ b % 2==1);rw [← this];refine Ts.one (Tr.cmp (Ev.bin (Ev.bin (by ktr_rel) (Ev.bin (by ktr_rel) (by ktr_rel) (Bo.pow (by lia) (aGk ⟨b,hb'⟩))) (Bo.fdiv ?g1 ?g2)) (by ktr_rel) (Bo.fmod (by decide))) (by ktr_rel) Bo.eqi (by with_unfolding_all rfl))
   case g1=>exact Int.ne_of_gt (Int.pow_pos (by decide))
   case g2=>
    refine A5 ?_;have:∀ b:Fin 5,((2:Int) ^ ((b.val:Int)).toNat).natAbs<1073741824:=by decide
    exact this ⟨b,hb'⟩
  case e6=>
   intro C Xc h' d l m _ ce;refine cX m ?_;rintro b hb rfl;have hb':=fN hb;show Ev w Xc _ _ h' _ (.str (fR (base+b)));exact Ev.call (by ktr_rel) (Kp.fn ce.ec.wd (uT (P:=w.params)).mem) (Es.one (d:=.int ((base+b:Nat):Int)) (Ev.bin (by ktr_rel) (by ktr_rel) Bo.add) (by rfl)) (aAn (by exact N2 5 9 h2 hb') hA' ce.ec.wd)
 have aX:a∉Fp (aI mO 190 L)++X:=fun m=>by refine ob11 (S.live.1 a m) fun o e=>?_;rw [ha] at e;cases e
 have five:hi = -2∨hi = -1∨hi=0∨hi=1∨hi=2:=by lia
 have fin:∀ s3,St w (T1 w.params) s [] (a::(Fp (aI mO 190 L)++X)) (aI mO 190 L) s3 (up (bQ (fun _=>none) ["left","base","high"] [.int (left:Int),.int (base:Int),.int hi]) "words" (.val (.ref a))) [(a,.list ((cM left base hi).map .str))]→
   Xs w (A.deeper (aI mO 190 L)) [yL.1[2]] (aI mO 190 L) Q0 (fun _ _=>False) s3:=fun s3 S3=>by
  have S4:=S3.freeze (x:="words") aX rfl rfl S.mem (fun _ m=>nomatch m);have e0:(!((cM left base hi).map D.str).isEmpty)=!(cM left base hi).isEmpty:=by simp
  refine dJ S4 (Ev.ite (b:=!(cM left base hi).isEmpty) ?t (fun hb=>?x) fun hb=>?y) fun v s5 r5 S5 k5=>k0 r5 S5.base
  case t=>rw [← e0];exact Tr.cmp (by ktr_rel) (by ktr_rel) (Bo.ne_nil hA') (by with_unfolding_all rfl)
  case x=>
   unfold bB;rw [if_neg (by simpa using hb)];exact Ev.meth Ev.str (Mt.str EH EI) Kp.builtin (Es.one (by ktr_rel) (by rfl)) (Cl.join hj2 hj)
  case y=>
   unfold bB;rw [if_pos (by simpa using hb)];ktr_rel
 refine gB S2 (b:=hi != 0) (by kcf_m) (fun hb s3 S3 k3=>?_) fun hb s3 S3 k3=>?_
 ·have h0:hi≠0:=by simpa using hb
  have ew:cM left base hi=eE left base++[mE hi]:=by unfold cM;rw [if_pos h0]
  refine eO (pre:=[]) (post:=[]) (d:=.str (mE hi)) S3 rfl ?e (by unfold eE;simp;exact Ao (BS _ _) (by krn_off)) fun s4 S4=>?_
  case e=>
   unfold mE
   refine' Ev.bin ?a1 ?b1 (Bo.adds ?c1)
   case a1=>
    refine' Ev.bin ?a2 ?b2 (Bo.adds ?c2)
    case a2=>
     refine' Ev.bin ?a3 ?b3 (Bo.adds ?c3)
     case a3=>
      refine Ev.ite (b:=decide (hi<0)) (by kcf_m) (fun q=>?x) fun q=>?y
      case x=>rw [if_pos (of_decide_eq_true q)];ktr_rel
      case y=>rw [if_neg (of_decide_eq_false q)];ktr_rel
     case b3=>ktr_rel
     case c3=>rcases five with rfl | rfl | rfl | rfl | rfl <;> decide +kernel
    case b2=>
     exact Ev.call (by ktr_rel) Kp.type (by kcj_m) (Cl.str (by rcases five with rfl | rfl | rfl | rfl | rfl <;> decide +kernel))
    case c2=>rcases five with rfl | rfl | rfl | rfl | rfl <;> decide +kernel
   case b1=>exact Ev.bin (by ktr_rel) (by ktr_rel) (Bo.mul_si (aEM ))
   case c1=>rcases five with rfl | rfl | rfl | rfl | rfl <;> decide +kernel
  refine aG (fin s4 ?_);have:(cM left base hi).map D.str=(eE left base).map .str++[.str (mE hi)]:=by rw [ew,Ax];rfl
  rw [this];exact S4
 ·have h0:hi=0:=by simpa using hb
  have ew:cM left base hi=eE left base:=by unfold cM;rw [if_neg (by simp [h0])];simp
  refine aG (fin s3 ?_);rw [ew];exact S3
end
noncomputable def uS (i:Nat):Int:=1*2 ^ ((i:Int)).toNat
noncomputable def zA (i:Nat):D:=(bE aAD (uS i)).getD (.str (Dg "0x" 16 (uS i)))
noncomputable def aDa:D→Bool
 | .str _=>true
 | _=>false
theorem aIe {d:D} (h:aDa d=true):d=.str (fM d):=by cases d <;> first | rfl | cases h
theorem aC2:∀ i:Fin 32,aDa (zA i.val)=true:=by decide +kernel
theorem aEu:∀ i:Fin 32,(Dg "0x" 16 (uS i.val)).length≤1000:=by decide +kernel
noncomputable def nL:List Nat→Int→List Str→List Str
 | [],fl,ns=>ns++[Dg "0x" 16 fl]
 | i::r,fl,ns=>if Bk fl (uS i) != 0 then (if CY fl (uS i) != 0 then nL r (CY fl (uS i)) (ns++[fM (zA i)]) else ns++[fM (zA i)]) else nL r fl ns
section
theorem aCX {pos rest} {Q:Flow→Ak→Prop} {E} (q:Q .brk s):Xs w A (.Break pos::rest) env Q E s:=cI (wpAny_Break q)
theorem aBf {n} {fl0:Int} {ws:List Str} (hA:dF (n+1) A) (W:Wd w (T1 w.params) (hx X h)) (hw:nL (Aa 32) fl0 []=ws)
  (hz:∀ x∈ws,x.length≤1000) (hj:(iI ", " ws).length≤1000)
  (hj2:B4 (ws.toArray.foldl (·+·.length+(", ":Str).length) 0)=false) :
  Cl w X A h (.ref 78) [] [.int fl0] (.str (iI ", " ws)):=by
 refine Cl.def_ sX hA W rfl fun s L s1 hA' S Q0 k0=>?_;refine yV S (fun a s2 S2 ha _=>?_) (.inl rfl) rfl;have aX:a∉Fp (aI jM 78 L)++X:=fun m=>by refine ob11 (S.live.1 a m) fun o e=>?_;rw [ha] at e;cases e
 have fin:∀ s3 (l3:Str→Option D),l3 "names"=some (.val (.ref a))→St w (T1 w.params) s [] (a::(Fp (aI jM 78 L)++X)) (aI jM 78 L) s3 l3 [(a,.list (ws.map .str))]→
   Xs w (A.deeper (aI jM 78 L)) [uE.1[2]] (aI jM 78 L) Q0 (fun _ _=>False) s3:=fun s3 l3 hl S3=>by
  have S4:=S3.freeze (x:="names") aX hl rfl S.mem (fun _ m=>nomatch m);refine dJ S4 (Ev.meth Ev.str (Mt.str EH EI) Kp.builtin (Es.one (by ktr_rel) (by rfl)) (Cl.join hj2 hj)) fun v s5 r5 S5 k5=>k0 r5 S5.base
 let Iv0:Nat→(Str→Option D)→List (Addr×D)→Prop:=fun i l mu=>∃ fl ns,mu=[(a,.list (ns.map .str))]∧l "names"=some (.val (.ref a))∧l "flags"=some (.int fl)∧nL ((Aa 32).drop i) fl ns=ws∧ns.length≤i
 refine fT hA' S2 (aY (m:=32) hA' (Ev.call (by ktr_rel) Kp.type (by kcj_m) Cl.range1) (by lia)) (by intro q;cases q)
  Iv0 ⟨fl0,[],rfl,rfl,rfl,hw,Am _⟩ ?_ ?_
 ·intro i d X1 s3 l3 mu3 hd hI
  refine aEQ hI ?_;clear hI;rintro fl ns rfl hl1 hl2 hp hn;refine mpR hd fun hin q=>?_;clear hd;subst q;intro hmu hX hle S3;have hdr:(Aa 32).drop i=i::(Aa 32).drop (i+1):=by
   rw [Bv (by rw [Al];exact hin),Eh]
  rw [hdr] at hp;unfold nL at hp;refine ⟨_,.name (.inl rfl),fun s4 S4 Q1 kq=>?_⟩;refine aO (d:=.int (uS i)) S4 (Ev.bin (by ktr_rel) (by ktr_rel) (Bo.lshift ⟨by lia,by exact N1 5 10 hin⟩ (by decide))) (fun s5 S5 c5=>?_) (.inl rfl) rfl;refine gB S5 (b:=Bk fl (uS i) != 0) (Tr.val (Ev.bin (by ktr_rel) (by ktr_rel) Bo.band) Tt.int (by intro _;rfl)) (fun hb s6 S6 k6=>?_) fun hb s6 S6 k6=>?_
  ·rw [if_pos hb] at hp
   have hstr:=aIe (aC2 ⟨i,hin⟩);refine eO (pre:=[]) (post:=[]) (d:=.str (fM (zA i))) S6 hl1 ?e (by rw [Ac];exact N2 5 11 hn hin) fun s7 S7=>?_
   case e=>
    rw [← hstr];exact Ev.meth (Ev.name (Nm.globalD S6.gb S6.wd rfl (.head _))) Mt.idict_get Kp.builtin (Es.cons (d:=.int (uS i)) (by ktr_rel) (Es.one (d:=.str (Dg "0x" 16 (uS i))) (Ev.call (by ktr_rel) Kp.builtin (by kcj_m) (Cl.hex (aEu ⟨i,hin⟩))) (by rfl)) (by rfl)) Cl.idict_get
   have e7:ns.map D.str++[D.str (fM (zA i))]=(ns++[fM (zA i)]).map D.str:=by rw [Ax];rfl
   rw [e7] at S7;refine iM (d0:=.int fl) (d:=.int (CY fl (uS i))) S7 hl2 (by ktr_rel) Bo.ixor fun s8 S8 c8=>?_;refine gB S8 (b:=!(CY fl (uS i) != 0)) (Tr.not (Tr.val (by ktr_rel) Tt.int (by intro _;rfl))) (fun hc s9 S9 k9=>?_) fun hc s9 S9 k9=>?_
   ·have hc':(CY fl (uS i) != 0)=false:=by simpa using hc
    rw [if_neg (by rw [hc'];decide)] at hp;refine aCX (kq ⟨_,_,S9,rfl,fun S10=>?_⟩);rw [hp] at S10;refine fin _ _ ?_ S10;exact hl1
   ·have hc':(CY fl (uS i) != 0)=true:=by simpa using hc
    rw [if_pos hc'] at hp;refine aG (aG (aG (kq ⟨_,_,?_,S9,rfl⟩)));exact ⟨_,_,rfl,hl1,rfl,hp,by simp;lia⟩
  ·rw [if_neg (by rw [hb];decide)] at hp
   refine aG (aG (kq ⟨_,_,?_,S6,rfl⟩));exact ⟨_,_,rfl,hl1,hl2,hp,by lia⟩
 ·intro s3 l3 mu3 hI
  refine aEQ hI ?_;clear hI;rintro fl ns rfl hl1 hl2 hp hn;intro hmu S3;have hp':=hp;simp only [Ac,Al] at hp hn;refine eO (pre:=[]) (post:=[]) (d:=.str (Dg "0x" 16 fl)) S3 hl1 (Ev.call (by ktr_rel) Kp.builtin (by kcj_m) (Cl.hex (hz _ (by have e:ns++[Dg "0x" 16 fl]=ws:=hp';rw [← e];simp)))) (by rw [Ac];exact N1 5 12 hn) fun s4 S4=>?_;have e7:ns.map D.str++[D.str (Dg "0x" 16 fl)]=ws.map D.str:=by
   have e8:ns++[Dg "0x" 16 fl]=ws:=by rw [← hp];rfl
   rw [← e8,Ax];rfl
  rw [e7] at S4;exact aG (fin s4 l3 hl1 S4)
end
structure cU where
 raw:Str
 n:Int
 nt:Int
 counts:List Int
 b:Int
noncomputable def cU.D (x:cU):Mine.Internal.D:=.obj 147 [("raw",.str x.raw),("n",.int x.n),("nt",.int x.nt),("norm",.tup [.tup (x.counts.map .int),.int x.b]),("is_simple",.bool (decide ((x.counts.length:Int)≤1)))]
noncomputable def cU.run (x:cU):Int:=if x.b > (x.counts.length:Int) - 1 then x.b else (x.counts.length:Int) - 1
section
theorem Cl.len_tup {ds} (hl:ds.length≤100000):Cl w X A h (.builtin "len") [] [.tup ds] (.int (ds.length:Int)):=.mk fun s fs vs hX _ r0 r=>by
 cases r0;refine ob12 r.c1 ?_;rintro _ rfl a;refine bI a.ofTup ?_;rintro a' vs rfl hp rs;have hsz:vs.toArray.size=ds.length:=by rw [AH,rs.length]
 refine ob13 hp fun o ho hc kz=>?_;clear hp;refine ob11 kz fun n hd=>?_;clear kz;refine Ji ⟨o,aR _ _ ho,hc,n,hd⟩ (by rw [hsz];exact N1 0 13 hl) ⟨?_,dG⟩;rw [hsz];exact .int _ _
theorem aCD {n} {x:cU} (hA:dF (n+1) A) (W:Wd w (T1 w.params) (hx X h)) (hl:x.counts.length≤1000):Cl w X A h (.ref 109) [x.D] [] (.int x.run):=by
 refine Cl.meth_ qR hA W rfl fun s L s1 hA' S Q0 k0=>?_;refine fV (xs:=["count","trailing"]) (ds:=[.tup (x.counts.map .int),.int x.b]) hA'.hh S (.cons (.inl rfl) (.cons (.inl rfl) .nil)) ?e rfl (fun s2 S2 c2=>?_)
 case e=>
  refine' Ev.attr ?a ?w ?m ?l ?p ?g ?n ?B ?e
  case a=>exact nmS S rfl
  case w=>exact S.wd
  case m=>exact cls147
  case l=>rfl
  case p=>rfl
  case g=>rfl
  case n=>rfl
  case B=>rw [BN,Bc];kernel_rfl
  case e=>intro _;with_unfolding_all rfl
 have hlen:((x.counts.map D.int).length:Int)=(x.counts.length:Int):=by simp
 refine dJ S2 (Ev.call (ds:=[.int ((x.counts.length:Int) - 1),.int x.b]) (by ktr_rel) Kp.builtin (Es.cons ?a (Es.one (by ktr_rel) (by rfl)) (by rfl)) (Cl.max2 hA'.hh)) fun v s3 r3 S3 k3=>k0 r3 S3.base
 case a=>
  rw [← hlen];exact Ev.bin (Ev.call (by ktr_rel) Kp.builtin (by kcj_m) (Cl.len_tup (by rw [Ac];exact N1 5 13 hl))) (by ktr_rel) Bo.sub
noncomputable def pF (cs:List Int) (ts i:Nat):Int:=(Aa i).foldl (fun a k=>a+(((ts+k) / ts:Nat):Int)*(cs[ts+k]?.getD 0)) 0
noncomputable def cU.level (x:cU) (ts:Nat):Int:=x.b+(ts:Int)*(pF x.counts ts (x.counts.length - ts)+x.nt)
theorem mV {e:AO} {a m:Nat} {n} (hA:dF n A) (he:Ev w X A env h e (.rng (a:Int) (m:Int) 1)) (ha:a≤1000) (hm:m≤1000):fX w X A false env h e ((Aa (m - a)).map fun (k:Nat)=>D.int ((a+k:Nat):Int)):=by
 have:=fX.of he (iQ.rng hA (Jb (by exact N1 3 17) (by exact N1 3 18 ha) (by exact N1 3 17) (by exact N1 3 18 hm)));have e2:(AM (a:Int) (m:Int) 1).toNat=m - a:=by
  unfold AM;simp;split <;> (first | exact N4 23 6 (BG _) eB (tn1 (N2 23 5 (by assumption))) (cY (N2 4 12 (by assumption))) | exact N2 23 8 (tn1 (N0 23 0)) (sb0 (N2 23 7 (by assumption))))
 rw [e2] at this;have e3:rH (a:Int) 1 (m - a)=(Aa (m - a)).map fun (k:Nat)=>D.int ((a+k:Nat):Int):=by
  unfold rH;apply Av;intro k _;simp
 rwa [e3] at this
theorem aFC {a b:Nat}:((a:Nat):Int).fdiv (b:Int)=((a / b:Nat):Int):=by
 rw [Fb _ (by lia)];rfl
theorem vY {n} {x:cU} {ts:Nat} (hA:dF (n+1) A) (W:Wd w (T1 w.params) (hx X h)) (hl:x.counts.length≤1000) (ht:2≤ts∧ts≤1000):Cl w X A h (.ref 116) [x.D] [.int (ts:Int)] (.int (x.level ts)):=by
 refine Cl.meth_ iW hA W rfl fun s L s1 hA' S Q0 k0=>?_;have hlen:((x.counts.map D.int).length:Int)=(x.counts.length:Int):=by simp
 refine fV (xs:=["count","trailing"]) (ds:=[.tup (x.counts.map .int),.int x.b]) hA'.hh S (.cons (.inl rfl) (.cons (.inl rfl) .nil)) ?e rfl (fun s2 S2 c2=>?_)
 case e=>
  refine' Ev.attr ?a ?w ?m ?l ?p ?g ?n ?B ?e
  case a=>exact nmS S rfl
  case w=>exact S.wd
  case m=>exact cls147
  case l=>rfl
  case p=>rfl
  case g=>rfl
  case n=>rfl
  case B=>rw [BN,Bc];kernel_rfl
  case e=>intro _;with_unfolding_all rfl
 refine aO S2 Ev.int (fun s3 S3 c3=>?_) (.inl rfl) rfl
 let Iv0:Nat→(Str→Option D)→List (Addr×D)→Prop:=fun i l mu=>mu=[]∧l "self"=some x.D∧l "tabsize"=some (.int (ts:Int))∧l "count"=some (.tup (x.counts.map .int))∧l "trailing"=some (.int x.b)∧l "il"=some (.int (pF x.counts ts i))
 refine fT hA' S3 (mV (a:=ts) (m:=x.counts.length) hA' (Ev.call (by ktr_rel) Kp.type (Es.cons (by ktr_rel) (Es.one (d:=.int (x.counts.length:Int)) ?e (by rfl)) (by rfl)) Cl.range2) (by exact N1 5 14 ht.2) (by lia)) (by intro q;cases q)
  Iv0 ⟨rfl,rfl,rfl,rfl,rfl,rfl⟩ ?_ ?_
 case e=>rw [← hlen];exact Ev.call (by ktr_rel) Kp.builtin (by kcj_m) (Cl.len_tup (by rw [Ac];exact N1 5 13 hl))
 ·intro i d X1 s4 l4 mu4 hd hI
  refine aHh hI ?_;clear hI;rintro rfl h1 h2 h3 h4 h5;refine mpR hd fun hin q=>?_;clear hd;subst q;intro hmu hX hle S4;refine ⟨_,.name (.inl rfl),fun s5 S5 Q1 kq=>?_⟩;have hit:(x.counts.map D.int)[ts+i]?=some (.int (x.counts[ts+i]?.getD 0)):=by rw [Ar,Ah (by lia)];rfl
  have hq:(ts+i) / ts≤1000:=Ao (H9 _ _) (by lia);refine aO (d:=.int (pF x.counts ts (i+1))) S5 ?e (fun s6 S6 c6=>aG (kq ⟨_,_,?_,S6,rfl⟩)) (.inl rfl) rfl
  case e=>
   have:pF x.counts ts (i+1)=pF x.counts ts i+(((ts+i) / ts:Nat):Int)*(x.counts[ts+i]?.getD 0):=by
    unfold pF;rw [AT,Dd];rfl
   rw [this,← aFC];refine Ev.bin (by ktr_rel) (Ev.bin (Ev.bin (by ktr_rel) (by ktr_rel) (Bo.fdiv (by exact (F8 (N1 23 9 ht.1)).symm) (A5 (by lia)))) (Ev.sub (by ktr_rel) (by ktr_rel) (Bo.item_tup ⟨by lia,hit⟩ (by exact N4 5 15 hl ht.2 hin (AD _ _)))) (Bo.mul (by rw [aFC];exact Bx (Dm (Int.lt_of_lt_of_le (by decide) (BW _)) (Int.lt_of_le_of_lt (CQ.mpr hq) (by decide)))))) Bo.add
  exact ⟨rfl,h1,h2,h3,h4,rfl⟩
 ·intro s4 l4 mu4 hI
  refine aHh hI ?_;clear hI;rintro rfl h1 h2 h3 h4 h5;intro hmu S4;simp only [Ac,Al] at h5;refine aG (dJ S4 (Ev.bin (by ktr_rel) (Ev.bin (by ktr_rel) (Ev.bin (by ktr_rel) ?e9 Bo.add) (Bo.mul (Bx (Dm (by exact N1 5 16) (by exact N1 5 17 ht.2))))) Bo.add) fun v s5 r5 S5 k5=>k0 r5 S5.base)
  case e9=>
   refine' Ev.attr ?za ?zw ?zm ?zl ?zp ?zg ?zn ?zB ?ze
   case za=>exact nmS S4 h1
   case zw=>exact S4.wd
   case zm=>exact cls147
   case zl=>rfl
   case zp=>rfl
   case zg=>rfl
   case zn=>rfl
   case zB=>rw [BN,Bc];kernel_rfl
   case ze=>intro _;with_unfolding_all rfl
end
section
local macro_rules | `(tactic| ktr_rel) => `(tactic| (refine' Ev.attr ?za ?zw ?zm ?zl ?zp ?zg ?zn ?zB ?ze; (case za => lcg_off); (case zw => exact St.wd (by assumption)); (case zm => exact cls147); (case zl => rfl); (case zp => rfl); (case zg => rfl); (case zn => rfl); (case zB => (rw [BN, Bc]; kernel_rfl)); (case ze => (intro _; with_unfolding_all rfl))))
noncomputable def cU.simple (x:cU):Bool:=decide ((x.counts.length:Int)≤1)
noncomputable def cU.top (x y:cU):Int:=(if y.run > x.run then y.run else x.run)+1
noncomputable def cU.less (x y:cU):Bool:=if decide (y.n≤x.n) then false else if x.simple&&y.simple then decide (x.nt≤y.nt) else (Aa ((cU.top x y).toNat - 1)).all fun k=>!decide (y.level (k+2)≤x.level (k+2))
section
theorem aDH {x:cU} (h:x.counts.length≤100) (b:0≤x.b∧x.b≤100):0≤x.run∧x.run≤100:=⟨Cs b.1 mx2,by
 unfold cU.run;split
 ·exact b.2
 ·exact Cs (Int.sub_le_self _ (by decide)) (CQ.mpr h)⟩
theorem aEe {n} {x y:cU} (hA:dF (n+2) A) (W:Wd w (T1 w.params) (hx X h)) (h1:x.counts.length≤100∧y.counts.length≤100) (h2:0≤x.b∧x.b≤100) (h3:0≤y.b∧y.b≤100):Cl w X A h (.ref 137) [x.D] [y.D] (.bool (cU.less x y)):=by
 refine Cl.meth_ uU hA W rfl fun s L s1 hA' S Q0 k0=>?_;refine gB S (b:=decide (y.n≤x.n)) ?t (fun hb s2 S2 k2=>?_) fun hb s2 S2 k2=>?_
 case t=>exact Tr.cmp (by ktr_rel) (by ktr_rel) Bo.ge (by with_unfolding_all rfl)
 ·refine dJ S2 Ev.bool fun v s3 r3 S3 k3=>k0 ?_ S3.base
  unfold cU.less;rw [if_pos hb];exact r3
 ·refine aG (gB S2 (b:=x.simple&&y.simple) (Tr.and2 (Tr.val (by ktr_rel) Tt.bool (by intro _;rfl)) fun _=>Tr.val (by ktr_rel) Tt.bool (by intro _;rfl)) (fun hc s3 S3 k3=>?_) fun hc s3 S3 k3=>?_)
  ·refine dJ S3 (Ev.cmp (by ktr_rel) (by ktr_rel) Bo.le (by with_unfolding_all rfl)) fun v s4 r4 S4 k4=>k0 ?_ S4.base
   unfold cU.less;rw [if_neg (by rw [hb];decide),if_pos hc];exact r4
  ·have rx:0≤x.run∧x.run≤100:=aDH h1.1 h2
   have ry:0≤y.run∧y.run≤100:=aDH h1.2 h3;have ht:1≤cU.top x y∧cU.top x y≤101:=by unfold cU.top;split <;> (first | exact ⟨cO 23 12 ry.1,cO 23 13 ry.2⟩ | exact ⟨cO 23 12 rx.1,cO 23 13 rx.2⟩)
   have etop:cU.top x y=(((cU.top x y).toNat:Nat):Int):=by exact nS 23 15 (BG _) (tn1 (cO 23 14 ht.1))
   refine aG (aO (d:=.int (cU.top x y)) S3 ?e (fun s4 S4 c4=>?_) (.inl rfl) rfl)
   case e=>
    unfold cU.top;refine Ev.bin (Ev.call (by ktr_rel) Kp.builtin (Es.cons (d:=.int x.run) ?m1 (Es.one (d:=.int y.run) ?m2 (by rfl)) (by rfl)) (Cl.max2 hA'.hh)) (by ktr_rel) Bo.add
    case m1=>exact Ev.meth (d0:=x.D) (by ktr_rel) (Mt.obj S3.wd cls147 rfl (qR (P:=w.params)).mem rfl) (Kp.fn S3.wd (qR (P:=w.params)).mem) Es.nil (aCD hA' S3.wd (by exact N1 3 22 h1.1))
    case m2=>exact Ev.meth (d0:=y.D) (by ktr_rel) (Mt.obj S3.wd cls147 rfl (qR (P:=w.params)).mem rfl) (Kp.fn S3.wd (qR (P:=w.params)).mem) Es.nil (aCD hA' S3.wd (by exact N1 3 22 h1.2))
   let Iv0:Nat→(Str→Option D)→List (Addr×D)→Prop:=fun i l mu=>mu=[]∧l "self"=some x.D∧l "other"=some y.D∧((Aa i).all fun k=>!decide (y.level (k+2)≤x.level (k+2)))=true
   refine fT hA' S4 (mV (a:=2) (m:=(cU.top x y).toNat+1) hA' ?src (by lia) (by exact nS 5 18 ht.2 etop)) (by intro q;cases q)
    Iv0 ⟨rfl,rfl,rfl,rfl⟩ ?_ ?_
   case src=>
    have:(((cU.top x y).toNat+1:Nat):Int)=cU.top x y+1:=by exact nS 5 19 etop
    rw [this];exact Ev.call (by ktr_rel) Kp.type (by kcj_m) Cl.range2
   ·intro i d X1 s5 l5 mu5 hd hI
    refine eG hI ?_;clear hI;rintro rfl g1 g2 g3;refine mpR hd fun hin q=>?_;clear hd;subst q;intro hmu hX hle S5;refine ⟨_,.name (.inl rfl),fun s6 S6 Q1 kq=>?_⟩;refine gB S6 (b:=decide (y.level (2+i)≤x.level (2+i))) ?t2 (fun hq s7 S7 k7=>?_) fun hq s7 S7 k7=>?_
    case t2=>
     refine Tr.cmp (Ev.meth (d0:=x.D) (d:=.int (x.level (2+i))) (by ktr_rel) (Mt.obj S6.wd cls147 rfl (iW (P:=w.params)).mem rfl) (Kp.fn S6.wd (iW (P:=w.params)).mem) (by kcj_m) (vY hA' S6.wd (by exact N1 3 22 h1.1) (by exact ⟨N1 5 20,aGQ 5 21 ht.2 etop hin (AD _ _)⟩))) (Ev.meth (d0:=y.D) (d:=.int (y.level (2+i))) (by ktr_rel) (Mt.obj S6.wd cls147 rfl (iW (P:=w.params)).mem rfl) (Kp.fn S6.wd (iW (P:=w.params)).mem) (by kcj_m) (vY hA' S6.wd (by exact N1 3 22 h1.2) (by exact ⟨N1 5 20,aGQ 5 21 ht.2 etop hin (AD _ _)⟩))) Bo.ge (by with_unfolding_all rfl)
    ·refine dJ S7 Ev.bool fun v s8 r8 S8 k8=>kq (Or.inr ⟨_,[],S8,rfl,fun S9=>k0 ?_ S9.base⟩)
     have:cU.less x y=false:=by
      unfold cU.less;rw [if_neg (by rw [hb];decide),if_neg (by rw [hc];decide)];refine Hk.mpr fun q=>?_;have:=A8.mp q i (Bb.mpr (by lia));rw [CG 2 i] at hq;rw [hq] at this;cases this
     rw [this];exact r8.mono (bV hX)
    ·refine aG (aG (kq ⟨_,[],?_,S7,rfl⟩))
     refine ⟨rfl,g1,g2,?_⟩;rw [AT,H6,g3];rw [CG 2 i] at hq;simp [hq]
   ·intro s5 l5 mu5 hI
    refine eG hI ?_;clear hI;rintro rfl g1 g2 g3;intro hmu S5;refine aG (dJ S5 Ev.bool fun v s6 r6 S6 k6=>k0 ?_ S6.base);have:cU.less x y=true:=by
     unfold cU.less;rw [if_neg (by rw [hb];decide),if_neg (by rw [hc];decide)];simp only [Ac,Al] at g3;have e:(cU.top x y).toNat+1 - 2=(cU.top x y).toNat - 1:=by exact N3 6 1 eB eB (cY (nS 5 22 ht.1 etop)) (cY (nS 6 0 ht.1 etop))
     rw [e] at g3;exact g3
    rw [this];exact r6
end
end
theorem aGl {P:Cf}:readsIn (kS P) 147 (.type "type")=true:=by kernel_rfl
theorem aFT {P:Cf}:findCls (kS P) (.ref 147) (.type "type") "S"=some (.val (.str " " 343)):=by kernel_rfl
theorem aFU {P:Cf}:findCls (kS P) (.ref 147) (.type "type") "T"=some (.val (.str "\t" 344)):=by kernel_rfl
structure fS where
 n:Int
 nt:Int
 cs:List Int
 b:Nat
noncomputable def fS.tab (st:fS):fS:=
 let cs:=if st.cs.length≤st.b then st.cs++As (st.b - st.cs.length+1) 0 else st.cs
 ⟨st.n+1,st.nt+1,cs.set st.b (cs[st.b]?.getD 0+1),0⟩
noncomputable def eA:List Nat→fS→fS
 | [],st=>st
 | c::r,st=>if (⟨#[c]⟩:Str)==" " then eA r { st with n:=st.n+1,b:=st.b+1 } else if (⟨#[c]⟩:Str)=="\t" then eA r st.tab else st
theorem fA {c r st}:eA (c::r) st=if (⟨#[c]⟩:Str)==" " then eA r { st with n:=st.n+1,b:=st.b+1 } else if (⟨#[c]⟩:Str)=="\t" then eA r st.tab else st:=rfl
noncomputable def cU.of (ws:Str):cU:=
 let st:=eA ws.cps.toList ⟨0,0,[],0⟩
 ⟨ws,st.n,st.nt,st.cs,st.b⟩
theorem tF:∀ {l:List (Str×D)} {y:Str},l.lookup y=none→∀ p∈l,y≠p.1
 | (k,d)::r,y,h,p,m=>by
  rw [FS] at h;cases e:y==k with
  | true=>rw [e] at h;cases h
  | false=>
   rw [e] at h;refine cK m (fun q=>?_) fun m=>?_
   ·subst q;intro z;rw [z] at e;simp at e
   ·exact tF h p m
theorem wN (k:Nat) (x:D):(As k [x]).flatten=As k x:=by
 induction k with
 | zero=>rfl
 | succ k ih=>rw [D4,BU,ih,D4];rfl
section
theorem Ev.clsAttr {o name pos v d} (ho:Ev w X A env h o (.val (.ref 147))) (W:Wd w (T1 w.params) (hx X h)) (hr:findCls (kS w.params) (.ref 147) (.type "type") name=some (.val v)) (hp:∀ g,Rp w g v d) (hh:handedIn v=true)
  (he:∀ env,eval (.Attribute o name pos) env=(do
   let ov ← eval o env
   standAt pos.atName
   let r ← holding [ov] (getAttr ov name true)
   letTemporaryGo o ov r
   pure r):=by intro _;with_unfolding_all rfl):Ev w X A env h (.Attribute o name pos) d:=.mk fun s hX k=>by
 refine Gw (ho.use hX k fun v0 s1 r0 k1=>?_) (he _);cases r0.ofVal;have kk:=k.trans (aN k1);refine cls_value (K:=kS w.params) ((W.mono (aL kk)).mono aR).frag aGl hr hh ⟨hp _,aD k1 dG⟩
structure WL (xd:D) (a:Addr) (st:fS) (l:Str→Option D):Prop where
 count:l "count"=some (.val (.ref a))
 b:l "b"=some (.int (st.b:Int))
 n:l "n"=some (.int st.n)
 nt:l "nt"=some (.int st.nt)
 S:l "S"=some (.str " ")
 T:l "T"=some (.str "\t")
 self:l "self"=some xd
theorem WL.up {xd a st l x d} (q:WL xd a st l) (h:x∉(["count","b","n","nt","S","T","self"]:List Str)):WL xd a st (up l x d):=by
 have f:∀ y∈(["count","b","n","nt","S","T","self"]:List Str),y≠x:=fun y m e=>h (e▸m);exact ⟨(aA (f _ (.head _))).trans q.count,(aA (f _ (.tail _ (.head _)))).trans q.b,(aA (f _ (.tail _ (.tail _ (.head _))))).trans q.n,(aA (f _ (.tail _ (.tail _ (.tail _ (.head _)))))).trans q.nt,(aA (f _ (.tail _ (.tail _ (.tail _ (.tail _ (.head _))))))).trans q.S,(aA (f _ (.tail _ (.tail _ (.tail _ (.tail _ (.tail _ (.head _)))))))).trans q.T,(aA (f _ (.tail _ (.tail _ (.tail _ (.tail _ (.tail _ (.tail _ (.head _))))))))).trans q.self⟩
theorem WL.upN {xd a st l k} (q:WL xd a st l):WL xd a { st with n:=k } (Mine.Internal.up l "n" (.int k)):=
 ⟨(aA (by decide)).trans q.count,(aA (by decide)).trans q.b,aE,(aA (by decide)).trans q.nt,(aA (by decide)).trans q.S,(aA (by decide)).trans q.T,(aA (by decide)).trans q.self⟩
theorem WL.upNt {xd a st l k} (q:WL xd a st l):WL xd a { st with nt:=k } (Mine.Internal.up l "nt" (.int k)):=
 ⟨(aA (by decide)).trans q.count,(aA (by decide)).trans q.b,(aA (by decide)).trans q.n,aE,(aA (by decide)).trans q.S,(aA (by decide)).trans q.T,(aA (by decide)).trans q.self⟩
theorem WL.upB {xd a st l} {k:Nat} (q:WL xd a st l):WL xd a { st with b:=k } (Mine.Internal.up l "b" (.int (k:Int))):=
 ⟨(aA (by decide)).trans q.count,aE,(aA (by decide)).trans q.n,(aA (by decide)).trans q.nt,(aA (by decide)).trans q.S,(aA (by decide)).trans q.T,(aA (by decide)).trans q.self⟩
theorem WL.upC {xd a a' st l cs} (q:WL xd a st l):WL xd a' { st with cs:=cs } (Mine.Internal.up l "count" (.val (.ref a'))):=
 ⟨aE,(aA (by decide)).trans q.b,(aA (by decide)).trans q.n,(aA (by decide)).trans q.nt,(aA (by decide)).trans q.S,(aA (by decide)).trans q.T,(aA (by decide)).trans q.self⟩
noncomputable def aGV (ws:Str) (xd:D) (i:Nat) (l:Str→Option D) (mu:List (Addr×D)):Prop:=
 ∃ a st,mu=[(a,.list (st.cs.map .int))]∧WL xd a st l∧eA (ws.cps.toList.drop i) st=eA ws.cps.toList ⟨0,0,[],0⟩∧st.cs.length≤i∧st.b≤i
noncomputable def aGw:Stmt→List Stmt×List Stmt
 | .For _ _ b o _=>(b,o)
 | .If _ b o _=>(b,o)
 | _=>([],[])
noncomputable def aFv:List Stmt:=(aGw ((pV.1.drop 4).headD (.Pass ⟨0,0,0,0⟩))).1
noncomputable def aGX:List Stmt:=(aGw ((aGw (aFv.headD (.Pass ⟨0,0,0,0⟩))).2.headD (.Pass ⟨0,0,0,0⟩))).1
theorem aGI {n L xd a} {st:fS} {F6 X1:List Addr} {s6:Ak} {Qf:Flow→Ak→Prop} (hA:dF n A) (S:St w (T1 w.params) s6 F6 X1 (aI cQ 102 L) s l [(a,.list (st.cs.map .int))]) (q:WL xd a st l) (hF:∀ y∈F6,y∈X1)
  (h1:st.cs.length≤90) (h2:st.b≤90) (k:∀ N s' l' a',(∀ y∈N,s6.heap.get? y=none)→St w (T1 w.params) s6 F6 (N++X1) (aI cQ 102 L) s' l' [(a',.list (st.tab.cs.map .int))]→WL xd a' st.tab l'→Qf .next s') :
  Xs w A aGX (aI cQ 102 L) Qf (fun _ _=>False) s:=by
 have tail:∀ N s' l' a' (st':fS),(∀ y∈N,s6.heap.get? y=none)→St w (T1 w.params) s6 F6 (N++X1) (aI cQ 102 L) s' l' [(a',.list (st'.cs.map .int))]→WL xd a' st' l'→st'.b<st'.cs.length→st'.cs.length≤1000→
   st.tab=⟨st'.n,st'.nt,st'.cs.set st'.b (st'.cs[st'.b]?.getD 0+1),0⟩→Xs w A (aGX.drop 3) (aI cQ 102 L) Qf (fun _ _=>False) s':=fun N s' l' a' st' hN S' q' hb hl e=>by
  have Sf:=S'.froz q'.count rfl;have e1:((st'.cs.map D.int)[st'.b]?)=some (.int (st'.cs[st'.b]?.getD 0)):=by rw [Ar,Ah hb];rfl
  refine aEr (pre:=[]) (post:=[]) (j:=st'.b) (d:=.int (st'.cs[st'.b]?.getD 0+1)) S' q'.count ?e ?kk (by rw [Ac];exact hb) (by rw [Ac];exact N1 5 13 hl) fun s2 S2=>?_
  case e=>
   refine Ev.lookX (a:=a') (Ev.bin (Ev.sub (nmS Sf aE) (Ev.name (Sf.nm ((aA (by decide)).trans q'.b))) (Bo.item_list ⟨BW _,e1⟩ (by exact N2 6 2 hb hl))) (by ktr_rel) Bo.add) rfl
  case kk=>exact nmS S' q'.b
  refine aO (d:=.int ((0:Nat):Int)) S2 (by ktr_rel) (fun s3 S3 c3=>aG (k N s3 (Mine.Internal.up l' "b" (.int ((0:Nat):Int))) a' hN ?_ ?_)) (.inl rfl) rfl
  ·have:(st'.cs.map D.int).set st'.b (.int (st'.cs[st'.b]?.getD 0+1))=st.tab.cs.map .int:=by rw [e];exact (List.map_set ..).symm
   exact this▸S3
  ·rw [e];exact WL.upB (st:=⟨st'.n,st'.nt,st'.cs.set st'.b (st'.cs[st'.b]?.getD 0+1),st'.b⟩) (k:=0) ⟨q'.count,q'.b,q'.n,q'.nt,q'.S,q'.T,q'.self⟩
 have p1:=q.n;have p2:=q.nt;refine aO (d:=.int (st.n+1)) S (by ktr_rel) (fun s2 S2 c2=>?_) (.inl rfl) rfl;have q2:WL xd a { st with n:=st.n+1 } (Mine.Internal.up l "n" (.int (st.n+1))):=q.upN;generalize up l "n" (.int (st.n+1))=l2 at S2 q2;have p3:=q2.nt;refine aO (d:=.int (st.nt+1)) S2 (by ktr_rel) (fun s3 S3 c3=>?_) (.inl rfl) rfl;have q3:WL xd a { st with n:=st.n+1,nt:=st.nt+1 } _:=q2.upNt;generalize up l2 "nt" (.int (st.nt+1))=l3 at S3 q3;have Sf:=S3.froz q3.count rfl;have g1:(up l3 "count" (.list (st.cs.map .int))) "b"=some (.int (st.b:Int)):=(aA (by decide)).trans q3.b;have g5:(up l3 "count" (.list (st.cs.map .int))) "count"=some (.list (st.cs.map .int)):=aE;generalize up l3 "count" (.list (st.cs.map .int))=l3f at Sf g1 g5;have hlen:((st.cs.map D.int).length:Int)=(st.cs.length:Int):=by simp
 refine gB S3 (b:=decide (((st.cs.map D.int).length:Int)≤(st.b:Int))) (Tr.lookX (a:=a) ?t) (fun hb s4 S4 k4=>?_) fun hb s4 S4 k4=>?_
 case t=>
  exact Tr.cmp (by ktr_rel) (Ev.call (by ktr_rel) Kp.builtin (by kcj_m) (Cl.len_list (by rw [Ac];exact N1 6 3 h1)) (by rfl)) Bo.ge (by with_unfolding_all rfl)
 ·have hb':st.cs.length≤st.b:=by have:=of_decide_eq_true hb;exact N3 6 4 hlen (of_decide_eq_true hb :)
  have Sf4:=Sf.keeps k4;refine yT (ds:=st.cs.map .int++As (st.b - st.cs.length+1) (.int 0)) S4 (cF (aBm (X:=wo a X1) (h:=s4.heap) ?e1 ?e2 (by simp;exact N3 6 5 h1 h2 (AD _ _)) S4.live.wo aZ.rfl) fun _ _ z=>z) (by simp [flat]) (fun a' s5 S5 fa=>?_) (.inl rfl) rfl
  case e1=>exact nmS Sf4 g5
  case e2=>
   have e:As (st.b - st.cs.length+1) (D.int 0)=(As ((st.b:Int) - ((st.cs.map D.int).length:Int)+1).toNat [D.int 0]).flatten:=by
    rw [wN,hlen];congr 1;exact N4 23 17 eB (BG _) (cY (N3 6 4 hlen (of_decide_eq_true hb :))) (tn1 (N3 23 16 hlen (of_decide_eq_true hb :)))
   rw [e];refine Ev.bin (Ev.list (Es.cons (by ktr_rel) .nil (by rfl)) (by krn_off)) ?e3 (Bo.mul_li (by exact N2 6 6 (of_decide_eq_true hb :)) (by exact N2 6 7 h2) (by krn_off));exact Ev.bin (Ev.bin (nmS Sf4 g1) (Ev.call (by ktr_rel) Kp.builtin (Es.cons (nmS Sf4 g5) .nil (by rfl)) (Cl.len_list (by rw [Ac];exact N1 6 3 h1)) (by rfl)) Bo.sub) (by ktr_rel) Bo.add
  have e:st.cs.map D.int++As (st.b - st.cs.length+1) (.int 0)=(st.cs++As (st.b - st.cs.length+1) 0).map .int:=by simp
  rw [e] at S5;have hN:∀ y∈[a'],s6.heap.get? y=none:=fun y m=>by
   rw [bH m];refine BH (jA S4.base fa) (fun z=>?_) fun z=>?_
   ·refine ob11 (S4.live.1 _ (hF _ z)) fun o q=>?_;rw [fa] at q;cases q
   ·exact z
  refine aG (tail [a'] s5 _ a' { st with n:=st.n+1,nt:=st.nt+1,cs:=st.cs++As (st.b - st.cs.length+1) 0 } hN S5.drop2 q3.upC (by simp;exact N3 6 8 eB) (by simp;exact N3 6 9 h1 h2 (AD _ _)) ?_);unfold fS.tab;simp only [if_pos hb']
 ·have hb':¬ st.cs.length≤st.b:=by have:=of_decide_eq_false hb;exact N3 6 10 hlen (of_decide_eq_false hb :)
  refine aG (tail [] s4 _ a { st with n:=st.n+1,nt:=st.nt+1 } (fun _ m=>nomatch m) S4 q3 (by simp;lia) (by simp;exact N1 6 11 h1) ?_);unfold fS.tab;simp only [if_neg hb']
theorem aFk {n L xd a c} {st:fS} {F6 X1:List Addr} {s6:Ak} {Qf:Flow→Ak→Prop} (hA:dF n A) (S:St w (T1 w.params) s6 F6 X1 (aI cQ 102 L) s l [(a,.list (st.cs.map .int))]) (q:WL xd a st l) (hc:l "ch"=some (.str ⟨#[c]⟩)) (hF:∀ y∈F6,y∈X1)
  (h1:st.cs.length≤90) (h2:st.b≤90)
  (k1:((⟨#[c]⟩:Str)==" ")=true→∀ s' l',St w (T1 w.params) s6 F6 ([]++X1) (aI cQ 102 L) s' l' [(a,.list (st.cs.map .int))]→WL xd a { st with n:=st.n+1,b:=st.b+1 } l'→Qf .next s')
  (k2:((⟨#[c]⟩:Str)==" ")=false→((⟨#[c]⟩:Str)=="\t")=true→∀ N s' l' a',(∀ y∈N,s6.heap.get? y=none)→St w (T1 w.params) s6 F6 (N++X1) (aI cQ 102 L) s' l' [(a',.list (st.tab.cs.map .int))]→WL xd a' st.tab l'→Qf .next s')
  (k3:((⟨#[c]⟩:Str)==" ")=false→((⟨#[c]⟩:Str)=="\t")=false→∀ s',St w (T1 w.params) s6 F6 ([]++X1) (aI cQ 102 L) s' l [(a,.list (st.cs.map .int))]→Qf .brk s') :
  Xs w A aFv (aI cQ 102 L) Qf (fun _ _=>False) s:=by
 have p1:=q.n;have p2:=q.b;have p3:=q.S;have p4:=q.T;refine gB S (b:=(⟨#[c]⟩:Str)==" ") (by kcf_m) (fun hb s8 S8 k8=>?_) fun hb s8 S8 k8=>?_
 ·refine aO (d:=.int (st.n+1)) S8 (by ktr_rel) (fun s9 S9 c9=>?_) (.inl rfl) rfl
  have q2:WL xd a { st with n:=st.n+1 } (Mine.Internal.up l "n" (.int (st.n+1))):=q.upN;generalize Mine.Internal.up l "n" (.int (st.n+1))=l2 at S9 q2;have p5:=q2.b;refine aO (d:=.int ((st.b+1:Nat):Int)) S9 (by ktr_rel) (fun s10 S10 c10=>aG (aG (k1 hb s10 (Mine.Internal.up l2 "b" (.int ((st.b+1:Nat):Int))) S10 (WL.upB (k:=st.b+1) q2)))) (.inl rfl) rfl
 ·refine gB S8 (b:=(⟨#[c]⟩:Str)=="\t") (by kcf_m) (fun hb2 s9 S9 k9=>?_) fun hb2 s9 S9 k9=>?_
  ·exact aGI hA S9 q hF h1 h2 fun N s' l' a' hN S' q'=>aG (aG (k2 hb hb2 N s' l' a' hN S' q'))
  ·exact cI (wpAny_Break (k3 hb hb2 s9 S9))
theorem wUp {m:Str→Option Ag} {ns:List Str} {n:Str} {v:Ag} (h:Jj m ns):Jj (fun y=>if y=n then some v else m y) (n::ns):=fun y hy=>by
 by_cases z:y=n
 ·rw [z];exact .head _
 ·dsimp only at hy;rw [if_neg z] at hy;exact .tail _ (h y hy)
theorem aFj {n L x dx a v0} {ws:Str} {st:fS} {X' Xo:List Addr} {Qf:Flow→Ak→Prop} (hA:dF n A) (S:St w (T1 w.params) s₀ [x,dx] X' (aI cQ 102 L) s l [(a,.list (st.cs.map .int))])
  (hc:l "count"=some (.val (.ref a))) (hb:l "b"=some (.int (st.b:Int))) (hn:l "n"=some (.int st.n)) (hnt:l "nt"=some (.int st.nt)) (hself:l "self"=some (.val (.ref x))) (hlen:st.cs.length≤1000)
  (I:kJ s.heap x dx 147 fun y=>if y="raw" then some v0 else none) (r0:∀ g,Rp w g v0 (.str ws)) (mX:x∈X'∧dx∈X') (nE:x∉Fp (aI cQ 102 L)∧dx∉Fp (aI cQ 102 L)) (na:x≠a∧dx≠a) (sub:∀ y∈Xo,y∈X'∧y≠a) (xo:x∉Xo∧dx∉Xo)
  (k:∀ s',Rp w (hx Xo s'.heap) (.ref x) (cU.D ⟨ws,st.n,st.nt,st.cs,st.b⟩)→Ch [x,dx] s₀ s'→Qf .next s'):Xs w A (pV.1.drop 5) (aI cQ 102 L) Qf (fun _ _=>False) s:=by
 have S0:=S.froz hc rfl;have g1:(up l "count" (.list (st.cs.map .int))) "b"=some (.int (st.b:Int)):=(aA (by decide)).trans hb;have g2:(up l "count" (.list (st.cs.map .int))) "n"=some (.int st.n):=(aA (by decide)).trans hn;have g3:(up l "count" (.list (st.cs.map .int))) "nt"=some (.int st.nt):=(aA (by decide)).trans hnt;have g4:(up l "count" (.list (st.cs.map .int))) "self"=some (.val (.ref x)):=(aA (by decide)).trans hself;have g5:(up l "count" (.list (st.cs.map .int))) "count"=some (.list (st.cs.map .int)):=aE;generalize up l "count" (.list (st.cs.map .int))=l' at S0 g1 g2 g3 g4 g5;have hlen':((st.cs.map D.int).length:Int)=(st.cs.length:Int):=by simp
 have mX':x∈wo a X'∧dx∈wo a X':=⟨oM mX.1 na.1,oM mX.2 na.2⟩;refine fU (d:=.int st.n) (x:=x) (dx:=dx) S0 g4 ?e1 I cls147 mX' ⟨.head _,.tail _ (.head _)⟩ nE (fun _ m=>nomatch m) (fun v1 s1 r1 S1 I1 k1=>?_) (wUp Fg) (by decide)
 case e1=>ktr_rel
 refine fU (d:=.int st.nt) (x:=x) (dx:=dx) S1 g4 ?e2 I1 cls147 mX' ⟨.head _,.tail _ (.head _)⟩ nE (fun _ m=>nomatch m) (fun v2 s2 r2 S2 I2 k2=>?_) (wUp (wUp Fg)) (by decide)
 case e2=>ktr_rel
 refine fU (d:=.tup [.tup (st.cs.map .int),.int (st.b:Int)]) (x:=x) (dx:=dx) S2 g4 ?e3 I2 cls147 mX' ⟨.head _,.tail _ (.head _)⟩ nE (fun _ m=>nomatch m) (fun v3 s3 r3 S3 I3 k3=>?_) (wUp (wUp (wUp Fg))) (by decide)
 case e3=>
  refine Ev.tup (Es.cons (Ev.call (by ktr_rel) Kp.type (by kcj_m) (Cl.tuple_list (by rw [Ac];exact N1 5 13 hlen)) (by rfl)) (Es.cons (by ktr_rel) .nil (by rfl)) (by rfl)) (by krn_off)
 refine fU (d:=.bool (decide ((st.cs.length:Int)≤1))) (x:=x) (dx:=dx) S3 g4 ?e4 I3 cls147 mX' ⟨.head _,.tail _ (.head _)⟩ nE (fun _ m=>nomatch m) (fun v4 s4 r4 S4 I4 k4=>?_) (wUp (wUp (wUp (wUp Fg)))) (by decide)
 case e4=>
  rw [← hlen'];refine Ev.cmp (Ev.call (by ktr_rel) Kp.builtin (by kcj_m) (Cl.len_list (by rw [Ac];exact N1 5 13 hlen)) (by rfl)) (by ktr_rel) Bo.le (by with_unfolding_all rfl)
 refine aG (k s4 ?_ S4.base);have less:aZ (hx (wo a X') s4.heap) (hx Xo s4.heap):=bV fun y m=>oM (sub y m).1 (sub y m).2;refine .obj (m:=fun y=>if y="is_simple" then some v4 else if y="norm" then some v3 else if y="nt" then some v2 else if y="n" then some v1 else if y="raw" then some v0 else none) ?_ (fun y hy=>?_) ?_
 ·refine ob14 I4.obj fun o ho hc hd hn=>?_
  refine ⟨o,bU ho xo.1,hc,hn,.inr ⟨dx,hd,I4.ne,?_⟩⟩;refine fW I4.ns fun o2 es ep ho2 z=>?_;exact ⟨o2,es,ep,bU ho2 xo.2,z⟩
 ·have q:=tF hy
  exact (if_neg (q _ (.tail _ (.tail _ (.tail _ (.tail _ (.head _))))))).trans ((if_neg (q _ (.tail _ (.tail _ (.tail _ (.head _)))))).trans ((if_neg (q _ (.tail _ (.tail _ (.head _))))).trans ((if_neg (q _ (.tail _ (.head _)))).trans (if_neg (q _ (.head _))))))
 ·have lk:∀ {v d},Rp w (hx (wo a X') s1.heap) v d→Rp w (hx Xo s4.heap) v d:=fun r=>(r.mono ((k2.trans k3).trans k4)).mono less
  exact .cons (by rfl) (r0 _) (.cons (by rfl) (lk r1) (.cons (by rfl) ((r2.mono (k3.trans k4)).mono less) (.cons (by rfl) ((r3.mono k4).mono less) (.cons (by rfl) (r4.mono less) .nil))))
theorem aEf {n} {ws:Str} (hA:dF (n+2) A) (W:Wd w (T1 w.params) (hx X h)) (hws:ws.cps.size≤90):Cl w X A h (.ref 147) [] [.str ws] (cU.of ws).D:=.mk fun s fs vs hX k rf rv=>by
 cases rf;refine ob12 rv.c1 ?_;rintro _ rfl a;rename_i v;have W':=W.mono (aL k);have Wl:=W'.mono aR;have K:=Wl.cls _ cls147;refine kY K.obj fun nm q bs sn sub col dd k0 k1 k2 k3 k5 hC=>?_;obtain ⟨⟨o,ho,hc,hd⟩,_⟩:=Wl.fns _ (wT (P:=w.params)).mem;obtain ⟨hh,g,dr,tk,os⟩:=s;refine G0 IF hC K.ns rfl ho hc fun h1 x dx Mk=>?_;have k1':A0 ⟨hh,g,dr,tk,os⟩ ⟨h1,g,dr,tk,os⟩:=⟨h1,tk,rfl,Mk.keeps⟩;have I0:=aDj Mk;have dxa:∃ o,h1.get? dx=some o:=let ⟨o,_,_,e,_⟩:=I0.ns;⟨o,e⟩;have xa:∃ o,h1.get? x=some o:=let ⟨o,e,_⟩:=I0.obj;⟨o,e⟩;have hX':XL (x::dx::X) h1:=⟨fun y m=>by
  refine cK m (fun e=>?_) fun m=>?_
  ·rw [e];exact xa
  ·refine cK m (fun e=>?_) fun m=>?_
   ·rw [e];exact dxa
   ·exact (hX.mono (aN k1')).1 y m,(hX.mono (aN k1')).2⟩
 have up':aZ (hx X hh) (hx (x::dx::X) h1):=aJ (fun b o _ e=>Mk.keeps _ _ e) fun y m=>by
  refine cK m (fun e=>?_) fun m=>?_
  ·exact .inr (e▸Mk.newX)
  ·refine cK m (fun e=>?_) fun m=>?_
   ·exact .inr (e▸Mk.newD)
   ·exact .inl m
 have xX:x∉X:=fun m=>by refine ob11 (hX.1 x m) fun o e=>?_;rw [Mk.newX] at e;cases e
 have dX:dx∉X:=fun m=>by refine ob11 (hX.1 dx m) fun o e=>?_;rw [Mk.newD] at e;cases e
 refine nV (s:=⟨h1,g,dr,tk,os⟩) (F:=[x,dx]) (mu:=[]) wT (yF hA) hX' (W'.mono up') (.cons (.val _) (.cons (a.mono up') .nil)) rfl (fun y m=>by
  refine cK m (fun e=>?_) fun m=>?_
  ·rw [e];exact .head _
  ·rw [bH m];exact .tail _ (.head _)) (fun _ m=>nomatch m) .nil fun L s1 hA' S k2 fr=>?_
 have notE:∀ y,(∃ o,h1.get? y=some o)→y∉Fp (aI cQ 102 L):=fun y ⟨o,e⟩ m=>by rw [fr y m] at e;cases e
 have nE:x∉Fp (aI cQ 102 L)∧dx∉Fp (aI cQ 102 L):=⟨notE x xa,notE dx dxa⟩;have fin:∀ s',Rp w (hx X s'.heap) (.ref x) (cU.of ws).D→Ch [x,dx] ⟨h1,g,dr,tk,os⟩ s'→Ag.none=Ag.none∧Rp w (hx X s'.heap) (.ref x) (cU.of ws).D∧A0 ⟨hh,g,dr,tk,os⟩ s':=fun s' r c=>by
  refine ⟨rfl,r,?_⟩;refine pH c ?_;clear c;rintro h3 t3 g3 rfl kk gg _;have hp:(∃ o,h1.get? aK=some o):=hX'.2;have nT:aK∉[x,dx]:=fun m=>by
   refine ob11 hX.2 fun o e=>?_;refine cK m (fun q=>?_) fun m=>?_
   ·rw [q,Mk.newX] at e;cases e
   ·rw [bH m,Mk.newD] at e;cases e
  cases gg hp nT;refine ⟨h3,t3,rfl,fun b o e=>kk b o (fun m=>?_) (Mk.keeps _ _ e)⟩;refine cK m (fun q=>?_) fun m=>?_
  ·rw [q,Mk.newX] at e;cases e
  ·rw [bH m,Mk.newD] at e;cases e
 refine fU (x:=x) (dx:=dx) (d:=.str ws) S rfl (by ktr_rel) (I0.at (fun o e=>aN k2 _ _ e) (fun o e=>aN k2 _ _ e)) cls147 ⟨Ad _ (.head _),Ad _ (.tail _ (.head _))⟩ ⟨.head _,.tail _ (.head _)⟩
  nE (fun _ m=>nomatch m) (fun v0 s2 r0 S2 I2 _=>?_) Fg (by decide)
 have r0':∀ g,Rp w g v0 (.str ws):=fun g=>r0.flat rfl;refine qL (xs:=["S","T"]) (ds:=[.str " ",.str "\t"]) hA'.hh S2 (Ev.tup (Es.cons ?e1 (Es.cons ?e2 .nil (by rfl)) (by rfl)) (by krn_off)) rfl (fun y m=>?o) (fun s3 S3 c3=>?_)
 case e1=>exact Ev.clsAttr (by ktr_rel) S2.wd aFT (fun g=>.str _ _) rfl
 case e2=>exact Ev.clsAttr (by ktr_rel) S2.wd aFU (fun g=>.str _ _) rfl
 case o=>
  refine cK m (fun e=>?_) fun m=>?_
  ·rw [e];exact .inl rfl
  ·rw [bH m];exact .inl rfl
 have I3:=I2.at (fun o e=>c3.get nE.1 e) (fun o e=>c3.get nE.2 e);refine wF S3 (fun ac s4 S4 fa c4=>?_) (.inl rfl) rfl;have I4:=I3.at (fun o e=>c4.get nE.1 e) (fun o e=>c4.get nE.2 e);refine aCZ (d:=.int 0) S4 (by ktr_rel) (.inl rfl) (.inl rfl) (.inl rfl) fun s5 S5 c5=>?_;have I5:=I4.at (fun o e=>c5.get nE.1 e) (fun o e=>c5.get nE.2 e);have nac:x≠ac∧dx≠ac:=⟨fun e=>(by refine ob12 I3.obj fun o q _=>?_;rw [e,fa] at q;cases q),fun e=>(by refine fW I3.ns fun o _ _ q _=>?_;rw [e,fa] at q;cases q)⟩;have nTm:x∉Tm (aI cQ 102 L) [(ac,D.list [])]∧dx∉Tm (aI cQ 102 L) [(ac,D.list [])]:=⟨fun m=>by
  refine gJ m (fun m=>?_) fun m=>?_
  ·exact nE.1 m
  ·exact nac.1 (bH m),fun m=>by
  refine gJ m (fun m=>?_) fun m=>?_
  ·exact nE.2 m
  ·exact nac.2 (bH m)⟩
 -- what follows the loop
 have after:∀ (Qf:Flow→Ak→Prop) X1 s6 l6 mu6 i,(∀ s',Ag.none=Ag.none∧Rp w (hx X s'.heap) (.ref x) (cU.of ws).D∧A0 ⟨hh,g,dr,tk,os⟩ s'→Qf .next s')→aGV ws (.val (.ref x)) i l6 mu6→i≤90→(∀ y∈ac::(Fp (aI cQ 102 L)++x::dx::X),y∈X1)→(∀ st,eA (ws.cps.toList.drop i) st=eA ws.cps.toList ⟨0,0,[],0⟩→st=eA ws.cps.toList ⟨0,0,[],0⟩)→
   St w (T1 w.params) ⟨h1,g,dr,tk,os⟩ [x,dx] X1 (aI cQ 102 L) s6 l6 mu6→(∀ b o,b∉Tm (aI cQ 102 L) [(ac,D.list [])]→s5.heap.get? b=some o→s6.heap.get? b=some o)→
   Xs w _ (pV.1.drop 5) (aI cQ 102 L) Qf (fun _ _=>False) s6:=fun Qf X1 s6 l6 mu6 i qf hI hi hX1 hst S6 kp=>by
  refine aEQ hI ?_;clear hI;rintro a st rfl q1 q8 q9 q10;have e:=hst st q8;refine eG (S6.mus _ (.head _)) fun _ _ a3 _=>?_;have I6:=I5.at (fun o e=>kp _ _ nTm.1 e) (fun o e=>kp _ _ nTm.2 e);have na:x≠a∧dx≠a:=by
   cases S6.muAt (.head _) with
   | list p r=>
    refine ob11 p ?_;clear p;intro m p;refine ⟨fun e=>?_,fun e=>?_⟩
    ·refine ob13 I6.obj fun o q z _=>?_
     rw [e,p] at q;cases q;cases z
    ·refine xJ I6.ns fun o es ep q z _=>?_
     rw [e,p] at q;cases q;cases z
  have m1:∀ y∈x::dx::X,y∈X1:=fun y m=>hX1 y (.tail _ (Ad _ m));refine aFj (x:=x) (dx:=dx) (a:=a) (st:=st) (v0:=v0) (ws:=ws) (Xo:=X) hA' S6 q1.count q1.b q1.n q1.nt q1.self (by exact N2 6 12 hi q9) I6 r0' ⟨m1 x (.head _),m1 dx (.tail _ (.head _))⟩ nE na (fun y m=>⟨m1 y (.tail _ (.tail _ m)),fun e=>?_⟩) ⟨xX,dX⟩ fun s7 r7 c7=>qf s7 (fin s7 (by rw [e] at r7;exact r7) c7);refine BH a3 ?_ ?_ <;> clear a3 <;> intro z
  ·refine cK z (fun q=>?_) fun z=>?_
   ·exact na.1 q.symm
   ·exact na.2 (bH z).symm
  ·refine ob11 (hX'.1 y (.tail _ (.tail _ m))) fun o q=>?_
   rw [e,z] at q;cases q
 refine aAA hA' S5 (fX.of (d:=.str ws) ?src (iQ.str hA')) (by intro q;cases q) (aGV ws (.val (.ref x))) ⟨ac,⟨0,0,[],0⟩,rfl,⟨rfl,rfl,rfl,rfl,rfl,rfl,rfl⟩,rfl,Am _,Am _⟩ ?turn ?done
 case src=>exact Ev.attrMu (by ktr_rel) S5.wd cls147 I5 (if_pos rfl) (r0' _)
 case done=>
  intro X1 s6 l6 mu6 hI hX1 hle S6 kp;have hlen:(qA ws).length=ws.cps.toList.length:=by unfold qA;simp
  refine aG (after _ X1 s6 l6 mu6 _ (fun s' z=>z) hI (by rw [hlen,A6];exact hws) hX1 (fun st e=>?_) S6 kp);rw [hlen,HM] at e;exact e
 case turn=>
  intro i d X1 s6 l6 mu6 hd hI;refine aEQ hI ?_;clear hI;rintro a st rfl q q8 q9 q10;unfold qA at hd;refine mpL hd fun c hc q=>?_;clear hd;subst q;intro hX1 hle S6;refine ob11 (Aw.mp hc) fun hi hc'=>?_;have hi90:i<90:=by rw [A6] at hi;lia
  have hdrop:ws.cps.toList.drop i=c::ws.cps.toList.drop (i+1):=by rw [Bv hi,hc']
  have q8':=q8;rw [hdrop] at q8;refine ⟨_,.name (.inl rfl),fun s7 S7=>?_⟩;have p:=WL.up (x:="ch") (d:=.str ⟨#[c]⟩) q (by decide);have p8:(up l6 "ch" (.str ⟨#[c]⟩)) "ch"=some (.str ⟨#[c]⟩):=aE;generalize up l6 "ch" (.str ⟨#[c]⟩)=l7 at S7 p p8;refine aFk hA' S7 p p8 (fun y m=>?_) (by exact N2 6 13 q9 hi90) (by exact N2 6 13 q10 hi90) (fun hb s8 l8 S8 q'=>?_) (fun hb hb2 N s8 l8 a8 hN S8 q'=>?_) (fun hb hb2 s8 S8=>?_)
  ·refine gJ m (fun m=>?_) fun m=>?_
   ·exact S6.mem _ m
   ·rw [bH m];exact (S6.mus _ (.head _)).1
  ·rw [fA] at q8;rw [if_pos hb] at q8
   exact xD (N:=[]) (fun _ m=>nomatch m) ⟨a,_,rfl,q',q8,Nat.le_succ_of_le q9,DT q10⟩ S8
  ·rw [fA] at q8;rw [if_neg (by rw [hb];decide),if_pos hb2] at q8
   refine xD hN ⟨a8,_,rfl,q',q8,?_,Df _⟩ S8;unfold fS.tab;dsimp only;rw [EZ];split
   ·simp;exact N4 23 18 q10 (cY (N2 1 10 (by assumption)))
   ·lia
  ·rw [fA] at q8;rw [if_neg (by rw [hb];decide),if_neg (by rw [hb2];decide)] at q8
   refine aEH (N:=[]) (fun _ m=>nomatch m) S8 fun X' hX' S9 kp=>?_;exact after _ X' s8 _ _ i (fun s' z=>z) ⟨a,st,rfl,p,q8',q9,q10⟩ (by lia) hX' (fun st' e=>by rw [hdrop] at e;rw [fA] at e;rw [if_neg (by rw [hb];decide),if_neg (by rw [hb2];decide)] at e;exact e) S9 kp
end
theorem lG:∀ (cs:List Nat) (st:fS) (M:Nat),st.cs.length≤M→st.b≤M→(eA cs st).cs.length≤M+cs.length∧(eA cs st).b≤M+cs.length
 | [],st,M,h1,h2=>⟨h1,h2⟩
 | c::r,st,M,h1,h2=>by
  rw [fA,Aq];split
  ·have:=lG r { st with n:=st.n+1,b:=st.b+1 } (M+1) (by show st.cs.length≤M+1;lia) (by show st.b+1≤M+1;lia)
   exact ⟨N3 6 14 this.1,N3 6 14 this.2⟩
  ·split
   ·have:=lG r st.tab (M+1) (by
     unfold fS.tab;dsimp only;rw [EZ];split
     ·simp;exact N4 23 18 h2 (cY (N2 1 10 (by assumption)))
     ·lia) (Df _)
    exact ⟨N3 6 14 this.1,N3 6 14 this.2⟩
   ·exact ⟨N3 6 15 h1,N3 6 15 h2⟩
theorem cU.of_bound {ws:Str} (h:ws.length≤90):(cU.of ws).counts.length≤100∧0≤(cU.of ws).b∧(cU.of ws).b≤100:=by
 have:=lG ws.cps.toList ⟨0,0,[],0⟩ 0 (Am _) (Am _);have hl:ws.cps.toList.length=ws.length:=by show ws.cps.toList.length=ws.cps.size;simp
 rw [hl] at this;refine ⟨?_,?_,?_⟩
 ·show (eA ws.cps.toList ⟨0,0,[],0⟩).cs.length≤100;exact N2 6 16 h this.1
 ·show (0:Int)≤((eA ws.cps.toList ⟨0,0,[],0⟩).b:Int);lia
 ·show ((eA ws.cps.toList ⟨0,0,[],0⟩).b:Int)≤100;exact N2 6 17 h this.2
noncomputable def tC (seed:Nat) (rows:List aT) (r:aT):Str:=dA (cS seed rows) r++"?\t "
noncomputable def cT (seed:Nat) (rows:List aT):List cU:=rows.map fun r=>cU.of (tC seed rows r)
noncomputable def lA (pg:List cU) (k:Nat):cU:=pg[k]?.getD (cU.of "")
noncomputable def bG (rows:List aT) (k:Nat):aT:=rows[k]?.getD []
noncomputable def fG (pg:List cU) (rows:List aT) (row:Nat):Nat→Nat×List Bool
 | 0=>(0,[])
 | k+1=>if cU.less (lA pg k) (lA pg row) then (k,[true==((bG rows row).take (bG rows k).length==bG rows k)])
  else ((fG pg rows row k).1,(false==((bG rows row).take (bG rows k).length==bG rows k))::(fG pg rows row k).2)
noncomputable def fH (pg:List cU) (rows:List aT) (n:Nat):List Int:=-1::(Aa n).map fun k=>((fG pg rows (k+1) (k+1)).1:Int)
noncomputable def dZ (pg:List cU) (rows:List aT) (n:Nat):List Bool:=(Aa n).flatMap fun k=>(fG pg rows (k+1) (k+1)).2
noncomputable def cR (seed:Nat) (rows:List aT):List Int:=fH (cT seed rows) rows (rows.length - 1)
noncomputable def gW (seed:Nat) (rows:List aT):List Bool:=dZ (cT seed rows) rows (rows.length - 1)
theorem qC {pg rows row}:∀ k,(fG pg rows row k).2.length≤k
 | 0=>Am _
 | k+1=>by
  unfold fG;split
  ·simp
  ·have:=qC (pg:=pg) (rows:=rows) (row:=row) k
   simp;lia
noncomputable def jT:D→aT
 | .str x=>x.cps.toList.map fun c=>c==98
 | _=>[]
theorem dP {p:aT}:jT (.str (aC p))=p:=by
 show ((p.map rW).toArray.toList.map fun c=>c==98)=p;rw [An]
 conv=>rhs;rw [← Fv p]
 apply Av;intro b _;cases b <;> rfl
noncomputable def vH:D:=.list [.sdict [("a",.str "\t"),("b",.str "  ")],.sdict [("a",.str " "),("b",.str "\t")],.sdict [("a",.str "   \t"),("b",.str "  \t  ")],.sdict [("a",.str "\t"),("b",.str " \t")]]
theorem aDy {k:Nat} (hk:k<4):(match vH with | .list l=>l | _=>[])[k]?=some (.sdict [("a",.str (iE k false)),("b",.str (iE k true))]):=by
 cases k with
 | zero=>rfl
 | succ k=>cases k with
  | zero=>rfl
  | succ k=>cases k with
   | zero=>rfl
   | succ k=>cases k with
    | zero=>rfl
    | succ k=>exact absurd hk (CB.mpr (Ia 4 k))
theorem aBL {k:Nat} {b:Bool}:bE [(("a":Str),D.str (iE k false)),("b",.str (iE k true))] (⟨#[rW b]⟩:Str)=some (.str (iE k b)):=by
 cases b <;> rfl
section
theorem aFD {a b:Nat}:((a:Nat):Int).fmod (b:Int)=((a % b:Nat):Int):=by
 rw [Fc _ (by lia)];rfl
theorem mS {seed rows}:dK seed rows (rows.length - 1)=cS seed rows:=by
 unfold dK cS;rw [BJ (by rw [AW];lia)]
theorem yN {n a ds} {rows:List aT} {seed:Nat} {vs:List Ag} (hA:dF (n+3) A) (hX:XL X s.heap) (W:Wd w (T1 w.params) (hx X s.heap)) (ha:a∈X) (hm:cN w X s.heap a (.list ds)) (hl:ds.length≤1000) (R:dW rows)
  (r:cG w (hx X s.heap) vs [.list (rows.map fun p=>.str (aC p)),.int (seed:Int),.val (.ref a)]) :
  Au (AI prog w) A (call (.ref 195) vs []) (fun v s'=>Rp w (hx X s'.heap) v (.list ((cR seed rows).map .int))∧Ch [a] s s'∧cN w X s'.heap a (.list (ds++(gW seed rows).map .bool))) (fun _ _=>False) s:=by
 refine fZ (F:=[a]) (mu:=[(a,.list ds)]) wR hA hX W r rfl (fun y m=>by rw [bH m];exact ha) (fun p m=>by rw [bH m];exact ⟨.head _,hm⟩) (AS _ _) fun L s1 hA' S k1 Q0 k0=>?_;have okle:nB (aI jK 195 L) "leads":=dL rfl rfl;have rlen:((rows.map fun p=>D.str (aC p)).length)=rows.length:=Ac _;refine uP (d1:=.sdict (mD [([],nJ seed)])) (d2:=.list [.int (-1)]) hA'.hh S ?n1 ?n2 okle (.inl rfl) fun la hb s2 S2 fa fb=>?_
 case n1=>
  have e:mD [([],nJ seed)]=[(("":Str),D.str (nJ seed))]:=rfl;rw [e];refine nD.dictS (fun a ha=>.cons Ev.str ?v .nil) (by krn_off) (by krn_off) (by krn_off) rfl;refine Ev.sub Ev.str (Ev.slc .none (.some (Ev.bin (Ev.name ((S.nm rfl).hide ha)) Ev.int (Bo.fmod (by decide)))) .none) ?_;have:((seed:Int)).fmod 3=((seed % 3:Nat):Int):=aFD;rw [this];exact Bo.slice_str (by decide)
 case n2=>exact nD.list (Es.one (by ktr_rel) (by rfl)) rfl (by krn_off)
 refine aO (d:=vH) S2 (Ev.list (Es.cons ?p1 (Es.cons ?p2 (Es.cons ?p3 (Es.cons ?p4 .nil (by rfl)) (by rfl)) (by rfl)) (by rfl)) (by krn_off)) (fun s3 S3 c3=>?_) (.inl rfl) rfl
 case p1=>exact Ev.dictS (fun _ _=>.cons Ev.str Ev.str (.cons Ev.str Ev.str .nil)) (by decide) (by krn_off) (by krn_off)
 case p2=>exact Ev.dictS (fun _ _=>.cons Ev.str Ev.str (.cons Ev.str Ev.str .nil)) (by decide) (by krn_off) (by krn_off)
 case p3=>exact Ev.dictS (fun _ _=>.cons Ev.str Ev.str (.cons Ev.str Ev.str .nil)) (by decide) (by krn_off) (by krn_off)
 case p4=>exact Ev.dictS (fun _ _=>.cons Ev.str Ev.str (.cons Ev.str Ev.str .nil)) (by decide) (by krn_off) (by krn_off)
 have hitems:gP (rows.map fun p=>D.str (aC p)) (some ((1:Nat):Int)) none none=(rows.drop 1).map fun p=>D.str (aC p):=by rw [eH,FJ]
 let Iv0:Nat→(Str→Option D)→List (Addr×D)→Prop:=fun i l mu=>mu=[(hb,.list [.int (-1)]),(la,.sdict (mD (dK seed rows i))),(a,.list ds)]∧l "rows"=some (.list (rows.map fun p=>.str (aC p)))∧l "seed"=some (.int (seed:Int))∧l "notes"=some (.val (.ref a))∧l "leads"=some (.val (.ref la))∧l "heads"=some (.val (.ref hb))∧l "pairs"=some vH
 refine fT hA' S3 (fX.of (d:=.list ((rows.drop 1).map fun p=>D.str (aC p))) ?src (iQ.list hA')) (by intro q;cases q)
  Iv0 ⟨rfl,rfl,rfl,rfl,rfl,rfl,rfl⟩ ?_ ?_
 case src=>
  rw [← hitems];exact Ev.sub (by ktr_rel) (Ev.slc (.some (by ktr_rel)) .none .none) (Bo.slice_list (by decide) (by rw [rlen];have:=R.len;exact N1 6 18 this))
 ·intro i d X1 s4 l4 mu4 hd hI
  refine aF5 hI ?_;clear hI;rintro rfl q1 q2 q3 q4 q5 q6;refine mpL hd fun p hp q=>?_;clear hd;subst q;intro hmu hX1 hle S4;have hp':rows[i+1]?=some p:=by rw [← hp,Bj,CG]
  refine bM (R.pre (i+1) p (by lia) hp') fun hne hpre=>?_;have hi:i<rows.length - 1:=by have:=(Aw.mp hp').1;exact N3 6 19 this eB
  have hmem:p.dropLast∈rows:=Cn hpre;have hkeys:=fE (seed:=seed) R.hd i (by lia);have hin:p.dropLast∈(dK seed rows i).map (·.1):=by rw [hkeys];exact hpre
  have hidx:=aEx hmem;have rl:=R.len;refine ⟨_,.name (.inl rfl),fun s5 S5 Q1 kq=>?_⟩;have u0:(up l4 "row" (.str (aC p))) "row"=some (.str (aC p)):=aE;have u1:(up l4 "row" (.str (aC p))) "rows"=some (.list (rows.map fun p=>.str (aC p))):=(aA (by decide)).trans q1;have u2:(up l4 "row" (.str (aC p))) "seed"=some (.int (seed:Int)):=(aA (by decide)).trans q2;have u3:(up l4 "row" (.str (aC p))) "notes"=some (.val (.ref a)):=(aA (by decide)).trans q3;have u4:(up l4 "row" (.str (aC p))) "leads"=some (.val (.ref la)):=(aA (by decide)).trans q4;have u5:(up l4 "row" (.str (aC p))) "heads"=some (.val (.ref hb)):=(aA (by decide)).trans q5;have u6:(up l4 "row" (.str (aC p))) "pairs"=some vH:=(aA (by decide)).trans q6;generalize up l4 "row" (.str (aC p))=l5 at S5 u0 u1 u2 u3 u4 u5 u6;have hplen:(aC p).length≤1000:=by rw [cH];have:=R.dep p (AB hp');exact N1 6 20 this
  have cut:∀ {pp1 pp2 pp3 pp4 pp5},Ev w X1 (A.deeper (aI jK 195 L)) (aI jK 195 L) s5.heap (.Subscript (.Name "row" pp1) (.Slice none (some (.UnaryOp .USub (.Constant (.int 1) 0 pp2) pp3)) none pp4) pp5) (.str (aC p.dropLast)):=fun {_ _ _ _ _}=>by
   rw [← aDO];exact Ev.sub (by ktr_rel) (Ev.slc .none (.some (by ktr_rel)) .none) (Bo.slice_str hplen)
  refine aEs (pre:=[(hb,.list [.int (-1)])]) (post:=[(a,.list ds)]) (kk:=aC p) (d:=.str (dA (dK seed rows i) p.dropLast++iE ((seed+mQ rows p.dropLast) % 4) (p.getLast?.getD false))) S5 u4 (Ev.go (h:=s5.heap) ?e s5 S5.live aZ.rfl) (by ktr_rel) ?sz fun s6 S6=>?_
  case sz=>
   have:(mD (dK seed rows i)).length=(rows.take (i+1)).length:=by rw [← hkeys];unfold mD;simp
   rw [this,AE];exact Ao (CA _ _) (by exact N1 6 18 rl)
  case e=>
   refine Ev.bin (aFS S5 u4 (.tail _ (.head _)) cut (wI hin)) (Ev.sub (d1:=.sdict [("a",.str (iE ((seed+mQ rows p.dropLast) % 4) false)),("b",.str (iE ((seed+mQ rows p.dropLast) % 4) true))]) (d2:=.str ⟨#[rW (p.getLast?.getD false)]⟩) ?e1 ?e2 (Bo.item_sdict aBL)) (Bo.adds ?e3)
   case e1=>
    refine Ev.sub (d2:=.int (((seed+mQ rows p.dropLast) % 4:Nat):Int)) (nmS S5 u6) ?f1 (Bo.item_list ⟨by lia,aDy (Gc _ (by decide))⟩ (by exact N1 6 21 oV));rw [← aFD];refine Ev.bin (Ev.bin (by ktr_rel) (Ev.meth (d0:=.list ((rows.map aC).map .str)) ?g1 (Mt.list FZ F0) Kp.builtin (Es.one cut (by rfl)) (Cl.index (qX hmem) (by simp;exact N1 6 18 rl) hA')) ?g2) (by ktr_rel) (Bo.fmod (by decide))
    case g1=>
     have:(rows.map aC).map D.str=rows.map fun p=>D.str (aC p):=by rw [An];rfl
     rw [this];ktr_rel
    case g2=>rw [Int.natCast_add];exact Bo.add
   case e2=>exact Ev.sub (by ktr_rel) (by ktr_rel) (Bo.item_str (by decide) (aBy hne))
   case e3=>
    have k1:=jQ (seed:=seed) R i (by lia) _ (oB hin);have k2:=R.dep _ hmem;have k3:=@tK ((seed+mQ rows p.dropLast) % 4) (p.getLast?.getD false);dsimp only at k1;exact Ao (show _≤1000 by exact N3 6 22 k1 k2 k3) bD
  have hnot:p∉(dK seed rows i).map (·.1):=by
   rw [hkeys];intro m;refine ob11 (BX.mp m) fun j kz=>?_;refine ob11 kz fun hj e=>?_;clear kz;rw [List.getElem_take] at e;have hj':j<i+1:=by rw [AE] at hj;exact N3 7 0 hj (AN _ _)
   have h2:rows[i+1]'(by exact N3 7 2 hi (cY (N3 7 1 hi (AD _ _))))=p:=(Aw.mp hp').2;exact Fo.mp R.nd j (i+1) (by exact N4 7 3 hi hj' (AD _ _)) (by exact N3 7 2 hi (cY (N3 7 1 hi (AD _ _)))) (by lia) (e.trans h2.symm)
  rw [aE9 hnot] at S6;exact aG (kq ⟨_,_,⟨by rw [gF hp];rfl,u1,u2,u3,u4,u5,u6⟩,S6,rfl⟩)
 ·intro s4 l4 mu4 hI
  refine aF5 hI ?_;clear hI;rintro rfl q1 q2 q3 q4 q5 q6;intro hmu S4;rw [Ac,AW,mS] at S4;have rl:=R.len;have hpages:(cT seed rows).map cU.D=(((rows.map fun p=>D.str (aC p)).filter fun _=>true).map fun d=>(cU.of (dA (cS seed rows) (jT d)++"?\t ")).D):=by
   rw [Az.mpr (fun _ _=>rfl),An];unfold cT;rw [An];apply Av;intro p _;show (cU.of (tC seed rows p)).D=_;unfold tC;dsimp only [Function.comp];rw [dP]
  have leadOk:∀ p∈rows,bE (mD (cS seed rows)) (aC p)=some (.str (dA (cS seed rows) p))∧(dA (cS seed rows) p).length≤27:=fun p m=>by
   have hk:=fE (seed:=seed) R.hd (rows.length - 1) (Am _);have h0:0<rows.length:=List.length_pos_of_mem m;rw [mS,BJ (by exact N2 7 4 eB)] at hk;have hin:p∈(cS seed rows).map (·.1):=by rw [hk];exact m
   have:=jQ (seed:=seed) R (rows.length - 1) (Am _) (p,dA (cS seed rows) p) (by rw [mS];exact oB hin);have:=R.dep p m;refine ⟨wI hin,?_⟩;dsimp only at *;exact N2 23 19 (by assumption) this
  have pgb:∀ x∈cT seed rows,x.counts.length≤100∧0≤x.b∧x.b≤100:=fun x m=>by
   refine cX m ?_;rintro p mp rfl;have:=(leadOk p mp).2;refine cU.of_bound ?_;unfold tC;rw [iG];show _+3≤90;exact N1 7 5 this
  refine aG (eC (d:=.list ((cT seed rows).map cU.D)) S4 ?c (fun s5 S5=>?_) (.inl rfl) rfl (fun _=>rfl))
  case c=>
   rw [hpages];refine Cq.lc (asg:=fun d l=>up l "row" d) hA' S4.ecf (fX.of (nmS S4 q1) (iQ.list hA')) (by rw [rlen];exact N1 7 6 rl) (fun C d l _=>.name (.inl rfl)) (fun C Xc h' d l _ ce=>Ts.nil) ?e6;intro C Xc h' d l m _ ce;refine cX m ?_;rintro p hp rfl;rw [dP];have mu6:=(S4.muAt (.tail _ (.head _))).mono ce.up (fun o e=>ce.full _ _ e);have nml:Nm w Xc _ h' "leads" (.val (.ref la)):=pZ ce (S4.cap (d:=.val (.ref la)) q4 rfl) rfl rfl;have hl27:=(leadOk p hp).2;have hq:(dA (cS seed rows) p++"?\t ").cps.size≤90:=by
    have:(dA (cS seed rows) p++"?\t ").length=_:=iG;show (dA (cS seed rows) p++"?\t ").length≤90;rw [this];show _+3≤90;exact N1 7 5 hl27
   refine Ev.call (by ktr_rel) (Kp.cls ce.ec.wd cls147) (Es.one (Ev.bin (aEn nml mu6 (by ktr_rel) (leadOk p hp).1) Ev.str (Bo.adds ?f27)) (by rfl)) (aEf hA' ce.ec.wd hq)
   case f27=>exact Ao (show _+3≤1000 by exact N1 7 7 hl27) bD
  have v1:(up l4 "page" (.list ((cT seed rows).map cU.D))) "rows"=some (.list (rows.map fun p=>.str (aC p))):=(aA (by decide)).trans q1;have v3:(up l4 "page" (.list ((cT seed rows).map cU.D))) "notes"=some (.val (.ref a)):=(aA (by decide)).trans q3;have v5:(up l4 "page" (.list ((cT seed rows).map cU.D))) "heads"=some (.val (.ref hb)):=(aA (by decide)).trans q5;have v6:(up l4 "page" (.list ((cT seed rows).map cU.D))) "page"=some (.list ((cT seed rows).map cU.D)):=aE;generalize up l4 "page" (.list ((cT seed rows).map cU.D))=l5 at S5 v1 v3 v5 v6;have plen:(cT seed rows).length=rows.length:=Ac _;have plen':((cT seed rows).map cU.D).length=rows.length:=by rw [Ac,plen]
  generalize hpg:cT seed rows=pg at *;have pgD:∀ k,k<rows.length→(pg.map cU.D)[k]?=some (lA pg k).D∧lA pg k∈pg:=fun k hk=>by
   have hk':k<pg.length:=by exact N3 1 4 plen hk
   unfold lA;rw [Ar,Ah hk'];exact ⟨rfl,EL hk'⟩
  have rwD:∀ k,k<rows.length→(rows.map fun p=>D.str (aC p))[k]?=some (.str (aC (bG rows k)))∧bG rows k∈rows:=fun k hk=>by
   unfold bG;rw [Ar,Ah hk];exact ⟨rfl,EL hk⟩
  let Iv1:Nat→(Str→Option D)→List (Addr×D)→Prop:=fun i l mu=>mu=[(hb,.list ((fH pg rows i).map .int)),(la,.sdict (mD (cS seed rows))),(a,.list (ds++(dZ pg rows i).map .bool))]∧l "rows"=some (.list (rows.map fun p=>.str (aC p)))∧l "notes"=some (.val (.ref a))∧l "heads"=some (.val (.ref hb))∧l "page"=some (.list (pg.map cU.D))
  refine fT hA' S5 (mV (a:=1) (m:=rows.length) hA' ?src (by lia) (by exact N1 7 6 rl)) (by intro q;cases q)
   Iv1 ⟨by simp [fH,dZ],v1,v3,v5,v6⟩ ?_ ?_
  case src=>
   have:((rows.length:Nat):Int)=(((pg.map cU.D).length:Nat):Int):=by rw [plen']
   rw [this];exact Ev.call (by ktr_rel) Kp.type (by kcj_m) Cl.range2
  ·intro i d X1 s6 l6 mu6 hd hI
   refine aF4 hI ?_;clear hI;rintro rfl q1 q3 q5 q6;refine mpR hd fun hin q=>?_;clear hd;subst q;intro hmu hX1 hle S6;refine ⟨_,.name (.inl rfl),fun s7 S7 Q1 kq=>?_⟩;have u0:(up l6 "row" (.int ((1+i:Nat):Int))) "row"=some (.int ((1+i:Nat):Int)):=aE;have u1:(up l6 "row" (.int ((1+i:Nat):Int))) "rows"=some (.list (rows.map fun p=>.str (aC p))):=(aA (by decide)).trans q1;have u3:(up l6 "row" (.int ((1+i:Nat):Int))) "notes"=some (.val (.ref a)):=(aA (by decide)).trans q3;have u5:(up l6 "row" (.int ((1+i:Nat):Int))) "heads"=some (.val (.ref hb)):=(aA (by decide)).trans q5;have u6:(up l6 "row" (.int ((1+i:Nat):Int))) "page"=some (.list (pg.map cU.D)):=(aA (by decide)).trans q6;generalize up l6 "row" (.int ((1+i:Nat):Int))=l7 at S7 u0 u1 u3 u5 u6;refine qL (xs:=["above","told"]) (ds:=[.int ((1+i:Nat):Int),.bool false]) hA'.hh S7 (Ev.tup (by kcj_m) (by krn_off)) rfl (fun y m=>?o) (fun s8 S8 c8=>?_)
   case o=>
    refine cK m (fun e=>?_) fun m=>?_
    ·rw [e];exact .inl rfl
    ·rw [bH m];exact .inl rfl
   have w0:(up (up l7 "told" (.bool false)) "above" (.int ((1+i:Nat):Int))) "row"=some (.int ((1+i:Nat):Int)):=((aA (by decide)).trans (aA (by decide))).trans u0;have w1:(up (up l7 "told" (.bool false)) "above" (.int ((1+i:Nat):Int))) "rows"=some (.list (rows.map fun p=>.str (aC p))):=((aA (by decide)).trans (aA (by decide))).trans u1;have w3:(up (up l7 "told" (.bool false)) "above" (.int ((1+i:Nat):Int))) "notes"=some (.val (.ref a)):=((aA (by decide)).trans (aA (by decide))).trans u3;have w5:(up (up l7 "told" (.bool false)) "above" (.int ((1+i:Nat):Int))) "heads"=some (.val (.ref hb)):=((aA (by decide)).trans (aA (by decide))).trans u5;have w6:(up (up l7 "told" (.bool false)) "above" (.int ((1+i:Nat):Int))) "page"=some (.list (pg.map cU.D)):=((aA (by decide)).trans (aA (by decide))).trans u6;have w7:(up (up l7 "told" (.bool false)) "above" (.int ((1+i:Nat):Int))) "above"=some (.int ((1+i:Nat):Int)):=aE;have w8:(up (up l7 "told" (.bool false)) "above" (.int ((1+i:Nat):Int))) "told"=some (.bool false):=(aA (by decide)).trans aE;change St _ _ _ _ _ _ _ (up (up l7 "told" (.bool false)) "above" (.int ((1+i:Nat):Int))) _ at S8;generalize up (up l7 "told" (.bool false)) "above" (.int ((1+i:Nat):Int))=l8 at S8 w0 w1 w3 w5 w6 w7 w8;have hr:=(rwD (1+i) (by exact N3 7 8 hin (cY (N3 7 1 hin (AD _ _)))));refine kQ S8 (fun k l mu=>∃ t ns,mu=[(hb,.list ((fH pg rows i).map .int)),(la,.sdict (mD (cS seed rows))),(a,.list (ds++ns.map .bool))]∧l "row"=some (.int ((1+i:Nat):Int))∧l "rows"=some (.list (rows.map fun p=>.str (aC p)))∧l "notes"=some (.val (.ref a))∧l "heads"=some (.val (.ref hb))∧l "page"=some (.list (pg.map cU.D))∧
    l "above"=some (.int (k:Int))∧l "told"=some (.bool t)∧k≤1+i∧(if t then (k,[]) else fG pg rows (1+i) k).1=(fG pg rows (1+i) (1+i)).1∧ns++(if t then (k,[]) else fG pg rows (1+i) k).2=dZ pg rows i++(fG pg rows (1+i) (1+i)).2) (1+i)
    ⟨false,dZ pg rows i,rfl,w0,w1,w3,w5,w6,w7,w8,Am _,rfl,rfl⟩ ?_
   intro k s9 l9 mu9 hI9;refine aF6 hI9 ?_;clear hI9;rintro t ns rfl x0 x1 x3 x5 x6 x7 x8 hk e1 e2;intro hmu9 S9 Q2 kj;have hns:ns.length≤200:=by
    have h1:=congrArg De e2;rw [Af,Af] at h1;have h2:=qC (pg:=pg) (rows:=rows) (row:=1+i) (1+i);have h3:(dZ pg rows i).length≤12*i:=by
     unfold dZ;have:∀ m:Nat,m≤12→((Aa m).flatMap fun k=>(fG pg rows (k+1) (k+1)).2).length≤12*m:=fun m hm=>by
      induction m with
      | zero=>simp
      | succ m ih=>
       rw [AT,Cw,Af];have q1:=qC (pg:=pg) (rows:=rows) (row:=m+1) (m+1);have q2:=ih (by lia);rw [AL,EK,AZ];exact N3 7 9 hm q1 q2
     exact this i (by exact N3 7 10 rl hin (AD _ _))
    exact N7 7 11 rl hin h1 h2 h3 (AD _ _)
   refine cF (Tr.go (b:=decide (0<(k:Int))&&(t==false)) (h:=s9.heap) (Tr.and2 (Tr.cmp (by ktr_rel) (by ktr_rel) Bo.gt (by with_unfolding_all rfl)) fun _=>Tr.cmp (by ktr_rel) (by ktr_rel) Bo.is_bb (by with_unfolding_all rfl)) s9 S9.live aZ.rfl) fun b s10 z=>?_;refine bM z ?_;clear z;rintro rfl k10;have S10:=S9.keeps k10;split
   ·rename_i hb
    rw [AJ,decide_eq_true_eq] at hb;refine bM hb fun hb1 hb2=>?_;clear hb;have ht:t=false:=by cases t <;> first | rfl | cases hb2
    subst ht;obtain ⟨k',rfl⟩:∃ k',k=k'+1:=⟨k - 1,by exact N2 7 13 eB (cY (N1 7 12 hb1))⟩;simp only [Cz,if_false] at e1 e2;have ek:((k'+1:Nat):Int) - 1=(k':Int):=by exact N1 7 14
    refine iM (d:=.int (k':Int)) S10 x7 (d1:=.int 1) (by ktr_rel) (ek▸Bo.isub) fun s11 S11 c11=>?_;have y0:(up l9 "above" (.int (k':Int))) "row"=some (.int ((1+i:Nat):Int)):=(aA (by decide)).trans x0;have y1:(up l9 "above" (.int (k':Int))) "rows"=some (.list (rows.map fun p=>.str (aC p))):=(aA (by decide)).trans x1;have y3:(up l9 "above" (.int (k':Int))) "notes"=some (.val (.ref a)):=(aA (by decide)).trans x3;have y5:(up l9 "above" (.int (k':Int))) "heads"=some (.val (.ref hb)):=(aA (by decide)).trans x5;have y6:(up l9 "above" (.int (k':Int))) "page"=some (.list (pg.map cU.D)):=(aA (by decide)).trans x6;have y7:(up l9 "above" (.int (k':Int))) "above"=some (.int (k':Int)):=aE;generalize up l9 "above" (.int (k':Int))=l11 at S11 y0 y1 y3 y5 y6 y7;have g1:=pgD k' (by exact N4 7 15 hin hk (AD _ _));have g2:=pgD (1+i) (by exact N3 7 8 hin (cY (N3 7 1 hin (AD _ _))));have b1:=pgb _ g1.2;have b2:=pgb _ g2.2;have r1:=rwD k' (by exact N4 7 15 hin hk (AD _ _));have dep1:=R.dep _ r1.2;have dep2:=R.dep _ hr.2;refine aO (d:=.bool (cU.less (lA pg k') (lA pg (1+i)))) S11 ?e (fun s12 S12 c12=>?_) (.inl rfl) rfl
    case e=>
     refine Ev.meth (d0:=(lA pg k').D) (ds:=[(lA pg (1+i)).D]) (Ev.sub (nmS S11 y6) (nmS S11 y7) (Bo.item_list ⟨by exact N1 7 16,?z1⟩ (by exact N4 7 17 rl hin hk (AD _ _)))) (Mt.obj S11.wd cls147 rfl (uU (P:=w.params)).mem rfl) (Kp.fn S11.wd (uU (P:=w.params)).mem) (Es.one (Ev.sub (nmS S11 y6) (nmS S11 y0) (Bo.item_list ⟨by exact N1 7 18,?z2⟩ (by exact N3 7 19 rl hin (AD _ _)))) (by rfl)) (aEe hA' S11.wd ⟨b1.1,b2.1⟩ b1.2 b2.2)
     case z1=>exact g1.1
     case z2=>exact g2.1
    have z0:(up l11 "told" (.bool (cU.less (lA pg k') (lA pg (1+i))))) "row"=some (.int ((1+i:Nat):Int)):=(aA (by decide)).trans y0;have z1:(up l11 "told" (.bool (cU.less (lA pg k') (lA pg (1+i))))) "rows"=some (.list (rows.map fun p=>.str (aC p))):=(aA (by decide)).trans y1;have z3:(up l11 "told" (.bool (cU.less (lA pg k') (lA pg (1+i))))) "notes"=some (.val (.ref a)):=(aA (by decide)).trans y3;have z5:(up l11 "told" (.bool (cU.less (lA pg k') (lA pg (1+i))))) "heads"=some (.val (.ref hb)):=(aA (by decide)).trans y5;have z6:(up l11 "told" (.bool (cU.less (lA pg k') (lA pg (1+i))))) "page"=some (.list (pg.map cU.D)):=(aA (by decide)).trans y6;have z7:(up l11 "told" (.bool (cU.less (lA pg k') (lA pg (1+i))))) "above"=some (.int (k':Int)):=(aA (by decide)).trans y7;have z8:(up l11 "told" (.bool (cU.less (lA pg k') (lA pg (1+i))))) "told"=some (.bool (cU.less (lA pg k') (lA pg (1+i)))):=aE;generalize up l11 "told" (.bool (cU.less (lA pg k') (lA pg (1+i))))=l12 at S12 z0 z1 z3 z5 z6 z7 z8;have hcl:fG pg rows (1+i) (k'+1)=if cU.less (lA pg k') (lA pg (1+i)) then (k',[true==((bG rows (1+i)).take (bG rows k').length==bG rows k')])
     else ((fG pg rows (1+i) k').1,(false==((bG rows (1+i)).take (bG rows k').length==bG rows k'))::(fG pg rows (1+i) k').2):=rfl
    generalize hless:cU.less (lA pg k') (lA pg (1+i))=lt at *;refine eO (pre:=[(hb,.list ((fH pg rows i).map .int)),(la,.sdict (mD (cS seed rows)))]) (post:=[]) (d:=.bool (lt==((bG rows (1+i)).take (bG rows k').length==bG rows k'))) S12 z3 ?e2 (by rw [Af,Ac];exact N2 7 20 hl hns) fun s13 S13=>?_
    case e2=>
     have hw:aC ((bG rows (1+i)).take (bG rows k').length)=DV (aC (bG rows (1+i))) none (some (((bG rows k').length:Nat):Int)):=zY.symm;rw [← rU (a:=(bG rows (1+i)).take (bG rows k').length),hw];have hl':(((bG rows k').length:Nat):Int)=((aC (bG rows k')).length:Int):=by rw [cH]
     rw [hl'];have atk:∀ {pp1 pp2 pp3},Ev w _ (A.deeper (aI jK 195 L)) (aI jK 195 L) s12.heap (.Subscript (.Name "rows" pp1) (.Name "above" pp2) pp3) (.str (aC (bG rows k'))):=fun {_ _ _}=>Ev.sub (nmS S12 z1) (nmS S12 z7) (Bo.item_list ⟨by exact N1 7 16,r1.1⟩ (by exact N4 7 17 rl hin hk (AD _ _)));have atr:∀ {pp1 pp2 pp3},Ev w _ (A.deeper (aI jK 195 L)) (aI jK 195 L) s12.heap (.Subscript (.Name "rows" pp1) (.Name "row" pp2) pp3) (.str (aC (bG rows (1+i)))):=fun {_ _ _}=>Ev.sub (nmS S12 z1) (nmS S12 z0) (Bo.item_list ⟨by exact N1 7 18,hr.1⟩ (by exact N3 7 19 rl hin (AD _ _)));refine Ev.cmp (by ktr_rel) (Ev.cmp (Ev.sub atr (Ev.slc .none (.some (Ev.call (by ktr_rel) Kp.builtin (Es.one atk (by rfl)) (Cl.len_str (by rw [cH];exact N1 7 21 dep1)) (by rfl))) .none) (Bo.slice_str (by rw [cH];exact N1 6 20 dep2))) atk Bo.eqs (by with_unfolding_all rfl)) Bo.is_bb (by with_unfolding_all rfl)
    refine aG (kj ⟨l12,_,⟨k',by exact N1 7 22,lt,ns++[lt==((bG rows (1+i)).take (bG rows k').length==bG rows k')],?_,z0,z1,z3,z5,z6,z7,z8,by lia,?_,?_⟩,S13,rfl⟩)
    ·rw [Ax,AG];rfl
    ·rw [← e1,hcl]
     cases lt <;> rfl
    ·rw [← e2,hcl]
     cases lt <;> simp
   ·rename_i hb
    refine aG ?_;refine eO (pre:=[]) (post:=[(la,.sdict (mD (cS seed rows))),(a,.list (ds++ns.map .bool))]) (d:=.int (k:Int)) S10 x5 (by ktr_rel) (by rw [Ac];unfold fH;simp;exact N3 8 0 rl hin (AD _ _)) fun s11 S11=>?_;have hfin:(if t then (k,[]) else fG pg rows (1+i) k)=(k,[]):=by
     cases t with
     | true=>rfl
     | false=>
      have:k=0:=by
       rw [AJ] at hb;have:¬ (0<(k:Int)):=fun q=>hb ⟨decide_eq_true q,rfl⟩;exact N1 8 1 this
      subst this;rfl
    rw [hfin] at e1 e2;dsimp only at e1 e2;rw [AZ] at e2;refine aG (kq ⟨l9,_,⟨?_,x1,x3,x5,x6⟩,S11,rfl⟩);have n1:dZ pg rows (i+1)=ns:=by
     rw [e2];unfold dZ;rw [AT,Cw,CG 1 i];simp
    have n2:fH pg rows (i+1)=fH pg rows i++[(k:Int)]:=by
     unfold fH;rw [AT,Ax,e1,CG 1 i];rfl
    rw [n1,n2,Ax];rfl
  ·intro s6 l6 mu6 hI
   refine aF4 hI ?_;clear hI;rintro rfl q1 q3 q5 q6;intro hmu S6;have hn:(((Aa (rows.length - 1)).map fun (k:Nat)=>D.int ((1+k:Nat):Int))).length=rows.length - 1:=by simp
   rw [hn] at S6;have hbX:hb∉X:=fun m=>by
    have:=S.live.1 hb (Ad _ m);refine ob11 this fun o e=>?_;clear this;rw [fb] at e;cases e
   have f1:cR seed rows=fH pg rows (rows.length - 1):=by unfold cR;rw [hpg]
   have f2:gW seed rows=dZ pg rows (rows.length - 1):=by unfold gW;rw [hpg]
   exact aG (qK (Y:=X) S6 q5 (.head _) rfl (fun y m=>.tail _ (.tail _ (Ad _ m))) hbX fun s7 r7 S7 k7=>k0 (by rw [f1,f2];exact ⟨r7,S7.base,(S7.muAt (.tail _ (.tail _ (.head _)))).mono (bV fun y m=>.tail _ (.tail _ (Ad _ m))) fun o e=>e⟩))
end
section
theorem aBc {n} {odd:Int→Bool} {ts ss:List (Int×D)} {vs:List Ag} (hA:dF (n+2) A) (hX:XL X s.heap) (W:Wd w (T1 w.params) (hx X s.heap)) (tX:aK∈X) (hm:cN w X s.heap aK .ctab)
  (ht:∀ q∈ts,tJ odd q) (hs:∀ q∈ss,tJ odd q) (lt:ts.length≤100) (ls:ss.length≤100) (r:cG w (hx X s.heap) vs [.idict ts,.idict ss]) :
  Au (AI prog w) A (call (.ref 63) vs []) (fun v s'=>Rp w (hx X s'.heap) v (.idict (nU ts ss))∧Ch [aK] s s'∧cN w X s'.heap aK .ctab) (fun _ _=>False) s:=by
 refine fZ (F:=[aK]) (mu:=[(aK,.ctab)]) mB hA hX W r rfl (fun y m=>by rw [bH m];exact tX) (fun p m=>by rw [bH m];exact ⟨.head _,hm⟩) (AS _ _) fun L s1 hA' S k1 Q0 k0=>?_;refine qJ S (fun a s2 S2 fa=>?_);have aX:a∉X:=fun m=>by
  refine ob11 (hX.1 _ m) fun o e=>?_;rw [aN k1 _ _ e] at fa;cases fa
 let Iv0:Nat→(Str→Option D)→List (Addr×D)→Prop:=fun i l mu=>mu=[(a,.idict (fQ (ts.take i))),(aK,.ctab)]∧l "target"=some (.idict ts)∧l "source"=some (.idict ss)∧l "new_callers"=some (.val (.ref a))
 refine fT hA' S2 (fX.of (d:=.iview ts) ?src (iQ.iview hA')) (fun _=>⟨_,_,_,rfl⟩)
  Iv0 ⟨rfl,rfl,rfl,rfl⟩ ?_ ?_
 case src=>
  exact Ev.meth (by ktr_rel) Mt.idict_items Kp.builtin Es.nil Cl.idict_items
 ·intro i d X1 s3 l3 mu3 hd hI
  refine eG hI ?_;clear hI;rintro rfl q1 q2 q3;unfold fY at hd;refine mpL hd fun p hp q=>?_;clear hd;subst q;intro hmu hX1 hle S3;refine ⟨_,.tup (.cons (.inl rfl) (.cons (.inl rfl) .nil)) rfl,fun s4 S4 Q1 kq=>?_⟩;have u0:(bQ l3 ["func","caller"] [.int p.1,p.2]) "func"=some (.int p.1):=rfl;have u1:(bQ l3 ["func","caller"] [.int p.1,p.2]) "caller"=some p.2:=rfl;have u2:(bQ l3 ["func","caller"] [.int p.1,p.2]) "target"=some (.idict ts):=q1;have u3:(bQ l3 ["func","caller"] [.int p.1,p.2]) "source"=some (.idict ss):=q2;have u4:(bQ l3 ["func","caller"] [.int p.1,p.2]) "new_callers"=some (.val (.ref a)):=q3;generalize bQ l3 ["func","caller"] [.int p.1,p.2]=l4 at S4 u0 u1 u2 u3 u4;refine uN (pre:=[]) (post:=[(aK,.ctab)]) S4 u4 (by ktr_rel) (by ktr_rel) ?sz fun s5 S5=>?_
  case sz=>
   have:=lM (f:=fun acc (p:Int×D)=>dU acc p.1 p.2) (fun a p=>rP) (ts.take i) [];unfold fQ;simp at this;exact N3 8 2 lt this (CA _ _)
  refine aG (kq ⟨l4,_,⟨?_,u2,u3,u4⟩,S5,rfl⟩);unfold fQ;rw [qT _ _ hp];rfl
 ·intro s3 l3 mu3 hI
  refine eG hI ?_;clear hI;rintro rfl q1 q2 q3;intro hmu S3;have e0:fQ (ts.take (fY ts).length)=fQ ts:=by rw [show (fY ts).length=ts.length from Ac _,DQ]
  rw [e0] at S3;refine aG ?_
  let Iv1:Nat→(Str→Option D)→List (Addr×D)→Prop:=fun i l mu=>mu=[(a,.idict ((ss.take i).foldl cE (fQ ts))),(aK,.ctab)]∧l "source"=some (.idict ss)∧l "new_callers"=some (.val (.ref a))
  refine fT hA' S3 (fX.of (d:=.iview ss) ?src2 (iQ.iview hA')) (fun _=>⟨_,_,_,rfl⟩)
   Iv1 ⟨rfl,q2,q3⟩ ?_ ?_
  case src2=>
   exact Ev.meth (by ktr_rel) Mt.idict_items Kp.builtin Es.nil Cl.idict_items
  ·intro i d X1 s4 l4 mu4 hd hI
   refine gM hI ?_;clear hI;rintro rfl q1 q2;unfold fY at hd;refine mpL hd fun p hp q=>?_;clear hd;subst q;intro hmu hX1 hle S4;have hpm:p∈ss:=AB hp;refine ⟨_,.tup (.cons (.inl rfl) (.cons (.inl rfl) .nil)) rfl,fun s5 S5 Q1 kq=>?_⟩;have u0:(bQ l4 ["func","caller"] [.int p.1,p.2]) "func"=some (.int p.1):=rfl;have u1:(bQ l4 ["func","caller"] [.int p.1,p.2]) "caller"=some p.2:=rfl;have u3:(bQ l4 ["func","caller"] [.int p.1,p.2]) "source"=some (.idict ss):=q1;have u4:(bQ l4 ["func","caller"] [.int p.1,p.2]) "new_callers"=some (.val (.ref a)):=q2;generalize bQ l4 ["func","caller"] [.int p.1,p.2]=l5 at S5 u0 u1 u3 u4;have lacc:((ss.take i).foldl cE (fQ ts)).length≤300:=by
    have h1:=lM (f:=cE) (fun a p=>rP) (ss.take i) (fQ ts);have h2:=lM (f:=fun acc (p:Int×D)=>dU acc p.1 p.2) (fun a p=>rP) ts [];unfold fQ at h1 ⊢;simp at h1 h2;exact N5 8 3 lt ls h1 h2 (CA _ _)
   have oacc:∀ q∈(ss.take i).foldl cE (fQ ts),tJ odd q:=qS (fun a p ha hp=>aDv ha hp) _ _ (aEi ht) fun q m=>hs q (Cn m);have stp:(ss.take (i+1)).foldl cE (fQ ts)=cE ((ss.take i).foldl cE (fQ ts)) p:=qT _ _ hp;generalize (ss.take i).foldl cE (fQ ts)=acc at S5 lacc oacc stp;have okp:=hs p hpm;refine gB (b:=(bE acc p.1).isSome) S5 (aFR S5 u4 (.head _) (by ktr_rel)) (fun hb s6 S6 _=>?_) (fun hb s6 S6 _=>?_)
   ·refine ob11 (CH.mp hb) fun d0 hd0=>?_
    have okd:=oacc _ (sV hd0);unfold tJ at okp okd
    by_cases ho:odd p.1=true
    ·rw [if_pos ho] at okp
     rw [if_pos (show odd (p.1,d0).1=true from ho)] at okd;refine ob12 okp fun y hy hyl=>?_;clear okp;refine ob12 okd fun x hx0 hxl=>?_;clear okd;rw [hy] at u1;have hx0':d0=.tup (dC x):=hx0;subst hx0';refine gB (b:=true) S6 (Tr.val (d:=.bool true) (Ev.call (by lcg_off) Kp.builtin (Es.cons (by lcg_off) (Es.cons (by lcg_off) .nil (by rfl)) (by rfl)) Cl.isi_tup (by rfl)) Tt.bool (by intro _;rfl)) (fun _ s7 S7 _=>?_) (fun q=>by cases q);have he2:∀ {pp1 pp2 pp3},Ev w X1 (A.deeper (aI fC 63 L)) (aI fC 63 L) s7.heap (.Subscript (.Name "new_callers" pp1) (.Name "func" pp2) pp3) (.tup (dC x)):=fun {_ _ _}=>aCT S7 u4 (.head _) (by lcg_off) hd0;refine aCY (pre:=[]) (post:=[(aK,.ctab)]) (ds:=acc) (kk:=p.1) S7 u4 ?ev (fun s8 S8=>by ktr_rel) (by exact N1 8 4 lacc)
     case ev=>
      refine B9 (aEo (n:=n+1) (pre:=[(a,.idict acc)]) (post:=[]) (xs:=y) (ys:=x) hA' S7 rfl (nmS S7 u1) he2 (by rw [hyl,hxl]) (by rw [hyl];decide) rfl rfl (Es.cons (nmS S7 u1) (Es.cons he2 .nil (by rfl)) (by rfl)) (fun _=>rfl) (fun _=>rfl)) (fun v s8 z=>?_) fun _ _ x=>x;refine bM z fun r8 S8=>?_;clear z;refine ⟨_,r8,S8,fun s9 S9=>?_⟩;refine aG (aG (aG (kq ⟨l5,_,⟨?_,u3,u4⟩,S9,rfl⟩)));rw [stp];unfold cE;rw [hd0,hy];show _=[(a,D.idict (dU acc p.1 (.tup (dC (AU (·+·) (mH (.tup (dC y))) (mH (.tup (dC x)))))))),(aK,D.ctab)];rw [fF,fF];rfl
    ·rw [if_neg ho] at okp
     rw [if_neg (show ¬ odd (p.1,d0).1=true from ho)] at okd;refine ob11 okp fun y hy=>?_;clear okp;refine ob11 okd fun x hx0=>?_;clear okd;rw [hy] at u1;have hx0':d0=.int x:=hx0;subst hx0';refine gB (b:=false) S6 (Tr.val (d:=.bool false) (Ev.call (by lcg_off) Kp.builtin (Es.cons (by lcg_off) (Es.cons (by lcg_off) .nil (by rfl)) (by rfl)) Cl.isi_int_tup (by rfl)) Tt.bool (by intro _;rfl)) (fun q=>by cases q) (fun _ s7 S7 _=>?_);refine aEp (pre:=[]) (post:=[(aK,.ctab)]) (kk:=p.1) (d0:=.int x) (d1:=.int y) S7 u4 (by ktr_rel) hd0 (by lcg_off) Bo.iadd (by exact N1 8 4 lacc) fun s8 S8=>?_;refine aG (aG (aG (kq ⟨l5,_,⟨?_,u3,u4⟩,S8,rfl⟩)));rw [stp];unfold cE;rw [hd0,hy];rfl
   ·have hn:bE acc p.1=none:=by simpa using hb
    refine uN (pre:=[]) (post:=[(aK,.ctab)]) S6 u4 (by lcg_off) (by lcg_off) (by exact N1 8 4 lacc) fun s7 S7=>?_;refine aG (aG (kq ⟨l5,_,⟨?_,u3,u4⟩,S7,rfl⟩));rw [stp];unfold cE;rw [hn];rfl
  ·intro s4 l4 mu4 hI
   refine gM hI ?_;clear hI;rintro rfl q1 q2;intro hmu S4;have e1:(ss.take (fY ss).length).foldl cE (fQ ts)=nU ts ss:=by rw [show (fY ss).length=ss.length from Ac _,DQ];rfl
   rw [e1] at S4;refine aG (qK (Y:=X) S4 q2 (.head _) rfl (fun y m=>by simp [m]) aX fun s5 r5 S5 k5=>?_);exact k0 ⟨r5,S5.base,(S5.muAt (.tail _ (.head _))).mono (bV fun y m=>by simp [m]) fun o e=>e⟩
end
section
noncomputable def kA (a b c d:Int) (t:List (Int×D)):D:=.tup [.int a,.int b,.int c,.int d,.idict t]
theorem lW {n} {odd:Int→Bool} {a b c d a' b' c' d':Int} {ts ss:List (Int×D)} {vs:List Ag} (hA:dF (n+3) A) (hX:XL X s.heap) (W:Wd w (T1 w.params) (hx X s.heap)) (tX:aK∈X) (hm:cN w X s.heap aK .ctab)
  (ht:∀ q∈ts,tJ odd q) (hs:∀ q∈ss,tJ odd q) (lt:ts.length≤100) (ls:ss.length≤100) (r:cG w (hx X s.heap) vs [kA a b c d ts,kA a' b' c' d' ss]) :
  Au (AI prog w) A (call (.ref 56) vs []) (fun v s'=>Rp w (hx X s'.heap) v (kA (a'+a) (b'+b) (c'+c) (d'+d) (nU ts ss))∧Ch [aK] s s'∧cN w X s'.heap aK .ctab) (fun _ _=>False) s:=by
 refine fZ (F:=[aK]) (mu:=[(aK,.ctab)]) kT hA hX W r rfl (fun y m=>by rw [bH m];exact tX) (fun p m=>by rw [bH m];exact ⟨.head _,hm⟩) (AS _ _) fun L s1 hA' S k1 Q0 k0=>?_;refine fV (xs:=["cc","nc","tt","ct","callers"]) (ds:=[.int a',.int b',.int c',.int d',.idict ss]) hA'.hh S (.cons (.inl rfl) (.cons (.inl rfl) (.cons (.inl rfl) (.cons (.inl rfl) (.cons (.inl rfl) .nil))))) (nmS S rfl) rfl fun s2 S2 _=>?_;refine fV (xs:=["t_cc","t_nc","t_tt","t_ct","t_callers"]) (ds:=[.int a,.int b,.int c,.int d,.idict ts]) hA'.hh S2 (.cons (.inl rfl) (.cons (.inl rfl) (.cons (.inl rfl) (.cons (.inl rfl) (.cons (.inl rfl) .nil))))) (nmS S2 rfl) rfl fun s3 S3 _=>?_;refine aEq (d:=.tup [.int (a'+a),.int (b'+b),.int (c'+c),.int (d'+d),.idict (nU ts ss)]) (mu':=[(aK,.ctab)]) S3 (pL.tup (EsS.cons (pL.of fun s S=>?a1) (EsS.cons (pL.of fun s S=>?a2) (EsS.cons (pL.of fun s S=>?a3) (EsS.cons (pL.of fun s S=>?a4) (EsS.cons ?a5 EsS.nil (by rfl)) (by rfl)) (by rfl)) (by rfl)) (by rfl)) (by krn_off)) fun v s4 r4 S4=>?_
 case a1=>ktr_rel
 case a2=>ktr_rel
 case a3=>ktr_rel
 case a4=>ktr_rel
 case a5=>
  refine pL.call (pre:=[]) (post:=[]) (ds:=[.idict ts,.idict ss]) (f:=.ref 63) (fun s S=>⟨?b1,?b2,?b3⟩) (fun s vs S r m=>aBc (n:=n) (odd:=odd) hA' S.live S.wd (S.mus _ (.head _)).1 m ht hs lt ls r) (by rfl)
  case b1=>lcg_off
  case b2=>exact Kp.fn S.wd mB.mem
  case b3=>kcj_m
 exact k0 ⟨r4.mono (bV fun y m=>Ad _ m),S4.base,(S4.muAt (.head _)).mono (bV fun y m=>Ad _ m) fun o e=>e⟩
end
section
noncomputable def cD (hits:Nat→Int) (odd:Nat→Bool) (t:Tb):D:=kA t.length (dH hits t) (bR hits t) (jR t) (cC hits odd t)
theorem aE5 {a b:Int}:decide (0<mU a b)=decide (b<a):=by
 unfold mU b2i
 by_cases h1:b<a
 ·have:¬ a<b:=by exact gK 8 5 h1
  simp [h1,this]
 ·by_cases h2:a<b <;> simp [h1,h2]
theorem aE4 {a b:Int}:decide (mU a b<0)=decide (a<b):=by
 unfold mU b2i
 by_cases h1:b<a
 ·have:¬ a<b:=by exact gK 8 5 h1
  simp [h1,this]
 ·by_cases h2:a<b <;> simp [h1,h2]
theorem aBR (a b:Int):mU a b=1∨mU a b=0∨mU a b = -1:=by
 unfold mU b2i
 by_cases h1:b<a
 ·have:¬ a<b:=by exact gK 8 5 h1
  simp [h1,this]
 ·by_cases h2:a<b <;> simp [h1,h2]
theorem aCE {L R:Int→Int} {way:Int}:gA L R [(1,way)]=way*mU (L 1) (R 1):=by
 rw [gV];unfold mU b2i
 by_cases h1:R 1<L 1
 ·have:¬ L 1<R 1:=by exact gK 8 5 h1
  simp [h1,this]
 ·by_cases h2:L 1<R 1 <;> simp [h1,h2,gA]
theorem oX {a b:Int} (h:a=1∨a=0∨a = -1):GC a b:=Bx (by rcases h with rfl | rfl | rfl <;> decide)
theorem pL.sign {n a xs post e0 e3 e4 p0 p4 p5 p6} {way lf rt:Int} (hA:dF (n+1) A) (hw:way=1∨way = -1) (hxs:xs.length≤90000) (hwy:l "way"=some (.int way)) (hno:l "notes"=some (.val (.ref a)))
  (h0:∀ s:Ak,St w (T1 w.params) s₀ F X env s l ((a,.list xs)::post)→Ev w X A env s.heap e0 (.int (way*mU lf rt)))
  (h3:∀ s:Ak,St w (T1 w.params) s₀ F X env s l ((a,.list xs)::post)→Ev w X A env s.heap e3 (.int lf))
  (h4:∀ s:Ak,St w (T1 w.params) s₀ F X env s l ((a,.list xs)::post)→Ev w X A env s.heap e4 (.int rt))
  (hk:autoParam (env.kindOf "_law_sign"=some .globalImplicit) aq)
  (st3:autoParam (AF [e0,.Name "way" p4,e3,e4,.Name "notes" p5] env=(false,eval e0 env)::AF [.Name "way" p4,e3,e4,.Name "notes" p5] env) aq)
  (st4:autoParam (AF [e3,e4,.Name "notes" p5] env=(false,eval e3 env)::AF [e4,.Name "notes" p5] env) aq) (st5:autoParam (AF [e4,.Name "notes" p5] env=(false,eval e4 env)::AF [.Name "notes" p5] env) aq)
  (hpl:autoParam ((backTo p6 (AF [e0,.Name "way" p4,e3,e4,.Name "notes" p5] env)).any (·.1)=false) aq) :
  pL w (T1 w.params) s₀ F X A env l ((a,.list xs)::post) (.Call (.Name "_law_sign" p0) [e0,.Name "way" p4,e3,e4,.Name "notes" p5] [] p6)
   (.int (mU lf rt)) ((a,.list (xs++[.bool true]))::post):=by
 have hs:=aBR lf rt;have eL:way*mU lf rt*way=mU lf rt:=by
  rcases hw with rfl | rfl <;> lia
 have hws:way*mU lf rt=1∨way*mU lf rt=0∨way*mU lf rt = -1:=by
  rcases hw with rfl | rfl <;> rcases hs with q | q | q <;> rw [q] <;> decide
 refine pL.call (pre:=[]) (post:=post) (ds:=[.int (way*mU lf rt),.int way,.int lf,.int rt,.val (.ref a)]) (f:=.ref 163) (fun s S=>⟨?f,Kp.fn S.wd (aAF (P:=w.params)).mem,?es⟩) (fun s vs S r m=>?c) hpl
 case f=>exact nmG S rfl hk
 case es=>exact Es.cons (h0 s S) (Es.cons (nmS S hwy) (Es.cons (h3 s S) (Es.cons (h4 s S) (Es.cons (nmS S hno) Es.nil (by rfl)) st5) st4) (by rfl)) st3
 case c=>
  refine cF (aBe hA S.live S.wd (S.mus _ (.head _)).1 m hxs r (oX (by rcases hw with rfl | rfl <;> decide)) (oX hws)) fun v s2 z=>?_;rw [eL] at z;refine ⟨z.1,z.2.1,?_⟩;have:=z.2.2
  rwa [show (way*mU lf rt==way*mU lf rt)=true from beq_self_eq_true _] at this
theorem aAm {n} {hits:Nat→Int} {odd:Nat→Bool} {way:Int} {x y:Tb} (hA:dF (n+1) A) (W:Wd w (T1 w.params) (hx X h)) :
  Cl w X A h (.ref 42) [sJ [(1,way)]] [cD hits odd x,cD hits odd y] (.int (way*mU (dH hits x) (dH hits y))):=by
 rw [show way*mU (dH hits x) (dH hits y)=gA (fun i=>if i=1 then dH hits x else 0) (fun i=>if i=1 then dH hits y else 0) [(1,way)] by rw [aCE];rfl];refine qB hA W ?_;intro p m;rw [bH m];exact ⟨show (0:Int)≤1 by decide,show (1:Int)<2 ^ 63 by decide,rfl,rfl⟩
end
section
structure JL (hits:Nat→Int) (odd:Nat→Bool) (O:List (Int×D)) (way:Int) (a:Addr) (l:Str→Option D) (ln:List Tb):Prop where
 jline:l "line"=some (.list (ln.map (cD hits odd)))
 jones:l "ones"=some (.idict O)
 jway:l "way"=some (.int way)
 jnotes:l "notes"=some (.val (.ref a))
 jby:l "by"=some (sJ [(1,way)])
theorem JL.up {hits odd O way a l ln d} {x:Str} (j:JL hits odd O way a l ln) (h1:autoParam (x≠"line") ad) (h2:autoParam (x≠"ones") ad) (h3:autoParam (x≠"way") ad) (h4:autoParam (x≠"notes") ad) (h5:autoParam (x≠"by") ad):JL hits odd O way a (up l x d) ln:=
 ⟨(aA h1.symm).trans j.jline,(aA h2.symm).trans j.jones,(aA h3.symm).trans j.jway,(aA h4.symm).trans j.jnotes,(aA h5.symm).trans j.jby⟩
theorem JL.newline {hits odd O way a l ln ln'} (j:JL hits odd O way a l ln):JL hits odd O way a (Mine.Internal.up l "line" (.list (ln'.map (cD hits odd)))) ln':=
 ⟨aE,(aA (by decide)).trans j.jones,(aA (by decide)).trans j.jway,(aA (by decide)).trans j.jnotes,(aA (by decide)).trans j.jby⟩
theorem gD {hits odd} {ln:List Tb} {i:Nat} {t:Tb} {z:Int} (e:ln[i]?=some t) (hz:z=(i:Int)):0≤z∧(ln.map (cD hits odd))[z.toNat]?=some (cD hits odd t):=by
 subst hz;refine ⟨by lia,?_⟩;rw [Ap,Ar,e];rfl
theorem Ev.cast {e d d'} (q:d=d') (x:Ev w X A env h e d):Ev w X A env h e d':=q▸x
theorem xS {ds:List D} {c:Nat}:ds++As c (.bool true)++[.bool true]=ds++As (c+1) (.bool true):=by
 rw [DO,AG]
theorem vX {n a ds} {hits:Nat→Int} {odd:Nat→Bool} {O:List (Int×D)} {line:List Tb} {way:Int} {vs:List Ag} (hA:dF (n+5) A) (hX:XL X s.heap) (W:Wd w (T1 w.params) (hx X s.heap)) (tX:aK∈X) (aX:a∈X) (ne:a≠aK)
  (hm1:cN w X s.heap a (.list ds)) (hm2:cN w X s.heap aK .ctab) (hds:ds.length≤1000) (hw:way=1∨way = -1)
  (l1:1≤line.length) (l6:line.length≤6) (fl:line.flatten.length≤50) (nod:(bF line.flatten).Nodup) (hO:∀ k∈bF line.flatten,bE O (k:Int)=some (kG hits odd k 1))
  (r:cG w (hx X s.heap) vs [.list (line.map (cD hits odd)),.idict O,.int way,.val (.ref a)]) :
  Au (AI prog w) A (call (.ref 173) vs []) (fun v s'=>∃ e c,Joined (dH hits) line e∧c≤200∧Rp w (hx X s'.heap) v (cD hits odd e)∧Ch [a,aK] s s'∧cN w X s'.heap a (.list (ds++As c (.bool true)))∧cN w X s'.heap aK .ctab) (fun _ _=>False) s:=by
 refine fZ (F:=[a,aK]) (mu:=[(a,.list ds),(aK,.ctab)]) sW hA hX W r rfl (fun y m=>by refine cK m (fun q=>?_) fun m=>?_;exact q▸aX;rw [bH m];exact tX)
  (fun p m=>by refine cK m (fun q=>?_) fun m=>?_;rw [q];exact ⟨.head _,hm1⟩;rw [bH m];exact ⟨.tail _ (.head _),hm2⟩) (.cons (fun p m=>by rw [bH m];exact ne) (AS _ _)) fun L s1 hA' S k1 Q0 k0=>?_
 refine aO S (d:=sJ [(1,way)]) ?by0 (fun s2 S2 _=>?_) (.inl rfl) (by rfl)
 case by0=>exact Ev.call (by ktr_rel) (Kp.cls S.wd cls45) (by kcj_m) (aAp hA' S.wd)
 refine kQ (S:=S2) (Inv:=fun k l mu=>∃ (ln:List Tb) (c:Nat),ln.length=k∧1≤k∧k≤6∧c+20*k≤120∧(bF ln.flatten).Nodup∧(∀ k∈bF ln.flatten,bE O (k:Int)=some (kG hits odd k 1))∧ln.flatten.length≤50∧
   (∀ e,Joined (dH hits) ln e→Joined (dH hits) line e)∧mu=[(a,.list (ds++As c (.bool true))),(aK,.ctab)]∧JL hits odd O way a l ln) line.length
  ⟨line,0,rfl,l1,l6,by exact N1 8 6 l6,nod,hO,fl,fun e z=>z,by simp,⟨rfl,rfl,rfl,rfl,rfl⟩⟩ ?_
 intro k s3 l3 mu3 hI9;refine aDn hI9 ?_;clear hI9;rintro ln c hk hk1 hk6 hc nodl hOl fll hj rfl jl;rintro - S3 Q1 kq;have q1:=jl.jline;refine (Tr.cmp (b:=decide (1<(ln.length:Int))) ?t1 (by ktr_rel) Bo.gt (by with_unfolding_all rfl)).use S3.live aZ.rfl fun s4 k4=>?_
 case t1=>exact Ev.call (by ktr_rel) Kp.builtin (by kcj_m) (by rw [show (ln.length:Int)=((ln.map (cD hits odd)).length:Int) by rw [Ac]];exact Cl.len_list (by rw [Ac];exact N2 8 7 hk hk6))
 have S4:=S3.keeps k4
 by_cases h1:1<ln.length
 case neg=>
  rw [decide_eq_false (by exact N1 8 8 h1),if_neg (by decide)];obtain ⟨e,rfl⟩:∃ e,ln=[e]:=List.length_eq_one_iff.mp (by exact N2 8 9 hk hk1 h1);refine aG (dJ (d:=cD hits odd e) S4 (Ev.sub (by ktr_rel) (by ktr_rel) (Bo.item_list ⟨by decide,rfl⟩ (by decide))) fun v s5 r5 S5 k5=>?_);exact k0 ⟨e,c,hj e .one,by exact N2 8 10 hc,r5.mono (bV fun y m=>Ad _ m),S5.base,(S5.muAt (.head _)).mono (bV fun y m=>Ad _ m) fun o e=>e,(S5.muAt (.tail _ (.head _))).mono (bV fun y m=>Ad _ m) fun o e=>e⟩
 rw [decide_eq_true (by exact N1 8 11 h1),if_pos rfl];refine aO S4 (d:=.int 1) (by ktr_rel) (fun s5 S5 _=>?_) (.inl rfl) (by rfl);have jl5:JL hits odd O way a (up l3 "at" (.int 1)) ln:=jl.up;have hat5:(up l3 "at" (.int 1)) "at"=some (.int ((0+1:Nat):Int)):=aE;generalize up l3 "at" (.int 1)=l5 at S5 jl5 hat5;refine kQ (S:=S5) (Inv:=fun k' l mu=>∃ (i:Nat),i+k'=ln.length∧i+1<ln.length∧(∀ j a b,j<i→ln[j]?=some a→ln[j+2]?=some b→dH hits b<dH hits a)∧l "at"=some (.int ((i+1:Nat):Int))∧
   mu=[(a,.list (ds++As (c+i) (.bool true))),(aK,.ctab)]∧JL hits odd O way a l ln) ln.length
  ⟨0,by exact N1 8 12,by lia,fun j a b q=>by lia,hat5,rfl,jl5⟩ ?_
 intro k' s6 l6 mu6 hI9;refine ob16 hI9 ?_;clear hI9;rintro i hi hi1 hpr hat6 rfl jl6;rintro - S6 Q2 kj;obtain ⟨x,hx0⟩:∃ x,ln[i]?=some x:=⟨_,Ah (by lia)⟩;obtain ⟨y,hy0⟩:∃ y,ln[i+1]?=some y:=⟨_,Ah (by lia)⟩;have q2:=jl6.jline;have q3:=jl6.jby;have lenE:(ln.map (cD hits odd)).length=ln.length:=Ac _;refine cF (Q:=fun b s2=>∃ c',c'≤c+i+1∧((b=false∧(∀ a b,ln[i]?=some a→ln[i+2]?=some b→dH hits a≤dH hits b))∨(b=true∧c'=c+(i+1)∧i+2<ln.length∧∀ a b,ln[i]?=some a→ln[i+2]?=some b→dH hits b<dH hits a))∧
  St w (T1 w.params) s [a,aK] (Fp (aI lK 173 L)++X) (aI lK 173 L) s2 l6 [(a,.list (ds++As c' (.bool true))),(aK,.ctab)])
  (cF (aA3 (de:=.int (mU (dH hits x) (dH hits (ln[i+2]?.getD [])))) (dc:=.int 0) (b:=decide (((i+1:Nat):Int)+1<(ln.length:Int))) (r:=decide (0<mU (dH hits x) (dH hits (ln[i+2]?.getD []))))
   (mu':=[(a,.list (ds++As (c+i) (.bool true)++[.bool true])),(aK,.ctab)]) S6 ?t2 (fun hb=>?t3) (fun s S=>?t4) (fun s S=>Bo.gt) (by with_unfolding_all rfl)) fun b s2 z=>?m1) fun b s2 z=>?m2
 case t2=>
  refine Tr.cmp (by ktr_rel) (Ev.call (by ktr_rel) Kp.builtin (by kcj_m) ?_) Bo.lt (by with_unfolding_all rfl);rw [← lenE];exact Cl.len_list (by exact N3 8 13 hk hk6 lenE)
 case t3=>
  have hb':=of_decide_eq_true hb;obtain ⟨z,hz0⟩:∃ z,ln[i+2]?=some z:=⟨_,Ah (by exact N2 8 14 (of_decide_eq_true hb :))⟩;rw [hz0,CV];refine pL.sign (n:=n+3) hA' hw (by rw [Af,Cb];exact N5 8 15 hds hk hc hi1) jl6.jway jl6.jnotes (fun s S=>?u1) (fun s S=>?u2) (fun s S=>?u3)
  case u1=>
   refine Ev.meth (d0:=sJ [(1,way)]) (by ktr_rel) (Mt.obj S.wd cls45 rfl (eX (P:=w.params)).mem rfl) (Kp.fn S.wd (eX (P:=w.params)).mem) (Es.cons (d:=cD hits odd x) ?v1 (Es.cons (d:=cD hits odd z) ?v2 .nil (by rfl)) (by rfl)) (aAm (n:=n+3) hA' S.wd)
   case v1=>exact Ev.sub (by ktr_rel) (by ktr_rel) (Bo.item_list (gD hx0 (by exact N1 7 14)) (by exact N3 8 16 hk hk6 hi1))
   case v2=>exact Ev.sub (by ktr_rel) (by ktr_rel) (Bo.item_list (gD hz0 (by exact N1 8 17)) (by exact N3 8 18 hk hk6 hi1))
  case u2=>exact Ev.sub (d1:=cD hits odd x) (Ev.sub (by ktr_rel) (by ktr_rel) (Bo.item_list (gD hx0 (by exact N1 7 14)) (by exact N3 8 16 hk hk6 hi1))) (by ktr_rel) (Bo.item_tup ⟨by decide,rfl⟩ (by decide))
  case u3=>exact Ev.sub (d1:=cD hits odd z) (Ev.sub (by ktr_rel) (by ktr_rel) (Bo.item_list (gD hz0 (by exact N1 8 17)) (by exact N3 8 18 hk hk6 hi1))) (by ktr_rel) (Bo.item_tup ⟨by decide,rfl⟩ (by decide))
 case t4=>ktr_rel
 case m1=>
  rcases z with ⟨hb,rfl,S7⟩ | ⟨hb,hr,S7⟩
  ·refine ⟨c+i,by lia,.inl ⟨rfl,fun a b ha hb2=>?_⟩,S7⟩
   have:=of_decide_eq_false hb;have:=(Aw.mp hb2).1;exact yI 8 19 (of_decide_eq_false hb :) this
  ·have hb':=of_decide_eq_true hb
   obtain ⟨z,hz0⟩:∃ z,ln[i+2]?=some z:=⟨_,Ah (by exact N2 8 14 (of_decide_eq_true hb :))⟩;rw [hz0,CV,aE5] at hr;rw [xS] at S7;refine ⟨c+i+1,by lia,?_,S7⟩;cases b with
   | false=>
    refine .inl ⟨rfl,fun a b ha hb2=>?_⟩;have:=of_decide_eq_false hr.symm;rw [hx0] at ha;rw [hz0] at hb2;cases ha;cases hb2;exact gK 8 20 this
   | true=>
    refine .inr ⟨rfl,rfl,by exact N2 8 14 (of_decide_eq_true hb :),fun a b ha hb2=>?_⟩;have:=of_decide_eq_true hr.symm;rw [hx0] at ha;rw [hz0] at hb2;cases ha;cases hb2;exact this
 case m2=>
 refine ob13 z fun c' hc' hz S7=>?_;clear z;rcases hz with ⟨rfl,hstop⟩ | ⟨rfl,rfl,hi2,hgo⟩
 case inr=>
  rw [if_pos rfl];refine iM S7 (d:=.int (((i+1:Nat):Int)+1)) hat6 (by ktr_rel) Bo.iadd fun s8 S8 _=>?_;refine aG (kj ⟨_,_,⟨k' - 1,by exact N2 1 14 (cY (N3 8 21 hi hi1)),i+1,by exact N4 8 22 hi eB (cY (N3 8 21 hi hi1)),by lia,?_,?_,rfl,jl6.up⟩,S8,rfl⟩)
  ·intro j a b hj2 ha hb2
   refine BH (Nat.lt_succ_iff_lt_or_eq.mp hj2) (fun q=>?_) fun q=>?_
   ·exact hpr j a b q ha hb2
   ·subst q;exact hgo a b ha hb2
  ·exact aE.trans (by congr 2)
 case inl=>
 rw [if_neg (by decide)];refine aG ?_;have spl:=tS hx0 hy0;have hperm:∀ g,(bF (((ln.take i++ln.drop (i+2)).take g++[bP x y]++(ln.take i++ln.drop (i+2)).drop g).flatten)).Perm (bF ln.flatten):=fun g=>by
  refine (aBv rfl).trans ?_;rw [← spl]
 have hxy:(bF (x++y)).Nodup:=by
  rw [spl,jP,Cu] at nodl;exact (Cu.mp nodl.2.1).1
 have hxyl:x.length+y.length≤50:=by
  have:=congrArg (fun l=>(bF l.flatten).length) spl;simp only [jP,Af,iZ] at this;exact N5 9 0 fll this
 have hxyO:∀ k∈bF (x++y),bE O (k:Int)=some (kG hits odd k 1):=fun k m=>hOl k (by
  rw [spl,jP];exact Ad _ (Ay _ m))
 have hlvl:(ln.take i++ln.drop (i+2)).length+2=ln.length:=by
  rw [Af,Bm (by exact N2 9 1 hi1),AW];exact N3 9 3 eB (cY (N2 9 2 hi1))
 have hstep:=@Joined.step (dH hits) ln i;have hat1:((i+1:Nat):Int) - 1=(i:Int):=by exact N1 7 14
 have hat2:((i+1:Nat):Int)+1=((i+2:Nat):Int):=by exact N1 8 17
 refine mN S7 (d:=kA ((y.length:Int)+x.length) (dH hits y+dH hits x) (bR hits y+bR hits x) (jR y+jR x) (nU (cC hits odd x) (cC hits odd y))) (mu':=[(a,.list (ds++As c' (.bool true))),(aK,.ctab)])
  (pL.call (pre:=[(a,.list (ds++As c' (.bool true)))]) (post:=[]) (ds:=[cD hits odd x,cD hits odd y]) (f:=.ref 56) (fun s S=>⟨?f1,Kp.fn S.wd (kT (P:=w.params)).mem,?f2⟩)
   (fun s vs S r m=>lW (n:=n+1) (odd:=fun i=>odd i.toNat) hA' S.live S.wd (S.mus _ (.tail _ (.head _))).1 m vM vM (by rw [lE];exact N2 9 4 hxyl) (by rw [lE];exact N2 9 5 hxyl) r) (by rfl)) (fun s8 S8=>?_) (.inl rfl) (by rfl)
 case f1=>lcg_off
 case f2=>
  refine Es.cons ?v1 (Es.cons ?v2 .nil (by rfl)) (by rfl)
  case v1=>exact Ev.sub (by ktr_rel) (by ktr_rel) (Bo.item_list (gD hx0 (by lia)) (by exact N3 8 16 hk hk6 hi1))
  case v2=>exact Ev.sub (by ktr_rel) (by ktr_rel) (Bo.item_list (gD hy0 (by exact N1 9 6)) (by exact N3 9 7 hk hk6 hi1))
 have jl8:=jl6.up (x:="both") (d:=kA ((y.length:Int)+x.length) (dH hits y+dH hits x) (bR hits y+bR hits x) (jR y+jR x) (nU (cC hits odd x) (cC hits odd y)));have hb8:up l6 "both" (kA ((y.length:Int)+x.length) (dH hits y+dH hits x) (bR hits y+bR hits x) (jR y+jR x) (nU (cC hits odd x) (cC hits odd y))) "both"=some (.tup [.int ((y.length:Int)+x.length),.int (dH hits y+dH hits x),.int (bR hits y+bR hits x),.int (jR y+jR x),.idict (cC hits odd (x++y))]):=by rw [aCb hxy];exact aE
 have hat8:up l6 "both" (kA ((y.length:Int)+x.length) (dH hits y+dH hits x) (bR hits y+bR hits x) (jR y+jR x) (nU (cC hits odd x) (cC hits odd y))) "at"=some (.int ((i+1:Nat):Int)):=hat6;generalize up l6 "both" (kA ((y.length:Int)+x.length) (dH hits y+dH hits x) (bR hits y+bR hits x) (jR y+jR x) (nU (cC hits odd x) (cC hits odd y)))=l8 at S8 jl8 hb8 hat8;refine mN S8 (d:=cD hits odd (bP x y)) (mu':=[(a,.list (ds++As c' (.bool true))),(aK,.ctab)])
  (pL.call (pre:=[(a,.list (ds++As c' (.bool true)))]) (post:=[]) (ds:=[kA ((y.length:Int)+x.length) (dH hits y+dH hits x) (bR hits y+bR hits x) (jR y+jR x) (cC hits odd (x++y)),kA 0 0 (dH hits y+dH hits x) ((y.length:Int)+x.length) (cC hits odd (oY (x++y)))]) (f:=.ref 56)
   (fun s S=>⟨?g1,Kp.fn S.wd (kT (P:=w.params)).mem,?g2⟩)
   (fun s vs S r m=>?g3) (by rfl)) (fun s9 S9=>?_) (.inl rfl) (by rfl)
 case g1=>lcg_off
 case g3=>
  have:=lW (n:=n+1) (odd:=fun i=>odd i.toNat) hA' S.live S.wd (S.mus _ (.tail _ (.head _))).1 m vM vM (by rw [lE,Af];exact N2 9 8 hxyl) (by rw [lE,aBH,Af];exact N2 9 8 hxyl) r;rw [aA7 hxy] at this;unfold cD;rw [aDf,aA5,aBk,aEK];rw [show (0:Int)+((y.length:Int)+x.length)=(y.length:Int)+x.length by exact N2 9 9,show (0:Int)+(dH hits y+dH hits x)=dH hits y+dH hits x by exact gK 9 10] at this;exact this
 case g2=>
  have q8:=jl8.jones;refine Es.cons ?v1 (Es.cons (Ev.tup (Es.cons ?v2 (Es.cons ?v3 (Es.cons ?v4 (Es.cons ?v5 (Es.cons ?v6 .nil (by rfl)) (by rfl)) (by rfl)) (by rfl)) (by rfl)) (by krn_off)) .nil (by rfl)) (by rfl)
  case v1=>ktr_rel
  case v2=>ktr_rel
  case v3=>ktr_rel
  case v4=>exact Ev.sub (by ktr_rel) (by ktr_rel) (Bo.item_tup ⟨by decide,rfl⟩ (by decide))
  case v5=>exact Ev.sub (by ktr_rel) (by ktr_rel) (Bo.item_tup ⟨by decide,rfl⟩ (by decide))
  case v6=>
   have eK:keysOf (cC hits odd (x++y))=(bF (x++y)).map fun (k:Nat)=>D.int (k:Int):=by
    unfold keysOf cC bF;rw [An,An];rfl
   have eD:D.idict (cC hits odd (oY (x++y)))=.idict (((bF (x++y)).map fun (k:Nat)=>D.int (k:Int)).map fun d=>(((aU d:Nat):Int),kG hits odd (aU d) 1)):=by
    unfold cC bF oY;rw [An,An,An];rfl
   rw [eD];refine Ev.ofCq (Cq.dcomp (tup:=false) (asg:=fun d l=>up l "place" d) (kf:=fun d=>((aU d:Nat):Int)) (vf:=fun d=>kG hits odd (aU d) 1) hA' S.ecf gN.dict (fX.of (d:=.idict (cC hits odd (x++y))) ?w1 (eK▸iQ.idict hA')) ?w2 ?w3 ?w4 ?w5 ?w6) rfl
   case w1=>exact Ev.sub (by ktr_rel) (by ktr_rel) (Bo.item_tup ⟨by decide,rfl⟩ (by decide))
   case w2=>rw [Ac,iZ,Af];exact N2 9 11 hxyl
   case w3=>
    rw [An];exact Eu _ (fun a b hab q=>hab (by
     have:((a:Nat):Int)=((b:Nat):Int):=by simpa [aU] using q
     exact N2 1 16 this)) hxy
   case w4=>intro C d l _;exact .name (.inl rfl)
   case w5=>
    intro C Xc h' d l m ce;refine cX m ?_;rintro k hk rfl;exact nmC ce rfl
   case w6=>
    intro C Xc h' d l m ce;refine cX m ?_;rintro k hk rfl;show Ev w Xc _ _ h' _ (kG hits odd k 1);have qk:up l "place" (.int (k:Int)) "place"=some (.int (k:Int)):=rfl;refine Ev.sub (d1:=.idict O) (d2:=.int (k:Int)) ?y1 (by ktr_rel) (Bo.item_idict (hxyO k hk))
    case y1=>exact nmR ce S q8 rfl rfl rfl
 have jl9:=jl8.up (x:="both") (d:=cD hits odd (bP x y));have hb9:up l8 "both" (cD hits odd (bP x y)) "both"=some (cD hits odd (bP x y)):=aE;have hat9:up l8 "both" (cD hits odd (bP x y)) "at"=some (.int ((i+1:Nat):Int)):=hat8;generalize up l8 "both" (cD hits odd (bP x y))=l9 at S9 jl9 hb9 hat9;have q9:=jl9.jline;have mtk:∀ m,(ln.map (cD hits odd)).take m=(ln.take m).map (cD hits odd):=fun m=>CC.symm;have mdr:∀ m,(ln.map (cD hits odd)).drop m=(ln.drop m).map (cD hits odd):=fun m=>FJ.symm;refine aO S9 (d:=.list ((ln.take i++ln.drop (i+2)).map (cD hits odd))) ?e1 (fun s10 S10 _=>?_) (.inl rfl) (by rfl)
 case e1=>
  rw [Ax,← mtk,← mdr,← dQ,← eH];refine Ev.bin (Ev.sub (by ktr_rel) (Ev.slc .none (.some (Ev.cast (by rw [hat1]) (Ev.bin (nmS S9 hat9) Ev.int Bo.sub))) .none) (Bo.slice_list (by decide) (by exact N3 8 13 hk hk6 lenE)))
   (Ev.sub (by ktr_rel) (Ev.slc (.some (Ev.cast (by rw [hat2]) (Ev.bin (nmS S9 hat9) Ev.int Bo.add))) .none .none) (Bo.slice_list (by decide) (by exact N3 8 13 hk hk6 lenE))) (Bo.addl ?_)
  rw [dQ,eH,Bm (by exact N3 9 12 hi1 lenE),AW];exact N5 9 13 hk hk6 hi1 lenE (AD _ _)
 have jl10:=jl9.newline (ln':=ln.take i++ln.drop (i+2));have hb10:up l9 "line" (.list ((ln.take i++ln.drop (i+2)).map (cD hits odd))) "both"=some (cD hits odd (bP x y)):=hb9;have hat10:up l9 "line" (.list ((ln.take i++ln.drop (i+2)).map (cD hits odd))) "at"=some (.int ((i+1:Nat):Int)):=hat9;generalize up l9 "line" (.list ((ln.take i++ln.drop (i+2)).map (cD hits odd)))=l10 at S10 jl10 hb10 hat10;generalize hr:ln.take i++ln.drop (i+2)=rr at *;refine aO S10 (d:=.int (i:Int)) (Ev.cast (by rw [hat1]) (Ev.bin (nmS S10 hat10) Ev.int Bo.sub)) (fun s11 S11 _=>?_) (.inl rfl) (by rfl);have jl11:=jl10.up (x:="goal") (d:=.int (i:Int));have hb11:up l10 "goal" (.int (i:Int)) "both"=some (cD hits odd (bP x y)):=hb10;have hg11:up l10 "goal" (.int (i:Int)) "goal"=some (.int (i:Int)):=aE;generalize up l10 "goal" (.int (i:Int))=l11 at S11 jl11 hb11 hg11;refine kQ (S:=S11) (Inv:=fun g l mu=>∃ c'',g≤i∧c''+g≤c'+i∧(∀ j a,g≤j→j<i→rr[j]?=some a→dH hits a<dH hits (bP x y))∧l "goal"=some (.int (g:Int))∧l "both"=some (cD hits odd (bP x y))∧
   mu=[(a,.list (ds++As c'' (.bool true))),(aK,.ctab)]∧JL hits odd O way a l rr) i
  ⟨c',Am _,by lia,fun j a q1 q2=>by lia,hg11,hb11,rfl,jl11⟩ ?_
 intro g s12 l12 mu12 hI9;refine ob17 hI9 ?_;clear hI9;rintro c'' hgi hcg hlow hg12 hb12 rfl jl12;rintro - S12 Q2 kj;have q12:=jl12.jline;have q13:=jl12.jby;have hb12':l12 "both"=some (.tup [.int (bP x y).length,.int (dH hits (bP x y)),.int (bR hits (bP x y)),.int (jR (bP x y)),.idict (cC hits odd (bP x y))]):=hb12;refine cF (Q:=fun b s2=>∃ c3,c3≤c''+1∧((b=false∧(∀ a,0<g→rr[g - 1]?=some a→dH hits (bP x y)≤dH hits a))∨(b=true∧0<g∧∀ a,rr[g - 1]?=some a→dH hits a<dH hits (bP x y)))∧
  St w (T1 w.params) s [a,aK] (Fp (aI lK 173 L)++X) (aI lK 173 L) s2 l12 [(a,.list (ds++As c3 (.bool true))),(aK,.ctab)])
  (cF (aA3 (de:=.int (mU (dH hits (rr[g - 1]?.getD [])) (dH hits (bP x y)))) (dc:=.int 0) (b:=decide ((0:Int)<(g:Int))) (r:=decide (mU (dH hits (rr[g - 1]?.getD [])) (dH hits (bP x y))<0))
   (mu':=[(a,.list (ds++As c'' (.bool true)++[.bool true])),(aK,.ctab)]) S12 ?t5 (fun hb=>?t6) (fun s S=>?t7) (fun s S=>Bo.lt) (by with_unfolding_all rfl)) fun b s2 z=>?m3) fun b s2 z=>?m4
 case t5=>exact Tr.cmp (by ktr_rel) (by ktr_rel) Bo.gt (by with_unfolding_all rfl)
 case t6=>
  have hb':=of_decide_eq_true hb;obtain ⟨z,hz0⟩:∃ z,rr[g - 1]?=some z:=⟨_,Ah (by exact N5 9 14 hi1 hlvl hgi (cY (N1 7 12 (of_decide_eq_true hb :))))⟩;rw [hz0,CV];refine pL.sign (n:=n+3) hA' hw (by rw [Af,Cb];exact N8 9 15 hds hk hc hi1 hc' hcg) jl12.jway jl12.jnotes (fun s S=>?u1) (fun s S=>?u2) (fun s S=>?u3)
  case u1=>
   refine Ev.meth (d0:=sJ [(1,way)]) (by ktr_rel) (Mt.obj S.wd cls45 rfl (eX (P:=w.params)).mem rfl) (Kp.fn S.wd (eX (P:=w.params)).mem) (Es.cons (d:=cD hits odd z) ?v1 (Es.cons (d:=cD hits odd (bP x y)) ?v2 .nil (by rfl)) (by rfl)) (aAm (n:=n+3) hA' S.wd)
   case v1=>exact Ev.sub (by ktr_rel) (by ktr_rel) (Bo.item_list (gD hz0 (by exact N2 9 16 eB (cY (N1 7 12 (of_decide_eq_true hb :))))) (by exact N4 9 17 hk hk6 hi1 hgi))
   case v2=>exact nmS S hb12
  case u2=>exact Ev.sub (d1:=cD hits odd z) (Ev.sub (by ktr_rel) (by ktr_rel) (Bo.item_list (gD hz0 (by exact N2 9 16 eB (cY (N1 7 12 (of_decide_eq_true hb :))))) (by exact N4 9 17 hk hk6 hi1 hgi))) (by ktr_rel) (Bo.item_tup ⟨by decide,rfl⟩ (by decide))
  case u3=>exact Ev.sub (d1:=cD hits odd (bP x y)) (nmS S hb12) (by ktr_rel) (Bo.item_tup ⟨by decide,rfl⟩ (by decide))
 case t7=>ktr_rel
 case m3=>
  rcases z with ⟨hb,rfl,S13⟩ | ⟨hb,hr2,S13⟩
  ·refine ⟨c'',by lia,.inl ⟨rfl,fun a ha hb2=>?_⟩,S13⟩
   have:=of_decide_eq_false hb;exact aA6 9 18 (of_decide_eq_false hb :) ha
  ·have hb':=of_decide_eq_true hb
   obtain ⟨z,hz0⟩:∃ z,rr[g - 1]?=some z:=⟨_,Ah (by exact N5 9 14 hi1 hlvl hgi (cY (N1 7 12 (of_decide_eq_true hb :))))⟩;rw [hz0,CV,aE4] at hr2;rw [xS] at S13;refine ⟨c''+1,by lia,?_,S13⟩;cases b with
   | false=>
    refine .inl ⟨rfl,fun a ha hb2=>?_⟩;have:=of_decide_eq_false hr2.symm;rw [hz0] at hb2;cases hb2;exact gK 8 20 this
   | true=>
    refine .inr ⟨rfl,by exact N1 9 19 (of_decide_eq_true hb :),fun a hb2=>?_⟩;have:=of_decide_eq_true hr2.symm;rw [hz0] at hb2;cases hb2;exact this
 case m4=>
 refine ob13 z fun c3 hc3 hz S13=>?_;clear z;rcases hz with ⟨rfl,hstop2⟩ | ⟨rfl,hg0,hgo⟩
 case inr=>
  rw [if_pos rfl];refine iM S13 (d:=.int ((g:Int) - 1)) hg12 (by ktr_rel) Bo.isub fun s14 S14 _=>?_;refine aG (kj ⟨up l12 "goal" (.int ((g:Int) - 1)),_,⟨g - 1,by exact N2 1 14 (cY (N1 0 19 hg0)),c3,by exact N3 9 20 hgi (AD _ _),by exact N6 9 21 hcg hc3 (cY (N1 0 19 hg0)),?_,?_,hb12,rfl,jl12.up⟩,S14,rfl⟩)
  ·intro j a hj1 hj2 ha
   refine BH (Nat.lt_or_ge j g) (fun q=>?_) fun q=>?_
   ·have:j=g - 1:=by exact N3 9 22 hj1 q eB
    subst this;exact hgo a ha
   ·exact hlow j a q hj2 ha
  ·exact aE.trans (by congr 2 <;> exact N2 9 16 eB (cY (N1 0 19 hg0)))
 case inl=>
 rw [if_neg (by decide)];refine aG ?_;have lenR:(rr.map (cD hits odd)).length=rr.length:=Ac _;refine aO S13 (d:=.list ((rr.take g++[bP x y]++rr.drop g).map (cD hits odd))) ?e3 (fun s14 S14 _=>?_) (.inl rfl) (by rfl)
 case e3=>
  have mtk2:(rr.take g).map (cD hits odd)=(rr.map (cD hits odd)).take g:=CC;have mdr2:(rr.drop g).map (cD hits odd)=(rr.map (cD hits odd)).drop g:=FJ;rw [Ax,Ax,mtk2,mdr2,← dQ,← eH];refine Ev.bin (Ev.bin (Ev.sub (by ktr_rel) (Ev.slc .none (.some (nmS S13 hg12)) .none) (Bo.slice_list (by decide) (by exact N4 10 0 hk hk6 hlvl lenR))) (Ev.list (Es.cons (nmS S13 hb12) .nil (by rfl)) (by krn_off)) (Bo.addl ?_))
   (Ev.sub (by ktr_rel) (Ev.slc (.some (nmS S13 hg12)) .none .none) (Bo.slice_list (by decide) (by exact N4 10 0 hk hk6 hlvl lenR))) (Bo.addl ?_)
  ·rw [dQ,Bm (by exact N5 10 1 hi1 hlvl hgi lenR)];simp only [Aq,AQ];exact N4 10 2 hk hk6 hi1 hgi
  ·rw [dQ,eH,Af,Bm (by exact N5 10 1 hi1 hlvl hgi lenR),AW];simp only [Aq,AQ];exact N7 10 3 hk hk6 hi1 hlvl hgi lenR (AD _ _)
 refine aG (kq ⟨_,_,⟨k - 1,by exact N2 1 14 (cY (N1 10 4 hk1)),rr.take g++[bP x y]++rr.drop g,c3,?_,by exact N3 10 5 hk h1 eB,by exact N2 10 6 hk6 (AD _ _),by exact N9 10 7 hk hc hi1 hc' hcg hc3 (cY (N1 10 4 hk1)),?_,?_,?_,?_,rfl,jl12.newline⟩,S14,rfl⟩)
 ·rw [Af,Af,Bm (by exact N4 10 8 hi1 hlvl hgi),AW];simp only [Aq,AQ];exact N6 10 9 hk hlvl eB eB (cY (N4 10 8 hi1 hlvl hgi)) (cY (N1 10 4 hk1))
 ·exact (hperm g).nodup_iff.mpr nodl
 ·exact fun k m=>hOl k ((hperm g).mem_iff.mp m)
 ·have:=(hperm g).length_eq
  rw [iZ,iZ] at this;exact N2 10 10 fll this
 ·intro e he
  exact hj e (Joined.step hx0 hy0 hpr hstop hgi (by rw [hr];exact hlow) (by rw [hr];exact hstop2) (by rw [hr];exact he))
end
section
theorem jJ {x pos' e pos} (he:Au (AI prog w) A (eval e env) (fun v s1=>∃ d mu',Rp w (hx X s1.heap) v d∧St w T s₀ F X env s1 l mu'∧∀ s',St w T s₀ F X env s' (up l x d) mu'→Xs w A rest env Q E s') E s)
  (hk:autoParam (nB env x) ak) (hs:autoParam (Cd e (some (.Name x pos')) pos.line env=pure false) aq):Xs w A (.Assign [.Name x pos'] e pos::rest) env Q E s:=
 cI (By (B9 he (fun v s1 ⟨d,mu',r,S,k⟩=>S.store r hk fun s2 S2 c=>(k s2 S2).go) fun _ _ x=>x) hs)
class inductive PV (b:Array UInt8):Nat→Int→Int→Option (Int×Nat)→Prop
 | stop {i c val}:Bk c 64=0→PV b i c val (some (val,i))
 | more {i c val c' r}:Bk c 64≠0→val.natAbs<2 ^ 64→b[i]?=some c'→PV b (i+1) (c'.toNat:Int) (FD (val*2 ^ (6:Int).toNat) (Bk (c'.toNat:Int) 63)) r→PV b i c val r
 | fin {i c val}:Bk c 64≠0→val.natAbs<2 ^ 64→b[i]?=none→PV b i c val none
inductive PV0 (b:Array UInt8) (i:Nat) (r:Option (Int×Nat)):Prop
 | first {c}:b[i]?=some c→PV b (i+1) (c.toNat:Int) (Bk (c.toNat:Int) 63) r→PV0 b i r
 | fin:b[i]?=none→r=none→PV0 b i r
theorem cN.iter {a b i} (m:cN w X h a (.biter b i)):∃ t,CK h a b t i:=by cases m with | biter p=>exact ⟨_,p⟩
theorem aAz {x p pos q it b i c} {Q:Ag→Ak→Prop} (hA:A.handled=none) (S:St w (T1 w.params) s₀ F X env s l [(it,.biter b i)]) (hl:l x=some (.val (.ref it))) (hc:b[i]?=some c) (hd:(x==("__debug__":Str))=false) (hk:env.kindOf "next"=some .globalImplicit)
  (hst:AF [AO.Name x p] env=(false,eval (.Name x p) env)::AF [] env)
  (k:∀ v s',Rp w (hx X s'.heap) v (.int (c.toNat:Int))→St w (T1 w.params) s₀ F X env s' l [(it,.biter b (i+1))]→Q v s')
  (hpl:(backTo pos (AF [AO.Name x p] env)).any (·.1)=false):Au (AI prog w) A (eval (.Call (.Name "next" q) [.Name x p] [] pos) env) Q E s:=by
 refine eU S.live aZ.rfl (nmB S (frM (by kernel_rfl)) (by boot_fact) hk (by decide)) Kp.builtin (Es.one (nmS S hl hd) hst) (fun vs s1 r1 k1=>?_) hpl;have S1:=S.keeps k1;refine ob12 r1.c1 ?_;rintro _ rfl rv;cases rv.ofVal;refine ob11 ((S1.muAt (.head _)).iter) fun t hi=>?_;refine pX hi hc fun h' hi' hs=>?_;refine ob12 (id hi') fun o ho _=>?_;have itX:=(S1.mus _ (.head _)).1;exact k _ _ (.int _ _) (S1.mutate (pre:=[]) (post:=[]) (Ch.same hs (.head _)) ⟨o,ho⟩ (.biter hi'))
theorem oQ {x p pos q it b i} {Q:Ag→Ak→Prop} (hA:A.handled=none) (S:St w (T1 w.params) s₀ F X env s l [(it,.biter b i)]) (hl:l x=some (.val (.ref it))) (hc:b[i]?=none) (hd:(x==("__debug__":Str))=false) (hk:env.kindOf "next"=some .globalImplicit)
  (hst:AF [AO.Name x p] env=(false,eval (.Name x p) env)::AF [] env)
  (k:∀ s1 g h' e,St w (T1 w.params) s₀ F X env s1 l [(it,.biter b i)]→A4 it s1.heap g→(∃ o,g.get? it=some o)→aB8 g h' e "StopIteration"→E (.ref e) { s1 with heap:=h' })
  (hpl:(backTo pos (AF [AO.Name x p] env)).any (·.1)=false):Au (AI prog w) A (eval (.Call (.Name "next" q) [.Name x p] [] pos) env) Q E s:=by
 refine eU S.live aZ.rfl (nmB S (frM (by kernel_rfl)) (by boot_fact) hk (by decide)) Kp.builtin (Es.one (nmS S hl hd) hst) (fun vs s1 r1 k1=>?_) hpl;have S1:=S.keeps k1;refine ob12 r1.c1 ?_;rintro _ rfl rv;cases rv.ofVal;refine ob11 ((S1.muAt (.head _)).iter) fun t hi=>?_;exact sB hA hi hc fun g h' e hs ho n=>k s1 g h' e S1 hs ho n
theorem pY {n it b i r} {Ls:List Addr} {outer:List Env} {vs:List Ag} (hA:dF (n+1) A) (hX:XL X s.heap) (W:Wd w (T1 w.params) (hx X s.heap)) (iX:it∈X) (ne:it≠aK) (hm:cN w X s.heap it (.biter b i))
  (hfr:A.frames=some outer) (ho:nF outer Ls s.heap) (hit:it∉Ls) (pv:PV0 b i r) (rv:cG w (hx X s.heap) vs [.val (.ref it)]) :
  Au (AI prog w) A (call (.ref 85) vs []) (fun v s'=>∃ val i',r=some (val,i')∧Rp w (hx X s'.heap) v (.int val)∧Ch [it] s s'∧cN w X s'.heap it (.biter b i')) (fun ev s'=>r=none∧∃ e,ev=.ref e∧Fly Ls it e s s') s:=by
 refine sP (F:=[it]) (mu:=[(it,.biter b i)]) wV hA hX W rv rfl (fun y m=>by rw [bH m];exact iX) (fun p m=>by rw [bH m];exact ⟨.head _,hm⟩) (AS _ _) fun L s1 hA' S k1 fresh=>?_;have stop:∀ (s1:Ak) l g h' e i,r=none→St w (T1 w.params) s [it] (Fp (aI iN 85 L)++X) (aI iN 85 L) s1 l [(it,.biter b i)]→A4 it s1.heap g→(∃ o,g.get? it=some o)→aB8 g h' e "StopIteration"→
   Au (AI prog w) (A.deeper (aI iN 85 L)) (leaving (aI iN 85 L) (.ref e)) (fun _ s''=>r=none∧∃ e1,Ag.ref e=.ref e1∧Fly Ls it e1 s s'') (fun e' s''=>r=none∧∃ e1,e'=.ref e1∧Fly Ls it e1 s s'') { s1 with heap:=h' }:=by
  intro s1 l g h' e i hr S hg hgi hn;have hLi:L≠it:=fun z=>by
   have:=(S.mus _ (.head _)).2.1;exact this (z▸.head _)
  refine ob12 S.ns fun m hns _=>?_;exact aBz (E:=fun ev s''=>r=none∧∃ e1,ev=.ref e1∧Fly Ls it e1 s s'') rfl hfr ho hit (fresh L (.head _)) ⟨m,hns⟩ S.base hX.2 ne.symm hg hgi hLi hn fun s' fl=>⟨hr,e,rfl,fl⟩
 have q0:bQ (fun _=>none) ["iterator"] [D.val (.ref it)] "iterator"=some (.val (.ref it)):=rfl;generalize bQ (fun _=>none) ["iterator"] [D.val (.ref it)]=l1 at S q0;cases pv with
 | fin hb hr=>
  exact jJ (F:=[it]) (X:=Fp (aI iN 85 L)++X) (s₀:=s) (T:=T1 w.params) (l:=l1) (oQ hA'.hh S q0 hb (by decide) rfl (by rfl) (fun s1 g h' e S1 hg hgi hn=>stop s1 _ g h' e i hr S1 hg hgi hn) (by rfl)) (.inl rfl) (by rfl)
 | @first c hb hp=>
  refine jJ (F:=[it]) (X:=Fp (aI iN 85 L)++X) (s₀:=s) (T:=T1 w.params) (l:=l1) (aAz hA'.hh S q0 hb (by decide) rfl (by rfl) (fun v s2 r2 S2=>⟨_,_,r2,S2,fun s3 S3=>?_⟩) (by rfl)) (.inl rfl) (by rfl);have q1:up l1 "b" (.int (c.toNat:Int)) "b"=some (.int (c.toNat:Int)):=aE;have q2:up l1 "b" (.int (c.toNat:Int)) "iterator"=some (.val (.ref it)):=q0;generalize up l1 "b" (.int (c.toNat:Int))=l2 at S3 q1 q2;refine aO S3 (by ktr_rel) (fun s4 S4 _=>?_) (.inl rfl) (by rfl);refine sT PassesOwn.leaving (S:=S4) (Inv:=fun k l mu=>∃ i' c' val,i'+k=b.size+1∧i'≤b.size∧PV b i' c' val r∧l "b"=some (.int c')∧l "val"=some (.int val)∧l "iterator"=some (.val (.ref it))∧mu=[(it,.biter b i')]) (b.size - i)
   ⟨i+1,c.toNat,_,?_,?_,hp,q1,aE,q2,rfl⟩ ?_
  ·have:=(BD.mp hb).1;exact N3 10 11 eB (cY (N2 4 12 this))
  ·have:=(BD.mp hb).1;lia
  intro k s5 l5 mu5 hI9;refine aF7 hI9 ?_;clear hI9;rintro i' c' val hk hi' hpv g1 g2 g3 rfl;rintro - S5 Q1 kq;refine (Tr.val (b:=Bk c' 64 != 0) (Ev.bin (by ktr_rel) (by ktr_rel) Bo.band) Tt.int (by intro _;rfl)).use S5.live aZ.rfl fun s6 k6=>?_;have S6:=S5.keeps k6;cases hpv with
  | stop h0=>
   rw [h0,show ((0:Int) != 0)=false from rfl,if_neg (by decide)];refine aG (dJ S6 (by ktr_rel) fun v s7 r7 S7 k7=>?_);exact ⟨val,i',rfl,r7.mono (bV fun y m=>Ad _ m),S7.base,(S7.muAt (.head _)).mono (bV fun y m=>Ad _ m) fun o e=>e⟩
  | @fin _ _ _ h0 hv hb2=>
   rw [show (Bk c' 64 != 0)=true from bne_iff_ne.mpr h0,if_pos rfl];refine iM S6 (d1:=.int 6) g2 (by ktr_rel) (Bo.ilshift (by decide) hv) fun s7 S7 _=>?_;exact jJ (F:=[it]) (X:=Fp (aI iN 85 L)++X) (s₀:=s) (T:=T1 w.params) (l:=l5) (oQ hA'.hh S7 (by exact g3) hb2 (by decide) rfl (by rfl) (fun s1 g h' e S1 hg hgi hn=>stop s1 _ g h' e i' rfl S1 hg hgi hn) (by rfl)) (.inl rfl) (by rfl)
  | @more _ _ _ c2 _ h0 hv hb2 hp2=>
   rw [show (Bk c' 64 != 0)=true from bne_iff_ne.mpr h0,if_pos rfl];refine iM S6 (d1:=.int 6) g2 (by ktr_rel) (Bo.ilshift (by decide) hv) fun s7 S7 _=>?_;refine jJ (F:=[it]) (X:=Fp (aI iN 85 L)++X) (s₀:=s) (T:=T1 w.params) (aAz hA'.hh S7 (by exact g3) hb2 (by decide) rfl (by rfl) (fun v s8 r8 S8=>⟨_,_,r8,S8,fun s9 S9=>?_⟩) (by rfl)) (.inl rfl) (by rfl);refine iM S9 (d0:=.int (val*2 ^ (6:Int).toNat)) (d1:=.int (Bk (c2.toNat:Int) 63)) ((aA (by decide)).trans aE) (Ev.bin (nmS S9 aE) (by ktr_rel) Bo.band) Bo.ior fun s10 S10 _=>?_;have:=(BD.mp hb2).1;exact aG (kq ⟨up (up (up l5 "val" (.int (val*2 ^ (6:Int).toNat))) "b" (.int (c2.toNat:Int))) "val" (.int (FD (val*2 ^ (6:Int).toNat) (Bk (c2.toNat:Int) 63))),_,⟨k - 1,by exact N2 1 14 (cY (N3 10 12 hk hi')),i'+1,c2.toNat,_,by exact N4 10 13 hk eB (cY (N3 10 12 hk hi')),by lia,hp2,(aA (by decide)).trans aE,aE,g3,rfl⟩,S10,rfl⟩)
end
section
class inductive Pz (b:Array UInt8):Nat→List Int→Prop
 | fin {i}:PV0 b i none→Pz b i []
 | num {i v i' r}:PV0 b i (some (v,i'))→Pz b i' r→Pz b i (v::r)
noncomputable def eI (drawn:List (List Int)):D:=.list (drawn.map fun r=>.list (r.map .int))
theorem aHt {k:Int} (h0:0≤k) (h5:k≤5):((64:Int) ^ k.toNat)≠0∧((64:Int) ^ k.toNat).natAbs≤1073741824:=by
 have:k=0∨k=1∨k=2∨k=3∨k=4∨k=5:=by lia
 rcases this with rfl | rfl | rfl | rfl | rfl | rfl <;> decide
theorem aF3 {a k:Int} (h0:0≤k) (h5:k≤5):DH a ((64:Int) ^ k.toNat)=false:=by
 refine PyProof.noPylong_of_log2 ?_;have:k=0∨k=1∨k=2∨k=3∨k=4∨k=5:=by lia
 rcases this with rfl | rfl | rfl | rfl | rfl | rfl <;> decide
theorem St.freeze2 {a b da db} {x:Str} (S:St w T s₀ F (b::a::X) env s l [(b,db),(a,da)]) (aX:a∉X) (hl:l x=some (.val (.ref a))) (hz:da.frz=true) (mem:∀ y∈Fp env,y∈X):St w T s₀ F (b::X) env s (up l x da) [(b,db)]:=by
 have nab:b≠a:=(Bn.mp S.mud).1 _ (.head _);have S1:St w T s₀ F (b::a::X) env s l [(a,da),(b,db)]:=S.muSub (fun p m=>by
  refine cK m (fun e=>?_) fun m=>?_
  ·rw [e];exact .tail _ (.head _)
  ·rw [bH m];exact .head _) (.cons (fun p m=>by rw [bH m];exact nab.symm) (AS _ _))
 have S2:St w T s₀ F (a::b::X) env s l [(a,da),(b,db)]:=S1.perm fun y=>by
  constructor
  ·intro m
   refine cK m (fun e=>?_) fun m=>?_
   ·rw [e];exact .tail _ (.head _)
   ·refine cK m (fun e=>?_) fun m=>?_
    ·rw [e];exact .head _
    ·exact .tail _ (.tail _ m)
  ·intro m
   refine cK m (fun e=>?_) fun m=>?_
   ·rw [e];exact .tail _ (.head _)
   ·refine cK m (fun e=>?_) fun m=>?_
    ·rw [e];exact .head _
    ·exact .tail _ (.tail _ m)
 refine S2.freeze (fun m=>?_) hl hz (fun y m=>.tail _ (mem y m)) fun p m=>by rw [bH m];exact .head _
 refine cK m (fun e=>?_) fun m=>?_
 ·exact nab e.symm
 ·exact aX m
theorem aBa:E8 "StopIteration"=some (.type "StopIteration"):=by decide +kernel
theorem aFY:rH 5 (-1) (AM 5 (-1) (-1)).toNat=([5,4,3,2,1,0]:List Int).map D.int:=rfl
theorem aBd {n torn} {drawn:List (List Int)} {nums:List Int} {Ls0:List Addr} {outer0:List Env} {vs:List Ag} (hA:dF (n+2) A) (hX:XL X s.heap) (W:Wd w (T1 w.params) (hx X s.heap)) (tX:aK∈X)
  (hfr:A.frames=some outer0) (ho:nF outer0 Ls0 s.heap) (lX:∀ y∈Ls0,y∈X) (tL:aK∉Ls0) (hd:drawn.length≤6) (hr:∀ r∈drawn,r.length≤3∧r≠[]) (ht:torn≤2)
  (pz:Pz (byteArr (cL drawn++dY torn)) 0 nums) (hn:nums.length≤(cL drawn).length) (r:cG w (hx X s.heap) vs [eI drawn,.int (torn:Int)]) :
  Au (AI prog w) A (call (.ref 156) vs []) (fun v s'=>Rp w (hx X s'.heap) v (.list (nums.map .int))∧Ch Ls0 s s'∧∀ L∈Ls0,∀ o,s.heap.get? L=some o→∃ q,s'.heap.get? L=some { o with slots:=q }) (fun _ _=>False) s:=by
 refine fZ (F:=[]) (mu:=[]) aAE hA hX W r rfl (fun y m=>by cases m) (fun p m=>by cases m) .nil fun L s1 hA' S k1 Q0 k0=>?_;refine sD (d1:=.list []) (d2:=.list []) hA'.hh S (nD.list .nil rfl (by krn_off)) (nD.list .nil rfl (by krn_off)) (.inl rfl) (.inl rfl) (fun a b s2 S2 fa fb=>?_) (by rfl) (by rfl) (by rfl) (by rfl);have aX:a∉Fp (aI qM 156 L)++X:=fun m=>by refine ob11 (S.live.1 _ m) fun o e=>?_;rw [fa] at e;cases e
 have bX:b∉Fp (aI qM 156 L)++X:=fun m=>by refine ob11 (S.live.1 _ m) fun o e=>?_;rw [fb] at e;cases e
 have S3:=S2.freeze2 (x:="tape") aX rfl rfl fun y m=>Ay _ m;have g0:up (up (up (bQ (fun _=>none) ["drawn","torn"] [eI drawn,.int (torn:Int)]) "numbers" (.val (.ref b))) "tape" (.val (.ref a))) "tape" (.list []) "tape"=some (.list ((cL (drawn.take 0)).map .int)):=rfl;have g1:up (up (up (bQ (fun _=>none) ["drawn","torn"] [eI drawn,.int (torn:Int)]) "numbers" (.val (.ref b))) "tape" (.val (.ref a))) "tape" (.list []) "numbers"=some (.val (.ref b)):=rfl;have g2:up (up (up (bQ (fun _=>none) ["drawn","torn"] [eI drawn,.int (torn:Int)]) "numbers" (.val (.ref b))) "tape" (.val (.ref a))) "tape" (.list []) "drawn"=some (eI drawn):=rfl;have g3:up (up (up (bQ (fun _=>none) ["drawn","torn"] [eI drawn,.int (torn:Int)]) "numbers" (.val (.ref b))) "tape" (.val (.ref a))) "tape" (.list []) "torn"=some (.int (torn:Int)):=rfl;generalize up (up (up (bQ (fun _=>none) ["drawn","torn"] [eI drawn,.int (torn:Int)]) "numbers" (.val (.ref b))) "tape" (.val (.ref a))) "tape" (.list [])=l3 at S3 g0 g1 g2 g3
 let Iv0:Nat→(Str→Option D)→List (Addr×D)→Prop:=fun i l mu=>mu=[(b,.list [])]∧l "numbers"=some (.val (.ref b))∧l "torn"=some (.int (torn:Int))∧l "tape"=some (.list ((cL (drawn.take i)).map .int))
 refine fT hA' S3 (fX.of (d:=eI drawn) (by ktr_rel) (iQ.list hA')) (by intro q;cases q)
  Iv0 ⟨rfl,g1,g3,g0⟩ ?_ ?_
 ·intro i d X1 s4 l4 mu4 hdi hI
  refine eG hI ?_;clear hI;rintro rfl q1 q2 q3;refine mpL hdi fun row hrow q=>?_;clear hdi;subst q;intro hmu hX1 hle S4;have hrm:=hr row (AB hrow);refine ⟨_,.name (.inl rfl),fun s5 S5 Q1 kq=>?_⟩;have u0:up l4 "row" (.list (row.map .int)) "row"=some (.list (row.map .int)):=aE;have u1:up l4 "row" (.list (row.map .int)) "numbers"=some (.val (.ref b)):=q1;have u2:up l4 "row" (.list (row.map .int)) "torn"=some (.int (torn:Int)):=q2;have u3:up l4 "row" (.list (row.map .int)) "tape"=some (.list ((cL (drawn.take i)).map .int)):=q3;generalize up l4 "row" (.list (row.map .int))=l5 at S5 u0 u1 u2 u3;refine eC (d:=.list ((mT row).map .int)) S5 ?c (fun s6 S6=>?_) (.inl rfl) rfl (fun _=>rfl)
  case c=>
   have e:((mT row).map D.int)=((row.map D.int).filter fun _=>true).flatMap fun d=>(((([5,4,3,2,1,0]:List Int).map D.int)).filter fun d'=>aDr (pG d) (pG d')).map fun d'=>.int (sG (pG d) (pG d')):=by
    rw [Az.mpr (fun _ _=>rfl)];unfold mT;rw [Ds,Dq];congr 1;funext x;unfold lV;rw [Eb,An,An];rfl
   rw [e];refine Cq.lc2 (tup:=false) (tup':=false) (Kl:=fun d l=>l "number"=some d) (asg:=fun d l=>up l "number" d) (asg':=fun _ d' l=>up l "k" d') hA' S5.ecf (fX.of (by ktr_rel) (iQ.list hA')) ?e1 ?e2 ?e3 ?e4 ?e5 ?e6 ?e7 ?e8 ?e9
   case e1=>
    have:∀ l:List D,(l.flatMap fun _=>([5,4,3,2,1,0]:List Int).map D.int).length=6*l.length:=fun l=>by
     induction l with
     | nil=>rfl
     | cons a r ih=>rw [AL,Af,ih,Aq];simp;exact N1 10 14
    rw [this,Ac];exact N1 10 15 hrm.1
   case e2=>intro C d l _;exact .name (.inl rfl)
   case e3=>intro C Xc h' d l _ ce;exact Ts.nil
   case e4=>intro d l _;exact aE
   case e5=>intro d d' l h;exact (aA (by decide)).trans h
   case e6=>
    intro C Xc h' d l _ ce;rw [← aFY];exact fX.of (Ev.call (by ktr_rel) Kp.type (by kcj_m) (Cl.range3 (by decide) (by decide))) (iQ.rng hA' (by decide))
   case e7=>intro C d d' l _ _;exact .name (.inl rfl)
   case e8=>
    intro C Xc h' d d' l m m' kl ce;refine cX m ?_;rintro num _ rfl;refine cX m' ?_;rintro k hk rfl;have hk5:0≤k∧k≤5:=by simp at hk;lia
    have kl2:up l "k" (.int k) "number"=some (.int num):=(aA (by decide)).trans kl;refine Ts.one (Tr.or2 (Tr.cmp (by ktr_rel) (by ktr_rel) Bo.eqi (by with_unfolding_all rfl)) fun _=>Tr.cmp (by ktr_rel) (Ev.bin (by ktr_rel) (by ktr_rel) (Bo.pow hk5.1 ?_)) Bo.ge (by with_unfolding_all rfl));rw [show (CM 64:Int)=7 by decide];exact cO 10 16 hk5.2
   case e9=>
    intro C Xc h' d d' l m m' _ kl ce;refine cX m ?_;rintro num _ rfl;refine cX m' ?_;rintro k hk rfl;have hk5:0≤k∧k≤5:=by simp at hk;lia
    have kl2:up l "k" (.int k) "number"=some (.int num):=(aA (by decide)).trans kl;have kl3:up l "k" (.int k) "k"=some (.int k):=aE;show Ev w Xc _ _ h' _ (.int (sG num k));unfold sG;refine Ev.bin (Ev.bin (Ev.bin (by ktr_rel) (Ev.bin (by ktr_rel) (by ktr_rel) (Bo.pow hk5.1 ?_)) (Bo.fdiv (aHt hk5.1 hk5.2).1 (aF3 hk5.1 hk5.2))) (by ktr_rel) (Bo.fmod (by decide))) (Ev.bin (by ktr_rel) (Ev.cmp (by ktr_rel) (by ktr_rel) Bo.gt (by with_unfolding_all rfl)) Bo.mul_ib) Bo.add;rw [show (CM 64:Int)=7 by decide];exact cO 10 16 hk5.2
  obtain ⟨c0,rr,hc⟩:∃ c0 rr,mT row=c0::rr:=by
   cases e:mT row with
   | nil=>exact absurd e (aEZ hrm.2)
   | cons c r=>exact ⟨c,r,rfl⟩
  have hT:vK row=(128+c0)::rr:=by unfold vK;rw [hc]
  have hro:rr.length<18:=by
   have:=xT (row:=row);rw [hc,Aq] at this;exact N2 10 17 hrm.1 this
  have htl:(cL (drawn.take i)).length≤108:=by
   have:=tU (drawn:=drawn.take i) fun r m=>(hr r (Cn m)).1;rw [AE] at this;exact N3 10 18 hd this (CA _ _)
  rw [hc] at S6;have v0:up l5 "octets" (.list ((c0::rr).map .int)) "octets"=some (.list ((c0::rr).map .int)):=aE;have v1:up l5 "octets" (.list ((c0::rr).map .int)) "numbers"=some (.val (.ref b)):=u1;have v2:up l5 "octets" (.list ((c0::rr).map .int)) "torn"=some (.int (torn:Int)):=u2;have v3:up l5 "octets" (.list ((c0::rr).map .int)) "tape"=some (.list ((cL (drawn.take i)).map .int)):=u3;generalize up l5 "octets" (.list ((c0::rr).map .int))=l6 at S6 v0 v1 v2 v3;have stp:(cL (drawn.take (i+1))).map D.int=(cL (drawn.take i)).map D.int++[.int (128+c0)]++gP ((c0::rr).map D.int) (some ((1:Nat):Int)) none none:=by
   unfold cL;rw [gY hrow,Cw,Ax,AL,EK,AZ,hT,eH,AG];rfl
  refine aO S6 (d:=.list ((cL (drawn.take (i+1))).map .int)) ?e (fun s7 S7 _=>?_) (.inl rfl) (by rfl)
  case e=>
   rw [stp];refine Ev.bin (Ev.bin (by ktr_rel) (Ev.list (Es.cons (d:=.int (128+c0)) (Ev.bin (by ktr_rel) (Ev.sub (d:=.int c0) (by ktr_rel) (by ktr_rel) (Bo.item_list ⟨by decide,rfl⟩ (by decide))) Bo.add) .nil (by rfl)) (by krn_off)) (Bo.addl ?_)) (Ev.sub (by ktr_rel) (Ev.slc (.some (by ktr_rel)) .none .none) (Bo.slice_list (by decide) ?_)) (Bo.addl ?_)
   ·simp only [Ac,Aq,AQ];exact N1 10 19 htl
   ·simp only [Ac,Aq];exact N1 10 20 hro
   ·rw [eH];simp only [Af,Ac,Aq,AQ,AW];exact N3 10 21 hro htl (AD _ _)
  exact aG (kq ⟨up l6 "tape" (.list ((cL (drawn.take (i+1))).map .int)),_,⟨rfl,v1,v2,aE⟩,S7,rfl⟩)
 ·intro s4 l4 mu4 hI
  refine eG hI ?_;clear hI;rintro rfl q1 q2 q3;intro hmu S4;rw [Ac,DQ] at q3;have htl:(cL drawn).length≤108:=by
   have:=tU (drawn:=drawn) fun r m=>(hr r m).1;exact N2 10 22 hd this
  have hel:(dY torn).length≤2:=by unfold dY;rw [AE];simp;exact N2 11 0 ht (AN _ _)
  refine aG (yU (b:=byteArr (cL drawn++dY torn)) S4 ?e (Nm.boot S4.gb S4.wd (frM (by kernel_rfl)) (by boot_fact) rfl (by decide)) (fun it s5 S5 fit=>?_) (by rfl) (by rfl) (.inl rfl) (by rfl))
  case e=>
   have ee:gP (([64,65]:List Int).map D.int) none (some (torn:Int)) none=(dY torn).map .int:=by rw [dQ,← CC];rfl
   refine Ev.call (ds:=[.list ((cL drawn++dY torn).map .int)]) (by ktr_rel) Kp.type (Es.one ?_ (by rfl)) (Cl.bytes hA' (fun c m=>?_) (by rw [Af];exact N2 11 1 htl hel)) (by rfl)
   ·rw [Ax,← ee]
    refine Ev.bin (by ktr_rel) (Ev.sub (d1:=.list (([64,65]:List Int).map D.int)) (by ktr_rel) (Ev.slc .none (.some (by ktr_rel)) .none) (Bo.slice_list (by decide) (by krn_off))) (Bo.addl ?_);rw [ee];simp only [Ac];exact N2 11 1 htl hel
   ·refine gJ m (fun m=>?_) fun m=>?_
    ·exact yE m
    ·exact uQ m
  have w1:up l4 "reader" (.val (.ref it)) "numbers"=some (.val (.ref b)):=q1;have w2:up l4 "reader" (.val (.ref it)) "reader"=some (.val (.ref it)):=aE;have w3:up l4 "reader" (.val (.ref it)) "tape"=some (.list ((cL drawn).map .int)):=q3;generalize up l4 "reader" (.val (.ref it))=l5 at S5 w1 w2 w3
  let Iv1:Nat→(Str→Option D)→List (Addr×D)→Prop:=fun i l mu=>∃ pos dn td,nums=dn++td∧dn.length=i∧Pz (byteArr (cL drawn++dY torn)) pos td∧l "numbers"=some (.val (.ref b))∧l "reader"=some (.val (.ref it))∧mu=[(it,.biter (byteArr (cL drawn++dY torn)) pos),(b,.list (dn.map .int))]
  refine fT hA' S5 (aY (m:=(cL drawn).length+1) hA' ?src (by exact N1 11 2 htl)) (by intro q;cases q)
   Iv1
   ⟨0,[],nums,rfl,rfl,pz,w1,w2,rfl⟩ ?_ ?_
  case src=>
   have e:(((cL drawn).length+1:Nat):Int)=(((cL drawn).map D.int).length:Int)+1:=by rw [Ac];exact N1 11 3
   rw [e];exact Ev.call (by ktr_rel) Kp.type (Es.one (Ev.bin (Ev.call (by ktr_rel) Kp.builtin (by kcj_m) (Cl.len_list (by rw [Ac];exact N1 11 4 htl))) (by ktr_rel) Bo.add) (by rfl)) Cl.range1
  ·intro i d X1 s6 l6 mu6 hdi hI
   refine aER hI ?_;clear hI;rintro pos dn td hnt hdl hpz p1 p2 rfl;intro hmu6 hX1 hle S6;refine ⟨_,.name (.inl rfl),fun s7 S7 Q1 kq=>?_⟩;have p1':up l6 "turn" d "numbers"=some (.val (.ref b)):=p1;have p2':up l6 "turn" d "reader"=some (.val (.ref it)):=p2;generalize up l6 "turn" d=l7 at S7 p1' p2';have i1:=S6.mus _ (.head _);have i2:=S6.mus _ (.tail _ (.head _));have itn:s.heap.get? it=none:=i1.2.2.1.resolve_left fun m=>nomatch m;have bn:s.heap.get? b=none:=i2.2.2.1.resolve_left fun m=>nomatch m;have Ln:s.heap.get? L=none:=(S6.own L (.head _)).resolve_left fun m=>nomatch m;have tabs:=hX.2;have itL:it∉L::Ls0:=fun m=>by
    refine cK m (fun e=>?_) fun m=>?_
    ·exact i1.2.1 (e▸.head _)
    ·refine ob12 (ho.live _ m) fun o e _=>?_;rw [itn] at e;cases e
   have bL:b∉L::Ls0:=fun m=>by
    refine cK m (fun e=>?_) fun m=>?_
    ·exact i2.2.1 (e▸.head _)
    ·refine ob12 (ho.live _ m) fun o e _=>?_;rw [bn] at e;cases e
   have tIt:aK≠it:=fun z=>by refine ob11 tabs fun o e=>?_;clear tabs;rw [z,itn] at e;cases e
   have tL2:aK∉L::Ls0:=fun m=>by
    refine cK m (fun e=>?_) fun m=>?_
    ·refine ob11 tabs fun o e1=>?_;clear tabs;rw [e,Ln] at e1;cases e1
    ·exact tL m
   have bit:b≠it:=((Bn.mp S6.mud).1 _ (.head _)).symm;have lX1:∀ y∈L::Ls0,y∈X1:=fun y m=>by
    refine cK m (fun e=>?_) fun m=>?_
    ·rw [e];exact S6.mem L (.head _)
    ·exact hX1 y (.tail _ (.tail _ (Ad _ (lX y m))))
   have hdnl:dn.length≤1000:=by
    have:=congrArg De hnt;rw [Af] at this;exact N4 11 5 hn htl this
   refine cI (wpAny_Try_except (Xs.go (yS (a:=b) S7 p1' (ds0:=dn.map .int) (.tail _ (.head _)) (fun s8 S8=>?_) (by rfl) (by rfl) (by rfl) (by decide) (by rfl))));refine eU S8.live aZ.rfl (by lcg_off) (Kp.fn S8.wd (wV (P:=w.params)).mem) (by kcj_m) (fun vs s9 r9 k9=>?_) (by rfl);have S9:=S8.keeps k9;have c09:Ch [] s s9:=S6.base.step S9.base fun g m=>by
    refine gJ m (fun m=>?_) fun m=>?_
    ·exact S6.own g m
    ·refine cX m ?_;rintro p mp rfl
     exact (S6.mus p mp).2.2.1
   have ho9:nF (aI qM 156 L::outer0) (L::Ls0) s9.heap:=⟨fun y m=>by
     refine cK m (fun z=>?_) fun m=>?_
     ·rw [z];intro q;cases q
     ·exact ho.kind y m,by rw [AC,AC,ho.fr];rfl,fun y m=>by
     refine cK m (fun z=>?_) fun m=>?_
     ·refine ob12 S9.ns ?_;rintro nm ⟨o,es,ep,h1,h2,_⟩ _
      exact ⟨o,z▸h1,fun vs q=>by rw [h2] at q;cases q⟩
     ·refine ob12 (ho.live y m) fun o h1 h2=>?_
      exact ⟨o,c09.get (fun q=>nomatch q) h1,h2⟩⟩
   have hfr9:(A.deeper (aI qM 156 L)).frames=some (aI qM 156 L::outer0):=ER hfr;cases hpz with
   | @num _ v i' td' pv pz'=>
    refine B9 (pY (n:=n) hA' S9.live S9.wd (S9.mus _ (.head _)).1 tIt.symm (S9.muAt (.head _)) hfr9 ho9 itL pv r9) (fun v1 s10 z=>?_) fun ev s10 z=>?_
    ·refine jS z fun val i1' hv r10 c10 m10=>?_;clear z
     obtain ⟨rfl,rfl⟩:v=val∧i'=i1':=by simpa using hv
     have S10:=S9.mutate (pre:=[]) (post:=[(b,.list (dn.map .int))]) c10 m10.live m10;refine ⟨.int v,dn.map .int,l7,[(it,.biter (byteArr (cL drawn++dY torn)) i')],[],r10,S10,by rw [Ac];exact N1 5 13 hdnl,fun s11 S11=>?_⟩;refine aG (Gp (Gp (kq ⟨l7,_,⟨i',dn++[v],td',by rw [hnt,AG];rfl,by rw [Af,hdl];rfl,pz',p1',p2',rfl⟩,?_,rfl⟩)));rw [Ax];exact S11
    ·exact absurd z.1 (by krn_off)
   | fin pv=>
    refine B9 (pY (n:=n) hA' S9.live S9.wd (S9.mus _ (.head _)).1 tIt.symm (S9.muAt (.head _)) hfr9 ho9 itL pv r9) (fun v1 s10 z=>?_) fun ev s10 z=>?_
    ·refine fP z fun val i1' hv _=>?_;clear z
     cases hv
    ·refine bM z fun _ kz=>?_;clear z;refine ob12 kz ?_;clear kz;rintro e rfl fl
     have S9b:=S9.muSub (mu':=[(b,.list (dn.map .int))]) (fun p m=>by rw [bH m];exact .tail _ (.head _)) (AS _ _);refine yP (m:=b) (ds:=dn.map .int) (mu:=[]) hfr9 rfl ho9 S9b fl rfl rfl (S9.mus _ (.head _)).1 lX1 tIt tL2 bit bL itL
      (fun s2 S2=>nmB S2 (frM (by kernel_rfl)) aBa rfl (by decide)) (fun s3 S3 f3=>?_)
     refine qK (Y:=X) S3 p1' (.head _) rfl (fun y m=>hX1 y (.tail _ (.tail _ (Ad _ m)))) (fun m=>bX (Ad _ m)) (fun s4 r4 S4 k4=>?_);have hnd:nums=dn:=by rw [hnt,AZ]
     refine pH c09 ?_;clear c09;rintro h9 t9 g9 rfl kk9 gg9 _;have e9:g9=(s.gens,s.drawn):=gg9 tabs fun m=>nomatch m;subst e9;obtain ⟨⟨h3,t3,rfl⟩,up3,sl3⟩:=f3;refine fP k4 ?_;clear k4;rintro h4 t4 rfl kk4;refine kq (Or.inl (k0 ⟨by rw [hnd];exact r4,⟨h4,t4,(s.gens,s.drawn),rfl,fun y o n e=>?_,fun _ _=>rfl,id⟩,fun L' m o e=>?_⟩))
     ·refine kk4 _ _ (up3 y o (fun z=>by rw [z,itn] at e;cases e) (fun z=>?_) (kk9 y o (fun q=>nomatch q) e))
      refine cK z (fun z=>?_) fun z=>?_
      ·rw [z,Ln] at e;cases e
      ·exact n z
     ·refine ob11 (sl3 L' (.tail _ m) o (kk9 _ o (fun q=>nomatch q) e)) fun q e1=>?_
      exact ⟨q,kk4 _ _ e1⟩
  ·intro s6 l6 mu6 hI hmu6 S6
   refine xJ hI fun pos dn td hnt hdl _=>?_;clear hI;have:=congrArg De hnt;rw [Af,hdl,Ac,Al] at this;lia
end
section
noncomputable def aCf (d:D) (l:Str→Option D):Str→Option D:=match d with
 | .tup ds=>bQ l ["k","own"] ds
 | _=>l
theorem aEj {n L e} {script:List Int} (hA:dF n A) (S:St w (T1 w.params) s₀ F X (aI iU 205 L) s l mu) (q:l "script"=some (.list (script.map .int))) (hl:script.length≤1000) {p1 p2:Pos}
  (he:∃ rest,rZ.1=.Assign [.Name "sums" p1] e p2::rest):Cq w X A (aI iU 205 L) s.heap e (.list ((rR script).map .int)):=by
 refine ob11 he ?_;clear he;intro rest he;injection he with he _
 injection he with _ he _
 subst he;have e1:(rR script).map D.int=((sS (rE.map .int)).filter fun _=>true).map fun d=>.int (yC script (jI d 0).toNat (jI d 1)):=by
  rw [Az.mpr (fun _ _=>rfl)];rfl
 rw [e1];refine Cq.lc (tup:=true) (asg:=aCf) hA S.ecf (fX.enum (ds:=rE.map .int) hA ?e1 ?e2 (by rfl) (by rfl)) ?e3 ?e4 ?e5 ?e6
 case e1=>ktr_rel
 case e2=>ktr_rel
 case e3=>decide
 case e4=>
  intro C d l m;refine cX m ?_;rintro k hk rfl;exact .tup (.cons (.inl rfl) (.cons (.inl rfl) .nil)) rfl
 case e5=>intro C Xc h' d l _ ce;exact Ts.nil
 case e6=>
  intro C Xc h' d l m _ ce;refine cX m ?_;rintro k hk rfl;have hk7:k<7:=fN hk;obtain ⟨own,ho⟩:∃ own,(rE.map D.int)[k]?.getD .none=.int own:=by
   have:(rE.map D.int)[k]?=some (.int (rE[k]'(by show k<7;exact hk7))):=by rw [Ar,Ah];rfl
   exact ⟨_,by rw [this];rfl⟩
  rw [ho] at ce ⊢;have g1:aCf (.tup [.int (k:Int),.int own]) l "k"=some (.int (k:Int)):=rfl;have g2:aCf (.tup [.int (k:Int),.int own]) l "own"=some (.int own):=rfl;show Ev w Xc _ _ h' _ (.int (yC script ((k:Int)).toNat own));rw [Ap];unfold yC;refine Ev.bin (by ktr_rel) (Ev.call (ds:=[.list (((dD (dD script none (some 60) none) (some (k:Int)) none (some 7)).map fun x=>x.fmod rS).map .int)]) (by ktr_rel) Kp.builtin (Es.one ?c (by rfl)) (Cl.sum hA)) Bo.add
  case c=>
   have e2:((dD (dD script none (some 60) none) (some (k:Int)) none (some 7)).map fun x=>x.fmod rS).map D.int=(((dD (dD script none (some 60) none) (some (k:Int)) none (some 7)).map D.int).filter fun _=>true).map fun d=>.int ((pG d).fmod rS):=by
    rw [Az.mpr (fun _ _=>rfl),An,An];rfl
   rw [e2];have lens:(dD (dD script none (some 60) none) (some (k:Int)) none (some 7)).length≤1000:=Ao lN (Ao lN hl);refine Ev.ofCq (Cq.lc (tup:=false) (asg:=fun d l=>up l "x" d) hA ce.ec (fX.of (d:=.list ((dD (dD script none (some 60) none) (some (k:Int)) none (some 7)).map .int)) ?f1 (iQ.list hA)) ?f2 ?f3 ?f4 ?f5) rfl
   case f1=>
    rw [← jD,← jD];refine Ev.sub (Ev.sub (nmR ce S q rfl rfl rfl) (Ev.slc .none (.some (by ktr_rel)) .none) (Bo.slice_list (by decide) (by rw [Ac];exact N1 5 13 hl))) (Ev.slc (.some (by ktr_rel)) .none (.some (by ktr_rel))) (Bo.slice_list (by decide) ?_);rw [jD,Ac];have:=Ao (lN (l:=script) (lo:=none) (hi:=some 60) (st:=none)) hl;exact N1 5 13 this
   case f2=>rw [Ac];exact lens
   case f3=>intro C d l _;exact .name (.inl rfl)
   case f4=>intro C Xc h' d l _ ce;exact Ts.nil
   case f5=>
    intro C2 Xc2 h2 d2 l2 m2 _ ce2;refine cX m2 ?_;rintro x _ rfl;show Ev w Xc2 _ _ h2 _ (.int (x.fmod rS));have g3:up l2 "x" (.int x) "x"=some (.int x):=rfl;unfold rS;exact Ev.bin (by ktr_rel) (Ev.bin (by ktr_rel) (by ktr_rel) (Bo.pow (by decide) (by decide))) (Bo.fmod (by decide))
end
section
theorem mM:∀ (l:List Int),gO (l.map .int)=true
 | []=>rfl
 | a::l=>mM l
theorem nW:∀ (l:List Int),eW (l.map .int)=0
 | []=>rfl
 | a::l=>by show max 0 (eW (l.map .int))=0;rw [nW l];rfl
structure LW (V:Nat→Nat) (a:Addr) (l:Str→Option D):Prop where
 ccount:l "count"=some (.int ((aB V:Nat):Int))
 cway:l "way"=some (.int (dR V))
 cbase:l "base"=some (.int ((aW V:Nat):Int))
 cseed:l "seed"=some (.int ((bK V:Nat):Int))
 cnumbers:l "numbers"=some (.list ((cA V).map .int))
 chits:l "hits"=some (.list ((aQ V).map .int))
 codd:l "odd"=some (.list ((Aa (aQ V).length).map fun k=>.int (if bJ V k then 1 else 0)))
 cones:l "ones"=some (.idict (gG (aQ V) (bJ V)))
 cline:l "line"=some (.list (iJ (aQ V) (bJ V)))
 cnotes:l "notes"=some (.val (.ref a))
noncomputable def VL (V:Nat→Nat):List Int:=(Aa 7).map fun k=>((V k:Nat):Int)
theorem aD8 {V:Nat→Nat} {c:Nat} (h:c≤7):(VL V).take c=(Aa c).map fun k=>((V k:Nat):Int):=by
 unfold VL;rw [← CC];congr 1;rw [Gn,B1 h]
theorem aHc {n L} {script:List Int} {V:Nat→Nat} (hA:dF (n+6) A) (hfr:A.frames=some [aI iU 205 L]) (S:St w (T1 w.params) s₀ [aK] X (aI iU 205 L) s l [(aK,.ctab)]) (tX:aK∈X) (hl:l "script"=some (.list (script.map .int))) (hsl:script.length≤1000) (hV:rR script=VL V)
  (pz:Pz (byteArr (cL (bS V)++dY (mI V))) 0 (cA V)) (hnum:(cA V).length≤(cL (bS V)).length)
  (k:∀ a s' l',LW V a l'→a∉X→St w (T1 w.params) s₀ [aK] (a::X) (aI iU 205 L) s' l' [(a,.list [.bool true]),(aK,.ctab)]→Xs w A (rZ.1.drop 10) (aI iU 205 L) Q (fun _ _=>False) s') :
  Xs w A rZ.1 (aI iU 205 L) Q (fun _ _=>False) s:=by
 have c26:=fB (V:=V);refine eC (d:=.list ((rR script).map .int)) S (aEj hA S hl hsl ⟨_,rfl⟩) (fun s2 S2=>?_) (.inl rfl) rfl (fun _=>rfl);rw [hV] at S2;refine aO S2 (d:=.int ((V 6:Nat):Int)) (Ev.sub (d1:=.list ((VL V).map .int)) (by ktr_rel) (by ktr_rel) (Bo.item_list ⟨by decide,rfl⟩ (by decide))) (fun s3 S3 _=>?_) (.inl rfl) (by rfl);have q3:up (up l "sums" (.list ((VL V).map .int))) "last" (.int ((V 6:Nat):Int)) "last"=some (.int ((V 6:Nat):Int)):=rfl;have q4:up (up l "sums" (.list ((VL V).map .int))) "last" (.int ((V 6:Nat):Int)) "sums"=some (.list ((VL V).map .int)):=rfl;generalize up (up l "sums" (.list ((VL V).map .int))) "last" (.int ((V 6:Nat):Int))=l3 at S3 q3 q4;have e1:(6:Int) - ((V 6:Nat):Int).fmod 5=((aB V:Nat):Int):=by
  rw [show ((V 6:Nat):Int).fmod 5=((V 6 % 5:Nat):Int) from dT _ 5];unfold aB;exact N2 11 7 eB (cY (N1 11 6 oV))
 have e2:(1:Int) - (((V 6:Nat):Int).fdiv 15).fmod 2*2=dR V:=by
  rw [show ((V 6:Nat):Int).fdiv 15=((V 6 / 15:Nat):Int) from fL _ 15,show ((V 6 / 15:Nat):Int).fmod 2=((V 6 / 15 % 2:Nat):Int) from dT _ 2];rfl
 have e3:(((V 6:Nat):Int).fdiv 30).fmod 28=((aW V:Nat):Int):=by
  rw [show ((V 6:Nat):Int).fdiv 30=((V 6 / 30:Nat):Int) from fL _ 30,show ((V 6 / 30:Nat):Int).fmod 28=((V 6 / 30 % 28:Nat):Int) from dT _ 28];rfl
 have e4:((V 6:Nat):Int).fdiv 840=((bK V:Nat):Int):=fL _ 840;have e5:(((V 6:Nat):Int).fdiv 5).fmod 3=((mI V:Nat):Int):=by
  rw [show ((V 6:Nat):Int).fdiv 5=((V 6 / 5:Nat):Int) from fL _ 5,show ((V 6 / 5:Nat):Int).fmod 3=((V 6 / 5 % 3:Nat):Int) from dT _ 3];rfl
 refine fV (xs:=["count","way","base","seed"]) (ds:=[.int ((aB V:Nat):Int),.int (dR V),.int ((aW V:Nat):Int),.int ((bK V:Nat):Int)]) hA.hh S3 (.cons (dL rfl rfl) (.cons (dL rfl rfl) (.cons (dL rfl rfl) (.cons (dL rfl rfl) .nil)))) ?u1 rfl (fun s4 S4 _=>?_) (by rfl) (by rfl)
 case u1=>
  rw [← e1,← e2,← e3,← e4];refine Ev.tup (Es.cons ?a1 (Es.cons ?a2 (Es.cons ?a3 (Es.cons ?a4 .nil (by rfl)) (by rfl)) (by rfl)) (by rfl)) (by krn_off)
  case a1=>exact Ev.bin (by ktr_rel) (Ev.bin (by ktr_rel) (by ktr_rel) (Bo.fmod (by decide))) Bo.sub
  case a2=>
   refine Ev.bin (by ktr_rel) (Ev.bin (Ev.bin (Ev.bin (by ktr_rel) (by ktr_rel) (Bo.fdiv (by decide) (A5 (by decide)))) (by ktr_rel) (Bo.fmod (by decide))) (by ktr_rel) (Bo.mul (F2 (by decide)))) Bo.sub
  case a3=>exact Ev.bin (Ev.bin (by ktr_rel) (by ktr_rel) (Bo.fdiv (by decide) (A5 (by decide)))) (by ktr_rel) (Bo.fmod (by decide))
  case a4=>exact Ev.bin (by ktr_rel) (by ktr_rel) (Bo.fdiv (by decide) (A5 (by decide)))
 have g0:bQ l3 ["count","way","base","seed"] [.int ((aB V:Nat):Int),.int (dR V),.int ((aW V:Nat):Int),.int ((bK V:Nat):Int)] "count"=some (.int ((aB V:Nat):Int)):=rfl;have g1:bQ l3 ["count","way","base","seed"] [.int ((aB V:Nat):Int),.int (dR V),.int ((aW V:Nat):Int),.int ((bK V:Nat):Int)] "way"=some (.int (dR V)):=rfl;have g2:bQ l3 ["count","way","base","seed"] [.int ((aB V:Nat):Int),.int (dR V),.int ((aW V:Nat):Int),.int ((bK V:Nat):Int)] "base"=some (.int ((aW V:Nat):Int)):=rfl;have g3:bQ l3 ["count","way","base","seed"] [.int ((aB V:Nat):Int),.int (dR V),.int ((aW V:Nat):Int),.int ((bK V:Nat):Int)] "seed"=some (.int ((bK V:Nat):Int)):=rfl;have g4:bQ l3 ["count","way","base","seed"] [.int ((aB V:Nat):Int),.int (dR V),.int ((aW V:Nat):Int),.int ((bK V:Nat):Int)] "last"=some (.int ((V 6:Nat):Int)):=q3;have g5:bQ l3 ["count","way","base","seed"] [.int ((aB V:Nat):Int),.int (dR V),.int ((aW V:Nat):Int),.int ((bK V:Nat):Int)] "sums"=some (.list ((VL V).map .int)):=q4;generalize bQ l3 ["count","way","base","seed"] [.int ((aB V:Nat):Int),.int (dR V),.int ((aW V:Nat):Int),.int ((bK V:Nat):Int)]=l4 at S4 g0 g1 g2 g3 g4 g5
 -- drawn
 refine eC (d:=eI (bS V)) S4 ?c1 (fun s5 S5=>?_) (.inl rfl) rfl (fun _=>rfl)
 case c1=>
  have e:eI (bS V)=.list ((((Aa (aB V)).map fun k=>D.int ((V k:Nat):Int)).filter fun _=>true).map fun d=>.list [.int (1+(pG d).fmod 70),.int ((pG d).fmod 100),.int ((pG d).fdiv 100)]):=by
   unfold eI bS;rw [Az.mpr (fun _ _=>rfl),An,An];congr 1;apply Av;intro k _;show D.list ((sI V k).map .int)=.list [.int (1+((V k:Nat):Int).fmod 70),.int (((V k:Nat):Int).fmod 100),.int (((V k:Nat):Int).fdiv 100)];rw [show ((V k:Nat):Int).fmod 70=((V k % 70:Nat):Int) from dT _ 70,show ((V k:Nat):Int).fmod 100=((V k % 100:Nat):Int) from dT _ 100,show ((V k:Nat):Int).fdiv 100=((V k / 100:Nat):Int) from fL _ 100];unfold sI;simp
  rw [e];refine Cq.lc (tup:=false) (asg:=fun d l=>up l "v" d) hA S4.ecf (fX.of (d:=.list ((Aa (aB V)).map fun k=>D.int ((V k:Nat):Int))) ?c1d1 (iQ.list hA)) ?c1d2 ?c1d3 ?c1d4 ?c1d5
  case c1d1=>
   have e:((Aa (aB V)).map fun k=>D.int ((V k:Nat):Int))=gP ((VL V).map .int) none (some ((aB V:Nat):Int)) none:=by
    rw [dQ,← CC,aD8 (by exact N1 11 8 c26.2),An];rfl
   rw [e];exact Ev.sub (by ktr_rel) (Ev.slc .none (.some (by ktr_rel)) .none) (Bo.slice_list (by decide) (by rw [Ac];show (VL V).length≤100000;unfold VL;rw [Ac,Al];decide))
  case c1d2=>rw [Ac,Al];exact N1 3 19 c26.2
  case c1d3=>intro C d l _;exact .name (.inl rfl)
  case c1d4=>intro C Xc h' d l _ ce;exact Ts.nil
  case c1d5=>
   intro C Xc h' d l m _ ce;refine cX m ?_;rintro k hk rfl;show Ev w Xc _ _ h' _ (.list [.int (1+((V k:Nat):Int).fmod 70),.int (((V k:Nat):Int).fmod 100),.int (((V k:Nat):Int).fdiv 100)]);refine Ev.list (Es.cons ?c1f1 (Es.cons ?c1f2 (Es.cons ?c1f3 .nil (by rfl)) (by rfl)) (by rfl)) (by krn_off)
   case c1f1=>exact Ev.bin (by ktr_rel) (Ev.bin (by ktr_rel) (by ktr_rel) (Bo.fmod (by decide))) Bo.add
   case c1f2=>exact Ev.bin (by ktr_rel) (by ktr_rel) (Bo.fmod (by decide))
   case c1f3=>exact Ev.bin (by ktr_rel) (by ktr_rel) (Bo.fdiv (by decide) (A5 (by decide)))
 -- numbers
 have LX:L∈X:=S5.mem L (.head _);refine cI (By (eU (ds:=[eI (bS V),.int ((mI V:Nat):Int)]) S5.live aZ.rfl (by lcg_off) (Kp.fn S5.wd (aAE (P:=w.params)).mem) ?c2 (fun vs s6 r6 k6=>?_) (by rfl)) (by rfl))
 case c2=>
  refine Es.cons (by ktr_rel) (Es.cons ?c2d1 .nil (by rfl)) (by rfl);rw [← e5];exact Ev.bin (Ev.bin (by ktr_rel) (by ktr_rel) (Bo.fdiv (by decide) (A5 (by decide)))) (by ktr_rel) (Bo.fmod (by decide))
 have S6:=S5.keeps k6;have outs:nF [aI iU 205 L] [L] s6.heap:=⟨fun y m=>(by rw [bH m];intro q;cases q),rfl,fun y m=>by
  rw [bH m];refine ob12 S6.ns ?_;rintro nm ⟨o,es,ep,h1,h2,_⟩ _;exact ⟨o,h1,fun vs q=>by rw [h2] at q;cases q⟩⟩
 have tL:aK∉[L]:=fun m=>by
  have:=(S6.mus _ (.head _)).2.1;exact this (by rw [bH m];exact .head _)
 refine cF (aBd (n:=n+4) (drawn:=bS V) (nums:=cA V) (torn:=mI V) hA S6.live S6.wd tX hfr outs (fun y m=>by rw [bH m];exact LX) tL (by unfold bS;rw [Ac,Al];exact N1 3 6 c26.2) (fun r m=>by
  refine cX m ?_;rintro k _ rfl;exact ⟨Am _,by unfold sI;simp⟩) (by unfold mI;exact N1 11 9 oV) pz hnum r6) fun v s7 z=>?_
 have S7:=S6.slots (L:=L) rfl z.2.1 (fun o e=>z.2.2 L (.head _) o e);refine S7.store z.1 (dL rfl rfl) fun s8 S8 _=>Xs.go ?_;have j0:up (up l4 "drawn" (eI (bS V))) "numbers" (.list ((cA V).map .int)) "count"=some (.int ((aB V:Nat):Int)):=g0;have j1:up (up l4 "drawn" (eI (bS V))) "numbers" (.list ((cA V).map .int)) "way"=some (.int (dR V)):=g1;have j2:up (up l4 "drawn" (eI (bS V))) "numbers" (.list ((cA V).map .int)) "base"=some (.int ((aW V:Nat):Int)):=g2;have j3:up (up l4 "drawn" (eI (bS V))) "numbers" (.list ((cA V).map .int)) "seed"=some (.int ((bK V:Nat):Int)):=g3;have j4:up (up l4 "drawn" (eI (bS V))) "numbers" (.list ((cA V).map .int)) "drawn"=some (eI (bS V)):=rfl;have j5:up (up l4 "drawn" (eI (bS V))) "numbers" (.list ((cA V).map .int)) "numbers"=some (.list ((cA V).map .int)):=rfl;generalize up (up l4 "drawn" (eI (bS V))) "numbers" (.list ((cA V).map .int))=l8 at S8 j0 j1 j2 j3 j4 j5
 -- if numbers != ..
 refine gB (b:=false) S8 (Tr.cmp (d2:=.list ((cA V).map .int)) (by ktr_rel) ?c3 (Bo.ne_same_list hA (mM _) (by rw [nW];decide)) (by with_unfolding_all rfl)) (fun q=>by cases q) (fun _ s9 S9 _=>aG ?_)
 case c3=>
  have e:(cA V).map D.int=(((bS V).map fun r=>D.list (r.map .int)).filter fun _=>true).flatMap fun d=>((jL d).filter fun _=>true).map fun d'=>d':=by
   rw [Az.mpr (fun _ _=>rfl),Dq];unfold cA;rw [HQ,Ck,← Ck,← Ck];congr 1;funext r;show r.map D.int=((r.map D.int).filter fun _=>true).map fun d'=>d';rw [Az.mpr (fun _ _=>rfl),Hs]
  rw [e];refine Ev.ofCq (Cq.lc2 (tup:=false) (tup':=false) (Kl:=fun d l=>l "row"=some d) (asg:=fun d l=>up l "row" d) (asg':=fun _ d' l=>up l "number" d') hA S8.ecf (fX.of (d:=eI (bS V)) (by ktr_rel) (iQ.list hA)) ?c3d1 ?c3d2 ?c3d3 ?c3d4 ?c3d5 ?c3d6 ?c3d7 ?c3d8 ?c3d9) rfl
  case c3d1=>
   rw [Dq];show ((bS V).flatMap fun r=>r.map D.int).length≤1000;rw [← Ds,Ac,Ck,Hs];show (cA V).length≤1000;rw [jB];exact N1 11 10 c26.2
  case c3d2=>intro C d l _;exact .name (.inl rfl)
  case c3d3=>intro C Xc h' d l _ ce;exact Ts.nil
  case c3d4=>intro d l _;exact aE
  case c3d5=>intro d d' l h;exact (aA (by decide)).trans h
  case c3d6=>
   intro C Xc h' d l m ce;refine cX m ?_;rintro r _ rfl;exact fX.of (d:=.list (r.map .int)) (nmC ce aE) (iQ.list hA)
  case c3d7=>intro C d d' l _ _;exact .name (.inl rfl)
  case c3d8=>intro C Xc h' d d' l _ _ _ ce;exact Ts.nil
  case c3d9=>intro C Xc h' d d' l _ _ _ _ ce;exact nmC ce aE
 -- hits
 refine aO S9 (d:=.list ((aQ V).map .int)) (Ev.ofCq ?c4 rfl) (fun s10 S10 _=>?_) (dL rfl rfl) (by rfl)
 case c4=>
  have e:((aQ V).map D.int)=(((Aa (aB V)).map fun (k:Nat)=>D.int (k:Int)).filter fun _=>true).map fun d=>.int (iO V (aU d)):=by
   unfold aQ;rw [Az.mpr (fun _ _=>rfl),An,An];rfl
  rw [e];refine Cq.lc (asg:=fun d l=>up l "k" d) hA S9.ecf (aY (m:=aB V) hA ?c4d1 (by exact N1 3 19 c26.2)) ?c4d2 ?c4d3 ?c4d4 ?c4d5
  case c4d1=>exact Ev.call (by ktr_rel) Kp.type (Es.one (by ktr_rel) (by rfl)) Cl.range1
  case c4d2=>rw [Ac,Al];exact N1 3 19 c26.2
  case c4d3=>intro C d l _;exact .name (.inl rfl)
  case c4d4=>intro C Xc h' d l _ ce;exact Ts.nil
  case c4d5=>
   intro C Xc h' d l m _ ce;refine cX m ?_;rintro k hk rfl;have hk':=fN hk;have gk:up l "k" (.int (k:Int)) "k"=some (.int (k:Int)):=rfl;show Ev w Xc _ _ h' _ (.int (iO V k));have eh:iO V k=((V k % 100:Nat):Int)+((V k / 100:Nat):Int):=by unfold iO;push_cast;rfl
   have n1:((cA V).map D.int)[3*k+1]?=some (.int ((V k % 100:Nat):Int)):=by rw [Ar,pP hk' (by exact N0 11 11)];rfl
   have n2:((cA V).map D.int)[3*k+2]?=some (.int ((V k / 100:Nat):Int)):=by rw [Ar,pP hk' (by exact N0 11 12)];rfl
   rw [eh];refine Ev.call (ds:=[.sdict [("f",.int ((V k % 100:Nat):Int)),("g",.int ((V k / 100:Nat):Int))]]) (by ktr_rel) (Kp.fn ce.ec.wd (wO (P:=w.params)).mem) (Es.one ?c4f1 (by rfl)) (aCz hA ce.ec.wd)
   case c4f1=>
    refine Ev.dictS (fun a ha=>.cons ?c4g1 ?c4g2 (.cons ?c4g3 ?c4g4 .nil)) (show [("f":Str),"g"].Nodup by decide) (by krn_off) (by krn_off)
    case c4g1=>exact Ev.str
    case c4g3=>exact Ev.str
    case c4g2=>
     have ce:=ce.hide ha;exact Ev.sub (nmR ce S9 j5 rfl rfl rfl) (Ev.bin (Ev.bin (by ktr_rel) (by ktr_rel) (Bo.mul (Bx (by decide)))) (by ktr_rel) Bo.add) (Bo.item_list ⟨by exact N1 11 13,by rw [show (3*(k:Int)+1).toNat=3*k+1 by exact N2 23 21 (BG _) (tn1 (N1 11 13))];exact n1⟩ (by exact N2 11 14 c26.2 hk'))
    case c4g4=>
     have ce:=ce.hide ha;exact Ev.sub (nmR ce S9 j5 rfl rfl rfl) (Ev.bin (Ev.bin (by ktr_rel) (by ktr_rel) (Bo.mul (Bx (by decide)))) (by ktr_rel) Bo.add) (Bo.item_list ⟨by exact N1 11 15,by rw [show (3*(k:Int)+2).toNat=3*k+2 by exact N2 23 22 (BG _) (tn1 (N1 11 15))];exact n2⟩ (by exact N2 11 16 c26.2 hk'))
 have m0:up l8 "hits" (.list ((aQ V).map .int)) "count"=some (.int ((aB V:Nat):Int)):=j0;have m1:up l8 "hits" (.list ((aQ V).map .int)) "way"=some (.int (dR V)):=j1;have m2:up l8 "hits" (.list ((aQ V).map .int)) "base"=some (.int ((aW V:Nat):Int)):=j2;have m3:up l8 "hits" (.list ((aQ V).map .int)) "seed"=some (.int ((bK V:Nat):Int)):=j3;have m4:up l8 "hits" (.list ((aQ V).map .int)) "drawn"=some (eI (bS V)):=j4;have m5:up l8 "hits" (.list ((aQ V).map .int)) "numbers"=some (.list ((cA V).map .int)):=j5;have m6:up l8 "hits" (.list ((aQ V).map .int)) "hits"=some (.list ((aQ V).map .int)):=aE;generalize up l8 "hits" (.list ((aQ V).map .int))=l10 at S10 m0 m1 m2 m3 m4 m5 m6
 -- odd
 refine aO S10 (d:=.list ((Aa (aQ V).length).map fun k=>.int (if bJ V k then 1 else 0))) (Ev.ofCq ?c5 rfl) (fun s11 S11 _=>?_) (dL rfl rfl) (by rfl)
 case c5=>
  have e:((Aa (aQ V).length).map fun k=>D.int (if bJ V k then 1 else 0))=(((Aa (aB V)).map fun (k:Nat)=>D.int (k:Int)).filter fun _=>true).map fun d=>.int (((V (aU d) % 100:Nat):Int).fmod 2):=by
   rw [Az.mpr (fun _ _=>rfl),An,eF];apply Av;intro k _;show D.int (if bJ V k then 1 else 0)=.int (((V k % 100:Nat):Int).fmod 2);rw [show ((V k % 100:Nat):Int).fmod 2=((V k % 100 % 2:Nat):Int) from dT _ 2];unfold bJ;have:V k % 100 % 2=0∨V k % 100 % 2=1:=by lia
   rcases this with h | h <;> rw [h] <;> rfl
  rw [e];refine Cq.lc (asg:=fun d l=>up l "k" d) hA S10.ecf (aY (m:=aB V) hA ?c5d1 (by exact N1 3 19 c26.2)) ?c5d2 ?c5d3 ?c5d4 ?c5d5
  case c5d1=>exact Ev.call (by ktr_rel) Kp.type (Es.one (by ktr_rel) (by rfl)) Cl.range1
  case c5d2=>rw [Ac,Al];exact N1 3 19 c26.2
  case c5d3=>intro C d l _;exact .name (.inl rfl)
  case c5d4=>intro C Xc h' d l _ ce;exact Ts.nil
  case c5d5=>
   intro C Xc h' d l m _ ce;refine cX m ?_;rintro k hk rfl;have hk':=fN hk;have gk:up l "k" (.int (k:Int)) "k"=some (.int (k:Int)):=rfl;show Ev w Xc _ _ h' _ (.int (((V k % 100:Nat):Int).fmod 2));have n1:((cA V).map D.int)[3*k+1]?=some (.int ((V k % 100:Nat):Int)):=by rw [Ar,pP hk' (by exact N0 11 11)];rfl
   refine Ev.bin (Ev.sub (nmR ce S10 m5 rfl rfl rfl) (Ev.bin (Ev.bin (by ktr_rel) (by ktr_rel) (Bo.mul (Bx (by decide)))) (by ktr_rel) Bo.add) (Bo.item_list ⟨by exact N1 11 13,by rw [show (3*(k:Int)+1).toNat=3*k+1 by exact N2 23 21 (BG _) (tn1 (N1 11 13))];exact n1⟩ (by exact N2 11 14 c26.2 hk'))) (by ktr_rel) (Bo.fmod (by decide))
 -- ones,line
 refine fV (xs:=["ones","line"]) (ds:=[.idict (gG (aQ V) (bJ V)),.list (iJ (aQ V) (bJ V))]) hA.hh S11 (.cons (.inl rfl) (.cons (.inl rfl) .nil)) (Ev.call (by ktr_rel) (Kp.fn S11.wd (uV (P:=w.params)).mem) (by kcj_m) (aAo hA S11.wd (by rw [eF];exact N1 3 6 c26.2)) (by rfl)) rfl (fun s12 S12 _=>?_) (by rfl) (by rfl)
 -- notes
 refine wG (ds:=[.bool true]) S12 (Es.one ?c6 (by rfl)) rfl (by decide) (fun a s13 S13 ha=>k a s13 (up (bQ (up l10 "odd" (.list ((Aa (aQ V).length).map fun k=>.int (if bJ V k then 1 else 0)))) ["ones","line"] [.idict (gG (aQ V) (bJ V)),.list (iJ (aQ V) (bJ V))]) "notes" (.val (.ref a))) ⟨m0,m1,m2,m3,m5,m6,?_,?_,?_,?_⟩ ?_ S13) (.inl rfl) (by rfl)
 case c6=>
  refine Ev.cmp (d2:=.list ((aQ V).map .int)) (by ktr_rel) (Ev.ofCq ?c6a rfl) (Bo.eq_same hA (by show gO _=true;exact mM _) (by show eW _+1≤500;rw [nW];decide)) (by with_unfolding_all rfl)
  case c6a=>
   have e:((aQ V).map D.int)=(((bS V).map fun r=>D.list (r.map .int)).filter fun _=>true).map fun d=>.int (Iy [jI d 1,jI d 2]):=by
    rw [Az.mpr (fun _ _=>rfl)];unfold aQ bS;rw [An,An,An];apply Av;intro k _;show D.int (iO V k)=.int (Iy [((V k % 100:Nat):Int),((V k / 100:Nat):Int)]);unfold iO;simp
   rw [e];refine Cq.lc (tup:=false) (asg:=fun d l=>up l "row" d) hA S12.ecf (fX.of (d:=eI (bS V)) (by ktr_rel) (iQ.list hA)) ?c6d2 ?c6d3 ?c6d4 ?c6d5
   case c6d2=>unfold bS;rw [Ac,Ac,Al];exact N1 3 19 c26.2
   case c6d3=>intro C d l _;exact .name (.inl rfl)
   case c6d4=>intro C Xc h' d l _ ce;exact Ts.nil
   case c6d5=>
    intro C Xc h' d l m _ ce;refine cX m ?_;rintro r hr rfl;refine cX hr ?_;rintro k hk rfl;have gr:up l "row" (.list ((sI V k).map .int)) "row"=some (.list ((sI V k).map .int)):=rfl;show Ev w Xc _ _ h' _ (.int (Iy [((V k % 100:Nat):Int),((V k / 100:Nat):Int)]));refine Ev.call (ds:=[.list ([((V k % 100:Nat):Int),((V k / 100:Nat):Int)].map .int)]) (by ktr_rel) Kp.builtin (Es.one ?c6e (by rfl)) (Cl.sum hA);have e:D.list ([((V k % 100:Nat):Int),((V k / 100:Nat):Int)].map .int)=.list (gP ((sI V k).map .int) (some ((1:Nat):Int)) none none):=by rw [eH];rfl
    rw [e];exact Ev.sub (by ktr_rel) (Ev.slc (.some (by ktr_rel)) .none .none) (Bo.slice_list (by decide) (by rw [Ac];show 3≤100000;decide))
 ·rfl
 ·rfl
 ·rfl
 ·rfl
 ·exact fun m=>by refine ob11 (S12.live.1 _ m) fun o e=>?_;rw [ha] at e;cases e
end
noncomputable def bN (V:Nat→Nat) (k:Nat):Int:=(aQ V)[k]?.getD 0
theorem pN {V:Nat→Nat} {k:Nat} (h:k<aB V):bN V k=iO V k:=by unfold bN;rw [aAG h];rfl
noncomputable def aS (lv:Nat→Nat) (k:Nat):Nat:=((Aa k).map fun j=>32 / 2 ^ lv j).sum
noncomputable def jO (V:Nat→Nat) (k:Nat):Int:=(((bK V+k) % 5:Nat):Int) - 2
structure kE (V:Nat→Nat) (e:Tb) (lv:Nat→Nat):Prop where
 perm:e.Perm ((Aa (aB V)).map fun k=>(k,((lv k:Nat):Int)))
 cost:bR (bN V) e=oZ (aQ V) 0 (aQ V).length
 rng:∀ k<aB V,1≤lv k∧lv k≤5
 full:aS lv (aB V)=32
 low:∀ k<aB V,aS lv k<32
 ali:∀ k<aB V,aS lv k % (32 / 2 ^ lv k)=0
noncomputable def eZ (left base:Nat) (hi:Int):List Str:=if (cM left base hi).isEmpty then ["0x0"] else cM left base hi
structure uA (left base:Nat) (hi:Int):Prop where
 loop:nL (Aa 32) ((left:Int)*2 ^ base+hi*2 ^ 32) []=eZ left base hi
 short:∀ x∈eZ left base hi,x.length≤1000
 len:(iI ", " (eZ left base hi)).length≤1000
 fits:B4 ((eZ left base hi).toArray.foldl (·+·.length+(", ":Str).length) 0)=false
 same:iI ", " (eZ left base hi)=bB left base hi
 len2:(iI ", " (cM left base hi)).length≤1000
 fits2:B4 ((cM left base hi).toArray.foldl (·+·.length+(", ":Str).length) 0)=false
theorem aDi {hits:Nat→Int} {odd:Nat→Bool} {k:Nat}:kG hits odd k 0=lH (odd k):=by
 unfold kG lH;cases odd k
 ·rfl
 ·simp [dC]
theorem aEI {V:Nat→Nat} {k:Nat}:kG (bN V) (bJ V) k 1=pI ((aQ V)[k]?.getD 0) (bJ V k) k:=by
 unfold kG pI bN;cases bJ V k
 ·rfl
 ·simp [dC]
theorem aEF {V:Nat→Nat}:iJ (aQ V) (bJ V)=(eR (aB V)).map (cD (bN V) (bJ V)):=by
 unfold iJ eR;rw [eF,An];apply Av;intro k hk;have hk':=fN hk;show D.tup [.int 1,.int ((aQ V)[k]?.getD 0),.int 0,.int 0,.idict [((k:Int),lH (bJ V k))]]=kA ([(k,(0:Int))]:Tb).length (dH (bN V) [(k,0)]) (bR (bN V) [(k,0)]) (jR [(k,0)]) (cC (bN V) (bJ V) [(k,0)]);have e1:dH (bN V) [(k,0)]=(aQ V)[k]?.getD 0:=by unfold dH bN;simp
 have e2:bR (bN V) [(k,0)]=0:=by unfold bR;simp
 have e3:cC (bN V) (bJ V) [(k,0)]=[((k:Int),lH (bJ V k))]:=by
  unfold cC;rw [AC,Ez,aDi]
 rw [e1,e2,e3];rfl
theorem oA {n:Nat}:bF (eR n).flatten=Aa n:=by
 unfold eR bF;rw [HQ,An];have:((FT fun x:Nat×Int=>x.1)∘fun k=>([(k,0)]:Tb))=fun k=>[k]:=rfl;rw [this,← Ck];simp
theorem rC {n:Nat}:(eR n).length=n:=by unfold eR;rw [Ac,Al]
theorem aBB {n:Nat}:(eR n).flatten.length=n:=by rw [← iZ,oA,Al]
theorem wJ {n:Nat} {f:Nat→D} {k:Nat} (h:k<n):bE ((Aa n).map fun (j:Nat)=>((j:Int),f j)) (k:Int)=some (f k):=by
 have e:(Aa n).map (fun (j:Nat)=>((j:Int),f j))=(Aa k).map (fun (j:Nat)=>((j:Int),f j))++((k:Int),f k)::((Aa n).drop (k+1)).map (fun (j:Nat)=>((j:Int),f j)):=by
  have hh:Aa n=(Aa n).take k++k::(Aa n).drop (k+1):=by
   conv=>lhs;rw [← Bs k (Aa n)]
   rw [Bv (by rw [Al];exact h),Eh]
  conv=>lhs;rw [hh]
  rw [Ax,AC,Gn,B1 (CR h)]
 rw [e];refine nY fun p m=>?_;refine cX m ?_;rintro j hj rfl;have:=fN hj;show ((j:Nat):Int)≠k;exact F8 (N2 24 0 this)
theorem aBI {V:Nat→Nat}:∀ k∈bF (eR (aB V)).flatten,bE (gG (aQ V) (bJ V)) (k:Int)=some (kG (bN V) (bJ V) k 1):=fun k m=>by
 rw [oA] at m;rw [aEI];unfold gG;rw [eF];exact wJ (fN m)
theorem yY {a b:List (Int×D)} {k:Int} {d:D} (n:(a.map (·.1)).Nodup) (m:(k,d)∈a):bE a k=some d:=by
 induction a with
 | nil=>cases m
 | cons p a ih=>
  rw [AC,Ec] at n;refine cK m (fun e=>?_) fun m=>?_
  ·subst e
   exact nY (a:=[]) (fun _ m=>by cases m)
  ·have:p.1≠k:=fun e=>n.1 (AY.mpr ⟨_,m,e.symm⟩)
   unfold bE at ih ⊢;rw [BY];have h:decide (p.1=k)=false:=decide_eq_false this;rw [h];exact ih n.2 m
theorem kE.find {V:Nat→Nat} {e:Tb} {lv:Nat→Nat} (t:kE V e lv) {k:Nat} (h:k<aB V):bE (cC (bN V) (bJ V) e) (k:Int)=some (kG (bN V) (bJ V) k (lv k)):=by
 have nd:(bF e).Nodup:=by
  have:=(t.perm.map (·.1)).nodup_iff.mpr (by
   rw [An];have:((fun x:Nat×Int=>x.1)∘fun k=>(k,((lv k:Nat):Int)))=id:=rfl;rw [this,Fv];exact EM)
  exact this
 refine yY (b:=[]) (jW nd) (AY.mpr ⟨(k,((lv k:Nat):Int)),t.perm.mem_iff.mpr (AY.mpr ⟨k,Bb.mpr h,rfl⟩),rfl⟩)
theorem rF {a b:List Int} (p:a.Perm b):a.sum=b.sum:=by
 induction p with
 | nil=>rfl
 | cons x _ ih=>rw [Co,Co,ih]
 | swap x y l=>simp only [Co];exact aB7 11 17
 | trans _ _ h1 h2=>exact h1.trans h2
theorem kE.len {V:Nat→Nat} {e:Tb} {lv:Nat→Nat} (t:kE V e lv):e.length=aB V:=by rw [t.perm.length_eq,Ac,Al]
theorem kE.wt {V:Nat→Nat} {e:Tb} {lv:Nat→Nat} (t:kE V e lv):dH (bN V) e=(aQ V).sum:=by
 unfold dH;rw [rF (t.perm.map _),An];unfold aQ;congr 1;apply Av;intro k hk;exact pN (fN hk)
theorem kE.ct {V:Nat→Nat} {e:Tb} {lv:Nat→Nat} (t:kE V e lv):bR (bN V) e=((Aa (aB V)).map fun k=>iO V k*((lv k:Nat):Int)).sum:=by
 unfold bR;rw [rF (t.perm.map _),An];congr 1;apply Av;intro k hk;show bN V k*_=_;rw [pN (fN hk)]
theorem kE.lvs {V:Nat→Nat} {e:Tb} {lv:Nat→Nat} (t:kE V e lv):jR e=((Aa (aB V)).map fun k=>((lv k:Nat):Int)).sum:=by
 unfold jR;rw [rF (t.perm.map _),An];rfl
section
structure LW2 (V:Nat→Nat) (lv:Nat→Nat) (a:Addr) (l:Str→Option D):Prop where
 dcount:l "count"=some (.int ((aB V:Nat):Int))
 dway:l "way"=some (.int (dR V))
 dbase:l "base"=some (.int ((aW V:Nat):Int))
 dseed:l "seed"=some (.int ((bK V:Nat):Int))
 dnumbers:l "numbers"=some (.list ((cA V).map .int))
 dnotes:l "notes"=some (.val (.ref a))
 dlevels:l "levels"=some (.list ((Aa (aB V)).map fun k=>.int ((lv k:Nat):Int)))
 dsaid:l "said"=some (.list ((Aa (aB V)).map fun k=>.str (bB (aS lv k) (aW V) (jO V k))))
theorem iT:∀ {ds:List D},(∀ d∈ds,iS d=true)→gO ds=true
 | [],_=>rfl
 | d::ds,h=>by show (iS d&&gO ds)=true;rw [h d (.head _),iT fun x m=>h x (.tail _ m)];rfl
theorem nX:∀ {ds:List (Int×D)},(∀ p∈ds,iS p.2=true)→kO ds=true
 | [],_=>rfl
 | (k,d)::ds,h=>by show (iS d&&kO ds)=true;rw [h (k,d) (.head _),nX fun x m=>h x (.tail _ m)];rfl
theorem nH {m:Nat}:∀ {ds:List D},(∀ d∈ds,dep d≤m)→eW ds≤m
 | [],_=>Df _
 | d::ds,h=>by show max (dep d) (eW ds)≤_;exact Hd.mpr ⟨h d (.head _),nH fun x q=>h x (.tail _ q)⟩
theorem uJ {m:Nat}:∀ {ds:List (Int×D)},(∀ p∈ds,dep p.2≤m)→kF ds≤m
 | [],_=>Df _
 | (k,d)::ds,h=>by show max (dep d) (kF ds)≤_;exact Hd.mpr ⟨h (k,d) (.head _),uJ fun x q=>h x (.tail _ q)⟩
theorem aDh {hits:Nat→Int} {odd:Nat→Bool} {k:Nat} {v:Int}:iS (kG hits odd k v)=true∧dep (kG hits odd k v)≤1:=by
 unfold kG;cases odd k
 ·exact ⟨rfl,Df _⟩
 ·exact ⟨rfl,Am _⟩
theorem aA1 {hits:Nat→Int} {odd:Nat→Bool} {t:Tb}:kO (cC hits odd t)=true∧kF (cC hits odd t)≤1:=
 ⟨nX fun p m=>by refine cX m ?_;rintro q _ rfl;exact aDh.1,uJ fun p m=>by refine cX m ?_;rintro q _ rfl;exact aDh.2⟩
theorem aAO {V:Nat→Nat}:iS (.idict (gG (aQ V) (bJ V)))=true∧dep (.idict (gG (aQ V) (bJ V)))≤2:=by
 refine ⟨?_,?_⟩
 ·show kO _=true
  refine nX fun p m=>?_;refine cX m ?_;rintro q _ rfl;show iS (pI _ _ _)=true;unfold pI;cases bJ V q <;> rfl
 ·show kF _+1≤2
  refine DT (uJ fun p m=>?_);refine cX m ?_;rintro q _ rfl;show dep (pI _ _ _)≤1;unfold pI;cases bJ V q
  ·exact Df _
  ·exact Am _
theorem aAK {V:Nat→Nat}:iS (.list (iJ (aQ V) (bJ V)))=true∧dep (.list (iJ (aQ V) (bJ V)))≤5:=by
 refine ⟨?_,?_⟩
 ·show gO _=true
  refine iT fun p m=>?_;refine cX m ?_;rintro q _ rfl;unfold lH;cases bJ V q <;> rfl
 ·show eW _+1≤5
  refine DT (nH fun p m=>?_);refine cX m ?_;rintro q _ rfl;unfold lH;cases bJ V q <;> first | exact Nat.le_of_ble_eq_true rfl | simp [dep,eW,kF]
noncomputable def kH (V:Nat→Nat) (lv:Nat→Nat):List (Int×D):=(Aa (aB V)).map fun (k:Nat)=>((k:Int),if bJ V k then .tup [.int ((lv k:Nat):Int),.int (((lv k:Nat):Int)*iO V k),.int (((lv k:Nat):Int)*-(k:Int))] else .int ((lv k:Nat):Int))
theorem aFd {V:Nat→Nat} {e:Tb} {lv:Nat→Nat} (t:kE V e lv):∀ p∈cC (bN V) (bJ V) e,p∈kH V lv:=by
 intro p m;refine cX m ?_;rintro q hq rfl;refine ob12 (AY.mp (t.perm.mem_iff.mp hq)) ?_;rintro k hk rfl;refine AY.mpr ⟨k,hk,?_⟩;show ((k:Int),_)=((k:Int),kG (bN V) (bJ V) k ((lv k:Nat):Int));congr 1;unfold kG;rw [pN (fN hk)];cases bJ V k
 ·rfl
 ·simp only [if_true,dC,AC,Ez]
  rw [Et (iO V k),Int.mul_neg,Int.neg_mul,Et (k:Int)]
theorem oE {n:Nat} {b:Int} (h:n≤1000):GC (n:Int) b:=Bx (Dm (by exact N1 5 16) (by exact N1 5 17 h))
theorem zK {n:Nat} {b:Int} (h:n≤1000):GC b (n:Int):=F2 (Dm (by exact N1 5 16) (by exact N1 5 17 h))
theorem aHf {lv:Nat→Nat} {k:Nat}:((aS lv k:Nat):Int)=((Aa k).map fun j=>((32 / 2 ^ lv j:Nat):Int)).sum:=by
 unfold aS
 induction k with
 | zero=>rfl
 | succ k ih=>rw [AT,Ax,Ax,BZ,BZ];push_cast;rw [ih];simp
theorem gH {n k:Nat} {f:Nat→D} (h:k<n):((Aa n).map f)[k]?=some (f k):=by rw [Ar,B7 h];rfl
theorem aHd {n L a} {V:Nat→Nat} (hA:dF (n+6) A) (S:St w (T1 w.params) s₀ [aK] (a::X) (aI iU 205 L) s l [(a,.list [.bool true]),(aK,.ctab)]) (tX:aK∈X) (ne:a≠aK) (lw:LW V a l)
  (hJ:∀ e,Joined (dH (bN V)) (eR (aB V)) e→∃ lv,kE V e lv) (hF:∀ left base hi,left<32→base<28→-2≤hi→hi≤2→uA left base hi)
  (k:∀ s' l' lv e c,LW2 V lv a l'→Joined (dH (bN V)) (eR (aB V)) e→kE V e lv→c≤300→St w (T1 w.params) s₀ [aK] (a::X) (aI iU 205 L) s' l' [(a,.list (As c (.bool true))),(aK,.ctab)]→Xs w A (rZ.1.drop 20) (aI iU 205 L) Q (fun _ _=>False) s') :
  Xs w A (rZ.1.drop 10) (aI iU 205 L) Q (fun _ _=>False) s:=by
 have c26:=fB (V:=V);obtain ⟨m0,m1,m2,m3,m5,m6,m7,m8,m9,m10⟩:=lw
 -- root
 have m9':l "line"=some (.list ((eR (aB V)).map (cD (bN V) (bJ V)))):=by rw [← aEF];exact m9
 refine cI (By (eU (ds:=[.list ((eR (aB V)).map (cD (bN V) (bJ V))),.idict (gG (aQ V) (bJ V)),.int (dR V),.val (.ref a)]) S.live aZ.rfl (by lcg_off) (Kp.fn S.wd (sW (P:=w.params)).mem) (by kcj_m) (fun vs s1 r1 k1=>?_) (by rfl)) (by rfl));have S1:=S.keeps k1;refine cF (vX (n:=n+1) hA S1.live S1.wd (.tail _ tX) (.head _) ne (S1.muAt (.head _)) (S1.muAt (.tail _ (.head _))) (by krn_off) aAe (by rw [rC];exact N1 11 18 c26.1) (by rw [rC];exact N1 3 6 c26.2) (by rw [aBB];exact N1 11 19 c26.2) (by rw [oA];exact EM) aBI r1) fun v s2 z=>?_;refine aHi z fun e c hj hc rv ch ma mt=>?_;clear z;refine ob11 (hJ e hj) fun lv tr=>?_;have S2:=S1.remu (mu':=[(a,.list ([D.bool true]++As c (.bool true))),(aK,.ctab)]) ch (fun g m=>by simpa using m) rfl (fun p m=>by
  refine cK m (fun z=>?_) fun m=>?_
  ·rw [z];exact ma
  ·rw [bH m];exact mt)
 rw [show [D.bool true]++As c (D.bool true)=As (c+1) (.bool true) from rfl] at S2;refine S2.store rv (dL rfl rfl) fun s3 S3 _=>Xs.go ?_;have n0:up l "root" (cD (bN V) (bJ V) e) "count"=some (.int ((aB V:Nat):Int)):=m0;have n1:up l "root" (cD (bN V) (bJ V) e) "way"=some (.int (dR V)):=m1;have n2:up l "root" (cD (bN V) (bJ V) e) "base"=some (.int ((aW V:Nat):Int)):=m2;have n3:up l "root" (cD (bN V) (bJ V) e) "seed"=some (.int ((bK V:Nat):Int)):=m3;have n5:up l "root" (cD (bN V) (bJ V) e) "numbers"=some (.list ((cA V).map .int)):=m5;have n6:up l "root" (cD (bN V) (bJ V) e) "hits"=some (.list ((aQ V).map .int)):=m6;have n7:up l "root" (cD (bN V) (bJ V) e) "odd"=some (.list ((Aa (aQ V).length).map fun k=>.int (if bJ V k then 1 else 0))):=m7;have n8:up l "root" (cD (bN V) (bJ V) e) "ones"=some (.idict (gG (aQ V) (bJ V))):=m8;have n9:up l "root" (cD (bN V) (bJ V) e) "line"=some (.list (iJ (aQ V) (bJ V))):=m9;have n10:up l "root" (cD (bN V) (bJ V) e) "notes"=some (.val (.ref a)):=m10;have n11:up l "root" (cD (bN V) (bJ V) e) "root"=some (.tup ([.int ((e.length:Nat):Int),.int (dH (bN V) e),.int (bR (bN V) e),.int (jR e)]++[.idict (cC (bN V) (bJ V) e)])):=rfl;generalize up l "root" (cD (bN V) (bJ V) e)=l3 at S3 n0 n1 n2 n3 n5 n6 n7 n8 n9 n10 n11
 -- notes.append((ones,line)==..)
 refine eO (pre:=[]) (post:=[(aK,.ctab)]) (d:=.bool true) S3 n10 ?b1 (by rw [Cb];exact N1 11 20 hc) (fun s4 S4=>?_) (by rfl) (by rfl) (by rfl)
 case b1=>
  refine Ev.cmp (d1:=.tup [.idict (gG (aQ V) (bJ V)),.list (iJ (aQ V) (bJ V))]) (d2:=.tup [.idict (gG (aQ V) (bJ V)),.list (iJ (aQ V) (bJ V))]) (Ev.tup (by kcj_m) (by krn_off)) (Ev.call (by ktr_rel) (Kp.fn S3.wd (uV (P:=w.params)).mem) (by kcj_m) (aAo hA S3.wd (by rw [eF];exact N1 3 6 c26.2)) (by rfl)) (Bo.eq_same hA ?b1a ?b1b) (by with_unfolding_all rfl)
  case b1a=>
   show gO [_,_]=true;exact iT fun d m=>by
    refine cK m (fun z=>?_) fun m=>?_
    ·rw [z];exact aAO.1
    ·rw [bH m];exact aAK.1
  case b1b=>
   show eW [_,_]+1≤500;have:eW [.idict (gG (aQ V) (bJ V)),.list (iJ (aQ V) (bJ V))]≤5:=nH fun d m=>by
    refine cK m (fun z=>?_) fun m=>?_
    ·rw [z];exact Ao aAO.2 (by decide)
    ·rw [bH m];exact aAK.2
   exact N1 11 21 this
 rw [DO (n:=c+1) (a:=D.bool true) |>.symm] at S4
 -- notes.append([..]==[])
 refine eO (pre:=[]) (post:=[(aK,.ctab)]) (d:=.bool true) S4 n10 ?b2 (by rw [Cb];exact N1 11 22 hc) (fun s5 S5=>?_) (by rfl) (by rfl) (by rfl)
 case b2=>
  refine Ev.cmp (d1:=.list []) (d2:=.list []) (Ev.ofCq ?b2c rfl) (Ev.list .nil (by krn_off)) (Bo.eq_same hA rfl (by decide)) (by with_unfolding_all rfl)
  case b2c=>
   have e0:D.list []=.list ((((cA V++aQ V++[((e.length:Nat):Int),dH (bN V) e,bR (bN V) e,jR e]).map D.int).filter fun _=>false).map fun d=>d):=by
    rw [Ex.mpr (fun _ _=>by decide)];rfl
   rw [e0];refine Cq.lc (tup:=false) (asg:=fun d l=>up l "x" d) hA S4.ecf (fX.of (d:=.list ((cA V++aQ V++[((e.length:Nat):Int),dH (bN V) e,bR (bN V) e,jR e]).map D.int)) ?b2d (iQ.list hA)) ?b2e ?b2f ?b2g ?b2h
   case b2d=>
    rw [Ax,Ax];refine Ev.bin (Ev.bin (by ktr_rel) (by ktr_rel) (Bo.addl ?b2l)) (Ev.call (ds:=[.tup ([.int ((e.length:Nat):Int),.int (dH (bN V) e),.int (bR (bN V) e),.int (jR e)])]) (by ktr_rel) Kp.type (Es.one ?b2k (by rfl)) (Cl.list_tup (by krn_off)) (by rfl)) (Bo.addl ?b2m)
    case b2l=>rw [Ac,Ac,jB,eF];exact N1 12 0 c26.2
    case b2m=>rw [Af,Ac,Ac,jB,eF];simp only [Ac,Aq,AQ];exact N1 12 1 c26.2
    case b2k=>
     have four:∀ (ds4:List D) (x:D),ds4.length=4→l3 "root"=some (.tup (ds4++[x]))→∀ {p0 p1 p2 p3 p4},Ev w (a::X) A (aI iU 205 L) s4.heap (.Subscript (.Name "root" p0) (.Slice none (some (.Constant (.int 4) p1 p2)) none p3) p4) (.tup ds4):=fun ds4 x h4 h {p0 p1 p2 p3 p4}=>by
      have q:=Ev.sub (A:=A) (v:=.Name "root" p0) (sl:=.Slice none (some (.Constant (.int 4) p1 p2)) none p3) (pos:=p4) (d2:=.slc none (some ((4:Nat):Int)) none) (nmS S4 h) (Ev.slc .none (.some Ev.int) .none) (Bo.slice_tup (b:=4) (by rw [Af,h4];simp) (by rw [Af,h4];simp))
      rwa [List.take_append_of_le_length (by exact N1 12 2 h4),BJ (by exact N1 12 3 h4)] at q
     exact four _ _ rfl n11
   case b2e=>rw [Ac,Af,Af,jB,eF];simp only [Aq,AQ];exact N1 12 4 c26.2
   case b2f=>intro C d l _;exact .name (.inl rfl)
   case b2g=>
    intro C Xc h' d l m ce;refine cX m ?_;rintro x _ rfl;have gx:up l "x" (.int x) "x"=some (.int x):=rfl;exact Ts.one (Tr.not (b:=true) (Tr.val (d:=.bool true) (Ev.call (by ktr_rel) Kp.builtin (by kcj_m) Cl.isi_int) Tt.bool (by intro _;rfl)))
   case b2h=>intro C Xc h' d l _ q _;cases q
 rw [DO (n:=c+1+1) (a:=D.bool true) |>.symm] at S5
 -- levels
 have r0:∀ k<aB V,bE (cC (bN V) (bJ V) e) (k:Int)=some (kG (bN V) (bJ V) k (lv k)):=fun k hk=>tr.find hk;have r1:∀ k<aB V,((Aa (aQ V).length).map fun k=>D.int (if bJ V k then 1 else 0))[k]?=some (.int (if bJ V k then 1 else 0)):=fun k hk=>gH (by rw [eF];exact hk);have r2:∀ k<aB V,((aQ V).map D.int)[k]?=some (.int (iO V k)):=fun k hk=>by rw [Ar,aAG hk];rfl
 have ctst:∀ (b:Bool),(((if b then 1 else 0:Int)) != 0)=b:=by decide
 refine aO S5 (d:=.list ((Aa (aB V)).map fun k=>.int ((lv k:Nat):Int))) (Ev.ofCq ?b3 rfl) (fun s6 S6 _=>?_) (dL rfl rfl) (by rfl)
 case b3=>
  have e0:((Aa (aB V)).map fun k=>D.int ((lv k:Nat):Int))=(((Aa (aB V)).map fun (k:Nat)=>D.int (k:Int)).filter fun _=>true).map fun d=>.int ((lv (aU d):Nat):Int):=by
   rw [Az.mpr (fun _ _=>rfl),An];rfl
  rw [e0];refine Cq.lc (asg:=fun d l=>up l "k" d) hA S5.ecf (aY (m:=aB V) hA ?b3a (by exact N1 3 19 c26.2)) ?b3b ?b3c ?b3d ?b3e
  case b3a=>exact Ev.call (by ktr_rel) Kp.type (Es.one (by ktr_rel) (by rfl)) Cl.range1
  case b3b=>rw [Ac,Al];exact N1 3 19 c26.2
  case b3c=>intro C d l _;exact .name (.inl rfl)
  case b3d=>intro C Xc h' d l _ ce;exact Ts.nil
  case b3e=>
   intro C Xc h' d l m _ ce;refine cX m ?_;rintro k hk rfl;have hk':=fN hk;have gk:up l "k" (.int (k:Int)) "k"=some (.int (k:Int)):=rfl;have rt:∀ {p1 p2 p3 p4 p5 p6},Ev w Xc A _ h' (.Subscript (.Subscript (.Name "root" p1) (.Constant (.int 4) p2 p3) p4) (.Name "k" p5) p6) (kG (bN V) (bJ V) k (lv k)):=fun {_ _ _ _ _ _}=>Ev.sub (Ev.sub (nmR ce S5 n11 rfl rfl rfl) Ev.int (Bo.item_tup ⟨by decide,rfl⟩ (by decide))) (nmC ce gk) (Bo.item_idict (r0 k hk'));show Ev w Xc _ _ h' _ (.int ((lv k:Nat):Int));refine Ev.ite (b:=bJ V k) ?b3t (fun hb=>?b3x) fun hb=>?b3y
   case b3t=>
    have:=ctst (bJ V k);exact this▸Tr.val (Ev.sub (nmR ce S5 n7 rfl rfl rfl) (by ktr_rel) (Bo.item_list ⟨by lia,by rw [Ap];exact r1 k hk'⟩ (by exact N2 3 21 c26.2 hk'))) Tt.int (by intro _;rfl)
   case b3x=>
    have e2:kG (bN V) (bJ V) k (lv k)=.tup (dC [((lv k:Nat):Int),bN V k*((lv k:Nat):Int),-(k:Int)*((lv k:Nat):Int)]):=by unfold kG;rw [if_pos hb]
    exact Ev.sub (Ev.cast e2 rt) (by ktr_rel) (Bo.item_tup ⟨by decide,rfl⟩ (by decide))
   case b3y=>
    have e2:kG (bN V) (bJ V) k (lv k)=.int ((lv k:Nat):Int):=by unfold kG;rw [if_neg (by rw [hb];decide)]
    exact Ev.cast e2 rt
 have g0:∀ d,up l3 "levels" d "count"=some (.int ((aB V:Nat):Int)):=fun _=>n0;have g1:∀ d,up l3 "levels" d "way"=some (.int (dR V)):=fun _=>n1;have g2:∀ d,up l3 "levels" d "base"=some (.int ((aW V:Nat):Int)):=fun _=>n2;have g3:∀ d,up l3 "levels" d "seed"=some (.int ((bK V:Nat):Int)):=fun _=>n3;have g5:∀ d,up l3 "levels" d "numbers"=some (.list ((cA V).map .int)):=fun _=>n5;have g6:∀ d,up l3 "levels" d "hits"=some (.list ((aQ V).map .int)):=fun _=>n6;have g7:∀ d,up l3 "levels" d "odd"=some (.list ((Aa (aQ V).length).map fun k=>.int (if bJ V k then 1 else 0))):=fun _=>n7;have g10:∀ d,up l3 "levels" d "notes"=some (.val (.ref a)):=fun _=>n10;have g11:∀ d,up l3 "levels" d "root"=some (.tup ([.int ((e.length:Nat):Int),.int (dH (bN V) e),.int (bR (bN V) e),.int (jR e)]++[.idict (cC (bN V) (bJ V) e)])):=fun _=>n11
 replace g0:=g0 (.list ((Aa (aB V)).map fun k=>.int ((lv k:Nat):Int)))
 replace g1:=g1 (.list ((Aa (aB V)).map fun k=>.int ((lv k:Nat):Int)))
 replace g2:=g2 (.list ((Aa (aB V)).map fun k=>.int ((lv k:Nat):Int)))
 replace g3:=g3 (.list ((Aa (aB V)).map fun k=>.int ((lv k:Nat):Int)))
 replace g5:=g5 (.list ((Aa (aB V)).map fun k=>.int ((lv k:Nat):Int)))
 replace g6:=g6 (.list ((Aa (aB V)).map fun k=>.int ((lv k:Nat):Int)))
 replace g7:=g7 (.list ((Aa (aB V)).map fun k=>.int ((lv k:Nat):Int)))
 replace g10:=g10 (.list ((Aa (aB V)).map fun k=>.int ((lv k:Nat):Int)))
 replace g11:=g11 (.list ((Aa (aB V)).map fun k=>.int ((lv k:Nat):Int)))
 have g12:up l3 "levels" (.list ((Aa (aB V)).map fun k=>.int ((lv k:Nat):Int))) "levels"=some (.list ((Aa (aB V)).map fun k=>.int ((lv k:Nat):Int))):=aE;generalize up l3 "levels" (.list ((Aa (aB V)).map fun k=>.int ((lv k:Nat):Int)))=l6 at S6 g0 g1 g2 g3 g5 g6 g7 g10 g11 g12;have r3:∀ k<aB V,((Aa (aB V)).map fun k=>D.int ((lv k:Nat):Int))[k]?=some (.int ((lv k:Nat):Int)):=fun k hk=>gH hk
 -- table
 refine eC (d:=.idict (kH V lv)) S6 ?b4 (fun s7 S7=>?_) (.inl rfl) rfl (fun _=>rfl)
 case b4=>
  have e0:kH V lv=((Aa (aB V)).map fun (k:Nat)=>D.int (k:Int)).map fun d=>(((aU d:Nat):Int),if bJ V (aU d) then .tup [.int ((lv (aU d):Nat):Int),.int (((lv (aU d):Nat):Int)*iO V (aU d)),.int (((lv (aU d):Nat):Int)*-((aU d:Nat):Int))] else .int ((lv (aU d):Nat):Int)):=by
   unfold kH;rw [An];rfl
  rw [e0];refine Cq.dcomp (asg:=fun d l=>up l "k" d) (kf:=fun d=>((aU d:Nat):Int)) (vf:=fun d=>if bJ V (aU d) then .tup [.int ((lv (aU d):Nat):Int),.int (((lv (aU d):Nat):Int)*iO V (aU d)),.int (((lv (aU d):Nat):Int)*-((aU d:Nat):Int))] else .int ((lv (aU d):Nat):Int)) hA S6.ecf gN.dict (aY (m:=aB V) hA ?b4a (by exact N1 3 19 c26.2)) ?b4b ?b4c ?b4d ?b4e ?b4f
  case b4a=>exact Ev.call (by ktr_rel) Kp.type (Es.one (by ktr_rel) (by rfl)) Cl.range1
  case b4b=>rw [Ac,Al];exact N1 3 19 c26.2
  case b4c=>
   rw [An];exact Eu _ (fun a b hab q=>hab (by
    have:((a:Nat):Int)=((b:Nat):Int):=by simpa [aU] using q
    exact N2 1 16 this)) EM
  case b4d=>intro C d l _;exact .name (.inl rfl)
  case b4e=>
   intro C Xc h' d l m ce;refine cX m ?_;rintro k hk rfl;exact nmC ce rfl
  case b4f=>
   intro C Xc h' d l m ce;refine cX m ?_;rintro k hk rfl;have hk':=fN hk;have gk:up l "k" (.int (k:Int)) "k"=some (.int (k:Int)):=rfl;have hlv:=(tr.rng k hk').2;have rt:∀ {p1 p5 p6},Ev w Xc A _ h' (.Subscript (.Name "levels" p1) (.Name "k" p5) p6) (.int ((lv k:Nat):Int)):=fun {_ _ _}=>Ev.sub (nmR ce S6 g12 rfl rfl rfl) (nmC ce gk) (Bo.item_list ⟨by lia,by rw [Ap];exact r3 k hk'⟩ (by exact N2 3 21 c26.2 hk'));show Ev w Xc _ _ h' _ (if bJ V k then .tup [.int ((lv k:Nat):Int),.int (((lv k:Nat):Int)*iO V k),.int (((lv k:Nat):Int)*-(k:Int))] else .int ((lv k:Nat):Int));refine Ev.ite (b:=bJ V k) ?b4t (fun hb=>?b4x) fun hb=>?b4y
   case b4t=>
    have:=ctst (bJ V k);exact this▸Tr.val (Ev.sub (nmR ce S6 g7 rfl rfl rfl) (by ktr_rel) (Bo.item_list ⟨by lia,by rw [Ap];exact r1 k hk'⟩ (by exact N2 3 21 c26.2 hk'))) Tt.int (by intro _;rfl)
   case b4x=>
    rw [if_pos hb];refine Ev.tup (Es.cons rt (Es.cons ?b4u (Es.cons ?b4v .nil (by rfl)) (by rfl)) (by rfl)) (by krn_off)
    case b4u=>exact Ev.bin rt (Ev.sub (nmR ce S6 g6 rfl rfl rfl) (by ktr_rel) (Bo.item_list ⟨by lia,by rw [Ap];exact r2 k hk'⟩ (by exact N2 3 21 c26.2 hk'))) (Bo.mul (oE (by exact N1 6 20 hlv)))
    case b4v=>exact Ev.bin rt (Ev.un (nmC ce gk) Uo.neg) (Bo.mul (oE (by exact N1 6 20 hlv)))
   case b4y=>
    rw [if_neg (by rw [hb];decide)];exact rt
 have j0:up l6 "table" (.idict (kH V lv)) "count"=some (.int ((aB V:Nat):Int)):=g0;have j2:up l6 "table" (.idict (kH V lv)) "base"=some (.int ((aW V:Nat):Int)):=g2;have j3:up l6 "table" (.idict (kH V lv)) "seed"=some (.int ((bK V:Nat):Int)):=g3;have j6:up l6 "table" (.idict (kH V lv)) "hits"=some (.list ((aQ V).map .int)):=g6;have j10:up l6 "table" (.idict (kH V lv)) "notes"=some (.val (.ref a)):=g10;have j11:up l6 "table" (.idict (kH V lv)) "root"=some (.tup ([.int ((e.length:Nat):Int),.int (dH (bN V) e),.int (bR (bN V) e),.int (jR e)]++[.idict (cC (bN V) (bJ V) e)])):=g11;have j12:up l6 "table" (.idict (kH V lv)) "levels"=some (.list ((Aa (aB V)).map fun k=>.int ((lv k:Nat):Int))):=g12;have j13:up l6 "table" (.idict (kH V lv)) "table"=some (.idict (kH V lv)):=aE;have j1:up l6 "table" (.idict (kH V lv)) "way"=some (.int (dR V)):=g1;have j5:up l6 "table" (.idict (kH V lv)) "numbers"=some (.list ((cA V).map .int)):=g5;generalize up l6 "table" (.idict (kH V lv))=l7 at S7 j0 j1 j2 j3 j5 j6 j10 j11 j12 j13
 -- if root != ..
 refine gB (b:=false) S7 (Tr.or2 (b:=false) (c:=false) ?b5 fun _=>?b6) (fun q=>by cases q) (fun _ s8 S8 _=>aG ?_)
 case b5=>
  refine Tr.cmp (d2:=.tup ([.int ((e.length:Nat):Int),.int (dH (bN V) e),.int (bR (bN V) e),.int (jR e)]++[.idict (kH V lv)])) (by ktr_rel) ?b5a (Bo.ne_tup_perm hA rfl aA1.1 (aFd tr) (by rw [lE,tr.len];unfold kH;rw [Ac,Al]) (by show (0:Nat)≤300;decide) (Ao aA1.2 (by decide))) (by with_unfolding_all rfl)
  case b5a=>
   refine Ev.tup (Es.cons ?b5b (Es.cons ?b5c (Es.cons ?b5d (Es.cons ?b5e (Es.cons ?b5f .nil (by rfl)) (by rfl)) (by rfl)) (by rfl)) (by rfl)) (show 5≤1000 by decide)
   case b5b=>exact Ev.cast (by rw [tr.len]) (nmS S7 j0)
   case b5c=>exact Ev.cast (by rw [tr.wt]) (Ev.call (ds:=[.list ((aQ V).map .int)]) (by ktr_rel) Kp.builtin (Es.one (by ktr_rel) (by rfl)) (Cl.sum hA))
   case b5d=>
    refine Ev.cast (by rw [tr.ct]) (Ev.call (ds:=[.list (((Aa (aB V)).map fun k=>iO V k*((lv k:Nat):Int)).map .int)]) (by ktr_rel) Kp.builtin (Es.one (Ev.ofCq ?b5g rfl) (by rfl)) (Cl.sum hA))
    case b5g=>
     have e0:(((Aa (aB V)).map fun k=>iO V k*((lv k:Nat):Int)).map D.int)=(((Aa (aB V)).map fun (k:Nat)=>D.int (k:Int)).filter fun _=>true).map fun d=>.int (iO V (aU d)*((lv (aU d):Nat):Int)):=by
      rw [Az.mpr (fun _ _=>rfl),An,An];rfl
     rw [e0];refine Cq.lc (asg:=fun d l=>up l "k" d) hA S7.ecf (aY (m:=aB V) hA ?b5h (by exact N1 3 19 c26.2)) ?b5i ?b5j ?b5k ?b5l
     case b5h=>exact Ev.call (by ktr_rel) Kp.type (Es.one (by ktr_rel) (by rfl)) Cl.range1
     case b5i=>rw [Ac,Al];exact N1 3 19 c26.2
     case b5j=>intro C d l _;exact .name (.inl rfl)
     case b5k=>intro C Xc h' d l _ ce;exact Ts.nil
     case b5l=>
      intro C Xc h' d l m _ ce;refine cX m ?_;rintro k hk rfl;have hk':=fN hk;have gk:up l "k" (.int (k:Int)) "k"=some (.int (k:Int)):=rfl;have hlv:=(tr.rng k hk').2;show Ev w Xc _ _ h' _ (.int (iO V k*((lv k:Nat):Int)));exact Ev.bin (Ev.sub (nmR ce S7 j6 rfl rfl rfl) (by ktr_rel) (Bo.item_list ⟨by lia,by rw [Ap];exact r2 k hk'⟩ (by exact N2 3 21 c26.2 hk'))) (Ev.sub (nmR ce S7 j12 rfl rfl rfl) (by ktr_rel) (Bo.item_list ⟨by lia,by rw [Ap];exact r3 k hk'⟩ (by exact N2 3 21 c26.2 hk'))) (Bo.mul (zK (by exact N1 6 20 hlv)))
   case b5e=>
    have j12':l7 "levels"=some (.list (((Aa (aB V)).map fun k=>((lv k:Nat):Int)).map .int)):=by rw [An];exact j12
    exact Ev.cast (by rw [tr.lvs]) (Ev.call (ds:=[.list (((Aa (aB V)).map fun k=>((lv k:Nat):Int)).map .int)]) (by ktr_rel) Kp.builtin (Es.one (nmS S7 j12') (by rfl)) (Cl.sum hA))
   case b5f=>exact nmS S7 j13
 case b6=>
  have e0:(bR (bN V) e != oZ (aQ V) 0 (aQ V).length)=false:=by rw [tr.cost];simp
  refine e0▸Tr.cmp (Ev.sub (d:=.int (bR (bN V) e)) (nmS S7 j11) (by ktr_rel) (Bo.item_tup ⟨by decide,rfl⟩ (by decide))) (Ev.call (ds:=[.list ((aQ V).map .int)]) (by ktr_rel) (Kp.fn S7.wd (wU (P:=w.params)).mem) (Es.one (nmS S7 j6) (by rfl)) (aCC hA S7.wd (by rw [eF];exact ⟨N1 11 18 c26.1,N1 3 6 c26.2⟩)) (by rfl)) Bo.nei (by with_unfolding_all rfl)
 -- lefts
 have pw:∀ k<aB V,(32:Int).fdiv (2 ^ ((lv k:Nat):Int).toNat)=((32 / 2 ^ lv k:Nat):Int):=fun k hk=>by
  rw [Ap];have:((2:Int) ^ lv k)=((2 ^ lv k:Nat):Int):=by push_cast;rfl
  rw [this];exact fL 32 _
 have pz:∀ k<aB V,((2:Int) ^ ((lv k:Nat):Int).toNat)≠0∧((2:Int) ^ ((lv k:Nat):Int).toNat).natAbs<1073741824∧(CM 2:Int)*((lv k:Nat):Int)≤2 ^ 27:=fun k hk=>by
  refine bM (tr.rng k hk) fun h1 h2=>?_;rw [Ap];have:lv k=1∨lv k=2∨lv k=3∨lv k=4∨lv k=5:=by lia
  rcases this with h | h | h | h | h <;> rw [h] <;> decide
 refine aO S8 (d:=.list ((Aa (aB V+1)).map fun k=>.int ((aS lv k:Nat):Int))) (Ev.ofCq ?b7 rfl) (fun s9 S9 _=>?_) (dL rfl rfl) (by rfl)
 case b7=>
  have e0:((Aa (aB V+1)).map fun k=>D.int ((aS lv k:Nat):Int))=(((Aa (aB V+1)).map fun (k:Nat)=>D.int (k:Int)).filter fun _=>true).map fun d=>.int ((aS lv (aU d):Nat):Int):=by
   rw [Az.mpr (fun _ _=>rfl),An];rfl
  rw [e0];refine Cq.lc (asg:=fun d l=>up l "k" d) hA S8.ecf (aY (m:=aB V+1) hA ?b7a (by exact N1 4 10 c26.2)) ?b7b ?b7c ?b7d ?b7e
  case b7a=>
   have:((aB V+1:Nat):Int)=((aB V:Nat):Int)+1:=by push_cast;rfl
   rw [this];exact Ev.call (by ktr_rel) Kp.type (Es.one (Ev.bin (nmS S8 j0) (by ktr_rel) Bo.add) (by rfl)) Cl.range1
  case b7b=>rw [Ac,Al];exact N1 4 10 c26.2
  case b7c=>intro C d l _;exact .name (.inl rfl)
  case b7d=>intro C Xc h' d l _ ce;exact Ts.nil
  case b7e=>
   intro C Xc h' d l m _ ce;refine cX m ?_;rintro k hk rfl;have hk':=fN hk;have gk:up l "k" (.int (k:Int)) "k"=some (.int (k:Int)):=rfl;show Ev w Xc _ _ h' _ (.int ((aS lv k:Nat):Int));rw [aHf];refine Ev.call (ds:=[.list (((Aa k).map fun j=>((32 / 2 ^ lv j:Nat):Int)).map .int)]) (by ktr_rel) Kp.builtin (Es.one (Ev.ofCq ?b7g rfl) (by rfl)) (Cl.sum hA)
   case b7g=>
    have e0:(((Aa k).map fun j=>((32 / 2 ^ lv j:Nat):Int)).map D.int)=(((Aa k).map fun j=>D.int ((lv j:Nat):Int)).filter fun _=>true).map fun d=>.int ((32:Int).fdiv (2 ^ (pG d).toNat)):=by
     rw [Az.mpr (fun _ _=>rfl),An,An];apply Av;intro j hj;show D.int _=.int ((32:Int).fdiv (2 ^ ((lv j:Nat):Int).toNat));rw [pw j (by have:=fN hj;exact N3 12 5 hk' this)]
    rw [e0];refine Cq.lc (tup:=false) (asg:=fun d l=>up l "level" d) hA ce.ec (fX.of (d:=.list ((Aa k).map fun j=>D.int ((lv j:Nat):Int))) ?b7h (iQ.list hA)) ?b7i ?b7j ?b7k ?b7l
    case b7h=>
     have e1:((Aa k).map fun j=>D.int ((lv j:Nat):Int))=gP ((Aa (aB V)).map fun j=>D.int ((lv j:Nat):Int)) none (some (k:Int)) none:=by
      rw [dQ,← CC,Gn,B1 (by exact N2 12 6 hk')]
     rw [e1];exact Ev.sub (nmR ce S8 j12 rfl rfl rfl) (Ev.slc .none (.some (nmC ce gk)) .none) (Bo.slice_list (by decide) (by rw [Ac,Al];exact N1 3 20 c26.2))
    case b7i=>rw [Ac,Al];exact N2 12 7 c26.2 hk'
    case b7j=>intro C d l _;exact .name (.inl rfl)
    case b7k=>intro C Xc h' d l _ ce;exact Ts.nil
    case b7l=>
     intro C2 Xc2 h2 d2 l2 m2 _ ce2;refine cX m2 ?_;rintro j hj rfl;have hj':j<aB V:=by have:=fN hj;exact N3 12 5 hk' this
     have gj:up l2 "level" (.int ((lv j:Nat):Int)) "level"=some (.int ((lv j:Nat):Int)):=rfl;refine gM (pz j hj') fun z1 z2 z3=>?_;show Ev w Xc2 _ _ h2 _ (.int ((32:Int).fdiv (2 ^ ((lv j:Nat):Int).toNat)));exact Ev.bin (by ktr_rel) (Ev.bin (by ktr_rel) (nmC ce2 gj) (Bo.pow (by lia) z3)) (Bo.fdiv z1 (A5 z2))
 have o0:up l7 "lefts" (.list ((Aa (aB V+1)).map fun k=>.int ((aS lv k:Nat):Int))) "count"=some (.int ((aB V:Nat):Int)):=j0;have o1:up l7 "lefts" (.list ((Aa (aB V+1)).map fun k=>.int ((aS lv k:Nat):Int))) "way"=some (.int (dR V)):=j1;have o2:up l7 "lefts" (.list ((Aa (aB V+1)).map fun k=>.int ((aS lv k:Nat):Int))) "base"=some (.int ((aW V:Nat):Int)):=j2;have o3:up l7 "lefts" (.list ((Aa (aB V+1)).map fun k=>.int ((aS lv k:Nat):Int))) "seed"=some (.int ((bK V:Nat):Int)):=j3;have o5:up l7 "lefts" (.list ((Aa (aB V+1)).map fun k=>.int ((aS lv k:Nat):Int))) "numbers"=some (.list ((cA V).map .int)):=j5;have o10:up l7 "lefts" (.list ((Aa (aB V+1)).map fun k=>.int ((aS lv k:Nat):Int))) "notes"=some (.val (.ref a)):=j10;have o12:up l7 "lefts" (.list ((Aa (aB V+1)).map fun k=>.int ((aS lv k:Nat):Int))) "levels"=some (.list ((Aa (aB V)).map fun k=>.int ((lv k:Nat):Int))):=j12;have o14:up l7 "lefts" (.list ((Aa (aB V+1)).map fun k=>.int ((aS lv k:Nat):Int))) "lefts"=some (.list ((Aa (aB V+1)).map fun k=>.int ((aS lv k:Nat):Int))):=aE;generalize up l7 "lefts" (.list ((Aa (aB V+1)).map fun k=>.int ((aS lv k:Nat):Int)))=l9 at S9 o0 o1 o2 o3 o5 o10 o12 o14;have r4:∀ k≤aB V,((Aa (aB V+1)).map fun k=>D.int ((aS lv k:Nat):Int))[k]?=some (.int ((aS lv k:Nat):Int)):=fun k hk=>gH (by lia)
 -- if lefts[count] != 32 ..
 refine gB (b:=false) S9 (Tr.or2 (b:=false) (c:=false) ?b8 fun _=>?b9) (fun q=>by cases q) (fun _ s10 S10 _=>aG ?_)
 case b8=>
  have e0:((((aS lv (aB V)):Nat):Int) != 32)=false:=by rw [tr.full];rfl
  exact e0▸Tr.cmp (Ev.sub (by ktr_rel) (by ktr_rel) (Bo.item_list ⟨by lia,by rw [Ap];exact r4 _ (Am _)⟩ (by exact N1 12 8 c26.2))) (by ktr_rel) Bo.nei (by with_unfolding_all rfl)
 case b9=>
  have e0:(!(List.isEmpty ((((Aa (aB V)).map fun (k:Nat)=>D.int (k:Int)).filter fun d=>!((((aS lv (aU d):Nat):Int).fmod ((32:Int).fdiv (2 ^ ((lv (aU d):Nat):Int).toNat)))==0)).map fun d=>d)))=false:=by
   rw [Ex.mpr]
   ·rfl
   ·intro d m
    refine cX m ?_;rintro k hk rfl;have hk':=fN hk;show ¬ (!((((aS lv k:Nat):Int).fmod ((32:Int).fdiv (2 ^ ((lv k:Nat):Int).toNat)))==0))=true;rw [pw k hk',dT,tr.ali k hk'];decide
  refine e0▸Tr.cmp (d2:=.list []) (Ev.ofCq ?b9a rfl) (Ev.list .nil (by krn_off)) (Bo.ne_nil hA) (by with_unfolding_all rfl)
  case b9a=>
   refine Cq.lc (asg:=fun d l=>up l "k" d) hA S9.ecf (aY (m:=aB V) hA ?b9b (by exact N1 3 19 c26.2)) ?b9c ?b9d ?b9e ?b9f
   case b9b=>exact Ev.call (by ktr_rel) Kp.type (Es.one (by ktr_rel) (by rfl)) Cl.range1
   case b9c=>rw [Ac,Al];exact N1 3 19 c26.2
   case b9d=>intro C d l _;exact .name (.inl rfl)
   case b9e=>
    intro C Xc h' d l m ce;refine cX m ?_;rintro k hk rfl;have hk':=fN hk;have gk:up l "k" (.int (k:Int)) "k"=some (.int (k:Int)):=rfl;refine gM (pz k hk') fun z1 z2 z3=>?_;have nz:(32:Int).fdiv (2 ^ ((lv k:Nat):Int).toNat)≠0:=by
     rw [pw k hk'];refine bM (tr.rng k hk') fun h1 h2=>?_;have:lv k=1∨lv k=2∨lv k=3∨lv k=4∨lv k=5:=by lia
     rcases this with h | h | h | h | h <;> rw [h] <;> decide
    exact Ts.one (Tr.cmp (Ev.bin (Ev.sub (nmR ce S9 o14 rfl rfl rfl) (by ktr_rel) (Bo.item_list ⟨by exact N1 7 16,by rw [Ap];exact r4 k (by exact N2 4 12 hk')⟩ (by exact N2 3 21 c26.2 hk'))) (Ev.bin (by ktr_rel) (Ev.bin (by ktr_rel) (Ev.sub (nmR ce S9 o12 rfl rfl rfl) (by ktr_rel) (Bo.item_list ⟨by exact N1 7 16,by rw [Ap];exact r3 k hk'⟩ (by exact N2 3 21 c26.2 hk'))) (Bo.pow (by exact N1 7 16) z3)) (Bo.fdiv z1 (A5 z2))) (Bo.fmod nz)) (by ktr_rel) Bo.nei (by with_unfolding_all rfl))
   case b9f=>intro C Xc h' d l _ _ ce;exact nmC ce rfl
 -- said
 have hi5:∀ k:Nat,(((bK V:Nat):Int)+(k:Int)).fmod 5 - 2=jO V k:=fun k=>by
  have:((bK V:Nat):Int)+(k:Int)=((bK V+k:Nat):Int):=by push_cast;rfl
  rw [this];unfold jO;rw [show ((bK V+k:Nat):Int).fmod 5=(((bK V+k) % 5:Nat):Int) from dT _ 5]
 have hiR:∀ k,-2≤jO V k∧jO V k≤2:=fun k=>by unfold jO;exact ⟨N1 12 9,N1 12 10 oV⟩
 have fok:∀ k<aB V,uA (aS lv k) (aW V) (jO V k):=fun k hk=>hF _ _ _ (tr.low k hk) (by unfold aW;exact N1 12 11 oV) (hiR k).1 (hiR k).2;have b28:aW V<28:=by unfold aW;exact N1 12 11 oV
 refine aO S10 (d:=.list ((Aa (aB V)).map fun k=>.str (bB (aS lv k) (aW V) (jO V k)))) (Ev.ofCq ?b10 rfl) (fun s11 S11 _=>?_) (dL rfl rfl) (by rfl)
 case b10=>
  have e0:((Aa (aB V)).map fun k=>D.str (bB (aS lv k) (aW V) (jO V k)))=(((Aa (aB V)).map fun (k:Nat)=>D.int (k:Int)).filter fun _=>true).map fun d=>.str (bB (aS lv (aU d)) (aW V) (jO V (aU d))):=by
   rw [Az.mpr (fun _ _=>rfl),An];rfl
  rw [e0];refine Cq.lc (asg:=fun d l=>up l "k" d) hA S10.ecf (aY (m:=aB V) hA ?b10a (by exact N1 3 19 c26.2)) ?b10b ?b10c ?b10d ?b10e
  case b10a=>exact Ev.call (by ktr_rel) Kp.type (Es.one (by ktr_rel) (by rfl)) Cl.range1
  case b10b=>rw [Ac,Al];exact N1 3 19 c26.2
  case b10c=>intro C d l _;exact .name (.inl rfl)
  case b10d=>intro C Xc h' d l _ ce;exact Ts.nil
  case b10e=>
   intro C Xc h' d l m _ ce;refine cX m ?_;rintro k hk rfl;have hk':=fN hk;have gk:up l "k" (.int (k:Int)) "k"=some (.int (k:Int)):=rfl;have f:=fok k hk';show Ev w Xc _ _ h' _ (.str (bB (aS lv k) (aW V) (jO V k)));rw [← f.same];refine Ev.call (ds:=[.int (((aS lv k:Nat):Int)*2 ^ aW V+jO V k*2 ^ 32)]) (by ktr_rel) (Kp.fn ce.ec.wd (sX (P:=w.params)).mem) (Es.one ?b10f (by rfl)) (aBf hA ce.ec.wd f.loop f.short f.len f.fits) (by rfl)
   case b10f=>
    refine Ev.cast (d:=.int (((aS lv k:Nat):Int)*2 ^ ((aW V:Nat):Int).toNat+((((bK V:Nat):Int)+(k:Int)).fmod 5 - 2)*2 ^ (32:Int).toNat)) (by rw [hi5,Ap];rfl) ?b10g;have hlow:=tr.low k hk';refine Ev.bin (Ev.bin (Ev.sub (nmR ce S10 o14 rfl rfl rfl) (by ktr_rel) (Bo.item_list ⟨by lia,by rw [Ap];exact r4 k (by lia)⟩ (by exact N2 3 21 c26.2 hk'))) (Ev.bin (by ktr_rel) (nmR ce S10 o2 rfl rfl rfl) (Bo.pow (by lia) ?b10h)) (Bo.mul (oE (by exact N1 12 12 hlow)))) (Ev.bin (Ev.bin (Ev.bin (Ev.bin (nmR ce S10 o3 rfl rfl rfl) (by ktr_rel) Bo.add) (by ktr_rel) (Bo.fmod (by decide))) (by ktr_rel) Bo.sub) (Ev.bin (by ktr_rel) (by ktr_rel) (Bo.pow (by decide) (by decide))) (Bo.mul ?b10i)) Bo.add
    case b10h=>rw [show (CM 2:Int)=2 by decide];exact N1 12 13 b28
    case b10i=>rw [hi5];exact Bx (Dm (by have:=hiR k;exact cO 12 14 this.1) (by have:=hiR k;exact cO 12 15 this.2))
 have t0:up l9 "said" (.list ((Aa (aB V)).map fun k=>.str (bB (aS lv k) (aW V) (jO V k)))) "count"=some (.int ((aB V:Nat):Int)):=o0;have t1:up l9 "said" (.list ((Aa (aB V)).map fun k=>.str (bB (aS lv k) (aW V) (jO V k)))) "way"=some (.int (dR V)):=o1;have t2:up l9 "said" (.list ((Aa (aB V)).map fun k=>.str (bB (aS lv k) (aW V) (jO V k)))) "base"=some (.int ((aW V:Nat):Int)):=o2;have t3:up l9 "said" (.list ((Aa (aB V)).map fun k=>.str (bB (aS lv k) (aW V) (jO V k)))) "seed"=some (.int ((bK V:Nat):Int)):=o3;have t5:up l9 "said" (.list ((Aa (aB V)).map fun k=>.str (bB (aS lv k) (aW V) (jO V k)))) "numbers"=some (.list ((cA V).map .int)):=o5;have t10:up l9 "said" (.list ((Aa (aB V)).map fun k=>.str (bB (aS lv k) (aW V) (jO V k)))) "notes"=some (.val (.ref a)):=o10;have t12:up l9 "said" (.list ((Aa (aB V)).map fun k=>.str (bB (aS lv k) (aW V) (jO V k)))) "levels"=some (.list ((Aa (aB V)).map fun k=>.int ((lv k:Nat):Int))):=o12;have t14:up l9 "said" (.list ((Aa (aB V)).map fun k=>.str (bB (aS lv k) (aW V) (jO V k)))) "lefts"=some (.list ((Aa (aB V+1)).map fun k=>.int ((aS lv k:Nat):Int))):=o14;have t15:up l9 "said" (.list ((Aa (aB V)).map fun k=>.str (bB (aS lv k) (aW V) (jO V k)))) "said"=some (.list ((Aa (aB V)).map fun k=>.str (bB (aS lv k) (aW V) (jO V k)))):=aE;generalize up l9 "said" (.list ((Aa (aB V)).map fun k=>.str (bB (aS lv k) (aW V) (jO V k))))=l11 at S11 t0 t1 t2 t3 t5 t10 t12 t14 t15;refine eO (pre:=[]) (post:=[(aK,.ctab)]) (d:=.bool true) S11 t10 ?b11 (by rw [Cb];exact N1 12 16 hc) (fun s12 S12=>?_) (by rfl) (by rfl) (by rfl)
 case b11=>
  refine Ev.cmp (d1:=.list ((Aa (aB V)).map fun k=>.str (bB (aS lv k) (aW V) (jO V k)))) (d2:=.list ((Aa (aB V)).map fun k=>.str (bB (aS lv k) (aW V) (jO V k)))) (nmS S11 t15) (Ev.ofCq ?b11a rfl) (Bo.eq_same hA ?b11b ?b11c) (by with_unfolding_all rfl)
  case b11b=>
   show gO _=true;exact iT fun d m=>by refine cX m ?_;rintro k _ rfl;rfl
  case b11c=>
   show eW _+1≤500;have:eW ((Aa (aB V)).map fun k=>D.str (bB (aS lv k) (aW V) (jO V k)))≤0:=nH fun d m=>by refine cX m ?_;rintro k _ rfl;exact Am _
   exact N1 12 17 this
  case b11a=>
   have e0:((Aa (aB V)).map fun k=>D.str (bB (aS lv k) (aW V) (jO V k)))=(((Aa (aB V)).map fun (k:Nat)=>D.int (k:Int)).filter fun _=>true).map fun d=>.str (bB (aS lv (aU d)) (aW V) (jO V (aU d))):=by
    rw [Az.mpr (fun _ _=>rfl),An];rfl
   rw [e0];refine Cq.lc (asg:=fun d l=>up l "k" d) hA S11.ecf (aY (m:=aB V) hA ?b11d (by exact N1 3 19 c26.2)) ?b11e ?b11f ?b11g ?b11h
   case b11d=>exact Ev.call (by ktr_rel) Kp.type (Es.one (by ktr_rel) (by rfl)) Cl.range1
   case b11e=>rw [Ac,Al];exact N1 3 19 c26.2
   case b11f=>intro C d l _;exact .name (.inl rfl)
   case b11g=>intro C Xc h' d l _ ce;exact Ts.nil
   case b11h=>
    intro C Xc h' d l m _ ce;refine cX m ?_;rintro k hk rfl;have hk':=fN hk;have gk:up l "k" (.int (k:Int)) "k"=some (.int (k:Int)):=rfl;have f:=fok k hk';show Ev w Xc _ _ h' _ (.str (bB (aS lv k) (aW V) (jO V k)));refine Ev.call (ds:=[.int ((aS lv k:Nat):Int),.int ((aW V:Nat):Int),.int (jO V k)]) (by ktr_rel) (Kp.fn ce.ec.wd (wP (P:=w.params)).mem) (Es.cons ?b11i (Es.cons ?b11j (Es.cons ?b11k .nil (by rfl)) (by rfl)) (by rfl)) (aCA hA ce.ec.wd (tr.low k hk') b28 (hiR k) f.len2 f.fits2) (by rfl)
    case b11i=>exact Ev.sub (nmR ce S11 t14 rfl rfl rfl) (by ktr_rel) (Bo.item_list ⟨by lia,by rw [Ap];exact r4 k (by lia)⟩ (by exact N2 3 21 c26.2 hk'))
    case b11j=>exact nmR ce S11 t2 rfl rfl rfl
    case b11k=>
     exact Ev.cast (by rw [hi5]) (Ev.bin (Ev.bin (Ev.bin (nmR ce S11 t3 rfl rfl rfl) (by ktr_rel) Bo.add) (by ktr_rel) (Bo.fmod (by decide))) (by ktr_rel) Bo.sub)
 rw [DO (n:=c+1+1+1) (a:=D.bool true) |>.symm] at S12;exact k s12 l11 lv e _ ⟨t0,t1,t2,t3,t5,t10,t12,t15⟩ hj tr (by exact N1 12 18 hc) S12
end
noncomputable def aV (lv:Nat→Nat) (k:Nat):aT:=(Aa (lv k)).map fun d=>aS lv k / 2 ^ (4 - d) % 2==1
noncomputable def jE (V lv:Nat→Nat):List Str:=(Aa (aB V)).flatMap fun k=>(Aa (lv k+1)).map fun c=>aC ((aV lv k).take c)
noncomputable def aM (V:Nat→Nat) (k:Nat):Nat:=((Aa k).map fun j=>1+V j % 70).sum
noncomputable def bC (x:Int):Int×Int×Int:=(x.fmod 8,-((x.fdiv 8).fmod 8),x.fdiv 64)
noncomputable def aP (V lv:Nat→Nat) (r:aT):List Int:=((Aa (aB V)).filter fun k=>(aV lv k).take (r.length+1)==r++[true]).map (fun k=>((aM V k:Nat):Int))++[((aM V (aB V):Nat):Int)]
noncomputable def eQ (V:Nat→Nat):List Int:=(Aa (aB V)).flatMap fun k=>[((aM V k:Nat):Int),((aM V (k+1):Nat):Int) - 1]
open Builtin.Str in
structure uD (left base:Nat) (hi:Int):Prop where
 len:(bB left base hi).length≤1000
 parts:(partsBetween (bB left base hi) (occurrences (bB left base hi) ", " 0 (bB left base hi).length ((bB left base hi).length+1)) (", ":Str).length).length≤1000
 has:∀ d<5,(En (bB left base hi) ", ").contains (fR (base+(4 - d)))=(left / 2 ^ (4 - d) % 2==1)
structure aFM (V lv:Nat→Nat) (rows:List aT) (ix:Nat→Nat):Prop where
 split:∀ k<aB V,uD (aS lv k) (aW V) (jO V k)
 sorted:∀ ss',ss'.Perm (fO (jE V lv))→EU ss'=true→ss'=rows.map aC
 two:2≤(fO (jE V lv)).length∧(fO (jE V lv)).length<64
 rok:dW rows
 told:∃ m,m≤300∧gW (bK V) rows=As m true
 sums:∀ k≤aB V,(dD (cA V) none (some (3*(k:Int))) (some 3)).sum=((aM V k:Nat):Int)
 idx:∀ k<aB V,(rows.map aC).idxOf? (aC (aV lv k))=some (ix k)
 hlen:(cR (bK V) rows).length=rows.length
 found:∀ k<aB V,∀ x∈[((aM V k:Nat):Int),((aM V (k+1):Nat):Int) - 1],jN (cR (bK V) rows) (fun at'=>gA (dO (bC x)) (dO ((rows.map fun r=>bC (mn (aP V lv r)))[at']?.getD (0,0,0))) (lB (dR V))) (dR V) 20 0 0=some (ix k,lv k)
theorem okC {scope:C6} {cl:List (Str×Addr)} {C:Addr} {env:Env} {x:Str} (hk:(bA scope cl C env).kindOf x=some .cell) (hc:∀ n,((cellsFrom n scope.names []).lookup x).isSome=true):nB (bA scope cl C env) x:=by
 refine ob11 (CH.mp (hc (C+1))) fun c e=>?_;refine .inr ⟨hk,c,?_,?_⟩
 ·show (cellsFrom (C+1) scope.names cl).lookup x=some c
  have:=eT scope.names (C+1) [] cl;rw [Cx] at this;rw [this,List.lookup_append,e];rfl
 ·refine BH (eM _ _ _ _ (mem_of_lookup e)) (fun q=>?_) fun q=>?_
  ·cases q
  ·exact q
theorem aBw:∀ p:aT,1≤p.length→p.length≤5→iI "" (p.map fun b=>if b then ("b":Str) else "a")=aC p∧B4 ((p.map fun b=>if b then ("b":Str) else "a").toArray.foldl (·+·.length+("":Str).length) 0)=false
 | [a],_,_=>by cases a <;> exact ⟨rfl,rfl⟩
 | [a,b],_,_=>by cases a <;> cases b <;> exact ⟨rfl,rfl⟩
 | [a,b,c],_,_=>by cases a <;> cases b <;> cases c <;> exact ⟨rfl,rfl⟩
 | [a,b,c,d],_,_=>by cases a <;> cases b <;> cases c <;> cases d <;> exact ⟨rfl,rfl⟩
 | [a,b,c,d,e],_,_=>by cases a <;> cases b <;> cases c <;> cases d <;> cases e <;> exact ⟨rfl,rfl⟩
 | _::_::_::_::_::_::_,_,h=>absurd h (by krn_off)
section
theorem aCH {n L a e te lv} {V:Nat→Nat} (hA:dF (n+6) A) (S:St w (T1 w.params) s₀ F X (aI iU 205 L) s l mu) (lw:LW2 V lv a l) (tr:kE V te lv) (hs:∀ k<aB V,uD (aS lv k) (aW V) (jO V k)) {p1 p2:Pos}
  (he:∃ rest,rZ.1.drop 20=.Assign [.Name "words" p1] e p2::rest):Cq w X A (aI iU 205 L) s.heap e (.list ((Aa (aB V)).map fun k=>.str (aC (aV lv k)))):=by
 refine ob11 he ?_;clear he;intro rest he;injection he with he _
 injection he with _ he _
 subst he;have c26:=fB (V:=V);have b28:aW V<28:=by unfold aW;exact N1 12 11 oV
 have e0:((Aa (aB V)).map fun k=>D.str (aC (aV lv k)))=(((Aa (aB V)).map fun (k:Nat)=>D.int (k:Int)).filter fun _=>true).map fun d=>.str (aC (aV lv (aU d))):=by
  rw [Az.mpr (fun _ _=>rfl),An];rfl
 rw [e0];refine Cq.lc (asg:=fun d l=>up l "k" d) hA S.ecf (aY (m:=aB V) hA ?a1 (by exact N1 3 19 c26.2)) ?a2 ?a3 ?a4 ?a5
 case a1=>exact Ev.call (by ktr_rel) Kp.type (Es.one (nmS S lw.dcount) (by rfl)) Cl.range1
 case a2=>rw [Ac,Al];exact N1 3 19 c26.2
 case a3=>intro C d l _;exact .name (okC rfl fun _=>rfl)
 case a4=>intro C Xc h' d l _ ce;exact Ts.nil
 case a5=>
  intro C Xc h' d l1 m _ ce;refine cX m ?_;rintro k hk rfl;have hk':=fN hk;have gk:up l1 "k" (.int (k:Int)) "k"=some (.int (k:Int)):=rfl;refine bM (tr.rng k hk') fun lo hi=>?_;show Ev w Xc _ _ h' _ (.str (aC (aV lv k)));have jw:=aBw (aV lv k) (by unfold aV;simp;exact lo) (by unfold aV;simp;exact hi);rw [← jw.1];refine Ev.meth Ev.str (Mt.str EH EI) Kp.builtin (Es.one (Ev.ofCq ?b1 rfl) (by rfl)) (Cl.join jw.2 (by rw [jw.1,cH];unfold aV;simp;exact N1 6 20 hi))
  case b1=>
   have e1:((aV lv k).map fun b=>if b then ("b":Str) else "a").map D.str=(((Aa (lv k)).map fun (d:Nat)=>D.int (d:Int)).filter fun _=>true).map fun d=>.str (if (aS lv k / 2 ^ (4 - aU d) % 2==1) then ("b":Str) else "a"):=by
    unfold aV;rw [Az.mpr (fun _ _=>rfl),An,An,An];rfl
   rw [e1];have lvat:((Aa (aB V)).map fun k=>D.int ((lv k:Nat):Int))[k]?=some (.int ((lv k:Nat):Int)):=gH hk';have said:((Aa (aB V)).map fun k=>D.str (bB (aS lv k) (aW V) (jO V k)))[k]?=some (.str (bB (aS lv k) (aW V) (jO V k))):=gH hk';refine Cq.lc (asg:=fun d l=>up l "d" d) hA ce.ec (aY (m:=lv k) hA ?b2 (by exact N1 6 20 hi)) ?b3 ?b4 ?b5 ?b6
   case b2=>exact Ev.call (by ktr_rel) Kp.type (Es.one (Ev.sub (nmR ce S lw.dlevels rfl rfl rfl) (nmC ce gk) (Bo.item_list ⟨by lia,by rw [Ap];exact lvat⟩ (by exact N2 3 21 c26.2 hk'))) (by rfl)) Cl.range1
   case b3=>rw [Ac,Al];exact N1 6 20 hi
   case b4=>intro C d l _;exact .name (.inl rfl)
   case b5=>intro C Xc h' d l _ ce;exact Ts.nil
   case b6=>
    intro C2 Xc2 h2 d2 l2 m2 _ ce2;refine cX m2 ?_;rintro d hd rfl;have hd':=fN hd;have gd:up l2 "d" (.int (d:Int)) "d"=some (.int (d:Int)):=rfl;have sp:=hs k hk';have hb:=sp.has d (by lia);show Ev w Xc2 _ _ h2 _ (.str (if (aS lv k / 2 ^ (4 - d) % 2==1) then ("b":Str) else "a"));have dd:((aW V:Nat):Int)+4 - (d:Int)=((aW V+(4 - d):Nat):Int):=by exact N3 12 20 eB (cY (N2 12 19 hi hd'))
    rw [← hb];refine Ev.ite (b:=(En (bB (aS lv k) (aW V) (jO V k)) ", ").contains (fR (aW V+(4 - d)))) ?c1 (fun q=>?c2) fun q=>?c3
    case c1=>
     refine Tr.cmp (d1:=.str (fR (aW V+(4 - d)))) (d2:=.list ((En (bB (aS lv k) (aW V) (jO V k)) ", ").map .str)) ?c4 ?c5 (aEz hA) (by with_unfolding_all rfl)
     case c4=>
      refine Ev.call (ds:=[.int ((aW V+(4 - d):Nat):Int)]) (by ktr_rel) (Kp.fn ce2.ec.wd (uT (P:=w.params)).mem) (Es.one ?c6 (by rfl)) (aAn (by exact N2 12 21 b28 (AD _ _)) hA ce2.ec.wd) (by rfl)
      case c6=>
       rw [← dd];exact Ev.bin (Ev.bin (Ev.name (pZ ce2 (ce.cap _ _ (S.cap lw.dbase rfl) rfl rfl) rfl rfl)) (by ktr_rel) Bo.add) (by ktr_rel) Bo.sub
     case c5=>
      refine Ev.meth (d0:=.str (bB (aS lv k) (aW V) (jO V k))) (Ev.sub (Ev.name (pZ ce2 (ce.cap _ _ (S.cap lw.dsaid rfl) rfl rfl) rfl rfl)) (nmD ce2 (ce.capO _ _ gk rfl) rfl rfl) (Bo.item_list ⟨by lia,by rw [Ap];exact said⟩ (by exact N2 3 21 c26.2 hk'))) (Mt.str PySem.F.slot_str_split PySem.F.type_str_split) Kp.builtin (Es.one (by ktr_rel) (by rfl)) (Cl.split (by rfl) sp.len sp.parts)
    case c2=>rw [if_pos q];exact Ev.str
    case c3=>rw [if_neg (by rw [q];decide)];exact Ev.str
end
theorem oN {p:aT}:(aC p).cps.toList=p.map rW:=by show (p.map rW).toArray.toList=_;simp
theorem tV {p:aT} {c:Nat}:DV (aC p) none (some (c:Int))=aC (p.take c):=by
 rw [rN,oN,← CC];rfl
theorem aGG {p:aT}:(aC p++("b":Str))=aC (p++[true]):=by
 have:aC (p++[true])=⟨((p.map rW)++[rW true]).toArray⟩:=by unfold aC;rw [Ax];rfl
 rw [this];show (⟨(p.map rW).toArray++("b":Str).cps⟩:Str)=_;rw [show ("b":Str).cps=#[rW true] from rfl];simp
theorem aFi {p q:aT}:(aC p==aC q)=(p==q):=rU
noncomputable def aGz:D→Int×Int×Int
 | .tup [.int a,.int b,.int c]=>(a,b,c)
 | _=>(0,0,0)
noncomputable def cB (p:Nat×Nat):D:=.tup [.int ((p.1:Nat):Int),.int ((p.2:Nat):Int)]
noncomputable def vJ (V lv:Nat→Nat) (rows:List aT) (t:Int×Int×Int):Option (Nat×Nat):=jN (cR (bK V) rows) (fun at'=>gA (dO t) (dO ((rows.map fun r=>bC (mn (aP V lv r)))[at']?.getD (0,0,0))) (lB (dR V))) (dR V) 20 0 0
section
theorem aHe {n L a c te lv ix} {rows:List aT} {V:Nat→Nat} (hA:dF (n+6) A) (S:St w (T1 w.params) s₀ [aK] (a::X) (aI iU 205 L) s l [(a,.list (As c (.bool true))),(aK,.ctab)]) (tX:aK∈X) (aX:a∉X) (ne:a≠aK) (hc:c≤300) (lw:LW2 V lv a l) (tr:kE V te lv) (la:aFM V lv rows ix)
  (k:∀ v s',Rp w (hx X s'.heap) v (.bool true)→Ch [aK] s₀ s'→(∃ ps,s'.heap.get? aK=some (tabObj ps))→Q (.ret v) s'):Xs w A (rZ.1.drop 20) (aI iU 205 L) Q (fun _ _=>False) s:=by
 have c26:=fB (V:=V)
 -- words
 refine aO S (d:=.list ((Aa (aB V)).map fun k=>.str (aC (aV lv k)))) (Ev.ofCq (aCH hA S lw tr la.split ⟨_,rfl⟩) rfl) (fun s1 S1 _=>?_) (dL rfl rfl) (by rfl);obtain ⟨m0,m1,m2,m3,m4,m5,m6,m7⟩:=lw;have n0:up l "words" (.list ((Aa (aB V)).map fun k=>.str (aC (aV lv k)))) "count"=some (.int ((aB V:Nat):Int)):=m0;have n1:up l "words" (.list ((Aa (aB V)).map fun k=>.str (aC (aV lv k)))) "way"=some (.int (dR V)):=m1;have n3:up l "words" (.list ((Aa (aB V)).map fun k=>.str (aC (aV lv k)))) "seed"=some (.int ((bK V:Nat):Int)):=m3;have n4:up l "words" (.list ((Aa (aB V)).map fun k=>.str (aC (aV lv k)))) "numbers"=some (.list ((cA V).map .int)):=m4;have n5:up l "words" (.list ((Aa (aB V)).map fun k=>.str (aC (aV lv k)))) "notes"=some (.val (.ref a)):=m5;have n6:up l "words" (.list ((Aa (aB V)).map fun k=>.str (aC (aV lv k)))) "levels"=some (.list ((Aa (aB V)).map fun k=>.int ((lv k:Nat):Int))):=m6;have n8:up l "words" (.list ((Aa (aB V)).map fun k=>.str (aC (aV lv k)))) "words"=some (.list ((Aa (aB V)).map fun k=>.str (aC (aV lv k)))):=aE;generalize up l "words" (.list ((Aa (aB V)).map fun k=>.str (aC (aV lv k))))=l1 at S1 n0 n1 n3 n4 n5 n6 n8;have wl:∀ k<aB V,(aV lv k).length=lv k:=fun k _=>by unfold aV;rw [Ac,Al]
 -- rows
 refine uO (pre:=[(a,.list (As c (.bool true)))]) (post:=[]) (xs:=jE V lv) (target:=rows.map aC) hA S1 (Ev.ofCq ?b1 rfl) (by ktr_rel) la.two.1 la.two.2 la.sorted (fun s2 S2=>?_) (by rfl) (by rfl) (dL rfl rfl) (by rfl)
 case b1=>
  have e0:jE V lv=((((Aa (aB V)).map fun k=>D.str (aC (aV lv k))).filter fun _=>true).flatMap fun d=>(((Aa ((jT d).length+1)).map fun (c:Nat)=>D.int (c:Int)).filter fun _=>true).map fun d'=>aC ((jT d).take (aU d'))):=by
   rw [Az.mpr (fun _ _=>rfl),Dq];unfold jE;congr 1;funext k;rw [dP,Az.mpr (fun _ _=>rfl),An];have:(aV lv k).length=lv k:=by unfold aV;rw [Ac,Al]
   rw [this];rfl
  rw [e0];refine Cq.sc2 (tup:=false) (tup':=false) (Kl:=fun d l=>l "word"=some d) (asg:=fun d l=>up l "word" d) (asg':=fun _ d' l=>up l "cut" d') hA S1.ecf (fX.of (d:=.list ((Aa (aB V)).map fun k=>D.str (aC (aV lv k)))) (nmS S1 n8) (iQ.list hA)) ?b1a ?b1b ?b1c ?b1d ?b1e ?b1f ?b1g ?b1h ?b1i
  case b1a=>
   have:∀ l:List Nat,(∀ k∈l,k<aB V)→((l.map fun k=>D.str (aC (aV lv k))).flatMap fun d=>(Aa ((jT d).length+1)).map fun (c:Nat)=>D.int (c:Int)).length≤6*l.length:=fun l hl=>by
    induction l with
    | nil=>exact Am _
    | cons k l ih=>
     rw [AC,AL,Af,dP,Ac,Al,wl k (hl k (.head _)),Aq];have:=ih fun x m=>hl x (.tail _ m);have:=(tr.rng k (hl k (.head _))).2;exact N3 24 1 (by assumption) this
   refine Ao (this _ fun k m=>fN m) ?_;rw [Al];exact N1 12 22 c26.2
  case b1b=>intro C d l _;exact .name (.inl rfl)
  case b1c=>intro C Xc h' d l _ ce;exact Ts.nil
  case b1d=>intro d l _;exact aE
  case b1e=>intro d d' l h;exact (aA (by decide)).trans h
  case b1f=>
   intro C Xc h' d l m ce;refine cX m ?_;rintro k hk rfl;have hk':=fN hk;have gw:up l "word" (.str (aC (aV lv k))) "word"=some (.str (aC (aV lv k))):=rfl;have hlv:=(tr.rng k hk').2;rw [dP];refine aY (m:=(aV lv k).length+1) hA ?_ (by rw [wl k hk'];exact N1 13 0 hlv);have e1:(((aV lv k).length+1:Nat):Int)=((aC (aV lv k)).length:Int)+1:=by rw [cH];push_cast;rfl
   rw [e1];exact Ev.call (by ktr_rel) Kp.type (Es.one (Ev.bin (Ev.call (ds:=[.str (aC (aV lv k))]) (by ktr_rel) Kp.builtin (Es.one (nmC ce gw) (by rfl)) (Cl.len_str (by rw [cH,wl k hk'];exact N1 7 21 hlv)) (by rfl)) (by ktr_rel) Bo.add) (by rfl)) Cl.range1
  case b1g=>intro C d d' l _ _;exact .name (.inl rfl)
  case b1h=>intro C Xc h' d d' l _ _ _ ce;exact Ts.nil
  case b1i=>
   intro C Xc h' d d' l m m' _ kl ce;refine cX m ?_;rintro k hk rfl;have hk':=fN hk;refine cX m' ?_;rintro c _ rfl;have hlv:=(tr.rng k hk').2;have gw:up l "cut" (.int (c:Int)) "word"=some (.str (aC (aV lv k))):=(aA (by decide)).trans kl;have gc:up l "cut" (.int (c:Int)) "cut"=some (.int (c:Int)):=rfl;show Ev w Xc _ _ h' _ (.str (aC ((jT (.str (aC (aV lv k)))).take c)));rw [dP,← tV];exact Ev.sub (nmC ce gw) (Ev.slc .none (.some (nmC ce gc)) .none) (Bo.slice_str (by rw [cH,wl k hk'];exact N1 6 20 hlv))
 have j0:up l1 "rows" (.list ((rows.map aC).map .str)) "count"=some (.int ((aB V:Nat):Int)):=n0;have j1:up l1 "rows" (.list ((rows.map aC).map .str)) "way"=some (.int (dR V)):=n1;have j3:up l1 "rows" (.list ((rows.map aC).map .str)) "seed"=some (.int ((bK V:Nat):Int)):=n3;have j4:up l1 "rows" (.list ((rows.map aC).map .str)) "numbers"=some (.list ((cA V).map .int)):=n4;have j5:up l1 "rows" (.list ((rows.map aC).map .str)) "notes"=some (.val (.ref a)):=n5;have j6:up l1 "rows" (.list ((rows.map aC).map .str)) "levels"=some (.list ((Aa (aB V)).map fun k=>.int ((lv k:Nat):Int))):=n6;have j8:up l1 "rows" (.list ((rows.map aC).map .str)) "words"=some (.list ((Aa (aB V)).map fun k=>.str (aC (aV lv k)))):=n8;have j9:up l1 "rows" (.list ((rows.map aC).map .str)) "rows"=some (.list ((rows.map aC).map .str)):=aE;generalize up l1 "rows" (.list ((rows.map aC).map .str))=l2 at S2 j0 j1 j3 j4 j5 j6 j8 j9;have rl:rows.length≤12:=la.rok.len;have rd:∀ r∈rows,r.length≤5:=la.rok.dep
 -- heads
 have e5:((rows.map aC).map D.str)=rows.map fun p=>D.str (aC p):=by rw [An];rfl
 refine ob12 la.told fun m hm told=>?_;refine mN S2 (d:=.list ((cR (bK V) rows).map .int)) (mu':=[(a,.list (As c (.bool true)++(gW (bK V) rows).map .bool)),(aK,.ctab)])
  (pL.call (pre:=[]) (post:=[(aK,.ctab)]) (ds:=[.list (rows.map fun p=>.str (aC p)),.int ((bK V:Nat):Int),.val (.ref a)]) (f:=.ref 195) (fun s S=>⟨?b2,Kp.fn S.wd (wR (P:=w.params)).mem,?b3⟩) (fun s vs S r m=>yN (n:=n+3) hA S.live S.wd (S.mus _ (.head _)).1 m (by rw [Cb];exact N1 13 1 hc) la.rok r) (by rfl)) (fun s3 S3=>?_) (dL rfl rfl) (by rfl)
 case b2=>lcg_off
 case b3=>
  rw [← e5];exact Es.cons (nmS S j9) (Es.cons (nmS S j3) (Es.cons (nmS S j5) .nil (by rfl)) (by rfl)) (by rfl)
 rw [told,List.map_replicate,EE] at S3;have o0:up l2 "heads" (.list ((cR (bK V) rows).map .int)) "count"=some (.int ((aB V:Nat):Int)):=j0;have o1:up l2 "heads" (.list ((cR (bK V) rows).map .int)) "way"=some (.int (dR V)):=j1;have o4:up l2 "heads" (.list ((cR (bK V) rows).map .int)) "numbers"=some (.list ((cA V).map .int)):=j4;have o5:up l2 "heads" (.list ((cR (bK V) rows).map .int)) "notes"=some (.val (.ref a)):=j5;have o6:up l2 "heads" (.list ((cR (bK V) rows).map .int)) "levels"=some (.list ((Aa (aB V)).map fun k=>.int ((lv k:Nat):Int))):=j6;have o8:up l2 "heads" (.list ((cR (bK V) rows).map .int)) "words"=some (.list ((Aa (aB V)).map fun k=>.str (aC (aV lv k)))):=j8;have o9:up l2 "heads" (.list ((cR (bK V) rows).map .int)) "rows"=some (.list ((rows.map aC).map .str)):=j9;have o10:up l2 "heads" (.list ((cR (bK V) rows).map .int)) "heads"=some (.list ((cR (bK V) rows).map .int)):=aE;generalize up l2 "heads" (.list ((cR (bK V) rows).map .int))=l3 at S3 o0 o1 o4 o5 o6 o8 o9 o10
 -- starts
 refine aO S3 (d:=.list ((Aa (aB V+1)).map fun k=>.int ((aM V k:Nat):Int))) (Ev.ofCq ?b4 rfl) (fun s4 S4 _=>?_) (dL rfl rfl) (by rfl)
 case b4=>
  have e0:((Aa (aB V+1)).map fun k=>D.int ((aM V k:Nat):Int))=(((Aa (aB V+1)).map fun (k:Nat)=>D.int (k:Int)).filter fun _=>true).map fun d=>.int ((aM V (aU d):Nat):Int):=by
   rw [Az.mpr (fun _ _=>rfl),An];rfl
  rw [e0];refine Cq.lc (asg:=fun d l=>up l "k" d) hA S3.ecf (aY (m:=aB V+1) hA ?b4a (by exact N1 4 10 c26.2)) ?b4b ?b4c ?b4d ?b4e
  case b4a=>
   have:((aB V+1:Nat):Int)=((aB V:Nat):Int)+1:=by push_cast;rfl
   rw [this];exact Ev.call (by ktr_rel) Kp.type (Es.one (Ev.bin (nmS S3 o0) (by ktr_rel) Bo.add) (by rfl)) Cl.range1
  case b4b=>rw [Ac,Al];exact N1 4 10 c26.2
  case b4c=>intro C d l _;exact .name (.inl rfl)
  case b4d=>intro C Xc h' d l _ ce;exact Ts.nil
  case b4e=>
   intro C Xc h' d l m _ ce;refine cX m ?_;rintro k hk rfl;have hk':=fN hk;have gk:up l "k" (.int (k:Int)) "k"=some (.int (k:Int)):=rfl;show Ev w Xc _ _ h' _ (.int ((aM V k:Nat):Int));rw [← la.sums k (by exact N2 12 6 hk')];refine Ev.call (ds:=[.list ((dD (cA V) none (some (3*(k:Int))) (some 3)).map .int)]) (by ktr_rel) Kp.builtin (Es.one ?b4f (by rfl)) (Cl.sum hA)
   case b4f=>
    rw [← jD];exact Ev.sub (nmR ce S3 o4 rfl rfl rfl) (Ev.slc .none (.some (Ev.bin (by ktr_rel) (nmC ce gk) (Bo.mul (Bx (by decide))))) (.some (by ktr_rel))) (Bo.slice_list (by decide) (by rw [Ac,jB];exact N1 13 2 c26.2))
 have t0:up l3 "starts" (.list ((Aa (aB V+1)).map fun k=>.int ((aM V k:Nat):Int))) "count"=some (.int ((aB V:Nat):Int)):=o0;have t1:up l3 "starts" (.list ((Aa (aB V+1)).map fun k=>.int ((aM V k:Nat):Int))) "way"=some (.int (dR V)):=o1;have t5:up l3 "starts" (.list ((Aa (aB V+1)).map fun k=>.int ((aM V k:Nat):Int))) "notes"=some (.val (.ref a)):=o5;have t6:up l3 "starts" (.list ((Aa (aB V+1)).map fun k=>.int ((aM V k:Nat):Int))) "levels"=some (.list ((Aa (aB V)).map fun k=>.int ((lv k:Nat):Int))):=o6;have t8:up l3 "starts" (.list ((Aa (aB V+1)).map fun k=>.int ((aM V k:Nat):Int))) "words"=some (.list ((Aa (aB V)).map fun k=>.str (aC (aV lv k)))):=o8;have t9:up l3 "starts" (.list ((Aa (aB V+1)).map fun k=>.int ((aM V k:Nat):Int))) "rows"=some (.list ((rows.map aC).map .str)):=o9;have t10:up l3 "starts" (.list ((Aa (aB V+1)).map fun k=>.int ((aM V k:Nat):Int))) "heads"=some (.list ((cR (bK V) rows).map .int)):=o10;have t11:up l3 "starts" (.list ((Aa (aB V+1)).map fun k=>.int ((aM V k:Nat):Int))) "starts"=some (.list ((Aa (aB V+1)).map fun k=>.int ((aM V k:Nat):Int))):=aE;generalize up l3 "starts" (.list ((Aa (aB V+1)).map fun k=>.int ((aM V k:Nat):Int)))=l4 at S4 t0 t1 t5 t6 t8 t9 t10 t11;have rst:∀ k≤aB V,((Aa (aB V+1)).map fun k=>D.int ((aM V k:Nat):Int))[k]?=some (.int ((aM V k:Nat):Int)):=fun k hk=>gH (by lia);have rwd:∀ k<aB V,((Aa (aB V)).map fun k=>D.str (aC (aV lv k)))[k]?=some (.str (aC (aV lv k))):=fun k hk=>gH hk;have rlv:∀ k<aB V,((Aa (aB V)).map fun k=>D.int ((lv k:Nat):Int))[k]?=some (.int ((lv k:Nat):Int)):=fun k hk=>gH hk
 -- borders
 refine eC (d:=.list ((rows.map fun r=>mn (aP V lv r)).map .int)) S4 ?b5 (fun s5 S5=>?_) (.inl rfl) rfl (fun _=>rfl)
 case b5=>
  have e0:((rows.map fun r=>mn (aP V lv r)).map D.int)=(((rows.map aC).map D.str).filter fun _=>true).map fun d=>.int (mn (aP V lv (jT d))):=by
   rw [Az.mpr (fun _ _=>rfl),An,An,An];apply Av;intro r _;show D.int _=.int (mn (aP V lv (jT (.str (aC r)))));rw [dP]
  rw [e0];refine Cq.lc (tup:=false) (asg:=fun d l=>up l "row" d) hA S4.ecf (fX.of (d:=.list ((rows.map aC).map .str)) (nmS S4 t9) (iQ.list hA)) ?b5b ?b5c ?b5d ?b5e
  case b5b=>rw [Ac,Ac];exact N1 7 6 rl
  case b5c=>intro C d l _;exact .name (okC rfl fun _=>rfl)
  case b5d=>intro C Xc h' d l _ ce;exact Ts.nil
  case b5e=>
   intro C Xc h' d l m _ ce;refine cX m ?_;rintro x hx rfl;refine cX hx ?_;rintro r hr rfl;have gr:up l "row" (.str (aC r)) "row"=some (.str (aC r)):=rfl;have hr5:=rd r hr;show Ev w Xc _ _ h' _ (.int (mn (aP V lv (jT (.str (aC r))))));rw [dP];refine Ev.call (ds:=[.list ((aP V lv r).map .int)]) (by ktr_rel) Kp.builtin (Es.one ?b5f (by rfl)) (Cl.min hA (by unfold aP;simp))
   case b5f=>
    unfold aP;rw [Ax];have nin:((FT (fun k=>((aM V k:Nat):Int)) (Ju (fun k=>(aV lv k).take (r.length+1)==r++[true]) (Aa (aB V)))).map D.int).length≤6:=by
     rw [Ac,Ac];exact Ao (BS _ _) (by rw [Al];exact N1 3 6 c26.2)
    refine Ev.bin (Ev.ofCq ?b5g rfl) (Ev.list (Es.one ?b5h (by rfl)) (by krn_off)) (Bo.addl (by simp only [Ac,Aq,AQ] at nin ⊢;exact N1 13 3 nin))
    case b5h=>exact Ev.sub (nmR ce S4 t11 rfl rfl rfl) (nmR ce S4 t0 rfl rfl rfl) (Bo.item_list ⟨by lia,by rw [Ap];exact rst _ (Am _)⟩ (by exact N1 12 8 c26.2))
    case b5g=>
     have e1:(FT (fun k=>((aM V k:Nat):Int)) (Ju (fun k=>(aV lv k).take (r.length+1)==r++[true]) (Aa (aB V)))).map D.int=(((Aa (aB V)).map fun (k:Nat)=>D.int (k:Int)).filter fun d=>(aV lv (aU d)).take (r.length+1)==r++[true]).map fun d=>.int ((aM V (aU d):Nat):Int):=by
      rw [Eb,An,An];rfl
     rw [e1];refine Cq.lc (asg:=fun d l=>up l "k" d) hA ce.ec (aY (m:=aB V) hA ?b5i (by exact N1 3 19 c26.2)) ?b5j ?b5k ?b5l ?b5m
     case b5i=>exact Ev.call (by ktr_rel) Kp.type (Es.one (nmR ce S4 t0 rfl rfl rfl) (by rfl)) Cl.range1
     case b5j=>rw [Ac,Al];exact N1 3 19 c26.2
     case b5k=>intro C d l _;exact .name (.inl rfl)
     case b5l=>
      intro C2 Xc2 h2 d2 l2 m2 ce2;refine cX m2 ?_;rintro k hk rfl;have hk':=fN hk;have gk:up l2 "k" (.int (k:Int)) "k"=some (.int (k:Int)):=rfl;have hlv:=(tr.rng k hk').2;have e2:(((r.length+1:Nat):Int))=((aC r).length:Int)+1:=by rw [cH];push_cast;rfl
      show Ts w Xc2 A _ h2 _ ((aV lv k).take (r.length+1)==r++[true]);rw [← aFi,← tV,← aGG];refine Ts.one (Tr.cmp (Ev.sub (Ev.sub (Ev.name (pZ ce2 (ce.cap _ _ (S4.cap t8 rfl) rfl rfl) rfl rfl)) (nmC ce2 gk) (Bo.item_list ⟨by lia,by rw [Ap];exact rwd k hk'⟩ (by exact N2 3 21 c26.2 hk'))) (Ev.slc .none (.some (Ev.cast (by rw [e2]) (Ev.bin (Ev.call (ds:=[.str (aC r)]) (by ktr_rel) Kp.builtin (Es.one (nmD ce2 (ce.capO _ _ gr rfl) rfl rfl) (by rfl)) (Cl.len_str (by rw [cH];exact N1 7 21 hr5)) (by rfl)) (by ktr_rel) Bo.add))) .none) (Bo.slice_str (by rw [cH,wl k hk'];exact N1 6 20 hlv))) (Ev.bin (nmD ce2 (ce.capO _ _ gr rfl) rfl rfl) (by ktr_rel) (Bo.adds (by rw [cH,EV];show r.length+1≤_;exact N1 13 4 hr5))) Bo.eqs (by with_unfolding_all rfl))
     case b5m=>
      intro C2 Xc2 h2 d2 l2 m2 _ ce2;refine cX m2 ?_;rintro k hk rfl;have hk':=fN hk;have gk:up l2 "k" (.int (k:Int)) "k"=some (.int (k:Int)):=rfl;exact Ev.sub (Ev.name (pZ ce2 (ce.cap _ _ (S4.cap t11 rfl) rfl rfl) rfl rfl)) (nmC ce2 gk) (Bo.item_list ⟨by lia,by rw [Ap];exact rst k (by lia)⟩ (by exact N2 3 21 c26.2 hk'))
 have u0:up l4 "borders" (.list ((rows.map fun r=>mn (aP V lv r)).map .int)) "count"=some (.int ((aB V:Nat):Int)):=t0;have u1:up l4 "borders" (.list ((rows.map fun r=>mn (aP V lv r)).map .int)) "way"=some (.int (dR V)):=t1;have u5:up l4 "borders" (.list ((rows.map fun r=>mn (aP V lv r)).map .int)) "notes"=some (.val (.ref a)):=t5;have u6:up l4 "borders" (.list ((rows.map fun r=>mn (aP V lv r)).map .int)) "levels"=some (.list ((Aa (aB V)).map fun k=>.int ((lv k:Nat):Int))):=t6;have u8:up l4 "borders" (.list ((rows.map fun r=>mn (aP V lv r)).map .int)) "words"=some (.list ((Aa (aB V)).map fun k=>.str (aC (aV lv k)))):=t8;have u9:up l4 "borders" (.list ((rows.map fun r=>mn (aP V lv r)).map .int)) "rows"=some (.list ((rows.map aC).map .str)):=t9;have u10:up l4 "borders" (.list ((rows.map fun r=>mn (aP V lv r)).map .int)) "heads"=some (.list ((cR (bK V) rows).map .int)):=t10;have u11:up l4 "borders" (.list ((rows.map fun r=>mn (aP V lv r)).map .int)) "starts"=some (.list ((Aa (aB V+1)).map fun k=>.int ((aM V k:Nat):Int))):=t11;have u12:up l4 "borders" (.list ((rows.map fun r=>mn (aP V lv r)).map .int)) "borders"=some (.list ((rows.map fun r=>mn (aP V lv r)).map .int)):=aE;generalize up l4 "borders" (.list ((rows.map fun r=>mn (aP V lv r)).map .int))=l5 at S5 u0 u1 u5 u6 u8 u9 u10 u11 u12
 -- what a trip of ints is
 have trip:∀ {X:List Addr} {env:Env} {h:Heap} {x:Int} {p1 p2 p3 p4 p5 p6 p7 p8 p9 p10 p11 p12 p13 p14 p15 p16 kk tp},Ev w X A env h (.Name "x" p1) (.int x)→Ev w X A env h (.Name "x" p2) (.int x)→Ev w X A env h (.Name "x" p3) (.int x)→
   AF [AO.BinOp (.Name "x" p1) .Mod (.Constant (.int 8) p4 p5) p6,.UnaryOp .USub (.BinOp (.BinOp (.Name "x" p2) .FloorDiv (.Constant (.int 8) p7 p8) p9) .Mod (.Constant (.int 8) p10 p11) p12) p13,.BinOp (.Name "x" p3) .FloorDiv (.Constant (.int 64) p14 p15) p16] env=(false,eval (AO.BinOp (.Name "x" p1) .Mod (.Constant (.int 8) p4 p5) p6) env)::AF [.UnaryOp .USub (.BinOp (.BinOp (.Name "x" p2) .FloorDiv (.Constant (.int 8) p7 p8) p9) .Mod (.Constant (.int 8) p10 p11) p12) p13,.BinOp (.Name "x" p3) .FloorDiv (.Constant (.int 64) p14 p15) p16] env→
   AF [AO.UnaryOp .USub (.BinOp (.BinOp (.Name "x" p2) .FloorDiv (.Constant (.int 8) p7 p8) p9) .Mod (.Constant (.int 8) p10 p11) p12) p13,.BinOp (.Name "x" p3) .FloorDiv (.Constant (.int 64) p14 p15) p16] env=(false,eval (AO.UnaryOp .USub (.BinOp (.BinOp (.Name "x" p2) .FloorDiv (.Constant (.int 8) p7 p8) p9) .Mod (.Constant (.int 8) p10 p11) p12) p13) env)::AF [.BinOp (.Name "x" p3) .FloorDiv (.Constant (.int 64) p14 p15) p16] env→
   AF [AO.BinOp (.Name "x" p3) .FloorDiv (.Constant (.int 64) p14 p15) p16] env=(false,eval (AO.BinOp (.Name "x" p3) .FloorDiv (.Constant (.int 64) p14 p15) p16) env)::AF [] env→
   Ev w X A env h (.Tuple [.BinOp (.Name "x" p1) .Mod (.Constant (.int 8) p4 p5) p6,.UnaryOp .USub (.BinOp (.BinOp (.Name "x" p2) .FloorDiv (.Constant (.int 8) p7 p8) p9) .Mod (.Constant (.int 8) p10 p11) p12) p13,.BinOp (.Name "x" p3) .FloorDiv (.Constant (.int 64) p14 p15) p16] kk tp) (bW (bC x)):=by
  intro X env h x p1 p2 p3 p4 p5 p6 p7 p8 p9 p10 p11 p12 p13 p14 p15 p16 kk tp a1 a2 a3 s1 s2 s3;exact Ev.tup (Es.cons (Ev.bin a1 Ev.int (Bo.fmod (by decide))) (Es.cons (Ev.un (Ev.bin (Ev.bin a2 Ev.int (Bo.fdiv (by decide) (A5 (by decide)))) Ev.int (Bo.fmod (by decide))) Uo.neg) (Es.cons (Ev.bin a3 Ev.int (Bo.fdiv (by decide) (A5 (by decide)))) .nil s3) s2) s1) (by krn_off)
 -- spots
 refine aO S5 (d:=.list ((rows.map fun r=>bC (mn (aP V lv r))).map bW)) (Ev.ofCq ?b6 rfl) (fun s6 S6 _=>?_) (dL rfl rfl) (by rfl)
 case b6=>
  have e0:((rows.map fun r=>bC (mn (aP V lv r))).map bW)=(((rows.map fun r=>mn (aP V lv r)).map D.int).filter fun _=>true).map fun d=>bW (bC (pG d)):=by
   rw [Az.mpr (fun _ _=>rfl),An,An,An];rfl
  rw [e0];refine Cq.lc (tup:=false) (asg:=fun d l=>up l "x" d) hA S5.ecf (fX.of (d:=.list ((rows.map fun r=>mn (aP V lv r)).map .int)) (nmS S5 u12) (iQ.list hA)) ?b6b ?b6c ?b6d ?b6e
  case b6b=>rw [Ac,Ac];exact N1 7 6 rl
  case b6c=>intro C d l _;exact .name (.inl rfl)
  case b6d=>intro C Xc h' d l _ ce;exact Ts.nil
  case b6e=>
   intro C Xc h' d l m _ ce;refine cX m ?_;rintro x hx rfl;have gx:up l "x" (.int x) "x"=some (.int x):=rfl;exact trip (nmC ce gx) (nmC ce gx) (nmC ce gx) (by rfl) (by rfl) (by rfl)
 have v0:up l5 "spots" (.list ((rows.map fun r=>bC (mn (aP V lv r))).map bW)) "count"=some (.int ((aB V:Nat):Int)):=u0;have v1:up l5 "spots" (.list ((rows.map fun r=>bC (mn (aP V lv r))).map bW)) "way"=some (.int (dR V)):=u1;have v5:up l5 "spots" (.list ((rows.map fun r=>bC (mn (aP V lv r))).map bW)) "notes"=some (.val (.ref a)):=u5;have v6:up l5 "spots" (.list ((rows.map fun r=>bC (mn (aP V lv r))).map bW)) "levels"=some (.list ((Aa (aB V)).map fun k=>.int ((lv k:Nat):Int))):=u6;have v8:up l5 "spots" (.list ((rows.map fun r=>bC (mn (aP V lv r))).map bW)) "words"=some (.list ((Aa (aB V)).map fun k=>.str (aC (aV lv k)))):=u8;have v9:up l5 "spots" (.list ((rows.map fun r=>bC (mn (aP V lv r))).map bW)) "rows"=some (.list ((rows.map aC).map .str)):=u9;have v10:up l5 "spots" (.list ((rows.map fun r=>bC (mn (aP V lv r))).map bW)) "heads"=some (.list ((cR (bK V) rows).map .int)):=u10;have v11:up l5 "spots" (.list ((rows.map fun r=>bC (mn (aP V lv r))).map bW)) "starts"=some (.list ((Aa (aB V+1)).map fun k=>.int ((aM V k:Nat):Int))):=u11;have v12:up l5 "spots" (.list ((rows.map fun r=>bC (mn (aP V lv r))).map bW)) "spots"=some (.list ((rows.map fun r=>bC (mn (aP V lv r))).map bW)):=aE;generalize up l5 "spots" (.list ((rows.map fun r=>bC (mn (aP V lv r))).map bW))=l6 at S6 v0 v1 v5 v6 v8 v9 v10 v11 v12
 -- ends
 refine eC (d:=.list ((eQ V).map fun x=>bW (bC x))) S6 ?b7 (fun s7 S7=>?_) (.inl rfl) rfl (fun _=>rfl)
 case b7=>
  have e0:((eQ V).map fun x=>bW (bC x))=(((Aa (aB V)).map fun (k:Nat)=>D.int (k:Int)).filter fun _=>true).flatMap fun d=>([D.int ((aM V (aU d):Nat):Int),D.int (((aM V (aU d+1):Nat):Int) - 1)].filter fun _=>true).map fun d'=>bW (bC (pG d')):=by
   rw [Az.mpr (fun _ _=>rfl),Dq];unfold eQ;rw [Ds];rfl
  rw [e0];refine Cq.lc2 (tup:=false) (tup':=false) (Kl:=fun _ _=>True) (asg:=fun d l=>up l "k" d) (asg':=fun _ d' l=>up l "x" d') hA S6.ecf (aY (m:=aB V) hA ?b7a (by exact N1 3 19 c26.2)) ?b7b ?b7c ?b7d ?b7e ?b7f ?b7g ?b7h ?b7i ?b7j
  case b7a=>exact Ev.call (by ktr_rel) Kp.type (Es.one (nmS S6 v0) (by rfl)) Cl.range1
  case b7b=>
   have:∀ l:List D,(l.flatMap fun d=>[D.int ((aM V (aU d):Nat):Int),D.int (((aM V (aU d+1):Nat):Int) - 1)]).length=2*l.length:=fun l=>by
    induction l with
    | nil=>rfl
    | cons a l ih=>rw [AL,Af,ih,Aq];simp only [Aq,AQ];exact N1 13 5
   rw [this,Ac,Al];exact N1 13 6 c26.2
  case b7c=>intro C d l _;exact .name (.inl rfl)
  case b7d=>intro C Xc h' d l _ ce;exact Ts.nil
  case b7e=>intro d l _;trivial
  case b7f=>intro d d' l _;trivial
  case b7g=>
   intro C Xc h' d l m ce;refine cX m ?_;rintro k hk rfl;have hk':=fN hk;have gk:up l "k" (.int (k:Int)) "k"=some (.int (k:Int)):=rfl;refine fX.of (d:=.tup [D.int ((aM V k:Nat):Int),D.int (((aM V (k+1):Nat):Int) - 1)]) ?b7k (iQ.tup hA)
   case b7k=>
    refine Ev.tup (Es.cons ?b7l (Es.cons ?b7m .nil (by rfl)) (by rfl)) (by krn_off)
    case b7l=>exact Ev.sub (nmR ce S6 v11 rfl rfl rfl) (nmC ce gk) (Bo.item_list ⟨by lia,by rw [Ap];exact rst k (by lia)⟩ (by exact N2 3 21 c26.2 hk'))
    case b7m=>exact Ev.bin (Ev.sub (nmR ce S6 v11 rfl rfl rfl) (Ev.bin (nmC ce gk) (by ktr_rel) Bo.add) (Bo.item_list ⟨by exact N1 13 7,by rw [show ((k:Int)+1).toNat=k+1 by exact N2 24 2 (BG _) (tn1 (N1 13 7))];exact rst (k+1) (by lia)⟩ (by exact N2 13 8 c26.2 hk'))) (by ktr_rel) Bo.sub
  case b7h=>intro C d d' l _ _;exact .name (.inl rfl)
  case b7i=>intro C Xc h' d d' l _ _ _ ce;exact Ts.nil
  case b7j=>
   intro C Xc h' d d' l m m' _ _ ce;have gx:up l "x" d' "x"=some d':=rfl;have hd:∃ x,d'=.int x:=by
    refine cK m' (fun z=>?_) fun m'=>?_
    ·exact ⟨_,z⟩
    ·exact ⟨_,bH m'⟩
   refine ob11 hd ?_;clear hd;rintro x rfl;exact trip (nmC ce gx) (nmC ce gx) (nmC ce gx) (by rfl) (by rfl) (by rfl)
 have w0:up l6 "ends" (.list ((eQ V).map fun x=>bW (bC x))) "count"=some (.int ((aB V:Nat):Int)):=v0;have w1:up l6 "ends" (.list ((eQ V).map fun x=>bW (bC x))) "way"=some (.int (dR V)):=v1;have w5:up l6 "ends" (.list ((eQ V).map fun x=>bW (bC x))) "notes"=some (.val (.ref a)):=v5;have w6:up l6 "ends" (.list ((eQ V).map fun x=>bW (bC x))) "levels"=some (.list ((Aa (aB V)).map fun k=>.int ((lv k:Nat):Int))):=v6;have w8:up l6 "ends" (.list ((eQ V).map fun x=>bW (bC x))) "words"=some (.list ((Aa (aB V)).map fun k=>.str (aC (aV lv k)))):=v8;have w9:up l6 "ends" (.list ((eQ V).map fun x=>bW (bC x))) "rows"=some (.list ((rows.map aC).map .str)):=v9;have w10:up l6 "ends" (.list ((eQ V).map fun x=>bW (bC x))) "heads"=some (.list ((cR (bK V) rows).map .int)):=v10;have w12:up l6 "ends" (.list ((eQ V).map fun x=>bW (bC x))) "spots"=some (.list ((rows.map fun r=>bC (mn (aP V lv r))).map bW)):=v12;have w13:up l6 "ends" (.list ((eQ V).map fun x=>bW (bC x))) "ends"=some (.list ((eQ V).map fun x=>bW (bC x))):=aE;generalize up l6 "ends" (.list ((eQ V).map fun x=>bW (bC x)))=l7 at S7 w0 w1 w5 w6 w8 w9 w10 w12 w13;have resx:∀ x∈eQ V,∃ k<aB V,vJ V lv rows (bC x)=some (ix k,lv k):=fun x m=>by
  refine ob12 (Cm.mp m) fun k hk hx=>?_;exact ⟨k,fN hk,la.found k (fN hk) x hx⟩
 have fnd:((eQ V).map fun x=>cB ((vJ V lv rows (bC x)).getD (0,0)))=(Aa (aB V)).flatMap fun k=>[cB (ix k,lv k),cB (ix k,lv k)]:=by
  unfold eQ;rw [Ds];have:∀ l:List Nat,(∀ k∈l,k<aB V)→(l.flatMap fun k=>[((aM V k:Nat):Int),((aM V (k+1):Nat):Int) - 1].map fun x=>cB ((vJ V lv rows (bC x)).getD (0,0)))=l.flatMap fun k=>[cB (ix k,lv k),cB (ix k,lv k)]:=fun l hl=>by
   induction l with
   | nil=>rfl
   | cons k l ih=>
    have hk:=hl k (.head _);rw [AL,AL,ih fun x m=>hl x (.tail _ m),AC,AC,Ez];have f1:vJ V lv rows (bC ((aM V k:Nat):Int))=some (ix k,lv k):=la.found k hk _ (.head _);have f2:vJ V lv rows (bC (((aM V (k+1):Nat):Int) - 1))=some (ix k,lv k):=la.found k hk _ (.tail _ (.head _));rw [f1,f2];rfl
  exact this _ fun k m=>fN m
 have r0:0<rows.length:=by
  cases e:rows with
  | nil=>have:=la.rok.hd;rw [e] at this;cases this
  | cons=>simp
 -- found
 refine eC (d:=.list ((eQ V).map fun x=>cB ((vJ V lv rows (bC x)).getD (0,0)))) S7 ?b8 (fun s8 S8=>?_) (.inl rfl) rfl (fun _=>rfl)
 case b8=>
  have e0:((eQ V).map fun x=>cB ((vJ V lv rows (bC x)).getD (0,0)))=(((eQ V).map fun x=>bW (bC x)).filter fun _=>true).map fun d=>cB ((vJ V lv rows (aGz d)).getD (0,0)):=by
   rw [Az.mpr (fun _ _=>rfl),An];rfl
  rw [e0];refine Cq.lc (tup:=false) (asg:=fun d l=>up l "end" d) hA S7.ecf (fX.of (d:=.list ((eQ V).map fun x=>bW (bC x))) (nmS S7 w13) (iQ.list hA)) ?b8b ?b8c ?b8d ?b8e
  case b8b=>
   rw [Ac];unfold eQ;have:∀ l:List Nat,(l.flatMap fun k=>[((aM V k:Nat):Int),((aM V (k+1):Nat):Int) - 1]).length=2*l.length:=fun l=>by
    induction l with
    | nil=>rfl
    | cons a l ih=>rw [AL,Af,ih,Aq];simp only [Aq,AQ];exact N1 13 5
   rw [this,Al];exact N1 13 6 c26.2
  case b8c=>intro C d l _;exact .name (.inl rfl)
  case b8d=>intro C Xc h' d l _ ce;exact Ts.nil
  case b8e=>
   intro C Xc h' d l m _ ce;refine cX m ?_;rintro x hx rfl;refine ob12 (resx x hx) fun k hk hres=>?_;have gx:up l "end" (bW (bC x)) "end"=some (bW (bC x)):=rfl;show Ev w Xc _ _ h' _ (cB ((vJ V lv rows (bC x)).getD (0,0)));rw [hres];exact Ev.call (ds:=[.list ((cR (bK V) rows).map .int),.list ((rows.map fun r=>bC (mn (aP V lv r))).map bW),.int (dR V),bW (bC x)]) (by ktr_rel) (Kp.fn ce.ec.wd (wQ (P:=w.params)).mem)
    (Es.cons (nmR ce S7 w10 rfl rfl rfl) (Es.cons (nmR ce S7 w12 rfl rfl rfl) (Es.cons (nmR ce S7 w1 rfl rfl rfl) (Es.cons (nmC ce gx) .nil (by rfl)) (by rfl)) (by rfl)) (by rfl))
    (aCB (n:=n+2) hA ce.ec.wd (by rw [la.hlen];exact N1 13 9 rl) (by rw [Ac,la.hlen]) (by rw [la.hlen];exact r0) hres) (by rfl)
 rw [fnd] at S8;have y0:up l7 "found" (.list ((Aa (aB V)).flatMap fun k=>[cB (ix k,lv k),cB (ix k,lv k)])) "count"=some (.int ((aB V:Nat):Int)):=w0;have y5:up l7 "found" (.list ((Aa (aB V)).flatMap fun k=>[cB (ix k,lv k),cB (ix k,lv k)])) "notes"=some (.val (.ref a)):=w5;have y6:up l7 "found" (.list ((Aa (aB V)).flatMap fun k=>[cB (ix k,lv k),cB (ix k,lv k)])) "levels"=some (.list ((Aa (aB V)).map fun k=>.int ((lv k:Nat):Int))):=w6;have y8:up l7 "found" (.list ((Aa (aB V)).flatMap fun k=>[cB (ix k,lv k),cB (ix k,lv k)])) "words"=some (.list ((Aa (aB V)).map fun k=>.str (aC (aV lv k)))):=w8;have y9:up l7 "found" (.list ((Aa (aB V)).flatMap fun k=>[cB (ix k,lv k),cB (ix k,lv k)])) "rows"=some (.list ((rows.map aC).map .str)):=w9;have y14:up l7 "found" (.list ((Aa (aB V)).flatMap fun k=>[cB (ix k,lv k),cB (ix k,lv k)])) "found"=some (.list ((Aa (aB V)).flatMap fun k=>[cB (ix k,lv k),cB (ix k,lv k)])):=aE;generalize up l7 "found" (.list ((Aa (aB V)).flatMap fun k=>[cB (ix k,lv k),cB (ix k,lv k)]))=l8 at S8 y0 y5 y6 y8 y9 y14
 -- the end
 have ct8:=S8.muAt (a:=aK) (d:=.ctab) (.tail _ (.head _));have S9:=(S8.muSub (mu':=[(a,.list (As (c+m) (.bool true)))]) (fun p q=>by rw [bH q];exact .head _) (AS _ _)).froz (x:="notes") y5 rfl;have z0:up l8 "notes" (.list (As (c+m) (.bool true))) "count"=some (.int ((aB V:Nat):Int)):=y0;have z5:up l8 "notes" (.list (As (c+m) (.bool true))) "notes"=some (.list (As (c+m) (.bool true))):=aE;have z6:up l8 "notes" (.list (As (c+m) (.bool true))) "levels"=some (.list ((Aa (aB V)).map fun k=>.int ((lv k:Nat):Int))):=y6;have z8:up l8 "notes" (.list (As (c+m) (.bool true))) "words"=some (.list ((Aa (aB V)).map fun k=>.str (aC (aV lv k)))):=y8;have z9:up l8 "notes" (.list (As (c+m) (.bool true))) "rows"=some (.list ((rows.map aC).map .str)):=y9;have z14:up l8 "notes" (.list (As (c+m) (.bool true))) "found"=some (.list ((Aa (aB V)).flatMap fun k=>[cB (ix k,lv k),cB (ix k,lv k)])):=y14;generalize up l8 "notes" (.list (As (c+m) (.bool true)))=l9 at S9 z0 z5 z6 z8 z9 z14;have hfl:((Aa (aB V)).flatMap fun k=>[cB (ix k,lv k),cB (ix k,lv k)]).length≤12:=by
  have:∀ l:List Nat,(l.flatMap fun k=>[cB (ix k,lv k),cB (ix k,lv k)]).length=2*l.length:=fun l=>by
   induction l with
   | nil=>rfl
   | cons a l ih=>rw [AL,Af,ih,Aq];simp only [Aq,AQ];exact N1 13 5
  rw [this,Al];exact N1 13 10 c26.2
 refine dJ S9 (d:=.bool (true&&true)) (Ev.andC ?b9 fun _=>Ev.and1 ?b10) fun v s10 r10 S10 k10=>k v s10 (r10.mono (bV fun y q=>oM (.tail _ q) fun z=>aX (by rw [← z];exact q))) S10.base (by
  cases ct8 with
  | ctab _ h1 h2 _=>exact ⟨_,by rw [← h2];exact aN k10 _ _ h1⟩)
 case b9=>exact Ev.call (ds:=[.list (As (c+m) (.bool true))]) (by ktr_rel) Kp.builtin (Es.one (nmS S9 z5) (by rfl)) (Cl.all_true hA) (by rfl)
 case b10=>
  refine Ev.cmp (d1:=.list ((Aa (aB V)).flatMap fun k=>[cB (ix k,lv k),cB (ix k,lv k)])) (d2:=.list ((Aa (aB V)).flatMap fun k=>[cB (ix k,lv k),cB (ix k,lv k)])) (nmS S9 z14) (Ev.ofCq ?b11 rfl) (Bo.eq_same hA ?b12 ?b13) (by with_unfolding_all rfl)
  case b12=>
   show gO _=true;refine iT fun d q=>?_;refine ob12 (Cm.mp q) fun k _ q=>?_;refine cK q (fun z=>?_) fun q=>?_
   ·rw [z];rfl
   ·rw [bH q];rfl
  case b13=>
   show eW _+1≤500;have:eW ((Aa (aB V)).flatMap fun k=>[cB (ix k,lv k),cB (ix k,lv k)])≤1:=nH fun d q=>by
    refine ob12 (Cm.mp q) fun k _ q=>?_;refine cK q (fun z=>?_) fun q=>?_
    ·rw [z];exact Am _
    ·rw [bH q];exact Am _
   exact N1 13 11 this
  case b11=>
   have e0:((Aa (aB V)).flatMap fun k=>[cB (ix k,lv k),cB (ix k,lv k)])=(((Aa (aB V)).map fun (k:Nat)=>D.int (k:Int)).filter fun _=>true).flatMap fun d=>([D.int 0,D.int 1].filter fun _=>true).map fun d'=>cB (ix (aU d),lv (aU d)):=by
    have ef:∀ l:List D,l.filter (fun _=>true)=l:=fun l=>Az.mpr fun _ _=>rfl;rw [ef,ef,Dq];rfl
   rw [e0];refine Cq.lc2 (tup:=false) (tup':=false) (Kl:=fun d l=>l "k"=some d) (asg:=fun d l=>up l "k" d) (asg':=fun _ d' l=>up l "end" d') hA S9.ecf (aY (m:=aB V) hA ?b11a (by exact N1 3 19 c26.2)) ?b11b ?b11c ?b11d ?b11e ?b11f ?b11g ?b11h ?b11i ?b11j
   case b11a=>exact Ev.call (by ktr_rel) Kp.type (Es.one (nmS S9 z0) (by rfl)) Cl.range1
   case b11b=>
    have:∀ l:List D,(l.flatMap fun _=>[D.int 0,D.int 1]).length=2*l.length:=fun l=>by
     induction l with
     | nil=>rfl
     | cons a l ih=>rw [AL,Af,ih,Aq];simp only [Aq,AQ];exact N1 13 5
    rw [this,Ac,Al];exact N1 13 6 c26.2
   case b11c=>intro C d l _;exact .name (.inl rfl)
   case b11d=>intro C Xc h' d l _ ce;exact Ts.nil
   case b11e=>intro d l _;exact aE
   case b11f=>intro d d' l h;exact (aA (by decide)).trans h
   case b11g=>
    intro C Xc h' d l _ ce;exact fX.of (d:=.tup [D.int 0,D.int 1]) (Ev.tup (by kcj_m) (by krn_off)) (iQ.tup hA)
   case b11h=>intro C d d' l _ _;exact .name (.inl rfl)
   case b11i=>intro C Xc h' d d' l _ _ _ ce;exact Ts.nil
   case b11j=>
    intro C Xc h' d d' l m m' _ kl ce;refine cX m ?_;rintro k hk rfl;have hk':=fN hk;have gk:up l "end" d' "k"=some (.int (k:Int)):=(aA (by decide)).trans kl;show Ev w Xc _ _ h' _ (.tup [.int ((ix k:Nat):Int),.int ((lv k:Nat):Int)]);refine Ev.tup (Es.cons ?b11k (Es.cons ?b11l .nil (by rfl)) (by rfl)) (by krn_off)
    case b11k=>
     refine Ev.meth (d0:=.list ((rows.map aC).map .str)) (nmR ce S9 z9 rfl rfl rfl) (Mt.list FZ F0) Kp.builtin (Es.one (d:=.str (aC (aV lv k))) ?b11m (by rfl)) (Cl.index (la.idx k hk') (by rw [Ac];exact N1 6 18 rl) hA)
     case b11m=>exact Ev.sub (nmR ce S9 z8 rfl rfl rfl) (nmC ce gk) (Bo.item_list ⟨by lia,by rw [Ap];exact rwd k hk'⟩ (by exact N2 3 21 c26.2 hk'))
    case b11l=>exact Ev.sub (nmR ce S9 z6 rfl rfl rfl) (nmC ce gk) (Bo.item_list ⟨by lia,by rw [Ap];exact rlv k hk'⟩ (by exact N2 3 21 c26.2 hk'))
end
section
structure aB6 (script:List Int) (V:Nat→Nat):Prop where
 sums:rR script=VL V
 read:Pz (byteArr (cL (bS V)++dY (mI V))) 0 (cA V)
 long:(cA V).length≤(cL (bS V)).length
 join:∀ e,Joined (dH (bN V)) (eR (aB V)) e→∃ lv,kE V e lv
 flags:∀ left base hi,left<32→base<28→-2≤hi→hi≤2→uA left base hi
 last:∀ e lv,Joined (dH (bN V)) (eR (aB V)) e→kE V e lv→∃ rows ix,aFM V lv rows ix
theorem aCp {n} {script:List Int} {V:Nat→Nat} {vs:List Ag} (hA:dF (n+7) A) (hfr:A.frames=some []) (hX:XL X s.heap) (W:Wd w (T1 w.params) (hx X s.heap)) (tX:aK∈X) (mt:cN w X s.heap aK .ctab) (hsl:script.length≤1000) (f:aB6 script V)
  (r:cG w (hx X s.heap) vs [.list (script.map .int)]) :
  Au (AI prog w) A (call (.ref 205) vs []) (fun v s'=>Rp w (hx X s'.heap) v (.bool true)∧Ch [aK] s s'∧∃ ps,s'.heap.get? aK=some (tabObj ps)) (fun _ _=>False) s:=by
 refine fZ (F:=[aK]) (mu:=[(aK,.ctab)]) aFV hA hX W r rfl (fun y m=>by rw [bH m];exact tX) (fun p m=>by rw [bH m];exact ⟨.head _,mt⟩) (AS _ _) fun L s1 hA' S k1 Q0 k0=>?_;have tX':aK∈Fp (aI iU 205 L)++X:=Ad _ tX;refine aHc hA' (ER hfr) S tX' rfl hsl f.sums f.read f.long fun a s2 l2 lw aX S2=>?_;have ne:a≠aK:=fun z=>aX (z▸tX');refine aHd hA' S2 tX' ne lw f.join f.flags fun s3 l3 lv e c lw2 hj tr hc S3=>?_;refine aEP (f.last e lv hj tr) fun rows ix la=>?_;exact aHe hA' S3 tX' aX ne hc lw2 tr la fun v s4 r4 c4 t4=>k0 ⟨r4.mono (bV fun y m=>Ad _ m),c4,t4⟩
end
noncomputable def eS (d:Nat) (t:Tb):Tb:=t.map fun p=>(p.1,p.2+(d:Int))
noncomputable def wl (wt:Tb→Int) (ln:List Tb) (k:Nat):Int:=((ln[k]?).map wt).getD 0
theorem pR:∀ n≤6,1≤n→∀ l∈nC n,l.length=n:=by decide +kernel
theorem jY {α β γ:Type} {f:α→β→γ}:∀ {a:List α} {x:List β} {b:List α} {y:List β},a.length=x.length→AU f (a++b) (x++y)=AU f a x++AU f b y
 | [],[],_,_,_=>rfl
 | _::a,_::x,b,y,h=>by
  have:=jY (f:=f) (b:=b) (y:=y) (Jh h:a.length=x.length);exact congrArg (_::·) this
 | [],_::_,_,_,h=>nomatch h
 | _::_,[],_,_,h=>nomatch h
theorem aCc {d:Nat} {a b:Tb}:eS d (a++b)=eS d a++eS d b:=Ax
theorem aCd {d:Nat} {t:Tb}:eS d (gT t)=eS (d+1) t:=by
 unfold eS gT;rw [An];apply Av;intro p _;show (p.1,p.2+1+(d:Int))=(p.1,p.2+((d+1:Nat):Int));congr 1
 push_cast
 exact nS 14 13
theorem aA8 {t:Tb}:eS 0 t=t:=by
 unfold eS
 conv=>rhs;rw [← Fv t]
 apply Av;intro p _;show (p.1,p.2+((0:Nat):Int))=p;congr 1;exact cO 14 14
theorem wM {a b c:List Tb}:((a++b++c).flatten).Perm (b.flatten++(a++c).flatten):=by
 rw [B5,B5,B5,← AG];exact Ew _ EG
theorem aAa {ln r:List Tb} {l:List Nat} {i g:Nat} {x y:Tb} (hx:ln[i]?=some x) (hy:ln[i+1]?=some y) (hr:r=ln.take i++ln.drop (i+2)) (hg:g≤i) (hl:l.length+1=ln.length) :
  ((AU eS l (r.take g++[bP x y]++r.drop g)).flatten).Perm ((AU eS (jU i g l) ln).flatten):=by
 have li:=(Aw.mp hy).1;have lr:r.length+2=ln.length:=by rw [hr,Af,Bm (by exact N2 9 1 li),AW];exact N3 9 3 eB (cY (N2 9 2 li))
 have gl:g<l.length:=by exact N4 14 15 hg hl li
 obtain ⟨q,eq⟩:∃ q,l[g]?=some q:=⟨_,Ah gl⟩;have el:l=l.take g++[q]++l.drop (g+1):=by
  have:=Aw.mp eq;refine ob11 this fun h1 h2=>?_;clear this
  conv=>lhs;rw [← Bs g l,Bv gl,h2]
  simp
 generalize hc:l.take g++l.drop (g+1)=c;have lc:c.length=r.length:=by rw [← hc,Af,Bm (by lia),AW];exact N5 14 17 hl lr eB (cY (N4 14 16 hg hl li))
 have e1:AU eS l (r.take g++[bP x y]++r.drop g)=AU eS (l.take g) (r.take g)++[eS q (bP x y)]++AU eS (l.drop (g+1)) (r.drop g):=by
  conv=>lhs;rw [el]
  rw [jY (by rw [Af,Af,AE,AE];simp only [Aq,AQ];exact N3 14 20 (AN _ _) (AN _ _) (tG (N4 14 18 hg hl li)) (tG (N4 14 19 hg li lr))),jY (by rw [AE,AE];exact N3 14 21 (AN _ _) (AN _ _) (tG (N4 14 18 hg hl li)) (tG (N4 14 19 hg li lr)))];rfl
 have e2:AU eS (l.take g) (r.take g)++AU eS (l.drop (g+1)) (r.drop g)=AU eS c r:=by
  rw [← jY (by rw [AE,AE];exact N3 14 21 (AN _ _) (AN _ _) (tG (N4 14 18 hg hl li)) (tG (N4 14 19 hg li lr))),hc,Bs]
 have e3:AU eS (jU i g l) ln=AU eS (c.take i) (ln.take i)++[eS (q+1) x,eS (q+1) y]++AU eS (c.drop i) (ln.drop (i+2)):=by
  have h:=tS hx hy;have h:ln=ln.take i++[x,y]++ln.drop (i+2):=by rw [AG];exact h
  have es:jU i g l=c.take i++[q+1,q+1]++c.drop i:=by
   unfold jU;rw [hc,eq];rfl
  rw [es]
  conv=>lhs;rw [h]
  rw [jY (by rw [Af,Af,AE,AE];simp only [Aq,AQ];exact N3 15 0 (AN _ _) (AN _ _) (tG (N4 14 22 li lr lc)) (tG (N2 9 1 li))),jY (by rw [AE,AE];exact N3 14 21 (AN _ _) (AN _ _) (tG (N4 14 22 li lr lc)) (tG (N2 9 1 li)))];rfl
 have e4:AU eS (c.take i) (ln.take i)++AU eS (c.drop i) (ln.drop (i+2))=AU eS c r:=by
  rw [← jY (by rw [AE,AE];exact N3 14 21 (AN _ _) (AN _ _) (tG (N4 14 22 li lr lc)) (tG (N2 9 1 li))),Bs,← hr]
 have e5:([eS q (bP x y)]:List Tb).flatten=([eS (q+1) x,eS (q+1) y]:List Tb).flatten:=by
  rw [BU,FQ,AZ,BU,BU,FQ,AZ];unfold bP;rw [aCd,aCc]
 rw [e1,e3];refine wM.trans ?_;refine List.Perm.trans ?_ wM.symm;rw [e2,e4,e5]
theorem aGE {wt:Tb→Int} {ln r:List Tb} {i g k:Nat} {x y:Tb} (hx:ln[i]?=some x) (hy:ln[i+1]?=some y) (hr:r=ln.take i++ln.drop (i+2)) (hg:g≤i) :
  wl wt (r.take g++[bP x y]++r.drop g) k=if k<g then wl wt ln k else if k=g then wt (bP x y) else wl wt ln (if k - 1<i then k - 1 else k+1):=by
 have li:=(Aw.mp hy).1;have lr:r.length+2=ln.length:=by rw [hr,Af,Bm (by exact N2 9 1 li),AW];exact N3 9 3 eB (cY (N2 9 2 li))
 have hgr:g≤r.length:=by exact N4 14 19 hg li lr
 have hrk:∀ j,r[j]?=if j<i then ln[j]? else ln[j+2]?:=fun j=>by
  rw [hr]
  by_cases q:j<i
  ·rw [if_pos q,Bw (by rw [AE];exact N3 14 7 q (tG (N2 9 1 li))),Eg,if_pos q]
  ·rw [if_neg q,BF (by rw [AE];exact N3 15 1 q (AN _ _)),Bj,AE]
   congr 1;exact N4 15 2 eB (AN _ _) (cY (N3 15 1 q (AN _ _))) (tG (N2 9 1 li))
 unfold wl
 by_cases q:k<g
 ·rw [if_pos q,AG,Bw (by rw [AE];exact N3 14 7 q (tG (N4 14 19 hg li lr))),Eg,if_pos q,hrk,if_pos (by lia)]
 ·rw [if_neg q]
  by_cases q2:k=g
  ·subst q2
   rw [if_pos rfl,AG,BF (by rw [AE];exact N2 1 10 (AN _ _)),AE];have:k - min k r.length=0:=by rw [B1 hgr,Jg]
   rw [this];rfl
  ·rw [if_neg q2,BF (by rw [Af,AE];simp only [Aq,AQ];exact (Cj q2).elim (fun z6=>N3 24 8 q z6) fun z6=>N3 24 9 z6 (AN _ _)),Bj,Af,AE]
   simp only [Aq,AQ];have hk1:g+1≤k:=by exact (Cj q2).elim (fun z6=>N2 24 10 q z6) fun z6=>N2 0 6 z6
   have:g+(k - (min g r.length+(0+1)))=k - 1:=by
    rw [B1 hgr];obtain ⟨d,rfl⟩:=Nat.exists_eq_add_of_le hk1;rw [Nat.add_sub_cancel_left,Hb];rfl
   rw [this,hrk]
   by_cases q3:k - 1<i
   ·rw [if_pos q3,if_pos q3]
   ·rw [if_neg q3,if_neg q3]
    have:k - 1+2=k+1:=congrArg (·+1) (He (Ao (Hy g) hk1));rw [this]
theorem aGx {l:List Nat} {k:Nat} (h:l.length≤k):sv l k=0:=by
 unfold sv;rw [BB h];rfl
theorem aEw {wt:Tb→Int} (hwt:∀ x y,wt (bP x y)=wt x+wt y) {ln:List Tb} {e:Tb} (J:Joined wt ln e):ln.length≤6→(∀ t∈ln,1≤wt t)→
  ∃ l∈nC ln.length,(∀ T∈nC ln.length,bY ln.length (sv l) (wl wt ln)≤bY ln.length (sv T) (wl wt ln))∧e.Perm (AU eS l ln).flatten:=by
 induction J with
 | @one t=>
  intro _ _;refine ⟨[0],.head _,fun T hT=>?_,?_⟩
  ·rw [bH hT];exact BV _
  ·show t.Perm (eS 0 t++[])
   rw [aA8,AZ]
 | @step ln i g x y e hx hy h1 h2 hg h3 h4 J ih=>
  intro h6 hp;have li:=(Aw.mp hy).1;generalize hr:ln.take i++ln.drop (i+2)=r at h3 h4 J ih;have lr:r.length+2=ln.length:=by rw [← hr,Af,Bm (CR (Nat.lt_of_succ_lt li)),AW];exact N3 9 3 eB (cY (N2 9 2 li))
  generalize hn:r.take g++[bP x y]++r.drop g=ln' at J ih;have ln1:ln'.length=ln.length - 1:=by
   rw [← hn,Af,Af,Bm (by exact N4 14 19 hg li lr),AW];simp only [Aq,AQ];exact N5 15 4 lr eB eB (cY (N4 14 19 hg li lr)) (cY (N2 15 3 li))
  have wx:wl wt ln i=wt x:=by unfold wl;rw [hx];rfl
  have wy:wl wt ln (i+1)=wt y:=by unfold wl;rw [hy];rfl
  have pr:∀ t∈r,1≤wt t:=fun t m=>by
   rw [← hr] at m;refine gJ m (fun m=>?_) fun m=>?_
   ·exact hp t (Cn m)
   ·exact hp t (GG m)
  have pb:wt (bP x y)=wl wt ln i+wl wt ln (i+1):=by rw [hwt,wx,wy]
  have px:=hp x (AB hx);have py:=hp y (AB hy);refine ob13 (ih (by exact N3 15 5 h6 ln1 (AD _ _)) (fun t m=>by
   rw [← hn] at m;refine gJ m (fun m=>?_) fun m=>?_
   ·refine gJ m (fun m=>?_) fun m=>?_
    ·exact pr t (Cn m)
    ·rw [bH m,hwt];exact gK 15 6 px py
   ·exact pr t (GG m))) fun l hl ho hperm=>?_
  rw [ln1] at hl ho;refine ob13 (aFX h6 li hg) fun c ei eg chk=>?_;generalize hm:ln.length=m at *;have nth:∀ j<m,∃ t,ln[j]?=some t∧wl wt ln j=wt t:=fun j hj=>by
   have hj':j<ln.length:=hm.symm▸hj;refine ⟨ln[j],Ah hj',?_⟩;unfold wl;rw [Ah hj'];rfl
  have rj:∀ j<i,r[j]?=ln[j]?:=fun j hj=>by
   rw [← hr,Bw (by rw [AE];exact N3 14 7 hj (tG (N3 15 7 hm li))),Eg,if_pos hj]
  let W:Vf:=fun k=>if k=m then 1 else wl wt ln k
  have hW:∀ k<m,W k=wl wt ln k:=fun k hk=>if_neg (by lia);have G:GwW m c.i c.g W:=by
   rw [ei,eg];refine ⟨li,hg,fun j hj=>?_,if_pos rfl,fun j hj=>?_,fun hu=>?_,fun j hj1 hj2=>?_,fun hg0=>?_⟩
   ·rw [hW j hj]
    refine ob12 (nth j hj) fun t e1 e2=>?_;rw [e2];exact hp t (AB e1)
   ·rw [hW _ (by exact N3 15 8 li hj),hW _ (by exact N3 15 9 li hj)]
    refine ob12 (nth j (by exact N3 15 9 li hj)) fun a a1 a2=>?_;refine ob12 (nth (j+2) (by exact N3 15 8 li hj)) fun b b1 b2=>?_;rw [a2,b2];exact h1 j a b hj a1 b1
   ·rw [hW _ (by lia),hW _ (by lia)]
    refine ob12 (nth i (by lia)) fun a a1 a2=>?_;refine ob12 (nth (i+2) (by lia)) fun b b1 b2=>?_;rw [a2,b2];exact h2 a b a1 b1
   ·rw [hW _ (by exact N3 15 9 li hj2),hW _ (by lia),hW _ (by lia),← pb]
    refine ob12 (nth j (by exact N3 15 9 li hj2)) fun a a1 a2=>?_;rw [a2];exact h3 j a hj1 hj2 (by rw [rj j hj2];exact a1)
   ·rw [hW _ (by lia),hW _ (by lia),hW _ (by exact N4 15 10 hg li (AD _ _)),← pb]
    refine ob12 (nth (g - 1) (by exact N4 15 10 hg li (AD _ _))) fun a a1 a2=>?_;rw [a2];exact h4 a hg0 (by rw [rj (g - 1) (by exact N3 15 11 hg (cY (N1 0 19 hg0)))];exact a1)
  have flat:∀ T∈nC m,bY (m+1) (sv T) W=bY m (sv T) (wl wt ln):=fun T hT=>by
   rw [cV,aGx (by rw [pR m h6 (by exact N2 15 3 li) T hT];lia),qG hW];exact gK 13 17
  have low:∀ T∈nC (m - 1),bY (m+1) (pK c.i c.g T) W=bY (m - 1) (sv T) (wl wt ln'):=fun T hT=>by
   have lT:=pR (m - 1) (by exact N2 10 6 h6 (AD _ _)) (by exact N3 15 12 li eB) T hT;rw [ei,eg];unfold pK;rw [aAt (u:=fun k=>gwU i g k),lT];unfold bY;congr 1;apply Av;intro k hk;have hk:=fN hk;congr 1;rw [← hn,aGE hx hy hr.symm hg];show bY (m+1) (fun c=>gwU i g k c) W=_;unfold gwU
   by_cases q:k<g
   ·simp only [if_pos q]
    exact (dN (by exact N4 15 13 hg li q)).trans (hW k (by exact N4 15 14 hg li q))
   ·simp only [if_neg q]
    by_cases q2:k=g
    ·simp only [if_pos q2]
     rw [gQ,dN (by exact N2 13 22 li),dN (by lia),hW _ (by lia),hW _ (by lia),pb]
    ·simp only [if_neg q2]
     have:(if k - 1<i then k - 1 else k+1)<m:=by split <;> (first | exact N3 15 9 li (by assumption) | exact N3 7 2 hk (cY (N3 7 1 hk (AD _ _))))
     exact (dN (by lia)).trans (hW _ this)
  refine bM (aC3 chk G hl (fun T hT=>by rw [low T hT,low l hl];exact ho T hT)) fun s1 s2=>?_;refine ⟨jU c.i c.g l,s1,fun T hT=>?_,?_⟩
  ·rw [← flat T hT,← flat _ s1];exact s2 T hT
  ·rw [ei,eg]
   refine hperm.trans ?_;rw [← hn];exact aAa hx hy hr.symm hg (by rw [pR (m - 1) (by exact N2 10 6 h6 (AD _ _)) (by exact N3 15 12 li eB) l hl];exact N3 15 15 hm eB (cY (N2 15 3 li)))
noncomputable def zU:Nat→Nat→List (List Nat)
 | 0,_=>[[0]]
 | k+1,s=>if s≤1 then [[0]] else (Aa (s - 1)).flatMap fun p=>(zU k (p+1)).flatMap fun a=>(zU k (s - (p+1))).map fun b=>(a++b).map (·+1)
theorem aGv:∀ n≤6,1≤n→zU 9 n=nC n:=by decide +kernel
theorem sR {n1:Nat} {v w:Vf}:∀ {n2},bY (n1+n2) v w=bY n1 v w+bY n2 (fun j=>v (n1+j)) (fun j=>w (n1+j))
 | 0=>by show bY n1 v w=bY n1 v w+0;exact cO 15 16
 | n+1=>by
  have e:n1+(n+1)=n1+n+1:=rfl;rw [e,cV,cV,sR];exact aB7 15 17
theorem aHD {l:List Nat} {k:Nat} (h:k<l.length):sv (l.map (·+1)) k=sv l k+1:=by
 unfold sv;rw [Ar,Ah h];show ((l[k]+1:Nat):Int)=((l[k]:Nat):Int)+1
 push_cast;rfl
theorem aCN {a b:List Nat} {w:Vf}:bY (a.length+b.length) (sv ((a++b).map (·+1))) w=bY a.length (sv a) w+bY b.length (sv b) (fun j=>w (a.length+j))+bY (a.length+b.length) (fun _=>1) w:=by
 have e1:bY (a.length+b.length) (sv ((a++b).map (·+1))) w=bY (a.length+b.length) (fun k=>sv (a++b) k+1) w:=
  lJ fun k hk=>aHD (by rw [Af];exact hk)
 rw [e1,gQ,sR];congr 2
 ·exact lJ fun k hk=>by unfold sv;rw [Bw hk]
 ·refine lJ fun k hk=>?_
  unfold sv;rw [BF (by lia)];have:a.length+k - a.length=k:=by exact N3 15 19 eB (cY (N2 15 18))
  rw [this]
theorem aAX {hits:List Int} {f:Nat}:∀ s,((hits.drop f).take s).sum=bY s (fun _=>1) (fun j=>hits[f+j]?.getD 0)
 | 0=>rfl
 | s+1=>by
  rw [cV,CI,BZ,aAX s,Bj];congr 1;cases hits[f+s]? with
  | none=>rfl
  | some x=>show x+0=1*x;exact cO 15 20
theorem gU {hits:List Int}:∀ (k s f:Nat),1≤s→s≤k+1→(∀ T∈zU k s,T.length=s)∧(∀ T∈zU k s,jC hits k f s≤bY s (sv T) (fun j=>hits[f+j]?.getD 0))∧∃ T∈zU k s,jC hits k f s=bY s (sv T) (fun j=>hits[f+j]?.getD 0)
 | 0,s,f,h1,h2=>by
  obtain rfl:s=1:=by exact N1 15 21 h1 h2
  have z:bY 1 (sv [0]) (fun j=>hits[f+j]?.getD 0)=0:=by show (0:Int)*_+0=0;exact cO 15 22
  refine ⟨fun T hT=>by rw [bH hT];rfl,fun T hT=>?_,[0],.head _,?_⟩
  ·rw [bH hT,z];exact BV _
  ·rw [z];rfl
 | k+1,s,f,h1,h2=>by
  by_cases q:s≤1
  ·obtain rfl:s=1:=by exact N1 16 0 h1 q
   have z:bY 1 (sv [0]) (fun j=>hits[f+j]?.getD 0)=0:=by show (0:Int)*_+0=0;exact cO 15 22
   have e:zU (k+1) 1=[[0]]:=by rw [zU];rfl
   have e2:jC hits (k+1) f 1=0:=by rw [jC];rfl
   rw [e,e2];refine ⟨fun T hT=>by rw [bH hT];rfl,fun T hT=>?_,[0],.head _,?_⟩
   ·rw [bH hT,z];exact BV _
   ·rw [z]
  ·rw [zU,if_neg q,jC,if_neg q,aAX]
   have mem:∀ T,T∈((Aa (s - 1)).flatMap fun p=>(zU k (p+1)).flatMap fun a=>(zU k (s - (p+1))).map fun b=>(a++b).map (·+1))↔∃ p,p<s - 1∧∃ a∈zU k (p+1),∃ b∈zU k (s - (p+1)),(a++b).map (·+1)=T:=fun T=>by
    rw [Cm];constructor
    ·rintro ⟨p,hp,h⟩
     refine ob12 (Cm.mp h) fun a ha h=>?_;refine cX h fun b hb h=>?_;exact ⟨p,fN hp,a,ha,b,hb,h⟩
    ·rintro ⟨p,hp,a,ha,b,hb,h⟩
     exact ⟨p,Bb.mpr hp,Cm.mpr ⟨a,ha,AY.mpr ⟨b,hb,h⟩⟩⟩
   have cost:∀ p,p<s - 1→∀ a∈zU k (p+1),∀ b∈zU k (s - (p+1)),bY s (sv ((a++b).map (·+1))) (fun j=>hits[f+j]?.getD 0) =
     bY (p+1) (sv a) (fun j=>hits[f+j]?.getD 0)+bY (s - (p+1)) (sv b) (fun j=>hits[f+(p+1)+j]?.getD 0)+bY s (fun _=>1) (fun j=>hits[f+j]?.getD 0):=fun p hp a ha b hb=>by
    have la:=(gU (hits:=hits) k (p+1) f (by lia) (by exact N4 16 1 h2 hp (cY (N1 10 4 h1)))).1 a ha;have lb:=(gU (hits:=hits) k (s - (p+1)) f (by exact N4 16 2 hp eB (cY (N1 10 4 h1))) (by exact N4 16 3 h2 (cY (N3 4 5 hp (AD _ _))))).1 b hb;have j:=aCN (a:=a) (b:=b) (w:=fun j=>hits[f+j]?.getD 0);have es:a.length+b.length=s:=by exact N5 16 4 la lb eB (cY (N3 4 5 hp (AD _ _)))
    rw [es,la,lb] at j;rw [j];congr 2;unfold bY;congr 1;apply Av;intro j _;show _*hits[f+(p+1+j)]?.getD 0=_;rw [← I7]
   refine ⟨fun T hT=>?_,fun T hT=>?_,?_⟩
   ·refine ob12 ((mem T).mp hT) fun p hp kz=>?_;refine ob12 kz ?_;clear kz;intro a ha kz;refine ob12 kz ?_;clear kz;rintro b hb rfl
    have la:=(gU (hits:=hits) k (p+1) f (by lia) (by exact N4 16 1 h2 hp (cY (N1 10 4 h1)))).1 a ha;have lb:=(gU (hits:=hits) k (s - (p+1)) f (by exact N4 16 2 hp eB (cY (N1 10 4 h1))) (by exact N4 16 3 h2 (cY (N3 4 5 hp (AD _ _))))).1 b hb;rw [Ac,Af,la,lb];exact N3 16 5 eB (cY (N3 4 5 hp (AD _ _)))
   ·refine ob12 ((mem T).mp hT) fun p hp kz=>?_;refine ob12 kz ?_;clear kz;intro a ha kz;refine ob12 kz ?_;clear kz;rintro b hb rfl
    rw [cost p hp a ha b hb];have oa:=(gU (hits:=hits) k (p+1) f (by lia) (by exact N4 16 1 h2 hp (cY (N1 10 4 h1)))).2.1 a ha;have ob:=(gU (hits:=hits) k (s - (p+1)) (f+(p+1)) (by exact N4 16 2 hp eB (cY (N1 10 4 h1))) (by exact N4 16 3 h2 (cY (N3 4 5 hp (AD _ _))))).2.1 b hb;have:=aDk _ _ (AY.mpr ⟨p,Bb.mpr hp,rfl⟩:jC hits k f (p+1)+jC hits k (f+(p+1)) (s - (p+1))∈(Aa (s - 1)).map fun p=>jC hits k f (p+1)+jC hits k (f+(p+1)) (s - (p+1)));exact aGP 16 6 oa ob this
   ·refine ob12 (AY.mp (vB ((Aa (s - 1)).map fun p=>jC hits k f (p+1)+jC hits k (f+(p+1)) (s - (p+1))) (by
     intro z;have:=congrArg De z;rw [Ac,Al,AQ] at this;exact N2 16 7 q this eB h1))) fun p hp e=>?_
    have hp:=fN hp;refine gM (gU (hits:=hits) k (p+1) f (by lia) (by exact N4 16 1 h2 hp (cY (N1 10 4 h1)))) fun _ _ kz=>?_;refine ob12 kz fun a ha ea=>?_;clear kz;refine gM (gU (hits:=hits) k (s - (p+1)) (f+(p+1)) (by exact N4 16 2 hp eB (cY (N1 10 4 h1))) (by exact N4 16 3 h2 (cY (N3 4 5 hp (AD _ _))))) fun _ _ kz=>?_;refine ob12 kz fun b hb eb=>?_;clear kz;refine ⟨_,(mem _).mpr ⟨p,hp,a,ha,b,hb,rfl⟩,?_⟩;rw [cost p hp a ha b hb,← e,ea,eb]
theorem aDU {a b:List Int} (p:a.Perm b):a.sum=b.sum:=by
 induction p with
 | nil=>rfl
 | cons x _ ih=>rw [Co,Co,ih]
 | swap x y l=>rw [Co,Co,Co,Co];exact aB7 11 17
 | trans _ _ h1 h2=>exact h1.trans h2
noncomputable def kX (l:List Nat) (k:Nat):Nat:=l[k]?.getD 0
theorem aBs {l:List Nat} {n:Nat} (h:l.length=n):(AU eS l (eR n)).flatten=(Aa n).map fun k=>(k,((kX l k:Nat):Int)):=by
 have e:AU eS l (eR n)=(Aa n).map fun k=>[(k,((kX l k:Nat):Int))]:=by
  unfold eR;apply List.ext_getElem
  ·rw [E2,Ac,Ac,Al];exact N3 16 9 h (AN _ _) (tG (N2 16 8 h))
  ·intro k h1 h2
   have hk:k<n:=by rw [Ac,Al] at h2;exact h2
   rw [List.getElem_zipWith,HN,HN,Eh];show [(k,(0:Int)+((l[k]:Nat):Int))]=[(k,((l[k]?.getD 0:Nat):Int))];rw [Ah (by lia),CV,Dc]
 rw [e,← Ck];exact List.map_eq_flatMap.symm
theorem aDL:∀ n≤6,2≤n→∀ l∈nC n,(∀ k<n,1≤kX l k∧kX l k≤5)∧aS (kX l) n=32∧(∀ k<n,aS (kX l) k<32)∧∀ k<n,aS (kX l) k % (32 / 2 ^ kX l k)=0:=by decide +kernel
theorem aA4 {V:Nat→Nat} (pos:∀ k<aB V,1≤bN V k) {e:Tb} (J:Joined (dH (bN V)) (eR (aB V)) e):∃ l∈nC (aB V),kE V e (kX l):=by
 have c26:=fB (V:=V);have ll:(eR (aB V)).length=aB V:=rC;have w1:∀ k,dH (bN V) [(k,0)]=bN V k:=fun k=>by unfold dH;simp
 refine ob13 (aEw (fun x y=>by rw [aA5];exact gK 2 1) J (by exact N2 16 10 c26.2 ll) (fun t m=>by
  refine cX m ?_;rintro k hk rfl;rw [w1];exact pos k (fN hk))) fun l hl ho hp=>?_
 rw [ll] at hl ho;have len:=pR _ c26.2 (by exact N1 11 18 c26.1) l hl;rw [aBs len] at hp;refine eG (aDL _ c26.2 c26.1 l hl) fun s1 s2 s3 s4=>?_;have hw:∀ k<aB V,wl (dH (bN V)) (eR (aB V)) k=(aQ V)[0+k]?.getD 0:=fun k hk=>by
  unfold wl eR;rw [Ar,B7 hk];show dH (bN V) [(k,0)]=_;rw [w1,DU];rfl
 refine ⟨l,hl,hp,?_,s1,s2,s3,s4⟩;rw [eF];refine gM (gU (hits:=aQ V) 9 (aB V) 0 (by exact N1 11 18 c26.1) (by exact N1 16 11 c26.2)) fun o1 o2 kz=>?_;refine ob12 kz fun T hT o3=>?_;clear kz;rw [aGv _ c26.2 (by lia)] at o2 hT;have c1:bR (bN V) e=bY (aB V) (sv l) (fun j=>(aQ V)[0+j]?.getD 0):=by
  unfold bR;rw [aDU (hp.map fun p=>bN V p.1*p.2),An];unfold bY;congr 1;apply Av;intro k _;show bN V k*((kX l k:Nat):Int)=sv l k*(aQ V)[0+k]?.getD 0;rw [Et,DU];rfl
 have c2:∀ T,bY (aB V) (sv T) (wl (dH (bN V)) (eR (aB V)))=bY (aB V) (sv T) (fun j=>(aQ V)[0+j]?.getD 0):=fun T=>qG hw;have h1:=ho T hT;rw [c2,c2,← o3,← c1] at h1;have h2:=o2 l hl;rw [← c1] at h2;exact Gj h1 h2
noncomputable def aBt:Nat→Nat→Nat→List Nat
 | 0,_,_=>[]
 | n+1,i,q=>(if q % 2=1 then [i] else [])++aBt n (i+1) (q / 2)
noncomputable def lF (hi:Int) (q:Nat):List Str:=if hi≠0 then [Dg "0x" 16 (hi*2 ^ 32)] else if q=0 then ["0x0"] else []
theorem oK {q:Nat} (h:q≠0):lF 0 q=[]:=by unfold lF;simp [h]
theorem lP {hi:Int} {q:Nat} (h:hi≠0):lF hi q=[Dg "0x" 16 (hi*2 ^ 32)]:=by unfold lF;rw [if_pos h]
theorem aA2:lF 0 0=[("0x0":Str)]:=rfl
theorem aEO:∀ i<32,fM (zA i)=fR i:=by decide +kernel
theorem aC5:Dg "0x" 16 0="0x0":=by decide +kernel
theorem tB:∀ n i,aBt n i 0=[]
 | 0,_=>rfl
 | n+1,i=>by unfold aBt;rw [Nat.zero_div,tB n];rfl
theorem zP {i q:Nat} {hi:Int} (hi32:i<32):Bk (2 ^ i*(q:Int)+hi*2 ^ 32) (uS i)=((q % 2:Nat):Int)*2 ^ i∧
  (q % 2=1→CY (2 ^ i*(q:Int)+hi*2 ^ 32) (uS i)=2 ^ (i+1)*((q / 2:Nat):Int)+hi*2 ^ 32):=by
 have ef:uS i=2 ^ i:=by unfold uS;rw [Int.one_mul,Ap]
 have hp:=kbt_pos i;have e32:(2:Int) ^ 32=2 ^ i*(2*2 ^ (31 - i)):=by
  have:(32:Nat)=i+((31 - i)+1):=by exact N2 16 13 eB (cY (N1 16 12 hi32))
  conv=>lhs;rw [this]
  rw [Int.pow_add,Hr,Et (2 ^ (31 - i)) 2]
 generalize hr:(2:Int) ^ (31 - i)=r at e32;have e1:(2:Int) ^ i*(q:Int)+hi*2 ^ 32=2 ^ i*((q:Int)+2*(hi*r)):=by
  rw [e32,CS,Hq hi,Hq hi 2 r]
 have band:Bk (2 ^ i*(q:Int)+hi*2 ^ 32) (uS i)=((q % 2:Nat):Int)*2 ^ i:=by
  rw [ef,kbt_bit,e1,Int.mul_ediv_cancel_left _ (by exact (F8 (cO 24 11 hp)).symm)];congr 1;lia
 refine ⟨band,fun hq=>?_⟩;have ps:(2:Int) ^ (i+1)=2 ^ i*2:=Hr _ _;rw [bitXor_and,band,hq,ef,ps];have hq2:(q:Int)=2*((q / 2:Nat):Int)+1:=by lia
 generalize ((q / 2:Nat):Int)=c at hq2 ⊢;generalize hi*2 ^ 32=d;rw [hq2,CS,Gy];have:(2:Int) ^ i*2*c=2 ^ i*(2*c):=FF _ _ _;rw [this];show _ - 2*(((1:Nat):Int)*2 ^ i)=_;lia
theorem oH {hi:Int}:∀ (n i q:Nat) (ns:List Str),i+n=32→2 ^ i*q<4294967296→nL (List.range' i n) (2 ^ i*(q:Int)+hi*2 ^ 32) ns=ns++(aBt n i q).map fR++lF hi q
 | 0,i,q,ns,h,hb=>by
  obtain rfl:i=32:=by lia
  have:q=0:=by
   have h2:(2:Nat) ^ 32=4294967296:=by decide
   rw [h2] at hb;exact N1 16 14 hb
  subst this;have e:(2:Int) ^ 32*((0:Nat):Int)+hi*2 ^ 32=hi*2 ^ 32:=by exact cO 16 15
  rw [e];show ns++[Dg "0x" 16 (hi*2 ^ 32)]=ns++[]++lF hi 0;rw [AZ];congr 1
  by_cases z:hi=0
  ·rw [z,aA2,E7,aC5]
  ·rw [lP z]
 | n+1,i,q,ns,h,hb=>by
  refine bM (zP (q:=q) (hi:=hi) (show i<32 by exact N2 16 16 h)) fun s1 s2=>?_;have hp:=kbt_pos i;have e2:(2:Nat) ^ (i+1)*(q / 2)≤2 ^ i*q:=by
   rw [Hx,Nat.mul_assoc];exact GY _ (by exact N2 16 17 dv1)
  rw [List.range'_succ];unfold nL aBt;rw [s1]
  by_cases hq:q % 2=1
  ·have c1:(((q % 2:Nat):Int)*2 ^ i != 0)=true:=by rw [hq];simp;exact (F8 (cO 24 11 hp)).symm
   rw [if_pos c1,s2 hq,aEO i (by exact N2 16 16 h),if_pos hq]
   by_cases z:hi=0∧q / 2=0
   ·rw [z.1,z.2,tB]
    have:((2:Int) ^ (i+1)*((0:Nat):Int)+0*2 ^ 32 != 0)=false:=by
     have:(2:Int) ^ (i+1)*((0:Nat):Int)+0*2 ^ 32=0:=by lia
     rw [this];rfl
    rw [this];rw [oK (by exact (Bi (N2 24 12 hq (JR _ _))).symm)];simp
   ·have c2:((2:Int) ^ (i+1)*((q / 2:Nat):Int)+hi*2 ^ 32 != 0)=true:=by
     rw [bne_iff_ne];intro e;have e3:((2 ^ (i+1)*(q / 2):Nat):Int)=(2:Int) ^ (i+1)*((q / 2:Nat):Int):=by push_cast;rfl
     rw [← e3] at e;have h2:(2:Int) ^ 32=4294967296:=by decide
     rw [h2] at e;have h3:hi=0:=by exact aD5 16 18 hb e2 e
     rw [h3] at e;have h4:2 ^ (i+1)*(q / 2)=0:=by exact N1 16 19 e
     refine BH (Ib.mp h4) (fun h5=>?_) fun h5=>?_
     ·exact absurd h5 (DB (Ic _))
     ·exact z ⟨h3,h5⟩
    rw [if_pos c2,oH n (i+1) (q / 2) _ (by exact N2 16 20 h) (by lia)];have:lF hi (q / 2)=lF hi q:=by
     by_cases z2:hi=0
     ·rw [z2,oK (fun y=>z ⟨z2,y⟩),oK (by exact (Bi (N2 24 12 hq (JR _ _))).symm)]
     ·rw [lP z2,lP z2]
    rw [this];simp
  ·have hq0:q % 2=0:=by exact (Cj hq).elim (fun z6=>N1 24 13 z6) fun z6=>N1 24 14 z6 oV
   have c1:(((q % 2:Nat):Int)*2 ^ i != 0)=false:=by rw [hq0];simp
   rw [c1,if_neg hq];have e3:(2:Int) ^ i*(q:Int)=2 ^ (i+1)*((q / 2:Nat):Int):=by
    rw [Hr,FF];congr 1;lia
   have h4:=oH (hi:=hi) n (i+1) (q / 2) ns (by exact N2 16 20 h) (by lia);rw [e3];have:lF hi (q / 2)=lF hi q:=by
    by_cases z2:hi=0
    ·subst z2
     by_cases z3:q=0
     ·rw [z3]
     ·rw [oK z3,oK (by lia)]
    ·rw [lP z2,lP z2]
   rw [this] at h4;simpa using h4
theorem aBu:∀ left<32,∀ base<28,aBt 32 0 (left*2 ^ base)=((Aa 5).filter fun bit=>left / 2 ^ bit % 2==1).map (base+·):=by decide +kernel
theorem aC6:∀ hi∈([-2,-1,1,2]:List Int),Dg "0x" 16 (hi*2 ^ 32)=mE hi:=by decide +kernel
theorem aBr:∀ left<32,(((Aa 5).filter fun bit=>left / 2 ^ bit % 2==1)=[]↔left=0):=by decide +kernel
theorem qW {hi:Int} (h1:-2≤hi) (h2:hi≤2) (h:hi≠0):hi∈([-2,-1,1,2]:List Int):=by simp;lia
theorem xQ {left base:Nat} {hi:Int} (h1:left<32) (h2:base<28) (h3:-2≤hi) (h4:hi≤2):nL (Aa 32) ((left:Int)*2 ^ base+hi*2 ^ 32) []=eZ left base hi:=by
 have hb:left*2 ^ base<4294967296:=by
  have:(2:Nat) ^ base≤2 ^ 27:=GI (by decide) (by exact N1 16 21 h2);have h5:left*2 ^ base≤31*2 ^ 27:=Nat.mul_le_mul (by exact N1 16 12 h1) this;have:31*2 ^ 27<4294967296:=by decide
  lia
 have r:=oH (hi:=hi) 32 0 (left*2 ^ base) [] rfl (by rw [Jf,HY];exact hb);have e:(2:Int) ^ 0*((left*2 ^ base:Nat):Int)=(left:Int)*2 ^ base:=by simp
 rw [e,← List.range_eq_range',aBu left h1 base h2,An] at r;rw [r];have ef:(((Aa 5).filter fun bit=>left / 2 ^ bit % 2==1).map (fR∘(base+·)))=eE left base:=rfl;rw [ef,Cx];unfold eZ cM
 by_cases z:hi=0
 ·subst z
  have z0:(if (0:Int)≠0 then [mE 0] else [])=[]:=rfl;rw [z0,AZ]
  by_cases z2:left=0
  ·subst z2
   rw [Nat.zero_mul,aA2];rfl
  ·have ne:left*2 ^ base≠0:=fun q=>by
    refine BH (Ib.mp q) (fun q=>?_) fun q=>?_
    ·exact z2 q
    ·exact absurd q (DB (Ic _))
   rw [oK ne,AZ];have:(eE left base).isEmpty=false:=by
    rw [DW];intro q;unfold eE at q;exact z2 ((aBr left h1).mp (GX.mp q))
   rw [this];rfl
 ·rw [if_pos z,lP z,aC6 hi (qW h3 h4 z)]
  have:(eE left base++[mE hi]).isEmpty=false:=by rw [DW];simp
  rw [this];rfl
section
open PySem PySem.W PySem.Calls PyProof.Rows PySem.StrLaws PySem.Builtin.Str
noncomputable def wOk (x:Str):Bool:=decide (x.length≤20)&&!(x.cps.toList.contains 44)
theorem aDY:∀ p<32,wOk (fR p)=true:=by decide +kernel
theorem aDZ:∀ hi∈([-2,-1,1,2]:List Int),wOk (mE hi)=true:=by decide +kernel
theorem yZ {left base:Nat}:(eE left base).length≤5:=by
 unfold eE;rw [Ac];exact BS _ _
theorem qP {left base:Nat} {x:Str} (h:base<28) (m:x∈eE left base):∃ b<5,x=fR (base+b)∧left / 2 ^ b % 2=1:=by
 unfold eE at m;refine cX m ?_;rintro b hb rfl;refine bM (Bf.mp hb) fun h1 h2=>?_;exact ⟨b,fN h1,rfl,beq_iff_eq.mp h2⟩
theorem tY {left base:Nat} {hi:Int} (h2:base<28) (h3:-2≤hi) (h4:hi≤2):(cM left base hi).length≤6∧∀ x∈cM left base hi,wOk x=true:=by
 unfold cM;refine ⟨?_,fun x m=>?_⟩
 ·rw [Af]
  have:=yZ (left:=left) (base:=base);split
  ·simp only [Aq,AQ];lia
  ·simp only [AQ];lia
 ·refine gJ m (fun m=>?_) fun m=>?_
  ·refine ob13 (qP h2 m) ?_;rintro b hb rfl _
   exact aDY _ (by exact N2 5 9 h2 hb)
  ·split at m
   ·rw [bH m]
    exact aDZ _ (qW h3 h4 (by assumption))
   ·cases m
theorem tW {left base:Nat} {hi:Int} (h2:base<28) (h3:-2≤hi) (h4:hi≤2):(eZ left base hi).length≤6∧(∀ x∈eZ left base hi,wOk x=true)∧eZ left base hi≠[]:=by
 unfold eZ;cases e:(cM left base hi).isEmpty with
 | true=>
  rw [if_pos rfl];exact ⟨by decide,fun x m=>by rw [bH m];decide +kernel,by simp⟩
 | false=>
  rw [if_neg (by simp)];refine bM (tY (left:=left) h2 h3 h4) fun a b=>?_;exact ⟨a,b,DW.mp e⟩
theorem wW:∀ (ws:List Str) (acc:Nat),(∀ x∈ws,wOk x=true)→ws.foldl (fun a x=>a+x.length+(", ":Str).length) acc≤acc+22*ws.length
 | [],acc,_=>Am _
 | x::ws,acc,h=>by
  rw [CL,Aq];have h1:=wW ws (acc+x.length+(", ":Str).length) fun y m=>h y (.tail _ m);have h2:=h x (.head _);unfold wOk at h2;rw [AJ] at h2;have h3:=of_decide_eq_true h2.1;have h4:(", ":Str).length=2:=rfl;exact N5 16 22 h1 (of_decide_eq_true h2.1 :) h4
theorem aAY:∀ (ws:List Str),(∀ x∈ws,wOk x=true)→(ws.map (·.length)).sum≤20*ws.length
 | [],_=>Am _
 | x::ws,h=>by
  rw [AC,Co,Aq];have h1:=aAY ws fun y m=>h y (.tail _ m);have h2:=h x (.head _);unfold wOk at h2;rw [AJ] at h2;have h3:=of_decide_eq_true h2.1;exact N3 17 0 h1 (of_decide_eq_true h2.1 :)
theorem xA {ws:List Str}:iI ", " ws=CO ", " ws:=by
 unfold iI;split
 ·rfl
 ·exact StrLaws.glued_eq_join _ _
theorem qY {ws:List Str} (h:∀ x∈ws,wOk x=true) (hl:ws.length≤6):(iI ", " ws).length≤132:=by
 rw [xA];have h1:=StrLaws.join_length_le ", " ws;have h2:=aAY ws h;have h4:(", ":Str).length=2:=rfl;rw [h4] at h1;exact N3 17 1 hl h1 h2
theorem aAC {ws:List Str} (h:∀ x∈ws,wOk x=true) (hl:ws.length≤6):B4 (ws.toArray.foldl (·+·.length+(", ":Str).length) 0)=false:=by
 have h1:=wW ws 0 h;rw [List.foldl_toArray];have:(1000:Nat)≤sizeLine:=bD;unfold B4;simp only [decide_eq_false_iff_not];exact N3 17 2 hl h1 this
theorem mP {left base:Nat} {hi:Int}:iI ", " (eZ left base hi)=bB left base hi:=by
 unfold eZ bB;cases (cM left base hi).isEmpty with
 | true=>rfl
 | false=>rfl
theorem aEt {left base:Nat} {hi:Int} (h1:left<32) (h2:base<28) (h3:-2≤hi) (h4:hi≤2):uA left base hi:=by
 refine gM (tW (left:=left) h2 h3 h4) fun a1 a2 a3=>?_;refine bM (tY (left:=left) h2 h3 h4) fun b1 b2=>?_;refine ⟨xQ h1 h2 h3 h4,fun x m=>?_,Ao (qY a2 a1) (by decide),aAC a2 a1,mP,Ao (qY b2 b1) (by decide),aAC b2 b1⟩;have h2:=a2 x m;unfold wOk at h2;rw [AJ] at h2;have h3:=of_decide_eq_true h2.1;exact N1 17 3 (of_decide_eq_true h2.1 :)
theorem aCg {x:Str} {k:Nat}:At x ", " x.length k↔(x.cps.toList.drop k).take 2=[44,32]:=by
 unfold At;rw [StrLaws.subAt_eq,beq_iff_eq];have e1:(", ":Str).length=2:=rfl;have e2:(", ":Str).cps.toList=[44,32]:=rfl;rw [e1,e2];constructor
 ·exact fun h=>h.2
 ·intro h
  refine ⟨?_,h⟩;have:=congrArg De h;rw [AE,AW] at this;have e3:x.cps.toList.length=x.length:=by simp [JS]
  simp only [Aq,AQ] at this;lia
theorem vT {x:Str} {k:Nat} (h:At x ", " x.length k):x.cps.toList[k]?=some 44:=by
 have:=aCg.mp h;have h2:((x.cps.toList.drop k).take 2)[0]?=some 44:=by rw [this];rfl
 rw [Eg,if_pos (by lia),Bj] at h2;simpa using h2
theorem xO {x:Str}:∀ (ws:List Str) (a f:Nat) (cuts:List Nat),ws≠[]→(∀ w∈ws,44∉w.cps.toList)→x.cps.toList.drop a=(CO ", " ws).cps.toList→ChainG x ", " x.length a cuts f→
  (∀ k,f≤k→¬ At x ", " x.length k)→partsFrom x 2 a cuts=ws
 | [],_,_,_,h,_,_,_,_=>absurd rfl h
 | [w],a,f,cuts,_,hw,hd,hc,hf=>by
  have hd':x.cps.toList.drop a=w.cps.toList:=hd;have no:∀ k,a≤k→¬ At x ", " x.length k:=fun k hk hA=>by
   have h1:=vT hA;have e:x.cps.toList[k]?=w.cps.toList[k - a]?:=by
    rw [← hd',Bj];congr 1;exact N3 17 4 eB (cY (N2 1 10 hk))
   rw [e] at h1;exact hw w (.head _) (AB h1)
  cases cuts with
  | cons c r=>exact absurd hc.2.1 (no c hc.1)
  | nil=>
   show [strSub x a x.length]=[w];congr 1;apply JH;apply FO.mp;rw [strSub_toList,hd'];exact BJ (by
    have:=congrArg De hd';rw [AW] at this;have e3:x.cps.toList.length=x.length:=by simp [JS]
    lia)
 | w::w2::r,a,f,cuts,_,hw,hd,hc,hf=>by
  have hd':x.cps.toList.drop a=w.cps.toList++([44,32]++(CO ", " (w2::r)).cps.toList):=by
   rw [hd];show (w++", "++CO ", " (w2::r)).cps.toList=_;rw [GJ,GJ,E1,E1,AG];rfl
  have d2:x.cps.toList.drop (a+w.cps.toList.length)=[44,32]++(CO ", " (w2::r)).cps.toList:=by
   rw [← GD,hd',Ix]
  have at0:At x ", " x.length (a+w.cps.toList.length):=aCg.mpr (by rw [d2];rfl);have no:∀ k,a≤k→k<a+w.cps.toList.length→¬ At x ", " x.length k:=fun k hk hk2 hA=>by
   have h1:=vT hA;have e:x.cps.toList[k]?=w.cps.toList[k - a]?:=by
    have:x.cps.toList[k]?=(x.cps.toList.drop a)[k - a]?:=by rw [Bj];congr 1;exact N3 17 4 eB (cY (N2 1 10 hk))
    rw [this,hd',Bw (by exact N4 17 5 hk2 (cY (N2 1 10 hk)))]
   rw [e] at h1;exact hw w (.head _) (AB h1)
  cases cuts with
  | nil=>
   have e:f=a:=hc;exact absurd at0 (hf _ (by exact N3 17 6 e))
  | cons c cs=>
   refine eG hc fun c1 c2 c3 c4=>?_;clear hc;have ec:c=a+w.cps.toList.length:=by
    rcases Fy c (a+w.cps.toList.length) with q | q | q
    ·exact absurd c2 (no c c1 q)
    ·exact q
    ·exact absurd at0 (c3 _ (by lia) q)
   have e2:(", ":Str).length=2:=rfl;rw [e2] at c4;have ih:=xO (w2::r) (c+2) f cs (by simp) (fun y m=>hw y (.tail _ m)) (by
    rw [ec,← GD,d2];rfl) c4 hf
   show strSub x a c::partsFrom x 2 (c+2) cs=_;rw [ih];congr 1;apply JH;apply FO.mp;rw [strSub_toList,hd',ec];have:a+w.cps.toList.length - a=w.cps.toList.length:=by exact N3 15 19 eB (cY (N2 15 18))
   rw [this,Iz]
theorem zZ {ws:List Str} (hn:ws≠[]) (hw:∀ w∈ws,44∉w.cps.toList):En (CO ", " ws) ", "=ws:=by
 refine ob12 (StrLaws.occ_tight (CO ", " ws) ", " (by decide)) fun f hG hf=>?_;have key:∀ cuts,ChainG (CO ", " ws) ", " (CO ", " ws).length 0 cuts f→partsFrom (CO ", " ws) 2 0 cuts=ws:=fun cuts h=>xO ws 0 f cuts hn hw rfl h hf;have whole:partsFrom (CO ", " ws) 2 0 []=[CO ", " ws]:=by
  show [strSub _ 0 _]=_;rw [StrLaws.sub_whole]
 unfold En;split
 ·rename_i hc
  rw [CJ,decide_eq_true_eq,decide_eq_true_eq] at hc;have none:∀ k,¬ At (CO ", " ws) ", " (CO ", " ws).length k:=fun k hA=>by
   refine BH hc ?_ ?_ <;> clear hc <;> intro hc
   ·have:=hA.1;exact N3 17 7 this hc
   ·have e:GS (", ":Str)=1:=by decide +kernel
    rw [e] at hc;unfold GS at hc;split at hc
    ·exact N0 17 8 hc
    ·split at hc <;> (first | exact N0 24 18 hc | exact N0 24 19 hc)
  cases e:occurrences (CO ", " ws) ", " 0 (CO ", " ws).length ((CO ", " ws).length+1) with
  | nil=>
   rw [e] at hG;rw [← whole];exact key [] hG
  | cons c r=>
   rw [e] at hG;exact absurd hG.2.1 (none c)
 ·split
  ·rename_i he
   have e0:=HP.mp he;rw [e0] at hG;rw [← whole];exact key [] hG
  ·rw [StrLaws.partsBetween_eq]
   exact key _ hG
theorem aC1:∀ i<32,∀ j<32,fR i=fR j→i=j:=by decide +kernel
theorem aBp:∀ i<32,∀ hi∈([-2,-1,1,2]:List Int),fR i≠mE hi:=by decide +kernel
theorem aBq:∀ i<32,fR i≠"0x0":=by decide +kernel
theorem aDQ {left base:Nat} {hi:Int} (h1:left<32) (h2:base<28) (h3:-2≤hi) (h4:hi≤2):uD left base hi:=by
 refine gM (tW (left:=left) h2 h3 h4) fun a1 a2 a3=>?_;have es:En (bB left base hi) ", "=eZ left base hi:=by
  rw [← mP,xA];refine zZ a3 fun w m=>?_;have h2:=a2 w m;unfold wOk at h2;rw [AJ] at h2;simpa using h2.2
 have el:=qY a2 a1;rw [mP] at el;refine ⟨by exact N1 17 9 el,?_,fun d hd=>?_⟩
 ·have o:=Ij (bB left base hi) ", " 0 (bB left base hi).length ((bB left base hi).length+1)
  unfold partsBetween;rw [Ac,H7,Aq,Ac];exact N3 17 10 el o (AN _ _)
 ·rw [es]
  have hb:4 - d<5:=by exact N1 17 11 (AD _ _)
  generalize 4 - d=b at hb;rw [EW,Cy,beq_iff_eq];unfold eZ;cases e:(cM left base hi).isEmpty with
  | true=>
   rw [if_pos rfl];have e0:=HP.mp e;unfold cM at e0;refine bM (Ga.mp e0) fun e1 _=>?_;constructor
   ·intro m
    exact absurd (bH m) (aBq _ (by exact N2 5 9 h2 hb))
   ·intro q
    unfold eE at e1;have:b∈(Aa 5).filter fun bit=>left / 2 ^ bit % 2==1:=Bf.mpr ⟨Bb.mpr hb,beq_iff_eq.mpr q⟩;rw [GX.mp e1] at this;cases this
  | false=>
   rw [if_neg (by simp)];unfold cM;rw [BM];constructor
   ·rintro (m | m)
    ·refine ob13 (qP h2 m) fun b' hb' e hq=>?_
     have:=aC1 _ (by exact N2 5 9 h2 hb) _ (by exact N2 5 9 h2 hb') e;have:b=b':=by exact N3 17 12 this
     rw [this];exact hq
    ·split at m
     ·rename_i z
      exact absurd (bH m) (aBp _ (by exact N2 5 9 h2 hb) _ (qW h3 h4 z))
     ·cases m
   ·intro q
    exact .inl (AY.mpr ⟨b,Bf.mpr ⟨Bb.mpr hb,beq_iff_eq.mpr q⟩,rfl⟩)
end
noncomputable def nP (m k:Nat):Nat:=m / 64 ^ k % 64+(if 0<k then 64 else 0)
theorem aCM {m k:Nat}:nP m k<128:=by
 unfold nP;split
 ·exact Nat.add_lt_add_right oV 64
 ·exact C3 oV (by decide)
theorem aDq {m k:Nat}:sG (m:Int) (k:Int)=((nP m k:Nat):Int):=by
 unfold sG nP;have e:(64:Int) ^ ((k:Int)).toNat=((64 ^ k:Nat):Int):=by rw [Ap];push_cast;rfl
 rw [e,fL,show (64:Int)=((64:Nat):Int) from rfl,dT]
 by_cases h:0<k
 ·have h':(0:Int)<(k:Int):=by exact N1 17 13 h
  simp [h,h']
 ·have h':¬ (0:Int)<(k:Int):=by exact N1 17 14 h
  simp [h,h']
theorem aDs {m k:Nat}:aDr (m:Int) (k:Int)=(k==0 || decide (64 ^ k≤m)):=by
 unfold aDr;have e:(64:Int) ^ ((k:Int)).toNat=((64 ^ k:Nat):Int):=by rw [Ap];push_cast;rfl
 rw [e];congr 1
 ·rw [EW,beq_iff_eq,beq_iff_eq];lia
 ·rw [EW,decide_eq_true_iff,decide_eq_true_iff];lia
noncomputable def keep (m k:Nat):Bool:=k==0 || decide (64 ^ k≤m)
theorem aDu {m:Nat}:lV (m:Int)=(([5,4,3,2,1,0]:List Nat).filter (keep m)).map fun k=>((nP m k:Nat):Int):=by
 unfold lV;have e:(([5,4,3,2,1,0]:List Int))=([5,4,3,2,1,0]:List Nat).map fun (k:Nat)=>(k:Int):=rfl;have f:(aDr (m:Int))∘(fun (k:Nat)=>(k:Int))=keep m:=by funext k;exact aDs
 rw [e,Eb,An,f];apply Av;intro k _;exact aDq
theorem tN (n:Nat):(Aa (n+1)).reverse=n::(Aa n).reverse:=by rw [AT,List.reverse_append];rfl
theorem xB {m:Nat}:∀ n:Nat,∃ K,(m<64 ^ (K+1)∨K=n)∧(Aa (n+1)).reverse.filter (keep m)=(Aa (K+1)).reverse
 | 0=>⟨0,.inr rfl,rfl⟩
 | n+1=>by
  by_cases h:64 ^ (n+1)≤m
  ·refine ⟨n+1,.inr rfl,Az.mpr fun k hk=>?_⟩
   have:=Bb.mp (HR.mp hk);exact Bool.or_eq_true_iff.mpr (.inr (decide_eq_true (Ao (GI (by decide) (Nat.le_of_lt_succ this)) h)))
  ·have f:keep m (n+1)=false:=decide_eq_false h
   rw [tN (n+1),List.filter_cons_of_neg (by rw [f];decide)];refine ob12 (xB n) fun K c e=>⟨K,c.elim .inl fun q=>.inl (q▸Nat.not_le.mp h),e⟩
theorem rD {m:Nat} (h:m<64 ^ 6):∃ K,m<64 ^ (K+1)∧lV (m:Int)=((nP m K:Nat):Int)::(Aa K).reverse.map fun k=>((nP m k:Nat):Int):=by
 rw [aDu];refine ob12 (xB (m:=m) 5) fun K c e=>⟨K,c.elim id fun q=>q▸h,?_⟩;show ((Aa (5+1)).reverse.filter (keep m)).map _=_;rw [e,tN];rfl
theorem pM {L:List Int} {i:Nat}:(byteArr L)[i]?=(L[i]?).map fun n=>n.toNat.toUInt8:=by
 unfold byteArr;simp
theorem vW {n:Nat} (h:n<256):(((n:Int).toNat.toUInt8).toNat:Int)=(n:Int):=by
 rw [Ap];have:n.toUInt8.toNat=n:=by simp [Nat.toUInt8,UInt8.toNat_ofNat'];lia
 rw [this]
theorem aFo {n:Nat}:Bk (n:Int) 63=((n % 64:Nat):Int):=by rw [bitAnd_m6];lia
theorem aFp {n:Nat}:Bk (n:Int) 64=((n / 64 % 2*64:Nat):Int):=by
 have:=kbt_bit (n:Int) 6;have e:(2:Int) ^ 6=64:=by decide
 rw [e] at this;rw [this];lia
theorem aDw {v d:Nat} (h:d<64):FD ((v:Int)*2 ^ (6:Int).toNat) ((d:Nat):Int)=((64*v+d:Nat):Int):=by
 have e:(v:Int)*2 ^ (6:Int).toNat=((64*v:Nat):Int):=by
  have:(2:Int) ^ (6:Int).toNat=64:=by decide
  rw [this];exact N1 18 7
 rw [e,bitOr_and,bitAnd_pp (BW _) (BW _),Ap,Ap];have z:(64*v)&&& d=0:=by
  have h1:(64*v)&&& d≤d:=Nat.and_le_right;have h2:((64*v)&&& d) % 2 ^ 6=(64*v) % 2 ^ 6&&& d % 2 ^ 6:=Nat.and_mod_two_pow;rw [show (64*v) % 2 ^ 6=0 from Nat.mul_mod_right 64 v,Nat.zero_and,HT (Bp h1 h)] at h2;exact h2
 rw [z];exact N2 18 8
theorem aAs {m k:Nat}:nP m k % 64=m / 64 ^ k % 64:=by
 unfold nP;split
 ·exact (Hu _ _).trans (Jx _ _)
 ·exact Jx _ _
theorem aAr {m k:Nat}:nP m k / 64 % 2=if 0<k then 1 else 0:=by
 unfold nP
 by_cases hk:0<k
 ·rw [if_pos hk,if_pos hk,Nat.add_div_right _ (by decide),CU oV]
 ·rw [if_neg hk,if_neg hk,Gb,CU oV]
theorem oP {L:List Int} {m:Nat} (hm:m<64 ^ 6):∀ (k i c:Nat),(∀ j<k,L[i+j]?=some ((nP m (k - 1 - j):Nat):Int))→c / 64 % 2=(if 0<k then 1 else 0)→
  PV (byteArr L) i (c:Int) ((m / 64 ^ k:Nat):Int) (some ((m:Int),i+k))
 | 0,i,c,_,hc=>by
  rw [Jf,Nat.div_one];refine .stop ?_;rw [aFp,hc];rfl
 | k+1,i,c,h,hc=>by
  have h0:=h 0 (by lia);rw [Gb,Hc,Nat.sub_zero] at h0;have hb:((((nP m k:Nat):Int).toNat.toUInt8).toNat:Int)=((nP m k:Nat):Int):=vW (Nat.lt_trans aCM (by decide));refine .more (c':=(((nP m k:Nat):Int).toNat.toUInt8)) ?_ ?_ ?_ ?_
  ·rw [aFp,hc,if_pos (by lia)];decide
  ·have:m / 64 ^ (k+1)≤m:=H9 _ _
   have h2:(64:Nat) ^ 6<2 ^ 64:=by decide
   show m / 64 ^ (k+1)<2 ^ 64;exact N2 18 9 hm this
  ·rw [pM,h0];rfl
  ·rw [hb,aFo,aDw (by exact N1 18 10 oV),aAs]
   have e:64*(m / 64 ^ (k+1))+m / 64 ^ k % 64=m / 64 ^ k:=by
    rw [Hx,← Nat.div_div_eq_div_mul];exact E0 _ _
   rw [e];have ih:=oP hm k (i+1) (nP m k) (fun j hj=>by
    have:=h (j+1) (by lia);rw [show i+1+j=i+(j+1) by exact N2 18 11,this];congr 3;exact N6 18 15 eB eB eB eB (cY (N3 18 12 hj eB)) (cY (N1 18 13)) (cY (N3 0 21 hj eB)) (cY (N2 18 14 hj))) aAr
   rw [show i+(k+1)=i+1+k by exact N2 18 16];exact ih
noncomputable def aFP (f:Nat):List Int→List Int
 | []=>[]
 | c::r=>((f:Int)+c)::r
theorem aAv {α:Type} {L a b:List α} {i j:Nat} (h:L.drop i=a++b) (hj:j<a.length):L[i+j]?=a[j]?:=by
 rw [← Bj,h,Bw hj]
theorem aGZ {f d:Nat} (hf:f=0∨f=128):(f+d) / 64 % 2=d / 64 % 2:=by
 rcases hf with rfl | rfl
 ·rw [DU]
 ·rw [CG,show 128=2*64 from rfl,Nat.add_mul_div_right _ _ (by decide),Hu]
theorem aG0 {f d:Nat} (hf:f=0∨f=128):(f+d) % 64=d % 64:=by
 rcases hf with rfl | rfl
 ·rw [DU]
 ·rw [CG,show 128=2*64 from rfl,Nat.add_mul_mod_self_right]
theorem xI {L rest r:List Int} {i m f:Nat} (hm:m<64 ^ 6) (hf:f=0∨f=128) (h:L.drop i=aFP f (lV (m:Int))++rest) (k:∀ i',L.drop i'=rest→Pz (byteArr L) i' r):Pz (byteArr L) i ((m:Int)::r):=by
 refine ob12 (rD hm) fun K hK e=>?_;rw [e] at h;have hb:aFP f (((nP m K:Nat):Int)::(Aa K).reverse.map fun k=>((nP m k:Nat):Int))=((f+nP m K:Nat):Int)::(Aa K).reverse.map fun k=>((nP m k:Nat):Int):=by
  show ((f:Int)+((nP m K:Nat):Int))::_=_;congr 1
 rw [hb] at h;have dl:=aCM (m:=m) (k:=K);have h0:L[i]?=some ((f+nP m K:Nat):Int):=aAv (j:=0) h (by simp);have hc:((((f+nP m K:Nat):Int).toNat.toUInt8).toNat:Int)=((f+nP m K:Nat):Int):=vW (by lia);refine .num (v:=(m:Int)) (i':=i+1+K) (.first (c:=(((f+nP m K:Nat):Int).toNat.toUInt8)) (by rw [pM,h0];rfl) ?_) (k _ ?_)
 ·rw [hc,aFo]
  have e1:(f+nP m K) % 64=m / 64 ^ K:=by
   have h1:=aAs (m:=m) (k:=K);have h2:m / 64 ^ K<64:=by
    rw [Nat.div_lt_iff_lt_mul (Nat.pow_pos (by decide)),Nat.mul_comm];rw [Hx] at hK;exact hK
   generalize m / 64 ^ K=q at h1 h2 ⊢;rw [aG0 hf,h1,HT h2]
  rw [e1];refine oP hm K (i+1) _ (fun j hj=>?_) ?_
  ·have:=aAv (j:=j+1) h (by rw [Aq,Ac,GW,Al];lia)
   rw [show i+1+j=i+(j+1) by exact N2 18 11,this,Ek,Ar,List.getElem?_reverse (by rw [Al];exact hj),Al,B7 (by exact N3 0 20 (AD _ _) (cY (N2 18 14 hj)))];rfl
  ·have:=aAr (m:=m) (k:=K)
   rw [aGZ hf];exact this
 ·have e2:L.drop (i+1+K)=(L.drop i).drop (1+K):=by rw [GD];congr 1;exact N2 18 17
  rw [e2,h];have:1+K=(((f+nP m K:Nat):Int)::(Aa K).reverse.map fun k=>((nP m k:Nat):Int)).length:=by
   rw [Aq,Ac,GW,Al];exact N1 18 18
  rw [this,Ix]
theorem tI {L rest r:List Int}:∀ (ns:List Nat) (i:Nat),(∀ m∈ns,m<64 ^ 6)→L.drop i=(ns.map fun (m:Nat)=>(m:Int)).flatMap lV++rest→(∀ i',L.drop i'=rest→Pz (byteArr L) i' r)→Pz (byteArr L) i ((ns.map fun (m:Nat)=>(m:Int))++r)
 | [],i,_,h,k=>k i h
 | m::ns,i,hm,h,k=>by
  rw [AC,AL,AG] at h;refine xI (f:=0) (hm m (.head _)) (.inl rfl) (rest:=(ns.map fun (m:Nat)=>(m:Int)).flatMap lV++rest) ?_ fun i' h'=>tI ns i' (fun y q=>hm y (.tail _ q)) h' k;rw [h];congr 1;refine ob12 (rD (hm m (.head _))) fun K _ e=>?_;rw [e];show _::_=(((0:Nat):Int)+_)::_;congr 1;exact N1 18 19
theorem aDB {m:Nat} {ns:List Nat} (hm:m<64 ^ 6):vK ((m::ns).map fun (m:Nat)=>(m:Int))=aFP 128 (lV (m:Int))++(ns.map fun (m:Nat)=>(m:Int)).flatMap lV:=by
 unfold vK mT;rw [AC,AL];refine ob12 (rD hm) fun K _ e=>?_;rw [e];rfl
theorem tQ {L rest r:List Int}:∀ (rows:List (List Nat)) (i:Nat),(∀ row∈rows,row≠[]∧∀ m∈row,m<64 ^ 6)→L.drop i=cL (rows.map (·.map fun (m:Nat)=>(m:Int)))++rest→(∀ i',L.drop i'=rest→Pz (byteArr L) i' r)→
  Pz (byteArr L) i ((rows.map (·.map fun (m:Nat)=>(m:Int))).flatten++r)
 | [],i,_,h,k=>k i h
 | row::rows,i,hr,h,k=>by
  refine bM (hr row (.head _)) fun h1 h2=>?_;cases row with
  | nil=>exact absurd rfl h1
  | cons m ns=>
   unfold cL at h;rw [AC,AL,aDB (h2 m (.head _)),AG,AG] at h;rw [AC,BU,AG,AC];refine xI (h2 m (.head _)) (.inr rfl) h fun i' h'=>?_;exact tI ns i' (fun y q=>h2 y (.tail _ q)) h' fun i2 h3=>tQ rows i2 (fun y q=>hr y (.tail _ q)) h3 k
theorem aB0 {L:List Int} {torn i:Nat} (ht:torn≤2) (h:L.drop i=dY torn):Pz (byteArr L) i []:=by
 have end_:∀ j,(dY torn).length≤j→(byteArr L)[i+j]?=none:=fun j hj=>by
  rw [pM,← Bj,h,BB hj];rfl
 have at_:∀ j c,(dY torn)[j]?=some c→(byteArr L)[i+j]?=some c.toNat.toUInt8:=fun j c hj=>by
  rw [pM,← Bj,h,hj];rfl
 refine .fin ?_;have:torn=0∨torn=1∨torn=2:=by lia
 rcases this with rfl | rfl | rfl
 ·exact .fin (end_ 0 (by decide)) rfl
 ·refine .first (at_ 0 64 rfl) (.fin (by decide +kernel) (by decide +kernel) (end_ 1 (by decide)))
 ·refine .first (at_ 0 64 rfl) (.more (by decide +kernel) (by decide +kernel) (at_ 1 65 rfl) (.fin (by decide +kernel) (by decide +kernel) (end_ 2 (by decide))))
section
variable {V:Nat→Nat}
noncomputable def aDD (V:Nat→Nat):List (List Nat):=(Aa (aB V)).map fun k=>[1+V k % 70,V k % 100,V k / 100]
theorem qH:bS V=(aDD V).map (·.map fun (m:Nat)=>(m:Int)):=by
 unfold bS aDD;rw [An];rfl
theorem aEY (hV:∀ k<6,V k<1000000000000):Pz (byteArr (cL (bS V)++dY (mI V))) 0 (cA V):=by
 have c26:=fB (V:=V);have key:=tQ (L:=cL (bS V)++dY (mI V)) (rest:=dY (mI V)) (r:=[]) (aDD V) 0 (fun row m=>by
  refine cX m ?_;rintro k hk rfl;have hk:=fN hk;have:=hV k (by exact N2 18 20 c26.2 hk);refine ⟨by simp,fun x hx=>?_⟩;have e:(64:Nat) ^ 6=68719476736:=by decide
  rw [e];simp only [AP,FU,or_false] at hx;rcases hx with rfl | rfl | rfl <;> (first | exact N1 24 20 oV | exact N1 24 21 oV | exact N2 24 22 this dv1)) (by rw [← qH];rfl) fun i' h=>aB0 (by unfold mI;exact N1 11 9 oV) h
 rw [← qH,AZ] at key;exact key
theorem aEG:(cA V).length≤(cL (bS V)).length:=by
 unfold cA;generalize bS V=d
 induction d with
 | nil=>exact Am _
 | cons row d ih=>
  unfold cL at ih ⊢;rw [BU,AL,Af,Af,xU];have:row.length≤(mT row).length:=by
   unfold mT
   induction row with
   | nil=>exact Am _
   | cons a r ih2=>
    rw [AL,Af,Aq];have:=D3.mpr (aAN (n:=a));exact N3 18 21 ih2 this
  exact N4 18 22 ih this
end
noncomputable def SS (cs:List Int) (ts:Nat):Nat→Int
 | 0=>0
 | M+1=>SS cs ts M+((M / ts:Nat):Int)*(cs[M]?.getD 0)
theorem uC {cs:List Int} {ts:Nat}:∀ M,M≤ts→SS cs ts M=0
 | 0,_=>rfl
 | M+1,h=>by
  unfold SS;rw [uC M (by lia),CU (by lia)];show (0:Int)+0*_=0;exact cO 13 15
theorem aAH {cs:List Int} {ts:Nat}:∀ j,pF cs ts j=SS cs ts (ts+j)
 | 0=>by rw [Gb,uC ts (Am _)];rfl
 | j+1=>by
  have e:pF cs ts (j+1)=pF cs ts j+(((ts+j) / ts:Nat):Int)*(cs[ts+j]?.getD 0):=by
   unfold pF;rw [AT,Dd];rfl
  rw [e,aAH j];rfl
theorem aC7 {cs:List Int} {ts:Nat}:pF cs ts (cs.length - ts)=SS cs ts cs.length:=by
 rw [aAH]
 by_cases h:ts≤cs.length
 ·congr 1;exact N3 19 0 eB (cY (N2 1 10 h))
 ·rw [uC _ (by exact N2 25 0 (sb0 (N2 19 1 h))),uC _ (by exact N2 19 1 h)]
theorem aB9 {cs:List Int} {ts:Nat}:∀ d,SS cs ts (cs.length+d)=SS cs ts cs.length
 | 0=>rfl
 | d+1=>by
  show SS cs ts (cs.length+d)+_*(cs[cs.length+d]?.getD 0)=_;rw [aB9 d,BB (by lia),Dt,Int.mul_zero,Er]
theorem aD6 {cs:List Int} {ts M:Nat} (h:cs.length≤M):SS cs ts M=SS cs ts cs.length:=by
 have:=aB9 (cs:=cs) (ts:=ts) (M - cs.length);rw [show cs.length+(M - cs.length)=M by exact N3 19 0 eB (cY (N2 1 10 h))] at this;exact this
theorem pS {st:fS}:st.tab.cs.length=(if st.cs.length≤st.b then st.b+1 else st.cs.length):=by
 unfold fS.tab;dsimp only;rw [EZ];split
 ·rw [Af,Cb];exact N3 25 1 eB (cY (N2 1 10 (by assumption)))
 ·rfl
theorem aAP {cs:List Int} {b i:Nat}:((if cs.length≤b then cs++As (b - cs.length+1) 0 else cs)[i]?).getD 0=cs[i]?.getD 0:=by
 split
 ·by_cases h:i<cs.length
  ·rw [Bw h]
  ·rw [BF (by lia),BB (by lia:cs.length≤i),List.getElem?_replicate]
   split <;> rfl
 ·rfl
theorem aFc {st:fS} {i:Nat}:(st.tab.cs[i]?).getD 0=st.cs[i]?.getD 0+if i=st.b then 1 else 0:=by
 have l:=pS (st:=st);unfold fS.tab at l ⊢;dsimp only at l ⊢;rw [EZ] at l;rw [List.getElem?_set]
 by_cases h:st.b=i
 ·subst h
  rw [if_pos rfl,if_pos (by rw [l];split <;> first | exact N1 7 22 | lia),CV,aAP,if_pos rfl]
 ·rw [if_neg h,aAP,if_neg (fun e=>h e.symm),Er]
theorem aCa {st:fS} {ts:Nat}:∀ M,SS st.tab.cs ts M=SS st.cs ts M+if st.b<M then ((st.b / ts:Nat):Int) else 0
 | 0=>by rw [if_neg (by exact N1 19 2)];rfl
 | M+1=>by
  unfold SS;rw [aCa M,aFc,CS]
  by_cases h:M=st.b
  ·subst h
   rw [if_neg (by exact N1 19 3),if_pos rfl,if_pos (by exact N1 7 22)];exact aA6 19 4
  ·rw [if_neg h]
   by_cases h2:st.b<M
   ·rw [if_pos h2,if_pos (by lia)];exact yI 19 5
   ·rw [if_neg h2,if_neg (by exact (Cj h).elim (fun z2=>N2 25 2 z2) fun z2=>N2 25 3 h2 z2)];exact aA6 19 6
noncomputable def iA (st:fS) (ts:Nat):Int:=(ts:Int)*(SS st.cs ts st.cs.length+st.nt)
noncomputable def lvW (st:fS) (ts:Nat):Int:=(st.b:Int)+iA st ts
noncomputable def nQ (st:fS):fS:=⟨st.n+1,st.nt,st.cs,st.b+1⟩
theorem lI {st:fS} {ts:Nat}:iA (nQ st) ts=iA st ts:=rfl
theorem aCn {st:fS} {ts:Nat}:iA st.tab ts=iA st ts+(ts:Int)*(((st.b / ts:Nat):Int)+1):=by
 have l:=pS (st:=st);have e1:SS st.tab.cs ts st.tab.cs.length=SS st.cs ts st.cs.length+((st.b / ts:Nat):Int):=by
  rw [aCa,if_pos (by rw [l];split <;> first | exact N1 7 22 | lia),aD6 (by rw [l];split <;> lia)]
 unfold iA;have e2:st.tab.nt=st.nt+1:=rfl;rw [e1,e2,← CS];congr 1;exact aA6 19 7
noncomputable def kI (raw:Str) (st:fS):cU:=⟨raw,st.n,st.nt,st.cs,st.b⟩
theorem pO {raw:Str} {st:fS} {ts:Nat}:(kI raw st).level ts=lvW st ts:=by
 show (st.b:Int)+(ts:Int)*(pF st.cs ts (st.cs.length - ts)+st.nt)=_;rw [aC7];rfl
noncomputable def kC (x y:fS):Bool:=cU.less (kI "" x) (kI "" y)
theorem aBA {x y:fS} (hn:x.n<y.n) (hnt:x.nt≤y.nt) (hl:∀ ts,2≤ts→lvW x ts<lvW y ts):kC x y=true:=by
 unfold kC cU.less;rw [if_neg (by show ¬ decide (y.n≤x.n)=true;rw [decide_eq_true_iff];exact gK 19 8 hn)];split
 ·exact decide_eq_true hnt
 ·refine A8.mpr fun k _=>?_
  rw [pO,pO,decide_eq_false (by have:=hl (k+2) (by lia);exact gK 19 8 this)];rfl
theorem aDg {x y:fS} (h:y.n≤x.n):kC x y=false:=by
 unfold kC cU.less;rw [if_pos (by show decide (y.n≤x.n)=true;exact decide_eq_true h)]
theorem vA {x y:fS} (h:x.cs.length≤1→y.cs.length≤1→¬ x.nt≤y.nt) {ts:Nat} (h2:2≤ts) (hr:ts≤x.cs.length∨ts≤y.cs.length∨ts≤y.b+1) (hv:lvW y ts≤lvW x ts):kC x y=false:=by
 unfold kC cU.less;split
 ·rfl
 ·split
  ·rename_i q
   rw [AJ] at q;have q1:=of_decide_eq_true q.1;have q2:=of_decide_eq_true q.2;have q1:(x.cs.length:Int)≤1:=q1;have q2:(y.cs.length:Int)≤1:=q2;exact decide_eq_false (h (by exact N1 19 9 q1) (by exact N1 19 9 q2))
  ·rw [List.all_eq_false]
   refine ⟨ts - 2,Bb.mpr ?_,?_⟩
   ·have e:(cU.top (kI "" x) (kI "" y))=(if (kI "" y).run > (kI "" x).run then (kI "" y).run else (kI "" x).run)+1:=rfl
    have rx:(x.cs.length:Int) - 1≤(kI "" x).run:=mx1;have ry:(y.cs.length:Int) - 1≤(kI "" y).run:=mx1;have ry2:(y.b:Int)≤(kI "" y).run:=mx2;have:(ts:Int)≤cU.top (kI "" x) (kI "" y):=by
     rw [e];rcases hr with r | r | r
     ·exact Cs (Fd (Cs (GA (CQ.mpr r) 1) (Cs rx mx1))) (BV _)
     ·exact Cs (Fd (Cs (GA (CQ.mpr r) 1) (Cs ry mx2))) (BV _)
     ·exact Cs (CQ.mpr r) (Gx (Cs ry2 mx2) 1)
    clear rx ry ry2 e hr hv h;generalize cU.top (kI "" x) (kI "" y)=t at *;exact aGR 25 4 this eB (BG _) (cY (N1 19 10 h2))
   ·rw [pO,pO,show ts - 2+2=ts by exact N2 19 11 eB (cY (N1 19 10 h2)),decide_eq_true hv];decide
noncomputable def vO (k:Nat) (b:Bool) (st:fS):fS:=eA (iE k b).cps.toList st
theorem aCq {st:fS}:vO 0 false st=st.tab:=by kernel_rfl
theorem aCr {st:fS}:vO 0 true st=nQ (nQ st):=by kernel_rfl
theorem aCs {st:fS}:vO 1 false st=nQ st:=by kernel_rfl
theorem aCt {st:fS}:vO 1 true st=st.tab:=by kernel_rfl
theorem aCu {st:fS}:vO 2 false st=(nQ (nQ (nQ st))).tab:=by kernel_rfl
theorem aCv {st:fS}:vO 2 true st=nQ (nQ (nQ (nQ st)).tab):=by kernel_rfl
theorem aCw {st:fS}:vO 3 false st=st.tab:=by kernel_rfl
theorem aCx {st:fS}:vO 3 true st=(nQ st).tab:=by kernel_rfl
theorem oC {st:fS} {ts:Nat}:lvW st.tab ts=iA st ts+(ts:Int)*(((st.b / ts:Nat):Int)+1):=by
 show ((0:Nat):Int)+iA st.tab ts=_;rw [aCn];exact gK 19 12
theorem xG {st:fS} {ts:Nat}:lvW (nQ st) ts=lvW st ts+1:=by
 show ((st.b+1:Nat):Int)+iA st ts=(st.b:Int)+iA st ts+1;exact nS 19 13
theorem jG {st:fS} {ts:Nat} (h:1≤ts):lvW st ts<lvW st.tab ts:=by
 rw [oC];show (st.b:Int)+iA st ts<_;have h1:=E0 st.b ts;have h2:=Gc st.b (show 0<ts by lia);have h3:(ts:Int)*(((st.b / ts:Nat):Int)+1)=((ts*(st.b / ts):Nat):Int)+ts:=by rw [CS];push_cast;exact nS 19 14
 rw [h3];exact aGR 19 15 h1 h2
theorem aGY {k:Nat} {b:Bool} {st:fS} (h:k<4):st.n<(vO k b st).n∧st.nt≤(vO k b st).nt∧∀ ts,2≤ts→lvW st ts<lvW (vO k b st) ts:=by
 have k4:k=0∨k=1∨k=2∨k=3:=by lia
 have sp:∀ (x:fS) ts,lvW x ts<lvW (nQ x) ts:=fun x ts=>by rw [xG];exact cO 19 16
 rcases k4 with rfl | rfl | rfl | rfl
 ·cases b with
  | false=>rw [aCq];exact ⟨by show _<st.n+1;exact cO 19 16,by show _≤st.nt+1;exact cO 19 17,fun ts h=>jG (by lia)⟩
  | true=>rw [aCr];exact ⟨by show _<st.n+1+1;exact cO 19 18,BV _,fun ts h=>CP (sp _ _) (sp _ _)⟩
 ·cases b with
  | false=>rw [aCs];exact ⟨by show _<st.n+1;exact cO 19 16,BV _,fun ts h=>sp _ _⟩
  | true=>rw [aCt];exact ⟨by show _<st.n+1;exact cO 19 16,by show _≤st.nt+1;exact cO 19 17,fun ts h=>jG (by lia)⟩
 ·cases b with
  | false=>rw [aCu];exact ⟨by show _<st.n+1+1+1+1;exact cO 19 19,by show _≤st.nt+1;exact cO 19 17,fun ts h=>CP (CP (CP (sp _ _) (sp _ _)) (sp _ _)) (jG (by lia))⟩
  | true=>rw [aCv];exact ⟨by show _<st.n+1+1+1+1+1;exact cO 19 20,by show _≤st.nt+1;exact cO 19 17,fun ts h=>CP (CP (CP (CP (sp _ _) (sp _ _)) (jG (by lia))) (sp _ _)) (sp _ _)⟩
 ·cases b with
  | false=>rw [aCw];exact ⟨by show _<st.n+1;exact cO 19 16,by show _≤st.nt+1;exact cO 19 17,fun ts h=>jG (by lia)⟩
  | true=>rw [aCx];exact ⟨by show _<st.n+1+1;exact cO 19 18,by show _≤st.nt+1;exact cO 19 17,fun ts h=>CP (sp _ _) (jG (by lia))⟩
theorem aEd {k:Nat} {b:Bool} {st:fS} (h:k<4):kC st (vO k b st)=true:=by
 refine gM (aGY (b:=b) (st:=st) h) fun a b c=>?_;exact aBA a b c
theorem aEc {k:Nat} {st y:fS} (h:k<4) (hy:(vO k false st).n<y.n):kC y (vO k true st)=false:=by
 refine aDg ?_;have k4:k=0∨k=1∨k=2∨k=3:=by lia
 rcases k4 with rfl | rfl | rfl | rfl
 ·rw [aCq] at hy;rw [aCr]
  have hy:st.n+1<y.n:=hy;show st.n+1+1≤y.n;lia
 ·rw [aCs] at hy;rw [aCt]
  have hy:st.n+1<y.n:=hy;show st.n+1≤y.n;exact gK 19 21 hy
 ·rw [aCu] at hy;rw [aCv]
  have hy:st.n+1+1+1+1<y.n:=hy;show st.n+1+1+1+1+1≤y.n;lia
 ·rw [aCw] at hy;rw [aCx]
  have hy:st.n+1<y.n:=hy;show st.n+1+1≤y.n;lia
theorem aCy {k:Nat} {st:fS} (h:k<4):kC (vO k false st) (vO k true st)=false:=by
 have k4:k=0∨k=1∨k=2∨k=3:=by lia
 rcases k4 with rfl | rfl | rfl | rfl
 ·rw [aCq,aCr]
  refine vA (ts:=st.b+2) (fun _ _=>by show ¬ st.nt+1≤st.nt;exact cO 19 22) (by lia) (.inr (.inr (by show _≤st.b+1+1+1;lia))) ?_;rw [oC,xG,xG,CU (by exact N1 20 0)];show (st.b:Int)+iA st (st.b+2)+1+1≤iA st (st.b+2)+((st.b+2:Nat):Int)*(0+1);lia
 ·rw [aCs,aCt]
  exact aDg (by show st.n+1≤st.n+1;exact cO 20 1)
 ·rw [aCu,aCv]
  have l:=pS (st:=nQ (nQ (nQ st)));have e:(nQ (nQ (nQ st))).b=st.b+3:=rfl;rw [e] at l;have l3:st.b+3≤(nQ (nQ (nQ st))).tab.cs.length - 1:=by rw [l];split <;> (first | exact N2 25 5 eB | exact N3 25 6 (by assumption) eB)
  refine vA (ts:=st.b+3) (fun q _=>by exact aHR 20 2 l3 q (AD _ _)) (by lia) (.inl (by exact N3 20 3 l3 (AD _ _))) ?_;rw [xG,xG,oC,oC,lI,lI,lI,lI,lI];have e2:(nQ (nQ st)).b=st.b+2:=rfl;rw [e,e2,Nat.div_self (by lia),CU (by exact N1 20 4)];show iA st (st.b+3)+((st.b+3:Nat):Int)*(0+1)+1+1≤iA st (st.b+3)+((st.b+3:Nat):Int)*(1+1);lia
 ·rw [aCw,aCx]
  have l:=pS (st:=nQ st);have e:(nQ st).b=st.b+1:=rfl;rw [e] at l;have l3:st.b+2≤(nQ st).tab.cs.length:=by rw [l];split <;> first | exact N2 25 7 (by assumption) | lia
  refine vA (ts:=st.b+2) (fun _ q=>by exact yI 20 5 l3 q) (by lia) (.inr (.inl l3)) ?_;rw [oC,oC,lI,e,CU (by exact N1 20 6),CU (by exact N1 20 0)];exact BV _
noncomputable def jZ (s:Str):Bool:=s.cps.toList.all fun c=>c==32 || c==9
theorem uI {a b:Str}:(a++b).cps.toList=a.cps.toList++b.cps.toList:=by
 rw [GJ,E1]
theorem aA9 {a b:Str} (ha:jZ a=true) (hb:jZ b=true):jZ (a++b)=true:=by
 unfold jZ at *;rw [uI,H6,ha,hb];rfl
theorem aHV:((⟨#[32]⟩:Str)==" ")=true:=by decide +kernel
theorem is9:((⟨#[9]⟩:Str)==" ")=false:=by decide +kernel
theorem aHW:((⟨#[9]⟩:Str)=="\t")=true:=by decide +kernel
theorem lS {t:List Nat}:∀ (l:List Nat) (st:fS),(l.all fun c=>c==32 || c==9)=true→eA (l++t) st=eA t (eA l st)
 | [],st,_=>rfl
 | c::l,st,h=>by
  rw [FH,AJ,CJ,beq_iff_eq,beq_iff_eq] at h;rw [List.cons_append,fA,fA];refine BH h.1 (fun e=>?_) fun e=>?_
  ·subst e
   simp only [aHV,if_true];exact lS l _ h.2
  ·subst e
   simp only [is9,aHW,Cz,if_false,if_true];exact lS l _ h.2
theorem aB2 {st:fS}:eA ("?\t ":Str).cps.toList st=st:=by kernel_rfl
noncomputable def st0:fS:=⟨0,0,[],0⟩
noncomputable def stS (s:Str):fS:=eA s.cps.toList st0
theorem aES {s:Str} (h:jZ s=true):cU.of (s++"?\t ")=kI (s++"?\t ") (stS s):=by
 have e:eA (s++("?\t ":Str)).cps.toList ⟨0,0,[],0⟩=stS s:=by
  rw [uI,lS _ _ h,aB2];rfl
 unfold cU.of;rw [e];rfl
theorem aE7 {a b:Str} (h:jZ a=true):stS (a++b)=eA b.cps.toList (stS a):=by
 unfold stS;rw [uI,lS _ _ h]
theorem yM {k:Nat} {b:Bool} (h:k<4):jZ (iE k b)=true:=by
 have:∀ k<4,∀ b:Bool,jZ (iE k b)=true:=by decide +kernel
 exact this k h b
theorem vV {seed:Nat}:jZ (nJ seed)=true:=by
 have:∀ j<3,jZ (DV " \t" none (some ((j:Nat):Int)))=true:=by decide +kernel
 exact this (seed % 3) (by exact N1 20 7 oV)
section
variable {seed:Nat} {rows:List aT}
theorem aBD {m:List (aT×Str)} {x:aT×Str} {p:aT} (h:p∈m.map (·.1)):dA (m++[x]) p=dA m p:=by
 unfold dA;rw [Ey];refine cX h fun q hq e=>?_;cases f:m.find? fun q=>q.1=p with
 | none=>exact absurd (DA.mp f q hq) (by simp [e])
 | some y=>rfl
theorem aBC {m:List (aT×Str)} {s:Str} {p:aT} (h:p∉m.map (·.1)):dA (m++[(p,s)]) p=s:=by
 unfold dA;rw [Ey,DA.mpr fun q hq=>by
  intro e;exact h (AY.mpr ⟨q,hq,of_decide_eq_true e⟩)]
 simp
theorem tE (R:dW rows) {i:Nat} {p:aT}:∀ {d:Nat},i+d≤rows.length - 1→p∈rows.take (i+1)→dA (dK seed rows (i+d)) p=dA (dK seed rows i) p
 | 0,_,_=>rfl
 | d+1,h,hp=>by
  have hlt:i+d<(rows.drop 1).length:=by rw [AW];lia
  have e:dK seed rows (i+d+1)=iP seed rows (dK seed rows (i+d)) (rows.drop 1)[i+d]:=gF (Ah hlt);rw [show i+(d+1)=i+d+1 from rfl,e];unfold iP;rw [aBD ?_,tE R (by lia) hp];rw [fE R.hd _ (by lia)];exact (List.take_subset_take_left rows (by exact N2 20 8)) hp
theorem aDe:cS seed rows=dK seed rows (rows.length - 1):=by
 unfold cS dK;rw [BJ (by rw [AW];lia)]
theorem rA (R:dW rows) {i:Nat} {p:aT} (hi:i≤rows.length - 1) (hp:p∈rows.take (i+1)):dA (cS seed rows) p=dA (dK seed rows i) p:=by
 rw [aDe];have:=tE (seed:=seed) R (i:=i) (p:=p) (d:=rows.length - 1 - i) (by exact N3 20 9 (cY (N2 1 10 hi))) hp;rw [Nat.add_sub_of_le hi] at this;exact this
theorem aDd (R:dW rows):dA (cS seed rows) []=nJ seed:=by
 rw [rA R (i:=0) (Df _) ?_]
 ·show dA (((rows.drop 1).take 0).foldl (iP seed rows) [([],nJ seed)]) []=_
  simp [dA]
 ·have:=R.hd
  cases rows with
  | nil=>cases this
  | cons a r=>cases this;exact .head _
theorem tD (R:dW rows) {i:Nat} {r:aT} (h:rows[i+1]?=some r):dA (cS seed rows) r=dA (cS seed rows) r.dropLast++iE ((seed+mQ rows r.dropLast) % 4) (r.getLast?.getD false):=by
 refine ob11 (Aw.mp h) fun hlt hr=>?_;refine bM (R.pre (i+1) r (by lia) h) fun ne pm=>?_;have hd:(rows.drop 1)[i]?=some r:=by rw [Bj,CG];exact h
 rw [rA R (i:=i+1) (by exact N3 20 10 hlt eB) (by rw [DY];exact ⟨i+1,by exact N2 20 12 (tG (N2 20 11 hlt)),hr⟩),rA R (i:=i) (p:=r.dropLast) (by exact N3 20 13 hlt eB) pm,gF hd];unfold iP;rw [aBC];rw [fE R.hd _ (by exact N3 20 13 hlt eB)];intro m;refine ob11 (DY.mp m) fun j kz=>?_;refine ob11 kz fun hj e=>?_;have hj2:j<i+1:=by exact N3 7 0 hj (AN _ _)
 exact Fo.mp R.nd j (i+1) (by lia) hlt hj2 (e.trans hr.symm)
theorem qZ (R:dW rows):∀ (n i:Nat),i<n→∀ r,rows[i]?=some r→jZ (dA (cS seed rows) r)=true
 | n+1,0,_,r,h=>by
  rw [R.hd] at h;cases h;rw [aDd R];exact vV
 | n+1,i+1,hi,r,h=>by
  rw [tD R h];refine bM (R.pre (i+1) r (by lia) h) fun ne pm=>?_;refine ob11 (DY.mp pm) fun j kz=>?_;refine ob11 kz fun hj e=>?_;exact aA9 (qZ R n j (by exact N4 20 14 hi hj (AN _ _)) _ (by rw [Ah (by lia),e])) (yM (by exact N1 20 15 oV))
noncomputable def stR (seed:Nat) (rows:List aT) (r:aT):fS:=stS (dA (cS seed rows) r)
noncomputable def kR (seed:Nat) (rows:List aT) (r:aT):Nat:=(seed+mQ rows r) % 4
theorem tP (R:dW rows) {r:aT} (h:r∈rows):jZ (dA (cS seed rows) r)=true:=by
 refine ob11 (BX.mp h) fun j kz=>?_;refine ob11 kz fun hj e=>?_;clear kz;exact qZ R (j+1) j (by exact N1 7 22) r (by rw [Ah hj,e])
theorem aE8 (R:dW rows) {r:aT} (h:r∈rows) (ne:r≠[]):r.dropLast∈rows∧stR seed rows r=vO (kR seed rows r.dropLast) (r.getLast?.getD false) (stR seed rows r.dropLast):=by
 refine ob11 (BX.mp h) fun j kz=>?_;refine ob11 kz fun hj e=>?_;clear kz;cases j with
 | zero=>
  have:=R.hd;rw [Ah hj,e] at this;cases this;exact absurd rfl ne
 | succ j=>
  have hq:rows[j+1]?=some r:=by rw [Ah hj,e]
  refine bM (R.pre (j+1) r (by lia) hq) fun _ pm=>?_;have pm:=Cn pm;refine ⟨pm,?_⟩;unfold stR;rw [tD R hq,aE7 (tP R pm)];rfl
theorem aEC {r:aT}:kR seed rows r<4:=by unfold kR;exact N1 20 15 oV
theorem lC (R:dW rows) {p:aT} {b:Bool} (h:p++[b]∈rows):p∈rows∧stR seed rows (p++[b])=vO (kR seed rows p) b (stR seed rows p):=by
 have:=aE8 (seed:=seed) R h (by simp);rw [List.dropLast_concat,List.getLast?_concat] at this;exact this
theorem aAV (R:dW rows) {p:aT}:∀ (q:aT),q≠[]→p++q.reverse∈rows→(stR seed rows p).n<(stR seed rows (p++q.reverse)).n
 | [],ne,_=>absurd rfl ne
 | b::q,_,h=>by
  rw [EA,← AG] at h ⊢;refine bM (lC (seed:=seed) R h) fun h1 h2=>?_;rw [h2];have h3:=(aGY (b:=b) (st:=stR seed rows (p++q.reverse)) (aEC (seed:=seed) (rows:=rows) (r:=p++q.reverse))).1
  by_cases z:q=[]
  ·subst z
   rw [List.reverse_nil,AZ] at h3 ⊢;exact h3
  ·exact CP (aAV R q z h1) h3
theorem aAQ (R:dW rows) {i:Nat} {r:aT} (h:rows[i]?=some r):lA (cT seed rows) i=kI (tC seed rows r) (stR seed rows r):=by
 unfold lA cT;rw [Ar,h];show cU.of (tC seed rows r)=_;exact aES (tP R (AB h))
theorem aBK (R:dW rows) {i j:Nat} {r q:aT} (h:rows[i]?=some r) (h2:rows[j]?=some q):cU.less (lA (cT seed rows) i) (lA (cT seed rows) j)=kC (stR seed rows r) (stR seed rows q):=by
 rw [aAQ R h,aAQ R h2];rfl
structure aD7 (rows:List aT) (par:List Nat):Prop where
 lt:∀ i,1≤i→i<rows.length→par[i]?.getD 0<i
 up:∀ i,1≤i→i<rows.length→rows[par[i]?.getD 0]?=some ((bG rows i).dropLast)
 mid:∀ i,1≤i→i<rows.length→∀ j,par[i]?.getD 0<j→j<i→(bG rows i).getLast?=some true∧(bG rows j).take (bG rows i).length=(bG rows i).dropLast++[false]
theorem yD {p q:aT}:(q.take p.length==p)=true↔∃ t,q=p++t:=by
 rw [beq_iff_eq];constructor
 ·intro h
  exact ⟨q.drop p.length,by conv=>lhs;rw [← Bs p.length q,h]⟩
 ·rintro ⟨t,rfl⟩
  exact Iz
theorem qD (R:dW rows) {par:List Nat} (Y:aD7 rows par) {i:Nat} (h1:1≤i) (hi:i<rows.length):∀ k,par[i]?.getD 0<k→k≤i→(fG (cT seed rows) rows i k).1=par[i]?.getD 0∧∃ m≤k,(fG (cT seed rows) rows i k).2=As m true
 | 0,h,_=>absurd h (Ee _)
 | k+1,h,hk=>by
  have er:rows[i]?=some (bG rows i):=by unfold bG;rw [Ah hi];rfl
  have ek:rows[k]?=some (bG rows k):=by unfold bG;rw [Ah (by lia)];rfl
  have mr:=AB er;have mk:=AB ek;refine bM (R.pre i _ h1 er) fun ne _=>?_;have cat:(bG rows i).dropLast++[(bG rows i).getLast ne]=bG rows i:=List.dropLast_concat_getLast ne;unfold fG;rw [aBK R ek er]
  by_cases q:k=par[i]?.getD 0
  ·have e2:=Y.up i h1 hi
   rw [← q,ek] at e2;have e3:=BC e2;have s1:=lC (seed:=seed) R (p:=(bG rows i).dropLast) (b:=(bG rows i).getLast ne) (by rw [cat];exact mr);rw [cat] at s1;have l:kC (stR seed rows (bG rows k)) (stR seed rows (bG rows i))=true:=by
    rw [e3,s1.2];exact aEd aEC
   rw [if_pos l];refine ⟨q,1,by lia,?_⟩;have pre:((bG rows i).take (bG rows k).length==bG rows k)=true:=yD.mpr ⟨_,by rw [e3];exact cat.symm⟩;rw [pre];rfl
  ·refine bM (Y.mid i h1 hi k (by exact (Cj q).elim (fun z5=>N2 24 4 h z5) fun z5=>N2 24 3 z5) (by lia)) fun g1 g2=>?_
   have g3:(bG rows i).getLast ne=true:=by
    rw [List.getLast?_eq_some_getLast ne] at g1;exact BC g1
   rw [g3] at cat;have s1:=lC (seed:=seed) R (p:=(bG rows i).dropLast) (b:=true) (by rw [cat];exact mr);rw [cat] at s1;obtain ⟨t,ht⟩:∃ t,bG rows k=(bG rows i).dropLast++[false]++t:=⟨(bG rows k).drop (bG rows i).length,by rw [← g2,Bs]⟩;have inr:∀ (t:aT),(bG rows i).dropLast++[false]++t.reverse∈rows→(bG rows i).dropLast++[false]∈rows:=by
    intro t
    induction t with
    | nil=>intro h;simpa using h
    | cons b t ih=>
     intro h;rw [EA,← AG] at h;exact ih (lC (seed:=seed) R h).1
   have hin:(bG rows i).dropLast++[false]∈rows:=inr t.reverse (by rw [ET,← ht];exact mk);have s2:=lC (seed:=seed) R hin;have l:kC (stR seed rows (bG rows k)) (stR seed rows (bG rows i))=false:=by
    rw [s1.2]
    by_cases z:t=[]
    ·rw [ht,z,AZ,s2.2]
     exact aCy aEC
    ·refine aEc aEC ?_
     rw [← s2.2,ht];have:=aAV (seed:=seed) R (p:=(bG rows i).dropLast++[false]) t.reverse (by simpa using z) (by rw [ET,← ht];exact mk);rw [ET] at this;exact this
   rw [l,if_neg (by decide)];refine bM (qD R Y h1 hi k (by exact (Cj q).elim (fun z5=>N2 24 4 h z5) fun z5=>N2 24 3 z5) (by lia)) fun c1 kz=>?_;refine ob12 kz fun m c2 c3=>?_;clear kz;refine ⟨c1,m+1,by lia,?_⟩;have pre:((bG rows i).take (bG rows k).length==bG rows k)=false:=by
    rw [Hk];intro z;refine ob11 (yD.mp z) fun u hu=>?_;have hu2:(bG rows i).dropLast++[true]=(bG rows i).dropLast++([false]++(t++u)):=cat.trans (hu.trans (by rw [ht];simp only [AG]));have:=List.append_cancel_left hu2;cases this
   rw [pre,c3];rfl
theorem aFf (R:dW rows) {par:List Nat} (Y:aD7 rows par):∃ m,m≤300∧gW seed rows=As m true:=by
 have gen:∀ n,n≤rows.length - 1→∃ m,m≤n*12∧dZ (cT seed rows) rows n=As m true:=by
  intro n
  induction n with
  | zero=>intro _;exact ⟨0,by lia,rfl⟩
  | succ n ih=>
   intro hn;refine ob12 (ih (by lia)) fun m h1 h2=>?_;refine bM (qD (seed:=seed) R Y (i:=n+1) (by lia) (by exact N3 20 17 hn (cY (N3 20 16 hn (AD _ _)))) (n+1) (Y.lt _ (by lia) (by exact N3 20 17 hn (cY (N3 20 16 hn (AD _ _))))) (Am _)) fun _ kz=>?_;refine ob12 kz fun m2 h3 h4=>?_;clear kz;have:=R.len;refine ⟨m+m2,by exact N5 20 18 hn h1 h3 this (AD _ _),?_⟩;have e:dZ (cT seed rows) rows (n+1)=dZ (cT seed rows) rows n++(fG (cT seed rows) rows (n+1) (n+1)).2:=by
    unfold dZ;rw [AT,Cw];simp
   rw [e,h2,h4,EE]
 refine ob12 (gen (rows.length - 1) (Am _)) fun m h1 h2=>?_;have:=R.len;exact ⟨m,by exact N3 20 19 h1 this (AD _ _),h2⟩
theorem aC4 (R:dW rows) {par:List Nat} (Y:aD7 rows par):cR seed rows = -1::(Aa (rows.length - 1)).map fun k=>((par[k+1]?.getD 0:Nat):Int):=by
 unfold cR fH;congr 1;apply Av;intro k hk;have hk:=fN hk;rw [(qD (seed:=seed) R Y (i:=k+1) (by lia) (by exact N3 7 2 hk (cY (N3 7 1 hk (AD _ _)))) (k+1) (Y.lt _ (by lia) (by exact N3 7 2 hk (cY (N3 7 1 hk (AD _ _))))) (Am _)).1]
end
noncomputable def aEA (xs:List aT) (x:aT):List aT:=if xs.contains x then xs else xs++[x]
noncomputable def aDA (n:Nat) (lv:Nat→Nat):List aT:=(Aa n).flatMap fun k=>(Aa (lv k+1)).map fun c=>(aV lv k).take c
noncomputable def jF (n:Nat) (l:List Nat):List aT:=(aDA n (kX l)).foldl aEA []
noncomputable def xN (rows:List aT):List Nat:=rows.map fun r=>mQ rows r.dropLast
noncomputable def aAk (n:Nat) (l:List Nat) (r:aT):Nat:=((((Aa n).filter fun k=>(aV (kX l) k).take (r.length+1)==r++[true])++[n]).head?).getD n
noncomputable def chL (n:Nat) (l:List Nat) (rows:List aT) (k a:Nat):Bool:=match rows[a]? with
 | some r=>decide (k<aAk n l r)
 | none=>false
noncomputable def uW (heads:List Int) (ch:Nat→Bool):Nat→Nat→Nat→Option (Nat×Nat)
 | 0,_,_=>none
 | k+1,a,n=>if heads.contains (a:Int) then
   (match (gE heads a).head?,(gE heads a).getLast? with
    | some x,some y=>uW heads ch k (if ch a then x else y) (n+1)
    | _,_=>none)
  else some (a,n)
noncomputable def zD (rows:List aT):List Int:=-1::(Aa (rows.length - 1)).map fun k=>(((xN rows)[k+1]?.getD 0:Nat):Int)
noncomputable def aDC (rows:List aT):Bool:=(rows[0]?==some [])&&decide rows.Nodup&&((Aa rows.length).all fun i=>i==0 || (bG rows i != []&&(rows.take i).contains (bG rows i).dropLast))&&decide (rows.length≤12)&&(rows.all fun r=>decide (r.length≤5))&&decide (2≤rows.length)
noncomputable def aDV (rows:List aT):Bool:=(Aa rows.length).all fun i=>i==0 || (decide ((xN rows)[i]?.getD 0<i)&&(rows[(xN rows)[i]?.getD 0]?==some (bG rows i).dropLast)&&
 (Aa i).all fun j=>decide (j≤(xN rows)[i]?.getD 0) || ((bG rows i).getLast?==some true&&(bG rows j).take (bG rows i).length==(bG rows i).dropLast++[false]))
noncomputable def aAT:List (List Nat)→Bool
 | []=>true
 | x::r=>(r.all fun y=>!Spec.ltCps y x)&&aAT r
noncomputable def aFW (n:Nat) (l:List Nat) (rows:List aT):Bool:=(Aa n).all fun k=>rows.contains (aV (kX l) k)&&uW (zD rows) (chL n l rows k) 20 0 0==some (mQ rows (aV (kX l) k),kX l k)
noncomputable def oJ (n:Nat) (l:List Nat) (rows:List aT):Bool:=aDC rows&&aDV rows&&aAT (rows.map fun p=>p.map rW)&&aFW n l rows
theorem aBS:∀ n≤5,2≤n→∀ l∈nC n,oJ n l (jF n l)=true:=by decide +kernel
theorem zV:∀ l∈(nC 6).take 14,oJ 6 l (jF 6 l)=true:=by decide +kernel
theorem zW:∀ l∈((nC 6).drop 14).take 14,oJ 6 l (jF 6 l)=true:=by decide +kernel
theorem zX:∀ l∈(nC 6).drop 28,oJ 6 l (jF 6 l)=true:=by decide +kernel
theorem aDK {n:Nat} (h6:n≤6) (h2:2≤n) {l:List Nat} (hl:l∈nC n):oJ n l (jF n l)=true:=by
 by_cases h5:n≤5
 ·exact aBS n h5 h2 l hl
 ·obtain rfl:n=6:=by exact N1 20 20 h6 h5
  have e:nC 6=(nC 6).take 14++(((nC 6).drop 14).take 14++(nC 6).drop 28):=rfl;rw [e] at hl;refine gJ hl (fun m=>?_) fun m=>?_
  ·exact zV l m
  ·refine gJ m (fun m=>?_) fun m=>?_
   ·exact zW l m
   ·exact zX l m
theorem aE0 {rows:List aT} (h:aDC rows=true):dW rows∧2≤rows.length:=by
 unfold aDC at h;simp only [AJ] at h;refine bM h ?_;clear h;rintro ⟨⟨⟨⟨h1,h2⟩,h3⟩,h4⟩,h5⟩ h6;refine ⟨⟨beq_iff_eq.mp h1,of_decide_eq_true h2,fun i r hi hr=>?_,of_decide_eq_true h4,fun r m=>of_decide_eq_true (A8.mp h5 r m)⟩,of_decide_eq_true h6⟩;refine ob11 (Aw.mp hr) fun hlt e=>?_;have:=A8.mp h3 i (Bb.mpr hlt);have er:bG rows i=r:=by unfold bG;rw [hr];rfl
 rw [er,CJ,AJ,beq_iff_eq,bne_iff_ne,Cy] at this;refine BH this ?_ ?_ <;> clear this <;> intro q
 ·lia
 ·exact q
theorem aFe {rows:List aT} (h:aDV rows=true):aD7 rows (xN rows):=by
 unfold aDV at h;have g:∀ i,1≤i→i<rows.length→((xN rows)[i]?.getD 0<i∧rows[(xN rows)[i]?.getD 0]?=some (bG rows i).dropLast)∧∀ j<i,(j≤(xN rows)[i]?.getD 0∨((bG rows i).getLast?=some true∧(bG rows j).take (bG rows i).length=(bG rows i).dropLast++[false])):=fun i h1 hi=>by
  have:=A8.mp h i (Bb.mpr hi);rw [CJ,AJ,AJ,beq_iff_eq,beq_iff_eq,decide_eq_true_iff,A8] at this;refine BH this ?_ ?_ <;> clear this <;> intro q
  ·lia
  ·refine ⟨q.1,fun j hj=>?_⟩
   have:=q.2 j (Bb.mpr hj);rw [CJ,AJ,beq_iff_eq,beq_iff_eq,decide_eq_true_iff] at this;exact this
 exact ⟨fun i h1 hi=>(g i h1 hi).1.1,fun i h1 hi=>(g i h1 hi).1.2,fun i h1 hi j hj1 hj2=>((g i h1 hi).2 j hj2).resolve_left (by exact N2 20 21 hj1)⟩
theorem tH {a b:List Nat}:Spec.ltCps b a=false↔a≤b:=by
 rw [ltCps_eq,decide_eq_false_iff_not];exact List.not_lt
theorem aAU:∀ {l:List (List Nat)},aAT l=true→l.Pairwise (·≤·)
 | [],_=>.nil
 | x::r,h=>by
  unfold aAT at h;rw [AJ] at h;refine .cons (fun y m=>?_) (aAU h.2);have:=A8.mp h.1 y m;rw [Hl] at this;exact tH.mp this
theorem tO:∀ {r:List Str} {p:Str},risingS p r=true→(p::r).Pairwise (fun a b=>a.cps.toList≤b.cps.toList)
 | [],p,_=>AS _ _
 | x::r,p,h=>by
  unfold risingS at h;rw [AJ,Hl] at h;have ih:=tO h.2;have h1:=tH.mp h.1;refine .cons (fun y m=>?_) ih;rcases AP.mp m with rfl | m
  ·exact h1
  ·exact List.le_trans h1 ((Bn.mp ih).1 y m)
theorem aBV {l:List Str} (h:sortedS l=true):l.Pairwise (fun a b=>a.cps.toList≤b.cps.toList):=by
 cases l with
 | nil=>exact .nil
 | cons x r=>exact tO h
theorem sN {a b:List Str} (p:a.Perm b) (ha:a.Pairwise fun a b=>a.cps.toList≤b.cps.toList) (hb:b.Pairwise fun a b=>a.cps.toList≤b.cps.toList):a=b:=by
 refine List.Perm.eq_of_pairwise (fun x y _ _ h1 h2=>?_) ha hb p;have:=List.le_antisymm h1 h2;apply JH;exact FO.mp this
theorem aEB {xs:List aT} {x:aT}:mR (xs.map aC) (aC x)=(aEA xs x).map aC:=by
 unfold mR aEA;have:(aC x∈xs.map aC)↔xs.contains x=true:=by
  rw [Cy,AY];constructor
  ·rintro ⟨y,hy,e⟩
   rw [← lR e];exact hy
  ·exact fun h=>⟨x,h,rfl⟩
 by_cases h:xs.contains x=true
 ·rw [if_pos (this.mpr h),if_pos h]
 ·rw [if_neg (fun z=>h (this.mp z)),if_neg h,Ax];rfl
theorem aAq:∀ (xs b:List aT),(xs.map aC).foldl mR (b.map aC)=(xs.foldl aEA b).map aC
 | [],b=>rfl
 | x::xs,b=>by rw [AC,CL,CL,aEB,aAq xs]
theorem aCJ {V:Nat→Nat} {l:List Nat}:fO (jE V (kX l))=(jF (aB V) l).map aC:=by
 have e:jE V (kX l)=(aDA (aB V) (kX l)).map aC:=by
  unfold jE aDA;rw [Ds];congr 1;funext k;rw [An];rfl
 unfold fO jF;rw [e];exact aAq _ []
section
variable {V:Nat→Nat}
theorem jV {k:Nat}:aM V (k+1)=aM V k+(1+V k % 70):=by
 unfold aM;rw [AT,Ax,BZ];rfl
theorem xY:∀ {d k:Nat},aM V k≤aM V (k+d)
 | 0,_=>Am _
 | d+1,k=>by
  rw [show k+(d+1)=k+d+1 from rfl,jV];have:=xY (d:=d) (k:=k);exact N3 20 22 this
theorem mW {j k:Nat} (h:j≤k):aM V j≤aM V k:=by
 have:=xY (V:=V) (d:=k - j) (k:=j);rw [show j+(k - j)=k by exact N3 19 0 eB (cY (N2 1 10 h))] at this;exact this
theorem aFQ {k j x:Nat} (hx:x=aM V k∨x=aM V (k+1) - 1):decide (x<aM V j)=decide (k<j):=by
 rw [decide_eq_decide];have s:=jV (V:=V) (k:=k);generalize hb:aM V (k+1)=b at s hx;have lo:aM V k≤x∧x<b:=by
  clear hb;generalize V k % 70=v at s;generalize aM V k=u at s hx ⊢;subst s;rcases hx with rfl | rfl
  ·exact ⟨Am _,by exact N2 21 0⟩
  ·rw [← I7,Hb];exact ⟨BP _ _,FW _⟩
 constructor
 ·intro h
  refine Nat.lt_of_not_le fun q=>?_;exact CB.mpr (Ao (mW (V:=V) q) lo.1) h
 ·intro h
  exact C3 lo.2 (hb▸mW (V:=V) h)
theorem lx1 {k q q' a b x y:Nat} (ex:k*q+a=x) (ey:k*q'+b=y) (ha:a<k) (h:q<q'):x<y:=ex▸ey▸C3 (Nat.add_lt_add_left ha _) (Ao (GY k h) (BP _ _))
theorem cs1 {L R:Int→Int} {i way:Int} {r:List (Int×Int)} {q q' a b k x y:Nat} (w0:(way==-way)=false) (hl:L i=(q:Int)) (hr:R i=(q':Int)) (ex:k*q+a=x) (ey:k*q'+b=y) (ha:a<k) (hb:b<k)
  (t:(gA L R r==-way)=decide (a<b)):(gA L R ((i,way)::r)==-way)=decide (x<y):=by
 rw [gV,hl,hr];rcases Fy q q' with h | h | h
 ·rw [if_pos (Db.mpr h),decide_eq_true (lx1 ex ey ha h)];exact beq_self_eq_true _
 ·rw [h,if_neg (FE _),if_neg (FE _),t,← ex,← ey,h,decide_eq_decide];exact FV.symm
 ·rw [if_neg (DN.mpr (Hp (Db.mpr h))),if_pos (Db.mpr h),decide_eq_false (CB.mpr (CR (lx1 ey ex hb h)))];exact w0
theorem cs2 {L R:Int→Int} {i way:Int} {r:List (Int×Int)} {q q' a b k x y:Nat} (w0:(way==-way)=false) (hl:L i = -(q:Int)) (hr:R i = -(q':Int)) (ex:k*q+a=x) (ey:k*q'+b=y) (ha:a<k) (hb:b<k)
  (t:(gA L R r==-way)=decide (a<b)):(gA L R ((i,-way)::r)==-way)=decide (x<y):=by
 rw [gV,hl,hr];rcases Fy q q' with h | h | h
 ·rw [if_neg (DN.mpr (Hp (Gz (Db.mpr h)))),if_pos (Gz (Db.mpr h)),decide_eq_true (lx1 ex ey ha h)];exact beq_self_eq_true _
 ·rw [h,if_neg (FE _),if_neg (FE _),t,← ex,← ey,h,decide_eq_decide];exact FV.symm
 ·rw [if_pos (Gz (Db.mpr h)),Int.neg_neg,decide_eq_false (CB.mpr (CR (lx1 ey ex hb h)))];exact w0
theorem aCF {way:Int} (hw:way=1∨way = -1) {x y:Nat}:(gA (dO (bC (x:Int))) (dO (bC (y:Int))) (lB way)==-way)=decide (x<y):=by
 have t2:∀ z:Nat,dO (bC (z:Int)) 2=((z / 64:Nat):Int):=fun z=>fL z 64;have t1:∀ z:Nat,dO (bC (z:Int)) 1 = -((z / 8 % 8:Nat):Int):=fun z=>by
  show -(((z:Int).fdiv 8).fmod 8)=_;rw [show (z:Int).fdiv 8=((z / 8:Nat):Int) from fL z 8,show ((z / 8:Nat):Int).fmod 8=((z / 8 % 8:Nat):Int) from dT _ 8]
 have t0:∀ z:Nat,dO (bC (z:Int)) 0=((z % 8:Nat):Int):=fun z=>dT z 8;have m:∀ z:Nat,8*(z / 8 % 8)+z % 8=z % 64:=fun z=>(CG _ _).trans (Nat.mod_mul (a:=8) (b:=8)).symm;have w0:(way==-way)=false:=by rcases hw with rfl | rfl <;> rfl
 exact cs1 w0 (t2 x) (t2 y) (E0 x 64) (E0 y 64) oV oV (cs2 w0 (t1 x) (t1 y) (m x) (m y) oV oV (cs1 (k:=1) (a:=0) (b:=0) w0 (t0 x) (t0 y) (HY _) (HY _) Jy Jy (by rcases hw with rfl | rfl <;> rfl)))
theorem aEL:∀ (l:List Int) (a:Int),(∀ x∈l,a≤x)→mn (a::l)=a
 | [],a,_=>rfl
 | y::r,a,h=>by
  unfold mn;exact Ea (h _ (vB (y::r) (by simp)))
theorem aBb {l:List Nat} {r:aT}:mn (aP V (kX l) r)=((aM V (aAk (aB V) l r):Nat):Int):=by
 have e:aP V (kX l) r=((((Aa (aB V)).filter fun k=>(aV (kX l) k).take (r.length+1)==r++[true])++[aB V]).map fun k=>((aM V k:Nat):Int)):=by
  unfold aP;rw [Ax];rfl
 have asc:(((Aa (aB V)).filter fun k=>(aV (kX l) k).take (r.length+1)==r++[true])++[aB V]).Pairwise (·<·):=by
  have h:(Aa (aB V+1)).Pairwise (·<·):=List.pairwise_lt_range;rw [AT] at h;exact h.sublist (IP List.filter_sublist _)
 have ne:(((Aa (aB V)).filter fun k=>(aV (kX l) k).take (r.length+1)==r++[true])++[aB V])≠[]:=by simp
 rw [e];unfold aAk;generalize (((Aa (aB V)).filter fun k=>(aV (kX l) k).take (r.length+1)==r++[true])++[aB V])=ks at asc ne;cases ks with
 | nil=>exact absurd rfl ne
 | cons k ks=>
  rw [AC];refine aEL _ _ fun x m=>?_;refine cX m ?_;rintro j hj rfl;have:=(Bn.mp asc).1 j hj;have:=mW (V:=V) (show k≤j by lia);lia
theorem oR {heads:List Int} {cm:Nat→Int} {way:Int} {ch:Nat→Bool} (h:∀ a,(cm a==-way)=ch a):∀ f a n,jN heads cm way f a n=uW heads ch f a n
 | 0,_,_=>rfl
 | f+1,a,n=>by
  unfold jN uW;rw [h a];split
  ·cases (gE heads a).head? with
   | none=>rfl
   | some x=>
    cases (gE heads a).getLast? with
    | none=>rfl
    | some y=>exact oR h f _ _
  ·rfl
end
theorem range3 {k:Nat}:EO 0 ((3*k:Nat):Int) 3=(Aa k).map (3*·):=by
 unfold EO;have:((if (3:Int) > 0 then (if (0:Int)<((3*k:Nat):Int) then (((3*k:Nat):Int) - 0+3 - 1) / 3 else 0) else (if (0:Int) > ((3*k:Nat):Int) then (0 - ((3*k:Nat):Int) - 3 - 1) / (-3) else 0)):Int).toNat=k:=by
  rw [if_pos (by decide)];cases k with
  | zero=>rfl
  | succ k=>
   rw [if_pos (H5.mpr (Nat.mul_pos (by decide) (Hy k))),show ((3*(k+1):Nat):Int) - 0+3 - 1=((3*(k+1)+2:Nat):Int) by rw [Jc,Int.add_sub_assoc];rfl];show (((3*(k+1)+2) / 3:Nat):Int).toNat=_;rw [Nat.mul_add_div (by decide)];rfl
 dsimp only;rw [this];apply Av;intro j _;show ((0:Int)+((3*j:Nat):Int)).toNat=_;rw [Dc,Ap]
theorem aHr {l:List Int} {k:Nat} (h:3*k≤l.length):dD l none (some (3*(k:Int))) (some 3)=(Aa k).filterMap fun j=>l[3*j]?:=by
 have e:BR none (some (3*(k:Int))) (some 3) l.length=(0,((3*k:Nat):Int),3):=by
  simp only [BR,Dt,CV];have h2:¬ (3*(k:Int)<0):=by exact N1 21 1
  simp only [h2,if_false,show (3:Int) > 0 by decide,if_true];congr 1;congr 1;exact zmn.trans (by rw [B1 h])
 unfold dD;rw [e];dsimp only;rw [range3,List.filterMap_map];rfl
theorem tT {V:Nat→Nat}:∀ k,k≤aB V→((Aa k).filterMap fun j=>(cA V)[3*j]?).sum=((aM V k:Nat):Int)
 | 0,_=>rfl
 | k+1,h=>by
  rw [AT,EF,BZ,tT k (by lia),jV];have:=pP (V:=V) (k:=k) (j:=0) (by lia) (by lia);rw [Gb] at this;simp [this,sI]
theorem aGj {l:List Int}:(dD l none (some 60) none).length≤60:=by
 have h:=jD (f:=D.int) (l:=l) (lo:=none) (hi:=some 60) (st:=none);have h2:=dQ (ds:=l.map D.int) (b:=60);have h3:(some 60:Option Int)=some ((60:Nat):Int):=rfl;rw [h3,h2] at h;have h4:=congrArg De h;rw [Ac,AE] at h4;rw [h3];exact N2 21 2 h4 (AN _ _)
theorem aAZ:∀ (l:List Int),0≤(l.map fun x=>x.fmod rS).sum∧(l.map fun x=>x.fmod rS).sum≤10000000000*l.length
 | []=>⟨by decide,by decide⟩
 | x::l=>by
  refine bM (aAZ l) fun h1 h2=>?_;have e:rS=10000000000:=by decide
  have a:=F5 x (b:=rS) (by rw [e];decide);have b:=G6 x (b:=rS) (by rw [e];decide);rw [AC,Co,Aq];rw [e] at a b;rw [e] at h1 h2 ⊢
  push_cast
  exact ⟨gK 21 3 h1 a,aA6 21 4 h2 b⟩
noncomputable def VS (script:List Int) (k:Nat):Nat:=(yC script k (rE[k]?.getD 0)).toNat
theorem aEU:∀ k<7,3≤rE[k]?.getD 0∧rE[k]?.getD 0≤1915:=by decide
theorem aDT {script:List Int} {k:Nat} (h:k<7):3≤yC script k (rE[k]?.getD 0)∧yC script k (rE[k]?.getD 0)<1000000000000:=by
 refine bM (aEU k h) fun o1 o2=>?_;unfold yC;refine bM (aAZ (dD (dD script none (some 60) none) (some (k:Int)) none (some 7))) fun h1 h2=>?_;have h3:=lN (l:=dD script none (some 60) none) (lo:=some (k:Int)) (hi:=none) (st:=some 7);have h4:=aGj (l:=script);exact ⟨gK 21 5 o1 h1,yI 21 6 o2 h2 h3 h4⟩
theorem aFa {script:List Int}:rR script=VL (VS script):=by
 unfold rR VL;apply Av;intro k hk;have:=(aDT (script:=script) (fN hk)).1;unfold VS;exact nS 23 15 (BG _) (tn1 (cO 25 8 this))
section
variable {V lv:Nat→Nat} {l:List Nat}
theorem rB (ag:∀ k<aB V,lv k=kX l k) {k:Nat} (h:k≤aB V):aS lv k=aS (kX l) k:=by
 unfold aS;congr 1;apply Av;intro j hj;rw [ag j (by have:=fN hj;lia)]
theorem mY (ag:∀ k<aB V,lv k=kX l k) {k:Nat} (h:k<aB V):aV lv k=aV (kX l) k:=by
 unfold aV;rw [ag k h,rB ag (CR h)]
theorem zQ (ag:∀ k<aB V,lv k=kX l k):jE V lv=jE V (kX l):=by
 unfold jE;rw [Ck,Ck];congr 1;apply Av;intro k hk;have hk:=fN hk;rw [ag k hk,mY ag hk]
theorem uF (ag:∀ k<aB V,lv k=kX l k) {r:aT}:aP V lv r=aP V (kX l) r:=by
 unfold aP;congr 2;apply List.filter_congr;intro k hk;rw [mY ag (fN hk)]
theorem aEE (hl:l∈nC (aB V)) (ag:∀ k<aB V,lv k=kX l k):aFM V lv (jF (aB V) l) (fun k=>mQ (jF (aB V) l) (aV (kX l) k)):=by
 have c26:=fB (V:=V);have S:=aDK c26.2 c26.1 hl;unfold oJ at S;rw [AJ,AJ,AJ] at S;refine bM S ?_;clear S;rintro ⟨⟨s1,s2⟩,s3⟩ s4;refine bM (aE0 s1) fun R two=>?_;have Y:=aFe s2;refine eG (aDL _ c26.2 c26.1 l hl) fun q1 q2 q3 q4=>?_;have hd:fO (jE V lv)=(jF (aB V) l).map aC:=by rw [zQ ag];exact aCJ
 have hh:cR (bK V) (jF (aB V) l)=zD (jF (aB V) l):=aC4 R Y;have len:=R.len;refine ⟨fun k hk=>?_,fun ss' p hs=>?_,?_,R,aFf R Y,fun k hk=>?_,fun k hk=>?_,?_,fun k hk x hx=>?_⟩
 ·rw [rB ag (CR hk)]
  refine aDQ (q3 k hk) (by unfold aW;exact N1 12 11 oV) ?_ ?_
  ·unfold jO;exact N1 12 9
  ·unfold jO;exact N1 12 10 oV
 ·rw [hd] at p
  refine sN p (aBV hs) ?_;have:=aAU s3;rw [Ht] at this ⊢;refine this.imp fun {a b} h=>?_;rw [oN,oN];exact h
 ·rw [hd,Ac];exact ⟨N1 19 10 two,N1 21 7 len⟩
 ·rw [aHr (by rw [jB];exact N2 21 8 hk)]
  exact tT k hk
 ·rw [mY ag hk]
  refine qX ?_;have:=A8.mp s4 k (Bb.mpr hk);rw [AJ,Cy] at this;exact this.1
 ·rw [hh]
  unfold zD;rw [Aq,Ac,Al];exact N2 21 9 eB (cY (N1 11 18 two))
 ·have s5:=A8.mp s4 k (Bb.mpr hk)
  rw [AJ,beq_iff_eq] at s5;rw [hh,ag k hk,← s5.2];have ss:=jV (V:=V) (k:=k);have hx2:∃ y:Nat,x=(y:Int)∧(y=aM V k∨y=aM V (k+1) - 1):=by
   simp only [AP,FU,or_false] at hx;rcases hx with rfl | rfl
   ·exact ⟨_,rfl,.inl rfl⟩
   ·exact ⟨aM V (k+1) - 1,by exact N2 9 16 eB (cY (N3 21 10 ss)),.inr rfl⟩
  refine ob12 hx2 ?_;clear hx2;rintro y rfl hy;refine oR (fun a=>?_) 20 0 0;unfold chL;rw [Ar];cases e:(jF (aB V) l)[a]? with
  | none=>
   show (gA (dO (bC (y:Int))) (dO (bC ((0:Nat):Int))) (lB (dR V))==-dR V)=false;rw [aCF aAe];exact decide_eq_false (by exact N1 19 2)
  | some r=>
   show (gA (dO (bC (y:Int))) (dO (bC (mn (aP V lv r)))) (lB (dR V))==-dR V)=decide (k<aAk (aB V) l r);rw [uF ag,aBb,aCF aAe];exact aFQ hy
end
theorem facts (script:List Int):∃ V,aB6 script V:=by
 refine ⟨VS script,?_⟩;have nn:∀ k<7,3≤VS script k∧VS script k<1000000000000:=fun k hk=>by
  have:=aDT (script:=script) hk;unfold VS;exact ⟨nS 25 9 this.1 (BG _),nS 25 10 this.2 (tn1 (cO 25 8 this.1))⟩
 have c26:=fB (V:=VS script);have pos:∀ k<aB (VS script),1≤bN (VS script) k:=fun k hk=>by
  rw [pN hk];have:=nn k (by exact N2 21 11 c26.2 hk);unfold iO;lia
 refine ⟨aFa,aEY fun k hk=>(nn k (by lia)).2,aEG,fun e J=>?_,fun left base hi h1 h2 h3 h4=>aEt h1 h2 h3 h4,fun e lv J tr=>?_⟩
 ·refine ob12 (aA4 pos J) fun l _ t=>?_
  exact ⟨_,t⟩
 ·refine ob12 (aA4 pos J) fun l hl t=>?_
  refine ⟨_,_,aEE hl fun k hk=>?_⟩;have p:=tr.perm.symm.trans t.perm;have m:(k,((lv k:Nat):Int))∈(Aa (aB (VS script))).map fun k=>(k,((kX l k:Nat):Int)):=p.mem_iff.mp (AY.mpr ⟨k,Bb.mpr hk,rfl⟩);refine cX m fun j _ e=>?_;rw [I8] at e;refine bM e fun e1 e2=>?_;clear e;subst e1;exact N2 21 12 e2
noncomputable def aAJ:List Ja→Option (List (Str×Ag))
 | []=>some []
 | e::r=>match e.key,aAJ r with
  | .str n _,some t=>some ((n,e.val)::t)
  | _,_=>none
noncomputable def nsE (K:Frag) (N:Addr):Option (List (Str×Ag)):=match K.lookup N with
 | some ⟨_,_,.dict es _,_⟩=>aAJ es.toList
 | _=>none
section
variable {P:Cf}
theorem aHY:nsE (kS P) 44=some aA0:=by kernel_rfl
theorem aG9:nsE (kS P) 146=some vL:=by kernel_rfl
theorem aHZ:(kS P).lookup 45=some (aEg "TupleComp" 45 44 196 204):=by kernel_rfl
theorem aHa:(kS P).lookup 147=some (aEg "Whitespace" 147 146 330 338):=by kernel_rfl
theorem aH1:(kS P).lookup 71=some { cls:=.type "dict",data:=.dict (nZ.map fun p=>⟨p.1,.int p.1 p.2.1,.str p.2.2.1 p.2.2.2⟩).toArray 10 }:=by kernel_rfl
theorem aH0:(kS P).lookup 58=none:=by kernel_rfl
end
theorem vE {h:Heap} {mg:Str→Option Ag} {n:Str} {r:Option Ag} (G:h.Ns AR mg) (e:nsH h 3 n=some r):mg n=r:=by
 refine pH G fun o es ep ho hd _ hf=>?_;clear G;unfold nsH at e;rw [show h.get? 3=some o from ho] at e;obtain ⟨c,d,da,sl⟩:=o;cases hd;dsimp only at e;rw [← hf];unfold nsFind findBy;rw [← G3];cases q:es.toList.find? (·.key.isStr n) with
 | none=>rw [q] at e;cases e;rfl
 | some x=>rw [q] at e;cases e;rfl
theorem aBg {h:Heap} {cd:Ag} {q:Str} (e:qE h cd q=true):h.CodeRec cd q:=by
 unfold qE at e;split at e
 ·split at e
  ·rename_i vs sl ho
   split at e
   ·rename_i a n t r hv
    exact ⟨_,_,vs,t,rfl,ho,rfl,by rw [← C5,hv,← beq_iff_eq.mp e];rfl⟩
   ·cases e
  ·cases e
 ·cases e
theorem xH:∀ {es:List Ja} {t:List (Str×Ag)},aAJ es=some t→
  (∀ e∈es,∃ n k,e.key=.str n k)∧∀ name,(es.find? fun e=>e.key.isStr name).map (·.val)=t.lookup name
 | [],t,h=>by
  cases h;exact ⟨fun _ m=>(nomatch m),fun _=>rfl⟩
 | e::es,t,h=>by
  unfold aAJ at h;split at h
  ·rename_i n k t2 e1 e2
   cases h;refine bM (xH e2) fun a b=>?_;refine ⟨fun e' m=>?_,fun name=>?_⟩
   ·rcases AP.mp m with rfl | m
    ·exact ⟨n,k,e1⟩
    ·exact a e' m
   ·rw [BY,FS,e1]
    have q0:(Ag.str n k).isStr name=(n==name):=rfl;rw [q0]
    by_cases q:n=name
    ·subst q;simp
    ·have q':¬ name=n:=fun z=>q z.symm
     rw [beq_eq_false_iff_ne.mpr q,beq_eq_false_iff_ne.mpr q'];exact b name
  ·cases h
theorem aFG {K:Frag} {h:Heap} (X:K.In h) {N:Addr} {t:List (Str×Ag)} (e:nsE K N=some t):h.Ns N fun n=>t.lookup n:=by
 unfold nsE at e;split at e
 ·rename_i c d es n sl q
  refine bM (xH e) fun a b=>?_;refine ⟨_,es,n,X _ _ q,rfl,fun e m=>a e (Array.mem_toList_iff.mpr m),fun name=>?_⟩;unfold nsFind findBy;rw [← G3];exact b name
 ·cases e
theorem qN {w:Bl}:∀ (l:List (Int×Tok×Str×Tok)),Pairs (BL prog w) (l.map fun p=>⟨p.1,.int p.1 p.2.1,.str p.2.2.1 p.2.2.2⟩) (l.map fun p=>(p.1,.str p.2.2.1 p.2.2.2))
 | []=>.nil
 | p::l=>.cons (by show DP p.1 (.int p.1 p.2.1)=true;simp [DP]) rfl (qN l)
theorem qO {w:Bl} {h:Heap}:∀ (l:List (Int×Tok×Str×Tok)),cP w h (l.map fun p=>(p.1,.str p.2.2.1 p.2.2.2)) (l.map fun p=>(p.1,.str p.2.2.1))
 | []=>.nil
 | p::l=>.cons (.str _ _) (qO l)
theorem Ns.hx {X:List Addr} {h:Heap} {a:Addr} {m} (n:h.Ns a m) (na:a∉X):(hx X h).Ns a m:=let ⟨o,es,ep,e,r⟩:=n;⟨o,es,ep,bU e na,r⟩
theorem aC9 {w:Bl} {h:Heap} {vs:List Ag} {xs:List Int} (I:IntsAre vs xs):cG w h vs (xs.map .int):=by
 induction I with
 | nil=>exact .nil
 | cons n t _ ih=>exact .cons (.int n t) ih
theorem aGD {w:Bl} {p:Hz} {loose:List Str} {mean:ExcName→Option Ag} {mg mb:Str→Option Ag} {h:Heap} (Y:yH w h) (T:Top p loose mean mg mb h) (h58:h.get? 58=some (tabObj #[])):Wd w (T1 w.params) (hx [58] h):=by
 have n58:∀ {a:Addr} {o:Obj},h.get? a=some o→o.cls≠.none→a∉[(58:Addr)]:=fun {a o} e hc m=>by
  rw [bH m,h58] at e;cases e;exact hc rfl
 have KX':(kS w.params).In (hx [58] h):=fun a o e=>bU (Y.frag a o e) fun m=>by
  rw [bH m,aH0] at e;cases e
 refine ⟨⟨mg,Ns.hx T.g (by decide),fun x v e=>?_⟩,⟨mg,Ns.hx T.g (by decide),fun x m=>vE T.g (Y.free x m)⟩,⟨mb,Ns.hx T.b (by decide),T.builtins⟩,?_,?_,fun q m=>?_,fun q m=>?_,fun q m=>?_,KX',?_⟩
 ·exact vE T.g (Y.glob (x,v) (mem_of_lookup e))
 ·refine ob12 T.nolimit fun mc a b=>?_
  exact ⟨mc,Ns.hx a (by decide),b⟩
 ·refine ob12 T.nodigits fun mc a b=>?_
  exact ⟨mc,Ns.hx a (by decide),b⟩
 ·have a:=Y.fns q m
  have b:=aBg (Y.code q m);cases e:h.get? q.1 with
  | none=>rw [e] at a;cases a
  | some o=>
   rw [e] at a;have a:=BC a;have a1:o.cls=.type "function":=congrArg Prod.fst a;refine ⟨⟨o,bU e (n58 e (by rw [a1];nofun)),a1,congrArg IC a⟩,?_⟩;refine aH8 b fun c o2 vs t e1 e2 e3 e4=>?_;clear b;exact ⟨c,o2,vs,t,e1,bU e2 fun m=>(by rw [bH m,h58] at e2;cases e2;cases e3;cases e4),e3,e4⟩
 ·have m:q∈ctab:=m
  rcases AP.mp m with rfl | m
  ·exact ⟨⟨_,_,_,_,_,_,_,_,_,_,_,_,KX' _ _ aHZ⟩,aFG KX' aHY⟩
  ·rw [bH m]
   exact ⟨⟨_,_,_,_,_,_,_,_,_,_,_,_,KX' _ _ aHa⟩,aFG KX' aG9⟩
 ·rw [bH m]
  refine .idict (kvs:=nZ.map fun p=>(p.1,.str p.2.2.1 p.2.2.2)) (by decide) ⟨_,_,_,KX' _ _ aH1,⟨rfl,rfl,rfl⟩,rfl,?_,qN nZ,by decide⟩ (qO nZ);intro e m;refine ob12 (AY.mp (List.mem_toArray.mp m)) ?_;rintro p hp rfl;refine ⟨p.1,by show DP p.1 (.int p.1 p.2.1)=true;simp [DP],?_⟩;have:∀ p∈nZ,p.1=hashInt p.1:=by decide
  exact this p hp
 ·refine aHi T.bmain fun bm ob a b c d e f=>?_
  exact ⟨mg,bm,ob,Ns.hx T.g (by decide),a,b,bU c (n58 c (by rw [d];nofun)),d,e,f⟩
theorem sH {P:Cf} {h:Heap} {a:Addr} {vs:List Ag} {xs:List WData} (x:Well P h (.ref a) (.list xs)) (hL:h.IsList a vs.toArray):h.PlainList a vs.toArray:=by
 cases x with
 | list e _=>
  refine ob13 hL fun o eo _ kz=>?_;clear hL;refine ob11 kz fun n ed=>?_;clear kz;rw [e] at eo;cases eo;cases ed;exact ⟨_,e⟩
theorem aET {s s':Ak} {ps:Array Ag} (ht:s.heap.TableAt 62 58 #[]) (c:Ch [58] s s') (e:s'.heap.get? 58=some (tabObj ps)):OldK s.heap s'.heap:=by
 refine ⟨fun b o q=>?_,fun b o q=>?_⟩
 ·by_cases hb:b=58
  ·subst hb
   rw [ht.2] at q;cases q;exact .inr (.inl ⟨ht.isCodeTable,rfl,#[],ps,rfl,by rw [e];simp [tabObj]⟩)
  ·exact .inl (c.get (fun m=>hb (bH m)) q)
 ·by_cases hb:b=58
  ·exact ⟨_,hb▸e⟩
  ·exact ⟨o,c.get (fun m=>hb (bH m)) q⟩
theorem aBP {args:List WData}:PySem.Challenge.rw_xc0031_01.row.claim.post args (.bool true) args=true:=by
 refine postW_of (X:=true) ?_ ?_ rfl
 ·show WShape.has [] (.bool true) .bool=true
  decide +kernel
 ·have e:same (WData.bool true) (WData.bool true)=true:=by decide +kernel
  simp [OpenLaw.row,WTm.value,e]
theorem top_holds (facts:∀ script:List Int,∃ V,aB6 script V):PySem.Challenge.rw_xc0031_01.Holds:=by
 refine hd ?_;intro w s₀ s₁ mg mb G Y fa o pm cd doc dV kV ho hd1 hcd hD hmg hg args vals as hpre hlay hrd hwl hlo;refine Ground.open G ?_;intro T B D TE TW;have hm:mg "law"=some (.ref fa):=hmg;have e205:mg "law"=some (.ref 205):=vE T.g Y.law;have e:fa=205:=by rw [hm] at e205;cases e205;rfl
 subst e;have e63:mg "add_callers"=some (.ref 63):=vE T.g (Y.glob ("add_callers",.ref 63) (AB (i:=2) rfl));obtain ⟨c,P,ec,Bd⟩:∃ c P,fC.code=.ref c∧Based s₁.heap s₁.heap c P #[]:=by
  have a:=Y.fns (63,fC) (rX 3 rfl);cases e:s₁.heap.get? 63 with
  | none=>rw [e] at a;cases a
  | some o=>
   rw [e] at a;exact based_of_top T (by rfl) e63 e (congrArg IC (BC a))
 have ec:c=62:=by cases ec;rfl
 subst ec;have eP:P=58:=by
  refine bM Bd.tab ?_;rintro ⟨o,vs,a1,a2,a3,a4⟩ a5;have k:=Y.tab;unfold aFb at k;rw [a1] at k;obtain ⟨c1,d1,da,sl⟩:=o;cases a3;dsimp only at k;rw [a4] at k;cases k;rfl
 subst eP;have tab:=Bd.tab;have h58:=tab.2;have chd:=CodeHd.of Bd.code Bd.tab;clear hD hd1 hcd hmg Bd
 wrow_args hpre hlay hrd hwl hlo
 rename_i xs hs hL0 hL hr hl2 A1 A2 a vs A3 hIL ra w1 r0 hI hr2 hc1 hc2;have pl:s₁.heap.PlainList a vs.toArray:=sH (xs:=_) w1 hIL;refine ob11 (facts xs) fun V f=>?_;have na:a∉[(58:Addr)]:=fun m=>by
  refine ob11 pl fun n e=>?_;clear pl;rw [bH m,h58] at e;cases e
 refine ob11 pl fun n epl=>?_;clear pl;refine B9 (aCp (n:=0) (X:=[58]) (script:=xs) ⟨rfl,by decide,by decide⟩ rfl ⟨fun x m=>by rw [bH m];exact ⟨_,h58⟩,⟨_,h58⟩⟩ (aGD Y T h58) (.head _) (.ctab (ps:=#[]) ?c1 h58 rfl ?c2) (by exact N1 21 13 hc1) f (.cons (.list ⟨n,bU epl na⟩ (aC9 hI)) .nil)) (fun v s' z=>?c3) (fun _ _ z=>z.elim)
 case c1=>
  refine aIa chd fun o vs file tf flags tg inF text tt e r=>?_;clear chd;exact ⟨o,vs,file,tf,flags,tg,inF,text,tt,bU e (by decide),r⟩
 case c2=>trivial
 case c3=>
  refine gM z fun r c kz=>?_;clear z;refine ob11 kz fun ps e=>?_;clear kz;cases r;refine ⟨.inl ⟨_,.bool true,[],rfl,fun _=>rfl,.bool true,?d1,fun _=>⟨.nil,fun _ m=>nomatch m⟩⟩,aET tab c e,c.os,c.bare (.of_eq hg)⟩
  case d1=>exact aBP
end Mine.Internal
theorem PySem.Challenge.cw_xc0031_01_holds : PySem.Challenge.rw_xc0031_01.Holds := by
  exact Mine.Internal.top_holds Mine.Internal.facts
