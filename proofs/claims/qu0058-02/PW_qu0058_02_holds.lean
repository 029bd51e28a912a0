import PyProof.Rows.All
import KE.KStar
import KE.KSuper
import KE.KCallOwn
import KE.KxPercentT
import KE.KLam
import OpenK.ZHead
import Lean
import PySem.Challenge.RW_qu0058_02
set_option Elab.async false
set_option maxRecDepth 100000
set_option linter.all false
set_option bootstrap.genMatcherCode false
set_option compiler.extract_closed false
set_option hygiene false
set_option maxHeartbeats 16000000
open Option renaming some → a7,none → a8
open Bool renaming true → a9,false → ac
open Array renaming getD_eq_getD_getElem?->X4, getElem?_eq_some_iff->AaT, getElem?_eq_getElem->Aa5, getElem?_setIfInBounds->Acp, replicate->AcF, toList_extract->Adw, size_replicate->Adx
open Bool renaming noConfusion->XA, and_eq_true_iff->X9, and_eq_true->YP, false_ne_true->YX, false_eq_true->ZV, not_eq_true'->Z7, eq_iff_iff->AcE, false_and->AcQ, and_false->AcR, true_and->Ac6, not_not->Adq, and_eq_false_iff->Adr
open Classical renaming byContradiction->ZE
open Decidable renaming byContradiction->Aa3
open Except renaming ok->Adp
open Int renaming toNat_natCast->Yq, ofNat_le->Aam, add_assoc->Abj, zero_add->AbB, toNat_of_nonneg->AbS, not_le->Acd, le_of_lt->Acg, add_zero->Ach, negSucc->AcA, mul_add->AcB, le_refl->AcC, eq_ofNat_of_zero_le->Ac5, sub_nonneg_of_le->Adv
open Lean renaming Syntax->YW
open List renaming getElem?_eq_some_iff->Xc, length_append->Xg, mem_singleton->Xh, mem_cons->Xi, getElem?_eq_getElem->Xk, mem_append->Xl, length_map->Xm, toArray->Xp, append_assoc->Xq, mem_map->Xr, length_cons->Xs, map_cons->Xu, append_nil->Xv, not_mem_nil->Xy, getElem?_set_ne->XC, length_take->XJ, mem_append_left->XN, forall_mem_cons->XO, length_nil->XU, length_drop->XW, nodup_cons->X3, mem_append_right->X6, all_eq_true->X8, map_append->Yc, length_pos_iff->Ye, length_set->Yg, dropLast_concat_getLast->Yh, cons_ne_nil->Yj, take_of_length_le->Yl, getElem?_append_right->Yo, set_append_right->Ys, concat_ne_nil->Yu, getElem?_append_left->Yv, drop_eq_getElem_cons->Yw, range->Yx, lookup_cons_self->YC, lookup->YK, getLast?_eq_some_getLast->YO, filterMap_cons->YQ, of_mem_zip->YT, nil_append->YU, ne_of_not_mem_cons->YV, mem_of_mem_take->YY, getElem?_set_self->Y0, takeWhile_cons->Y2, sum_cons->Y4, take_append_drop->Y7, getElem?_eq_none->Y8, dropLast_eq_take->Y9, set_append_left->Zf, length_eq_zero_iff->Zg, drop_zero->Zi, getElem?_map->Zl, getElem_of_mem->Zo, getD_eq_getElem?_getD->Zq, set_set->Zt, map_map->Zu, mem_append_cons_self->ZC, getLast?_eq_getElem?->ZD, length_dropLast->ZF, drop_eq_nil_iff->ZG, map_congr_left->ZK, length->ZL, mem_flatMap->ZP, eq_nil_of_length_eq_zero->ZQ, drop_drop->ZR, drop_of_length_le->ZU, Sublist->Z0, ext_getElem?->Z6, mem_of_mem_drop->Aab, drop->Aae, getElem_mem->Aah, dropWhile_cons->Aai, map_nil->Aal, mem_filterMap->Aar, foldl_cons->Aas, filter_cons_of_pos->Aat, filter_cons_of_neg->Aau, range_succ_eq_map->Aax, length_range->AaE, flatMap_cons->AaF, dropLast_subset->AaK, getElem?_drop->AaW, extract_eq_take_drop->Aa0, drop_left->Aa1, nodup_append->Aa9, getElem?_take_of_lt->Aba, flatten_cons->Abb, head_eq_of_cons_eq->Abg, all_eq_not_any_not->Abi, take_length->Abn, nil_sublist->Abo, getLast_mem->Abp, cons_append->Abq, length_eq_one_iff->Abt, dropWhile_sublist->Abu, take->AbA, reverse_reverse->AbE, mem_of_getElem?->AbF, getLast?_append->AbG, extract_toArray->AbH, dropLast_concat->AbI, take_zero->AbK, zip_nil_right->AbZ, zip_cons_cons->Ab0, set_cons_zero->Ab1, filterMap_nil->Ab2, filterMap_map->Ab3, all_cons->Ab4, takeWhile_append_dropWhile->Ab7, size_toArray->Ab8, map_dropLast->Ab9, foldl_append->Aca, eraseIdx_eq_take_drop_succ->Acb, isEmpty_nil->Ack, isEmpty_iff->Acl, length_zip->Acx, forIn_cons->Acy, replicate->AcK, mem_range->AcL, getElem?_eq_none_iff->AcM, mem_of_elem_eq_true->AcW, takeWhile_prefix->Adl, length_filter_le->Adm, filterMap_eq_map->Adn
open List.Sublist renaming refl->Zm
open List.cons renaming inj->Abh, injEq->Acz
open Nat renaming le_refl->Xd, le_trans->Xf, zero_le->Xn, le_add_left->Xx, lt_of_lt_of_le->XB, ne_of_beq_eq_false->XG, zero_add->XI, le_of_ble_eq_true->XK, lt_irrefl->XM, succ_pos->XQ, le_succ->Yb, le_add_right->Yd, lt_succ_self->Yi, succ_add_eq_add_succ->Ym, ne_of_lt->YL, le_of_lt->YM, not_lt_zero->Y5, le_of_eq->Y6, min_eq_left->Zn, le_of_add_right_le->Zp, add_sub_of_le->ZH, add_sub_cancel_left->ZJ, succ_le_succ->ZN, le_of_not_lt->ZO, sub_self->ZZ, not_lt->Z5, sub_one_lt_of_lt->Z9, add_right_cancel->Aaa, mul_le_mul->Aad, le_of_not_le->Aaf, le_of_not_ge->Aag, ne_of_gt->Aak, lt_of_add_right_lt->Aaw, le_succ_of_le->AaD, min_le_right->AaI, lt_add_right->AaJ, le_of_lt_succ->Aa8, lt_add_of_pos_right->Abe, add_assoc->Abf, min_eq_right->Abm, le_add_right_of_le->Abr, eq_zero_of_le_zero->Abs, add_le_add_left->AbR, pos_of_ne_zero->AbY, lt_succ_of_lt->Ab6, sub_zero->Ace, lt_trans->Acf, succ_ne_zero->Acj, succ->Aco, sub_lt_succ->Acv, add_mul->Acw, add_le_add_iff_left->Ac4, lt_of_succ_lt_succ->Ac9, le_sub_iff_add_le'->Ada, add_zero->Adi, add_sub_self_left->Adj, add_comm->Adk, mul_le_mul_right->Adt, add_succ_sub_one->Adu
open Option renaming bind_eq_some_iff->YE, isSome_iff_exists->Zd, bind_some->Zr, isNone_iff_eq_none->ZA, map_eq_some_iff->ZT, map_some->Abz, some_ne_none->AbQ, none->Acu
open Option.some renaming inj->Xe
open Prod renaming ext->Acn, snd->Ac3
open Pure renaming pure->Xj
open PyProof.Rows renaming truthy_none->AaQ, Attribute_any_->Aa4, stripBy_eq->Abd, own_apart->AbW, takeWhile_all->AcX, sub_list_list->AcY
open PySem renaming wpAny_pure->GT, Str->Pi, wpAny_bind->Xb, builtinLookup_eq_fast->Xw, wpAny_mono->Xz, wpAny_holding->XE, wpAny_field->XR, wpAny_callSpecial?_slot->XS, typeLookup_type->XT, wpAny_of_eq->XX, wpAny_seqItems->X1, codeAny_call_builtin->X5, wpAny_execs_cons->X7, isSubtype_type->Yn, wpAny_items_cons->Yp, codeAny_mono->Yr, wpAny_standAt->Yy, wpAny_call_entry->Yz, wpAny_with_toks->YA, wpAny_newObj_type->YB, wpAny_call->YD, wpAny_specialOf->YF, list_append->YH, builtinType_eq_fast->YI, entryFor_of_tree->YN, wpAny_items_nil->YR, mem_of_lookup->YS, wpAny_loadName_local->Ze, wpAny_rule->Zj, wpAny_setField->Zw, wpAny_loadPart->Zx, mem_of_lookup->ZI, wpAny_isInstance->ZM, wpAny_updateSeq->ZW, wpAny_typeOf->ZX, codeAny_builtin->ZY, wpAny_load->Z1, wpAny_attempt->Z2, wpAny_Assign_Name->Z3, wpAny_newFunctionEnv->Z8, typeIs_str->Aaj, wpAny_listSubscript_int->Aan, slot_listiter_next->Aao, codeAny_of_tree->Aap, wpAny_truthy_bool->Aaz, wpAny_letGo->AaA, plainObj_wpAny_Assign_Attribute->AaB, wpAny_fieldsOf->AaG, ks_wpAt_mono->AaH, signature?_of->AaL, arm_eval_Call->AaM, wpAny_Name->AaP, wpAny_newTuple->AaZ, getMethod_builtin->Aa6, wpAny_mkInt->Abc, wpAny_pyIter_listiter->Abv, wpAny_mkText->Abw, wpAny_execs_nil->Abx, Fin->Aby, call_meets->AbC, seg_execs_cons->AbJ, wpAny_Constant_bool->AbM, setGen_self->AbN, ks_wpAny_isType_cls->AbP, wpAny_onRaise->AbU, wpAny_isTrue_value->AbV, isNot_none->Ab5, wpAny_mkStr->Acq, makeFunction_eq->Acr, codeAny_toks_of->Acs, wpAny_listPart->AcH, seg_Expr_Yield->AcI, wpAny_comprehension_free->AcS, slot_gen_next->AcZ, plainId_quiet->Ac0, wpAny_Assign_Subscript->Ac7, codeAny_compStart_list->Ac8, wpAny_storeName_local->Adc, wpAny_isTrue_Compare1->Ade, wpAny_letTemporaryGo->Ads
open PySem.Around renaming under_plainId->Aac
open PySem.Bind renaming checkArgs->ZS
open PySem.Builtin renaming divisionGoesByPylong->AaO
open PySem.Builtin.Generator renaming genWake->AcP
open PySem.Builtin.ObjectAttr renaming storeInOwnDict->Aav, ownDictForStores->AbT, storeTaker?->Aci, ownDict->AcG
open PySem.Builtin.Range renaming rangeSize->Abl
open PySem.Builtin.SmallTypes renaming nextOf->AcO
open PySem.Calls renaming Name_function_global->AaS, call_function_entry->AcN
open PySem.Code renaming quiet_builtin->Zv, builtin->AaY
open PySem.Expr renaming Lambda->AcD
open PySem.F renaming store_object->AbD
open PySem.Heap renaming get?_push_of_some->Xa, get?_push_size->Xo, lt_size->XF, get?_update_self->XY, SameBut->XZ, get?_update_ne->Y3, get?_update_other->Aay, get?_some_iff->AaX, SlotsOnly->Aa2, ExtBut->Abk, size_push->AbL, size_after_update->Adb
open PySem.Heap.SameBut renaming update->Yk
open PySem.Heap.SlotsOnly renaming update->Ado
open PySem.Manifest renaming signature?->Y1
open PySem.Obj renaming data_mapFields->YG, isFreed_of_fields->Zs, cls_mapFields->AaC
open PySem.Shared renaming setGen->Ac2
open PySem.Sre renaming forSearch->XH, header->Zk, accepts->Zz, itemWidth->Z4, inSet->AaR, forMatch->AaU, Loop->AaV, Kept->Acm, category->Adh
open PySem.Str renaming ofString->YJ, ofString->Zc, join->AcJ
open PySem.StrLaws renaming partsBetween_eq->Ac1
open PySem.Txt renaming split->Aa7, contains->Adg
open PySem.Unicode renaming isSpace->XD
open PySem.Value renaming ref->YZ, none->Zb, str->AbX, type->AcV
open PySem.Value.ref renaming inj->AaN
open PySem.W renaming looks_nsIn->Za, looks_findIn->Zh, looks_mroIn->Zy, looks_clsIn->AbO, codeRec_of->AcT, check_slot->AcU, handedOut_of->Adf
open PySem.W.Looks renaming of_pure->Aaq
namespace Mine.Internal
theorem aP{p:Prop}[Decidable p](h:decide p=a9):p:=of_decide_eq_true h
theorem aQ{c:Prop}{h:Decidable c}(hc:c){α:Sort _}{t e:α}:ite c t e=t:=if_pos hc
theorem aI{c:Prop}{h:Decidable c}(hc:¬c){α:Sort _}{t e:α}:ite c t e=e:=if_neg hc
set_option tactic.hygienic false
set_option genSizeOf false
set_option genSizeOfSpec false
def zzn(k:String)(l:List YW):YW:=.node .none k.toName l.toArray
def zzp(a b s:String):String:=b.intercalate (s.splitOn a)
def zzj(e t:List YW)(y:String):List YW:=
 let c:=y.front
 let r:=(y.drop 1).toString
 match r.splitOn "/" with
 |[f,n]=>
  let n:=n.toNat!
  let a:=(t.take n).reverse
  (if c=='*' then zzn ("Lean.Parser.Tactic."++f) a else if c=='+' then zzn ("Lean.Parser.Term."++f) a else if c=='-' then zzn f a else zzn "Lean.Parser.Term.app" [Lean.mkIdent (c.toString++f).toName,zzn "null" a])::t.drop n
 |_=>if r=="#" then e.reverse++t else(if c=='\'' then .atom .none r else if c=='#' then e[r.toNat!]! else if c=='"' then Lean.Syntax.mkStrLit r else if c.isDigit then Lean.Syntax.mkNumLit y else Lean.mkIdent y.toName)::t
def zzJ(e:List YW)(s:String):YW:=((zzp "%" "'_^+hole/1" (zzp "?" "'?^'_^+syntheticHole/2" (zzp "$" "^-null/1^*tacticSeq1Indented/1^*tacticSeq/1" (zzp "~" "'by^'injections^-null/0^*injections/2$^+byTactic/2" s)))).splitOn "^").foldl (zzj e) [] |>.head!
def zzi(n:Nat)(s:String):String:=String.join (AcK n s)
def zzl(n:Nat):String:="^List.nil"++zzi n "^List.cons/2"
def zzM(f:String→String)(a b s:String):String:=b.intercalate ((s.splitOn a).map f)
def zzO(x:String):String:="'exact^\""++x++"^*exact/2"
def zzG(x:String):String:=
 if x.front=='=' then(x.drop 1).toString else if x.front.isDigit then zzp "," "^" x++zzl (x.splitOn ",").length
 else "'by^"++zzO x++"$^+byTactic/2"
def zzK(x:String):String:=
 let c:=x.front
 let r:=(x.drop 1).toString
 if c=='!' then r else if c=='@' then zzO r
 else if c=='?' then "'guard_target^'=^-Lean.Parser.equalD/1^-Lean.Parser.equal/1"++r++"^*guardTarget/3"
 else "'refine^"++zzM zzG ":" "^" ("="++x)++"^-null/"++((x.splitOn ":").length-1).repr++"^+app/2^*refine/2"
def zzS(x:String):String:=zzM zzK "&" "^';^" x++"^-null/"++(2*(x.splitOn "&").length-1).repr++"^*tacticSeq1Indented/1^*tacticSeq/1"
def zzC(s:String):String:=
 let r:=(s.drop 2).toString
 let i:=2*(".+*!".splitOn s.front.toString).head!.length
 let q:="with_reducible^withReducible^with_unfolding_all^withUnfoldingAll^repeat^tacticRepeat_^focus^focus".splitOn "^"
 "'"++q[i]!++"^'first^'|^"++zzM zzS " " "^-group/2^'|^" r++"^-group/2^-null/"++(r.splitOn " ").length.repr++"^*first/2$^*"++q[i+1]!++"/2"
def zzf(q:List String)(x:List String×String)(c:Char):List String×String:=
 if c.isDigit then(x.1,c.toString++x.2)else
 let t:=if x.2=="" then x.1 else("^"++x.2++q[0]!)::x.1
 let p (i b:Nat):=("^"++i.repr++String.join (t.take b)++q[b+1]!)::t.drop b
 let i:=("+-*:<>.....LTEDGHIJ.AO....~$..N".splitOn c.toString).head!.length
 (if c=='.' then t else if c.isLower then p (if c < 'p' then c.toNat-97 else c.toNat-112) 0 else p (i % 11) (if 22<i then 1 else 2), "")
def zzm(s:String)(a:Nat):Nat→Nat
 |0=>0
 |n+1=>if(s.splitOn (Char.ofNat (a+n)).toString).length==1 then zzm s a n else n+1
def zzu(s:String)(a b:Nat):String:=
 let n:=zzm s a b
 zzi n "^%"++zzl n
def zza(s:String)(n:Nat):String:=
 let q:=". |^lN.k/1|^lN.v/1|^0^lN.k/1^lN.b/3|^lN.b/3|^Ul/|^Um/|^Un/|^Uo/|^Up/".splitOn "|"
 let t:=((s.toList.reverse++['.']).foldl (zzf q.tail) ([], "")).1
 "'exact"++String.join t++zzu s 97 15++zzu s 112 11++"^##^'by^'kernel_rfl^-tacticKernel_rfl/1$^+byTactic/2"++q[5+n]!++(t.length+3+n).repr++"^*exact/2"
def zzT:String:=". |r + !'rfl^*tacticRfl/1|ra . !'assumption^*assumption/1|lh . !'assumption^*assumption/1 JM:ra|lk ! @r @lh @l2 !'assumption^*assumption/1 !'simp^-null/0^*optConfig/1^-null/0^'only^-null/1^'[^-null/0^-null/0^eS^*simpLemma/3^-null/1^']^-null/3^-null/0^*simp/6&@l3|l3 + !'assumption^*assumption/1 !'rfl^*tacticRfl/1|l2 . Gv ME:r:lk|a ! !'assumption^*assumption/1|d ! of_decide_eq_true:r|hs ! @ra @lk JN:lk !'assumption^*assumption/1|ss * @s|in ! Gw:=?&@as|s . execs_cons:=? execs_nil:=? Ac:=? ?^%^bY^%^%^%^List.cons/2^%^starEach/2^backTo/2^spliced/1^%^%^%^Ok/6&pW:=?:r ?^%^aY^%^%^exec/2^%^%^%^Ok/6&@st ?^%^VR^%^%^eval/2^%^%^%^Ok/6&@ex ?^%^cy^%^%^%^isTrue/3^%^%^%^Ok/6&@te Ad:=? Ae:=? all_nil:=? Gx:=? JO:=? jS:=? JP:=? MF:=? ji:a:at:=? ?^%^%^%^%^%^%^%^%^%^KMeth/9&@us MG:='by^'simp^-null/0^*optConfig/1^-null/0^-null/0^-null/0^-null/0^*simp/6$^+byTactic/2:=?|st . nz:=? rF:=? Cl:=? uy:=? Gy:=? IF:=? Af:=? Cn:=?:r:r Ag:a:at:=?:r wQ:=?:r:r rG:=?:r uz:=?:r Co:=?:='fun^%^-null/1^-null/0^'=>^'by^'exact^\"r^*exact/2$^+byTactic/2^+basicFun/4^+fun/2|ex . ?^%^VR^%^%^Expr.Name/2^%^eval/2^%^%^%^Ok/6&@nm ?^%^VR^%^%^%^Expr.Attribute/3^%^%^%^Expr.Call/4^%^eval/2^%^%^%^Ok/6&Cp:r:d:r:r:=? ?^%^VR^%^%^Expr.Name/2^%^%^%^Expr.Call/4^%^eval/2^%^%^%^Ok/6&Cq:a:r:r:gl:r:=?:r ?^%^VR^%^%^%^Expr.Attribute/3^%^eval/2^%^%^%^Ok/6&Gz:=?:r ?^%^VR^%^Const.str/1^%^%^Expr.Constant/3^%^eval/2^%^%^%^Ok/6&pI:t:=? JQ:=? GB:=? GC:=? uA:=? ?^%^VR^%^%^%^%^Expr.Compare/4^%^eval/2^%^%^%^Ok/6&wR:=?:r Cr:=? ?^%^VR^%^%^%^Expr.Subscript/3^%^eval/2^%^%^%^Ok/6&JR:r:=? Cs:=? Ct:=? Cu:=? JS:=? Ah:=?|nm . Cv:a:r:r:lk:=?:r GD:a:r:r:lk:=?:r GF:a:r:r:lk:=?:r:r jj:a:r:gm:=?:r jj:a:r:gp:=?:r|te . ti:=?:r Cw:=? uB:=? wS:=?:r|us . bx:=m_isspace:=? bx:=m_lstrip:=? bx:=m_rstrip:=? bx:=m_strip:=? bx:=m_startswith:=? bx:=JT:=?|as ! ji:a:at:=?|at ! Kept.local:r:r Kept.cell:=%:r:r|gl ! KF.gl:a:=%:=%:r|gm ! And.left:gl|gp ! KF.gp:a:=%:=%:r|t + ml:=List.nil ml:32 ml:10 ml:59,32 ml:44,32 ml:61 ml:61,34 ml:34 ml:92 ml:34,92 ml:32,9 ml:97,98,126 ml:107,108,109 ml:37,115,61,37,115 ml:34,37,115,34 ml:44 ml:97,126 ml:98,32,97 ml:97,32,32,98 ml:97,59,32,98 ml:98,44,32,97 ml:34,32,97 ml:92,32,98 ml:32,97 ml:97,9,98 ml:97,32,98,32,97 ml:44,32,9 ml:59,44 ml:9,59 ml:59|e1 ! !'refine^'n^~^?^wT/2^+noImplicitLambda/2^*refine/2&!'generalize^-null/0^%^ep/1^'=^#1^*generalizeArg/4^-null/1^-null/0^*generalize/3&!'injections^#0^*injections/2|e2 ! !'refine^'n^~^~^?^MH/3^+noImplicitLambda/2^*refine/2&!'generalize^-null/0^%^JU/1^'=^#1^*generalizeArg/4^',^-null/0^%^MI/1^'=^#2^*generalizeArg/4^-null/3^-null/0^*generalize/3&!'injections^#0^*injections/2|e4 ! !'refine^'n^~^~^~^~^?^MJ/5^+noImplicitLambda/2^*refine/2&!'generalize^-null/0^%^Cy/1^'=^#1^*generalizeArg/4^',^-null/0^%^GH/1^'=^#2^*generalizeArg/4^',^-null/0^%^JV/1^'=^#3^*generalizeArg/4^',^-null/0^%^MK/1^'=^#4^*generalizeArg/4^-null/7^-null/0^*generalize/3&!'injections^#0^*injections/2|sk ! !'skip^*skip/1|rv ! !'revert^#0^*revert/2&!'injections^#1^*injections/2&!'unhygienic^'intros^-null/0^*intros/2$^*tacticUnhygienic_/2|rg ! aE:=#0:=? aE:=#0^%^-null/1^+app/2:=? aE:=#0^%^%^-null/2^+app/2:=? aE:=#0^%^%^%^-null/3^+app/2:=? !'rewrite^-null/0^*optConfig/1^#1^-null/0^*rewriteSeq/4|rb ! ix:=#0:=? ix:=#0^%^-null/1^+app/2:=? ix:=#0^%^%^-null/2^+app/2:=? ix:=#0^%^%^%^-null/3^+app/2:=? !'rewrite^-null/0^*optConfig/1^#1^-null/0^*rewriteSeq/4|rh ! !#0&!'try^'with_reducible^'rfl^*tacticRfl/1$^*withReducible/2$^*tacticTry_/2&!#1|ne ! !'infer_instance^*tacticInfer_instance/1 ML PZ Q0 Q1 Q2 Q3 Q4 Q5"
def zzo(s:String)(a:List YW):YW:=zzJ a (match zzT.splitOn ("|"++s++" ") with | [_,r]=>zzC (r.splitOn "|").head! | _=>zza s a.length)
def zzF(e:YW)(n:Lean.MacroM YW):Lean.MacroM YW:=
 let b:=e.isOfKind `Lean.Parser.Term.app
 match(if b then e[0]else e).isStrLit? with|some s=>pure (zzo s (if b then e[1].getArgs.toList else[]))|none=>n
def zzI(l:List YW):YW:=
 let m:=if 4<l.length then 4 else if 2<l.length then 2 else l.length-1
 if l.isEmpty then zzo "ne" []else if l.head!.isIdent then zzo "rv" [zzn "null" l,zzn "null" (zzn "Lean.Parser.Term.hole" [.atom .none "_"]::l)]else
 if m==0 then zzo "sk" []else zzo ("e"++m.repr) (zzn "null" (l.head!::l.drop (m+1))::l.tail)
def zzR(l:List YW)(s:YW):YW:=match l with|[]=>zzo "sk" []|r::l=>zzo "rh" [zzo (if r[0].getArgs.isEmpty then "rg" else "rb") [r[1],s.setArg 1 (zzn "null" [r])],zzR l s]
noncomputable def ep {α:Type} {i:Nonempty α} (G:α->Prop):α:=@Classical.epsilon α i λx=>¬G x
theorem wT{α:Type}(i:Nonempty α){G:α->Prop}(h:G (@ep α i G)):∀x,G x:=λx=>ZE λn=>@Classical.epsilon_spec α (λx=>¬G x) ⟨x,n⟩ h
noncomputable def JU {α0 α1:Type} {i0:Nonempty α0} (G:α0->α1->Prop):α0:=ep (i:=i0) λx=>∀x1,G x x1
noncomputable def MI {α0 α1:Type} {i0:Nonempty α0} {i1:Nonempty α1} (G:α0->α1->Prop):α1:=ep (i:=i1) λx=>G (JU (i0:=i0) G) x
theorem MH{α0 α1:Type}(i0:Nonempty α0)(i1:Nonempty α1){G:α0->α1->Prop}(h:G (JU (i0:=i0) G) (MI (i0:=i0) (i1:=i1) G)):∀x0 x1,G x0 x1:=wT i0 (wT i1 (h))
noncomputable def Cy {α0 α1 α2 α3:Type} {i0:Nonempty α0} (G:α0->α1->α2->α3->Prop):α0:=ep (i:=i0) λx=>∀x1 x2 x3,G x x1 x2 x3
noncomputable def GH {α0 α1 α2 α3:Type} {i0:Nonempty α0} {i1:Nonempty α1} (G:α0->α1->α2->α3->Prop):α1:=ep (i:=i1) λx=>∀x2 x3,G (Cy (i0:=i0) G) x x2 x3
noncomputable def JV {α0 α1 α2 α3:Type} {i0:Nonempty α0} {i1:Nonempty α1} {i2:Nonempty α2} (G:α0->α1->α2->α3->Prop):α2:=ep (i:=i2) λx=>∀x3,G (Cy (i0:=i0) G) (GH (i0:=i0) (i1:=i1) G) x x3
noncomputable def MK {α0 α1 α2 α3:Type} {i0:Nonempty α0} {i1:Nonempty α1} {i2:Nonempty α2} {i3:Nonempty α3} (G:α0->α1->α2->α3->Prop):α3:=ep (i:=i3) λx=>G (Cy (i0:=i0) G) (GH (i0:=i0) (i1:=i1) G) (JV (i0:=i0) (i1:=i1) (i2:=i2) G) x
theorem MJ{α0 α1 α2 α3:Type}(i0:Nonempty α0)(i1:Nonempty α1)(i2:Nonempty α2)(i3:Nonempty α3){G:α0->α1->α2->α3->Prop}(h:G (Cy (i0:=i0) G) (GH (i0:=i0) (i1:=i1) G) (JV (i0:=i0) (i1:=i1) (i2:=i2) G) (MK (i0:=i0) (i1:=i1) (i2:=i2) (i3:=i3) G)):∀x0 x1 x2 x3,G x0 x1 x2 x3:=wT i0 (wT i1 (wT i2 (wT i3 (h))))
theorem ML:Nonempty PySem.World:=⟨⟨default,{ strHash:=default,shareClass:=default,mergeTok:=default,idOf:=default,idOfShared:=default,followText:=default,idOfImm:=default }⟩⟩
theorem PZ:Nonempty PySem.Shared:=⟨{}⟩
theorem Q0:Nonempty PySem.Around:=⟨{}⟩
theorem Q1:Nonempty PySem.Drawn:=⟨{}⟩
theorem Q2:Nonempty PySem.Sre.Seen:=⟨{}⟩
@[elab_as_elim] theorem aE {α:Sort _} {a b:α} {m:α->Prop} (h:a=b) (k:m b):m a:=h▸k
@[elab_as_elim] theorem ix {α:Sort _} {a b:α} {m:α->Prop} (h:b=a) (k:m b):m a:=h▸k
theorem Uq{p:Sort _}{A:Prop}{B:p->Prop}{G:Prop}(h:A/\∃a,B a)(k:A->∀a,B a->G):G:=h.2.elim λa i=>k h.1 a i
section
variable {A B C D E:Prop}{G:Prop}
theorem xA(h:A/\B)(k:A->B->G):G:=k h.1 h.2
theorem pJ(h:A/\B/\C)(k:A->B->C->G):G:=k h.1 h.2.1 h.2.2
theorem nA(h:A/\B/\C/\D)(k:A->B->C->D->G):G:=k h.1 h.2.1 h.2.2.1 h.2.2.2
theorem mr(h:A/\B/\C/\D/\E)(k:A->B->C->D->E->G):G:=k h.1 h.2.1 h.2.2.1 h.2.2.2.1 h.2.2.2.2
theorem iA(h0:A)(h1:B):A/\B:=⟨h0,h1⟩
theorem Gi(h0:A)(h1:B)(h2:C):A/\B/\C:=⟨h0,h1,h2⟩
theorem wU(h0:A)(h1:B)(h2:C)(h3:D):A/\B/\C/\D:=⟨h0,h1,h2,h3⟩
theorem uC(h0:A)(h1:B)(h2:C)(h3:D)(h4:E):A/\B/\C/\D/\E:=⟨h0,h1,h2,h3,h4⟩
end
section
variable {p:Sort _}{A B C D E:p->Prop}{G:Prop}
theorem xE(h:∃a,A a)(k:∀a,A a->G):G:=h.elim λa h=>k a h
theorem bb(h:∃a,A a/\B a)(k:∀a,A a->B a->G):G:=h.elim λa h=>k a h.1 h.2
theorem bV(h:∃a,A a/\B a/\C a)(k:∀a,A a->B a->C a->G):G:=h.elim λa h=>k a h.1 h.2.1 h.2.2
theorem pX(h:∃a,A a/\B a/\C a/\D a)(k:∀a,A a->B a->C a->D a->G):G:=h.elim λa h=>k a h.1 h.2.1 h.2.2.1 h.2.2.2
theorem pY(h:∃a,A a/\B a/\C a/\D a/\E a)(k:∀a,A a->B a->C a->D a->E a->G):G:=h.elim λa h=>k a h.1 h.2.1 h.2.2.1 h.2.2.2.1 h.2.2.2.2
theorem iE(a:p)(h0:A a):∃a,A a:=⟨a,h0⟩
theorem bd(a:p)(h0:A a)(h1:B a):∃a,A a/\B a:=⟨a,h0,h1⟩
theorem cf(a:p)(h0:A a)(h1:B a)(h2:C a):∃a,A a/\B a/\C a:=⟨a,h0,h1,h2⟩
theorem gn(a:p)(h0:A a)(h1:B a)(h2:C a)(h3:D a):∃a,A a/\B a/\C a/\D a:=⟨a,h0,h1,h2,h3⟩
theorem eQ(a:p)(h0:A a)(h1:B a)(h2:C a)(h3:D a)(h4:E a):∃a,A a/\B a/\C a/\D a/\E a:=⟨a,h0,h1,h2,h3,h4⟩
end
section
variable {p q:Sort _}{A B C D E:p->q->Prop}{G:Prop}
theorem IG(h:∃a b,A a b)(k:∀a b,A a b->G):G:=h.elim λa h=>h.elim λb h=>k a b h
theorem dH(h:∃a b,A a b/\B a b)(k:∀a b,A a b->B a b->G):G:=h.elim λa h=>h.elim λb h=>k a b h.1 h.2
theorem bF(h:∃a b,A a b/\B a b/\C a b)(k:∀a b,A a b->B a b->C a b->G):G:=h.elim λa h=>h.elim λb h=>k a b h.1 h.2.1 h.2.2
theorem iL(h:∃a b,A a b/\B a b/\C a b/\D a b)(k:∀a b,A a b->B a b->C a b->D a b->G):G:=h.elim λa h=>h.elim λb h=>k a b h.1 h.2.1 h.2.2.1 h.2.2.2
theorem iy(h:∃a b,A a b/\B a b/\C a b/\D a b/\E a b)(k:∀a b,A a b->B a b->C a b->D a b->E a b->G):G:=h.elim λa h=>h.elim λb h=>k a b h.1 h.2.1 h.2.2.1 h.2.2.2.1 h.2.2.2.2
theorem MM(a:p)(b:q)(h0:A a b):∃a b,A a b:=⟨a,b,h0⟩
theorem dC(a:p)(b:q)(h0:A a b)(h1:B a b):∃a b,A a b/\B a b:=⟨a,b,h0,h1⟩
theorem dU(a:p)(b:q)(h0:A a b)(h1:B a b)(h2:C a b):∃a b,A a b/\B a b/\C a b:=⟨a,b,h0,h1,h2⟩
theorem wV(a:p)(b:q)(h0:A a b)(h1:B a b)(h2:C a b)(h3:D a b):∃a b,A a b/\B a b/\C a b/\D a b:=⟨a,b,h0,h1,h2,h3⟩
theorem yW(a:p)(b:q)(h0:A a b)(h1:B a b)(h2:C a b)(h3:D a b)(h4:E a b):∃a b,A a b/\B a b/\C a b/\D a b/\E a b:=⟨a,b,h0,h1,h2,h3,h4⟩
end
section
variable {p q r:Sort _}{A B C D E:p->q->r->Prop}{G:Prop}
theorem Q6(h:∃a b c,A a b c)(k:∀a b c,A a b c->G):G:=h.elim λa h=>h.elim λb h=>h.elim λc h=>k a b c h
theorem hV(h:∃a b c,A a b c/\B a b c)(k:∀a b c,A a b c->B a b c->G):G:=h.elim λa h=>h.elim λb h=>h.elim λc h=>k a b c h.1 h.2
theorem g8(h:∃a b c,A a b c/\B a b c/\C a b c)(k:∀a b c,A a b c->B a b c->C a b c->G):G:=h.elim λa h=>h.elim λb h=>h.elim λc h=>k a b c h.1 h.2.1 h.2.2
theorem c0(h:∃a b c,A a b c/\B a b c/\C a b c/\D a b c)(k:∀a b c,A a b c->B a b c->C a b c->D a b c->G):G:=h.elim λa h=>h.elim λb h=>h.elim λc h=>k a b c h.1 h.2.1 h.2.2.1 h.2.2.2
theorem fQ(h:∃a b c,A a b c/\B a b c/\C a b c/\D a b c/\E a b c)(k:∀a b c,A a b c->B a b c->C a b c->D a b c->E a b c->G):G:=h.elim λa h=>h.elim λb h=>h.elim λc h=>k a b c h.1 h.2.1 h.2.2.1 h.2.2.2.1 h.2.2.2.2
theorem MN(a:p)(b:q)(c:r)(h0:A a b c):∃a b c,A a b c:=⟨a,b,c,h0⟩
theorem rW(a:p)(b:q)(c:r)(h0:A a b c)(h1:B a b c):∃a b c,A a b c/\B a b c:=⟨a,b,c,h0,h1⟩
theorem pZ(a:p)(b:q)(c:r)(h0:A a b c)(h1:B a b c)(h2:C a b c):∃a b c,A a b c/\B a b c/\C a b c:=⟨a,b,c,h0,h1,h2⟩
theorem eE(a:p)(b:q)(c:r)(h0:A a b c)(h1:B a b c)(h2:C a b c)(h3:D a b c):∃a b c,A a b c/\B a b c/\C a b c/\D a b c:=⟨a,b,c,h0,h1,h2,h3⟩
theorem mw(a:p)(b:q)(c:r)(h0:A a b c)(h1:B a b c)(h2:C a b c)(h3:D a b c)(h4:E a b c):∃a b c,A a b c/\B a b c/\C a b c/\D a b c/\E a b c:=⟨a,b,c,h0,h1,h2,h3,h4⟩
end
section
variable {p q r s:Sort _}{A B C D E:p->q->r->s->Prop}{G:Prop}
theorem dt(h:∃a b c d,A a b c d)(k:∀a b c d,A a b c d->G):G:=h.elim λa h=>h.elim λb h=>h.elim λc h=>h.elim λd h=>k a b c d h
theorem wW(h:∃a b c d,A a b c d/\B a b c d)(k:∀a b c d,A a b c d->B a b c d->G):G:=h.elim λa h=>h.elim λb h=>h.elim λc h=>h.elim λd h=>k a b c d h.1 h.2
theorem GI(h:∃a b c d,A a b c d/\B a b c d/\C a b c d)(k:∀a b c d,A a b c d->B a b c d->C a b c d->G):G:=h.elim λa h=>h.elim λb h=>h.elim λc h=>h.elim λd h=>k a b c d h.1 h.2.1 h.2.2
theorem cV(h:∃a b c d,A a b c d/\B a b c d/\C a b c d/\D a b c d)(k:∀a b c d,A a b c d->B a b c d->C a b c d->D a b c d->G):G:=h.elim λa h=>h.elim λb h=>h.elim λc h=>h.elim λd h=>k a b c d h.1 h.2.1 h.2.2.1 h.2.2.2
theorem eJ(a:p)(b:q)(c:r)(d:s)(h0:A a b c d):∃a b c d,A a b c d:=⟨a,b,c,d,h0⟩
theorem JW(a:p)(b:q)(c:r)(d:s)(h0:A a b c d)(h1:B a b c d):∃a b c d,A a b c d/\B a b c d:=⟨a,b,c,d,h0,h1⟩
theorem GJ(a:p)(b:q)(c:r)(d:s)(h0:A a b c d)(h1:B a b c d)(h2:C a b c d):∃a b c d,A a b c d/\B a b c d/\C a b c d:=⟨a,b,c,d,h0,h1,h2⟩
theorem qa(a:p)(b:q)(c:r)(d:s)(h0:A a b c d)(h1:B a b c d)(h2:C a b c d)(h3:D a b c d):∃a b c d,A a b c d/\B a b c d/\C a b c d/\D a b c d:=⟨a,b,c,d,h0,h1,h2,h3⟩
end
section
variable {α:Type _}{H F:List α}{a b c:α}{n:Nat}
theorem jM:(H++[a])[H.length]?=a7 a:=by simp
theorem Ur:(H++[a]++[b])[H.length]?=a7 a:=by simp
theorem SD:(H++[a]++[b])[H.length+1]?=a7 b:=by simp
theorem GK:(H++[a]).length=H.length+1:=by simp
theorem SE:(H++[a]++[b]).length=H.length+2:=by simp
theorem IH:H.length<(H++[a]).length:=by simp
theorem Us:H.length+1<(H++[a]++[b]).length:=by simp
theorem wH:H.length<=(H++F).length:=by simp
theorem SG:(H++[a]).length<=H.length+1:=Y6 GK
theorem SH:∀j∈[n+1],n<=j:=by simp
theorem Gj:∀j∈[n],n<=j:=by simp
theorem SI:¬n∈[n+1]:=by simp
theorem Cz:H++a::F=H++[a]++F:=by simp
theorem CA:H++[a]++F=H++a::F:=by simp
end
theorem iT{n:Nat}(h:n<=1000):n<=PySem.sizeLine:=Xf h (by decide)
theorem jh{n:Nat}(h:n<=100000):n<=PySem.sizeLine:=Xf h (by decide)
local macro_rules | `(tactic| show $e:term) => zzF e (pure (zzJ [e] "'refine^#0^*refine/2"))
local macro_rules | `(tactic| exact $e) => zzF e Lean.Macro.throwUnsupported
local macro_rules | `(tactic| injections $as*) => pure (zzI as.raw.toList)
local macro_rules | `(tactic| delta $as:ident*) => pure (zzI (zzn "Lean.Parser.Term.hole" [.atom .none "_"]::as.toList.map (·.raw)))
local macro_rules | `(tactic| rw $s:rwRuleSeq) => pure (zzR s.raw[1].getSepArgs.toList s)
set_option genCtorIdx false
inductive lN where
 |v (i:Nat)
 |k (n:Nat)
 |b (o:Nat) (x y:lN)
noncomputable def lN.ctorIdx (x:lN):Nat:=lN.casesOn x (λ_=>0) (λ_=>1) λ_ _ _=>2
noncomputable def JX{α:Type}(z:α):List α->Nat->α
 |[],_=>z
 |a::_,0=>a
 |_::l,i+1=>JX z l i
noncomputable def lN.lit:lN->Nat
 |.k n=>n
 |_=>0
noncomputable def lN.n(c:List Nat):lN->Nat
 |.v i=>JX 0 c i
 |.k n=>n
 |.b o x y=>match o with|0=>x.n c+y.n c|1=>x.n c-y.n c|2=>x.lit*y.n c|3=>x.n c*y.lit|4=>min (x.n c) (y.n c)|_=>max (x.n c) (y.n c)
noncomputable def lN.z(c:List Nat)(d:List Int):lN->Int
 |.v i=>JX 0 d i
 |.k n=>n
 |.b o x y=>match o with|0=>x.z c d+y.z c d|1=>x.z c d-y.z c d|2=>(x.lit:Int)*y.z c d|3=>x.z c d*(y.lit:Int)|4=>- x.z c d|_=>(x.n c:Int)
noncomputable def lN.p(c:List Nat)(d:List Int):lN->Prop
 |.b o x y=>match o with|0=>x.n c<=y.n c|1=>x.n c<y.n c|2=>x.n c=y.n c|3=>x.n c≠y.n c|4=>x.z c d<=y.z c d|5=>x.z c d<y.z c d|6=>x.z c d=y.z c d|7=>x.z c d≠y.z c d|8=>¬x.p c d|9=>x.p c d/\y.p c d|_=>x.p c d\/y.p c d
 |_=>False
noncomputable abbrev gJ:=Int×List Int
noncomputable abbrev nB:=List gJ×gJ
noncomputable def Pu:List Int->List Int->List Int
 |[],m=>m
 |a::l,[]=>a::l
 |a::l,b::m=>(a+b)::Pu l m
noncomputable def Gk(k:Int)(p:gJ):gJ:=(k*p.1,p.2.map (k * ·))
noncomputable def II(p q:gJ):gJ:=(p.1+q.1,Pu p.2 q.2)
noncomputable def iz(p q:gJ):gJ:=II p (Gk (-1) q)
noncomputable def JY:Nat->List Int
 |0=>[1]
 |i+1=>0::JY i
noncomputable def JZ(A B:List nB)(f:gJ->gJ->List nB):List nB:=A.flatMap λa=>B.flatMap λb=>(f a.2 b.2).map λr=>(r.1++(a.1++b.1),r.2)
noncomputable def lN.an:lN->List nB
 |.v i=>[([(0,JY (2*i))],(0,JY (2*i)))]
 |.k n=>[([],(n,[]))]
 |.b o x y=>match o with|0=>JZ x.an y.an λa b=>[([],II a b)]|1=>JZ x.an y.an λa b=>[([iz a b],iz a b),([iz b a],(0,[]))]|2=>y.an.map λa=>(a.1,Gk x.lit a.2)|3=>x.an.map λa=>(a.1,Gk y.lit a.2)|4=>JZ x.an y.an λa b=>[([iz b a],a),([iz a b],b)]|_=>JZ x.an y.an λa b=>[([iz b a],b),([iz a b],a)]
noncomputable def lN.az:lN->List nB
 |.v i=>[([],(0,JY (2*i+1)))]
 |.k n=>[([],(n,[]))]
 |.b o x y=>match o with|0=>JZ x.az y.az λa b=>[([],II a b)]|1=>JZ x.az y.az λa b=>[([],iz a b)]|2=>y.az.map λa=>(a.1,Gk x.lit a.2)|3=>x.az.map λa=>(a.1,Gk y.lit a.2)|4=>x.az.map λa=>(a.1,Gk (-1) a.2)|_=>x.an
noncomputable def Gl(p:gJ):gJ:=(p.1-1,p.2)
noncomputable def SJ(o:Nat)(t:Bool)(a b:gJ):List (List gJ):=match o,t with|0,true=>[[iz b a]]|0,false=>[[Gl (iz a b)]]|1,true=>[[Gl (iz b a)]]|1,false=>[[iz a b]]|2,true=>[[iz a b,iz b a]]|2,false=>[[Gl (iz a b)],[Gl (iz b a)]]|_,true=>[[Gl (iz a b)],[Gl (iz b a)]]|_,false=>[[iz a b,iz b a]]
noncomputable def uD(o:Nat)(t:Bool)(A B:List nB):List (List gJ):=A.flatMap λa=>B.flatMap λb=>(SJ o t a.2 b.2).map λr=>r++(a.1++b.1)
noncomputable def MO(A B:List (List gJ)):List (List gJ):=A.flatMap λa=>B.map λb=>a++b
noncomputable def lN.ap(t:Bool):lN->List (List gJ)
 |.b o x y=>match o with|0=>uD 0 t x.an y.an|1=>uD 1 t x.an y.an|2=>uD 2 t x.an y.an|3=>uD 3 t x.an y.an|4=>uD 0 t x.az y.az|5=>uD 1 t x.az y.az|6=>uD 2 t x.az y.az|7=>uD 3 t x.az y.az|8=>x.ap (!t)|9=>bif t then MO (x.ap t) (y.ap t)else x.ap t++y.ap t|_=>bif t then x.ap t++y.ap t else MO (x.ap t) (y.ap t)
 |_=>bif t then[]else[[]]
noncomputable def Q7(L:List gJ):Bool:=L.any λp=>p.2.isEmpty && decide (p.1<0)
noncomputable def SL(p:gJ):Option gJ:=match p.2 with|[]=>a7 p|c::l=>bif decide (c=0)then a7 (p.1,l)else a8
noncomputable def Pv(t:Int)(p:gJ):Option (Int×gJ):=match p.2 with|[]=>a8|c::l=>bif decide (0<t*c)then a7 (t*c,p.1,l)else a8
noncomputable def SM(L:List gJ):List gJ:=L.filterMap SL++(L.filterMap (Pv 1)).flatMap λa=>(L.filterMap (Pv (-1))).map λb=>II (Gk b.1 a.2) (Gk a.1 b.2)
noncomputable def Q8:Nat->List gJ->Bool
 |0,L=>Q7 L
 |n+1,L=>Q7 L ||Q8 n (SM L)
noncomputable def Md(hs:List lN)(g:lN):Bool:=(hs.foldr (λh A=>MO (h.ap a9) A) (g.ap ac)).all (Q8 20)
noncomputable def Ce:List Int->(Nat->Int)->Int
 |[],_=>0
 |c::l,e=>c*e 0+Ce l λi=>e (i+1)
noncomputable def gO(e:Nat->Int)(p:gJ):Int:=p.1+Ce p.2 e
theorem K0{a b c d:Int}:a+b+(c+d)=a+c+(b+d):=((Abj a b _).trans (congrArg (a + ·) (Int.add_left_comm b c d))).trans (Abj a c _).symm
theorem wX{l:List Int}:∀{m:List Int} {e:Nat->Int},Ce (Pu l m) e=Ce l e+Ce m e:=by
 induction l with
 |nil=>show(AbB _).symm
 |cons a l ih=>
  intro m e;cases m with
  |nil=>show(Ach _).symm
  |cons b m=>
   change(a+b)*e 0+Ce (Pu l m) _=(a*e 0+_)+(b*e 0+_)
   rw[ih,Int.add_mul];show K0
theorem Ai{k:Int}{l:List Int}:∀{e:Nat->Int},Ce (l.map (k * ·)) e=k*Ce l e:=by
 induction l with
 |nil=>show(Int.mul_zero _).symm
 |cons a l ih=>
  intro e;change k*a*e 0+Ce (l.map _) _=k*(a*e 0+_)
  rw[ih,AcB,Int.mul_assoc]
theorem uE{i:Nat}:∀{e:Nat->Int},Ce (JY i) e=e i:=by
 induction i with|zero=>intro e;change 1*e 0+0=_;rw[Int.one_mul,Ach]|succ i ih=>intro e;change 0*e 0+Ce (JY i) _=_;rw[ih,Int.zero_mul,AbB]
section
variable {e:Nat->Int}{p q:gJ}
theorem nC:gO e (II p q)=gO e p+gO e q:=(congrArg (p.1+q.1 + ·) wX).trans K0
theorem mx{k:Int}:gO e (Gk k p)=k*gO e p:=by
 change k*p.1+Ce (p.2.map _) e=k*(p.1+_)
 rw[Ai,AcB]
theorem nD:gO e (iz p q)=gO e p-gO e q:=nC.trans (congrArg (gO e p + ·) (mx.trans (Int.neg_one_mul _)))
theorem Aj:gO e (Gl p)=gO e p-1:=(Abj p.1 (-1) _).trans ((congrArg (p.1 + ·) (Int.add_comm _ _)).trans (Abj p.1 _ (-1)).symm)
theorem qb{i:Nat}:gO e (0,JY i)=e i:=(AbB _).trans uE
theorem nH{k:Int}:gO e (k,[])=k:=Ach _
def wY(e:Nat->Int)(L:List gJ):Prop:=∀p∈L,0<=gO e p
theorem fu:wY e []:=nofun
theorem c7(h:0<=gO e p):wY e [p]:=λ_ m=>by cases m with|head=>show h|tail _ m=>nomatch m
theorem wZ(h:0<=gO e p)(k:0<=gO e q):wY e [p,q]:=λ_ m=>by cases m with|head=>show h|tail _ m=>show c7 k _ m
theorem wY.app{L M:List gJ}(h:wY e L)(k:wY e M):wY e (L++M):=λp m=>(Xl.mp m).elim (h p) (k p)
inductive iM(e:Nat->Int)(A:List nB)(X:Int):Prop
 |mk (a:nB) (m:a∈A) (s:wY e a.1) (h:X=gO e a.2)
inductive kP(e:Nat->Int)(A:List (List gJ)):Prop
 |mk (a:List gJ) (m:a∈A) (s:wY e a)
theorem iM.pair{A B:List nB}{X Y Z:Int}{f:gJ->gJ->List nB}(h:iM e A X)(k:iM e B Y)(g:∀a b,X=gO e a->Y=gO e b->iM e (f a b) Z):iM e (JZ A B f) Z:=by obtain⟨a,m,s,h⟩:=h;obtain⟨b,n,t,k⟩:=k;obtain⟨r,o,u,g⟩:=g a.2 b.2 h k;show⟨_,ZP.mpr ⟨a,m,ZP.mpr ⟨b,n,Xr.mpr ⟨r,o,rfl⟩⟩⟩,u.app (s.app t),g⟩
theorem iM.map{A:List nB}{X:Int}{k:Int}(h:iM e A X):iM e (A.map λa=>(a.1,Gk k a.2)) (k*X):=by obtain⟨a,m,s,h⟩:=h;show⟨_,Xr.mpr ⟨a,m,rfl⟩,s,by rw[h];show mx.symm⟩
theorem iM.two{a b:nB}{X:Int}{P:Prop}(h:P->wY e a.1/\X=gO e a.2)(k:¬P->wY e b.1/\X=gO e b.2):iM e [a,b] X:=(Classical.em P).elim (λq=>⟨a,.head _,(h q).1,(h q).2⟩) λq=>⟨b,.tail _ (.head _),(k q).1,(k q).2⟩
end
noncomputable def Gm(c:List Nat)(d:List Int)(i:Nat):Int:=bif i % 2==0 then((JX 0 c (i / 2):Nat):Int)else JX 0 d (i / 2)
section
variable {c:List Nat}{d:List Int}
theorem Q9{i:Nat}:Gm c d (2*i)=((JX 0 c i:Nat):Int):=by unfold Gm;rw[Nat.mul_mod_right,Nat.mul_div_cancel_left _ (by decide)];rfl
theorem Qa{i:Nat}:Gm c d (2*i+1)=JX 0 d i:=by unfold Gm;rw[Nat.mul_add_mod,Nat.mul_add_div (by decide)];rfl
theorem yX{a b:gJ}{e:Nat->Int}{X Y:Int}(p:X=gO e a)(q:Y=gO e b):gO e (iz b a)=Y-X:=nD.trans (q▸p▸rfl)
theorem lE{a b:gJ}{e:Nat->Int}{X Y:Int}(p:X=gO e a)(q:Y=gO e b)(g:X<=Y):0<=gO e (iz b a):=yX p q▸Adv g
theorem yY{a b:gJ}{e:Nat->Int}{X Y:Int}(p:X=gO e a)(q:Y=gO e b)(g:¬Y<=X):0<=gO e (Gl (iz b a)):=(Aj.trans (congrArg (· - 1) (yX p q)))▸Adv (Int.sub_pos_of_lt (Acd.mp g))
theorem x5{a b:gJ}{e:Nat->Int}{m n:Nat}(p:(m:Int)=gO e a)(q:(n:Int)=gO e b):iM e [([iz a b],iz a b),([iz b a],(0,[]))] ((m-n:Nat):Int):=
 .two (P:=n<=m) (λh=>⟨c7 (lE q p (Aam.mpr h)),(Int.ofNat_sub h).trans (q▸p▸nD.symm)⟩)
  λh=>⟨c7 (lE p q (Aam.mpr (Aaf h))),(congrArg _ (Nat.sub_eq_zero_of_le (Aaf h))).trans nH.symm⟩
theorem x6{a b:gJ}{e:Nat->Int}{m n:Nat}(p:(m:Int)=gO e a)(q:(n:Int)=gO e b):iM e [([iz b a],a),([iz a b],b)] ((min m n:Nat):Int):=
 .two (P:=m<=n) (λh=>⟨c7 (lE p q (Aam.mpr h)),(congrArg _ (Zn h)).trans p⟩)
  λh=>⟨c7 (lE q p (Aam.mpr (Aaf h))),(congrArg _ (Abm (Aaf h))).trans q⟩
theorem x7{a b:gJ}{e:Nat->Int}{m n:Nat}(p:(m:Int)=gO e a)(q:(n:Int)=gO e b):iM e [([iz b a],b),([iz a b],a)] ((max m n:Nat):Int):=
 .two (P:=m<=n) (λh=>⟨c7 (lE p q (Aam.mpr h)),(congrArg _ (Nat.max_eq_right h)).trans q⟩)
  λh=>⟨c7 (lE q p (Aam.mpr (Aaf h))),(congrArg _ (Nat.max_eq_left (Aaf h))).trans p⟩
theorem qc{a b:gJ}{e:Nat->Int}{X Y:Int}(p:X=gO e a)(q:Y=gO e b):iM e [([],II a b)] (X+Y):=⟨_,.head _,fu,by rw[p,q];show nC.symm⟩
theorem x8{a b:gJ}{e:Nat->Int}{X Y:Int}(p:X=gO e a)(q:Y=gO e b):iM e [([],iz a b)] (X-Y):=⟨_,.head _,fu,by rw[p,q];show nD.symm⟩
theorem cz{x:lN}:iM (Gm c d) x.an (x.n c:Int):=by
 induction x with
 |v i=>have h:=(qb (e:=Gm c d)).trans (Q9 (d:=d) (i:=i));show⟨_,.head _,c7 (h▸Int.natCast_nonneg _),h.symm⟩
 |k n=>show⟨_,.head _,fu,nH.symm⟩
 |b o x y hx hy=>match o with|0=>show iM.pair (Z:=((x.n c+y.n c:Nat):Int)) (f:=λa b=>[([],II a b)]) hx hy λa b p q=>Int.natCast_add _ _▸qc p q|1=>show iM.pair (f:=λa b=>[([iz a b],iz a b),([iz b a],(0,[]))]) hx hy λa b p q=>x5 p q|2=>show Int.natCast_mul x.lit (y.n c)▸hy.map|3=>show((Int.natCast_mul (x.n c) y.lit).trans (Int.mul_comm _ _))▸hx.map|4=>show iM.pair (f:=λa b=>[([iz b a],a),([iz a b],b)]) hx hy λa b p q=>x6 p q|_+5=>show iM.pair (f:=λa b=>[([iz b a],b),([iz a b],a)]) hx hy λa b p q=>x7 p q
theorem cG{x:lN}:iM (Gm c d) x.az (x.z c d):=by
 induction x with
 |v i=>show⟨_,.head _,fu,(qb.trans Qa).symm⟩
 |k n=>show⟨_,.head _,fu,nH.symm⟩
 |b o x y hx hy=>match o with|0=>show iM.pair (f:=λa b=>[([],II a b)]) hx hy λa b p q=>qc p q|1=>show iM.pair (f:=λa b=>[([],iz a b)]) hx hy λa b p q=>x8 p q|2=>show hy.map|3=>change iM _ _ (x.z c d*(y.lit:Int));show Int.mul_comm (y.lit:Int) (x.z c d)▸hx.map|4=>change iM _ _ (- x.z c d);show(Int.neg_eq_neg_one_mul (x.z c d)).symm▸hx.map|_+5=>show cz
end
section
variable {e:Nat->Int}{X Y:Int}{A B:List nB}
theorem kP.rl{o:Nat}{t:Bool}(h:iM e A X)(k:iM e B Y)(g:∀a b,X=gO e a->Y=gO e b->kP e (SJ o t a b)):kP e (uD o t A B):=by obtain⟨a,m,s,h⟩:=h;obtain⟨b,n,u,k⟩:=k;obtain⟨r,i,w⟩:=g a.2 b.2 h k;show⟨_,ZP.mpr ⟨a,m,ZP.mpr ⟨b,n,Xr.mpr ⟨r,i,rfl⟩⟩⟩,w.app (s.app u)⟩
theorem kP.le(h:iM e A X)(k:iM e B Y)(g:X<=Y):kP e (uD 0 a9 A B):=.rl h k λa b p q=>⟨_,.head _,c7 (lE p q g)⟩
theorem kP.SN(h:iM e A X)(k:iM e B Y)(g:¬X<=Y):kP e (uD 0 ac A B):=.rl h k λa b p q=>⟨_,.head _,c7 (yY q p g)⟩
theorem kP.lt(h:iM e A X)(k:iM e B Y)(g:X<Y):kP e (uD 1 a9 A B):=.rl h k λa b p q=>⟨_,.head _,c7 (yY p q (Acd.mpr g))⟩
theorem kP.SO(h:iM e A X)(k:iM e B Y)(g:¬X<Y):kP e (uD 1 ac A B):=.rl h k λa b p q=>⟨_,.head _,c7 (lE q p (Int.not_lt.mp g))⟩
theorem IJ{a b:gJ}(p:X=gO e a)(q:Y=gO e b)(g:X=Y):kP e [[iz a b,iz b a]]:=⟨_,.head _,wZ (lE q p (Int.le_of_eq g.symm)) (lE p q (Int.le_of_eq g))⟩
theorem kP.eq(h:iM e A X)(k:iM e B Y)(g:X=Y):kP e (uD 2 a9 A B):=.rl h k λa b p q=>IJ p q g
theorem uF{a b:gJ}(p:X=gO e a)(q:Y=gO e b)(g:X≠Y):kP e [[Gl (iz a b)],[Gl (iz b a)]]:=(Classical.em (X<=Y)).elim (λh=>⟨_,.tail _ (.head _),c7 (yY p q λk=>g (Int.le_antisymm h k))⟩) λh=>⟨_,.head _,c7 (yY q p h)⟩
theorem kP.SP(h:iM e A X)(k:iM e B Y)(g:¬X=Y):kP e (uD 2 ac A B):=.rl h k λ_ _ p q=>uF p q g
theorem kP.ne(h:iM e A X)(k:iM e B Y)(g:X≠Y):kP e (uD 3 a9 A B):=.rl h k λ_ _ p q=>uF p q g
theorem kP.SQ(h:iM e A X)(k:iM e B Y)(g:¬X≠Y):kP e (uD 3 ac A B):=.rl h k λa b p q=>IJ p q (Classical.not_not.mp g)
theorem kP.both{A B:List (List gJ)}(h:kP e A)(k:kP e B):kP e (MO A B):=by obtain⟨a,m,s⟩:=h;obtain⟨b,n,t⟩:=k;show⟨_,ZP.mpr ⟨a,m,Xr.mpr ⟨b,n,rfl⟩⟩,s.app t⟩
theorem kP.inl{A B:List (List gJ)}(h:kP e A):kP e (A++B):=by obtain⟨a,m,s⟩:=h;show⟨_,Xl.mpr (.inl m),s⟩
theorem kP.inr{A B:List (List gJ)}(h:kP e B):kP e (A++B):=by obtain⟨a,m,s⟩:=h;show⟨_,Xl.mpr (.inr m),s⟩
end
section
variable {c:List Nat}{d:List Int}
theorem yZ{x:lN}:(x.p c d->kP (Gm c d) (x.ap a9))/\(¬x.p c d->kP (Gm c d) (x.ap ac)):=by
 induction x with
 |v i=>show⟨False.elim,λ_=>⟨_,.head _,fu⟩⟩
 |k i=>show⟨False.elim,λ_=>⟨_,.head _,fu⟩⟩
 |b o x y hx hy=>match o with|0=>show⟨λh=>.le cz cz (Aam.mpr h),λh=>.SN cz cz λq=>h (Aam.mp q)⟩|1=>show⟨λh=>.lt cz cz (Int.ofNat_lt.mpr h),λh=>.SO cz cz λq=>h (Int.ofNat_lt.mp q)⟩|2=>show⟨λh=>.eq cz cz (congrArg _ h),λh=>.SP cz cz λq=>h (Int.ofNat_inj.mp q)⟩|3=>show⟨λh=>.ne cz cz λq=>h (Int.ofNat_inj.mp q),λh=>.SQ cz cz λq=>h λr=>q (congrArg _ r)⟩|4=>show⟨λh=>.le cG cG h,λh=>.SN cG cG h⟩|5=>show⟨λh=>.lt cG cG h,λh=>.SO cG cG h⟩|6=>show⟨λh=>.eq cG cG h,λh=>.SP cG cG h⟩|7=>show⟨λh=>.ne cG cG h,λh=>.SQ cG cG h⟩|8=>show⟨λh=>hx.2 h,λh=>hx.1 (Classical.not_not.mp h)⟩|9=>show⟨λh=>(hx.1 h.1).both (hy.1 h.2),λh=>(Classical.not_and_iff_not_or_not.mp h).elim (λq=>(hx.2 q).inl) λq=>(hy.2 q).inr⟩|_+10=>show⟨λh=>h.elim (λq=>(hx.1 q).inl) λq=>(hy.1 q).inr,λh=>(hx.2 λq=>h (.inl q)).both (hy.2 λq=>h (.inr q))⟩
end
theorem qd{e:Nat->Int}{L:List gJ}(s:wY e L)(h:Q7 L=a9):False:=by obtain⟨p,m,q⟩:=List.any_eq_true.mp h;obtain⟨q1,q2⟩:=X9.mp q;have q3:=s p m;unfold gO at q3;rw[Acl.mp q1]at q3;show Acd.mpr (aP q2) ((Ach p.1).symm▸q3)
theorem x9{e:Nat->Int}{L:List gJ}(s:wY e L):wY (λi=>e (i+1)) (SM L):=λp m=>by
 rcases Xl.mp m with m|m
 .obtain⟨q,n,h⟩:=Aar.mp m
  have:=s q n;unfold SL at h;unfold gO at this ⊢;obtain⟨k,l⟩:=q;cases l with
  |nil=>obtain rfl:=Xe h;show this
  |cons a l=>
   by_cases z:a=0
   .subst z;obtain rfl:=Xe h;show(congrArg (k + ·) ((congrArg (· + _) (Int.zero_mul _)).trans (AbB _)))▸this
   .dsimp only at h;rw[decide_eq_false z]at h;show nomatch h
 .obtain⟨a,n,m⟩:=ZP.mp m;obtain⟨b,o,rfl⟩:=Xr.mp m;have key:∀{t:Int} {a:Int×gJ},a∈L.filterMap (Pv t)->0<a.1/\∃c,a.1=t*c/\0<=c*e 0+gO (λi=>e (i+1)) a.2:=λ{t a} n=>by
   obtain⟨q,n,h⟩:=Aar.mp n
   have:=s q n;unfold Pv at h;obtain⟨k,l⟩:=q;cases l with
   |nil=>show nomatch h
   |cons c l=>
    by_cases z:0<t*c
    .dsimp only at h;rw[decide_eq_true z]at h;obtain rfl:=Xe h;show⟨z,c,rfl,(Int.add_left_comm _ _ _).symm▸this⟩
    .dsimp only at h;rw[decide_eq_false z]at h;show nomatch h
  obtain⟨p1,x,hx,p2⟩:=key n;obtain⟨q1,y,hy,q2⟩:=key o;rw[nC,mx,mx];have r1:=Int.mul_nonneg (Acg q1) p2;have r2:=Int.mul_nonneg (Acg p1) q2;have r3:=Int.add_nonneg r1 r2;rw[AcB,AcB]at r3;have r4:b.1*(x*e 0)+a.1*(y*e 0)=0:=by rw[hx,hy,Int.one_mul,Int.neg_one_mul,Int.neg_mul,Int.mul_left_comm];show Int.add_left_neg _
  rw[K0,r4,AbB]at r3;show r3
theorem xc{n:Nat}:∀{e:Nat->Int} {L:List gJ},Q8 n L=a9->wY e L->False:=by
 induction n with|zero=>showλh s=>qd s h|succ n ih=>showλh s=>(Bool.or_eq_true_iff.mp h).elim (qd s) λq=>ih q (x9 s)
theorem iV{c:List Nat}{d:List Int}{hs:List lN}{g:lN}(k:Md hs g=a9)(h:∀x∈hs,x.p c d):g.p c d:=ZE λng=>by
 have:kP (Gm c d) (hs.foldr (λh A=>MO (h.ap a9) A) (g.ap ac)):=by
  clear k;induction hs with|nil=>show yZ.2 ng|cons x l ih=>show(yZ.1 (h x (.head _))).both (ih λy m=>h y (.tail _ m))
 obtain⟨a,m,s⟩:=this;show xc (X8.mp k a m) s
section
variable (h1 h2 h3 h4 h5 g:lN)(c:List Nat)(d:List Int)
theorem Ul(k:Md [] g=a9):g.p c d:=iV k nofun
theorem Um(x1:h1.p c d)(k:Md [h1] g=a9):g.p c d:=iV k (XO.mpr ⟨x1,nofun⟩)
theorem Un(x1:h1.p c d)(x2:h2.p c d)(k:Md [h1,h2] g=a9):g.p c d:=iV k (XO.mpr ⟨x1,XO.mpr ⟨x2,nofun⟩⟩)
theorem Uo(x1:h1.p c d)(x2:h2.p c d)(x3:h3.p c d)(k:Md [h1,h2,h3] g=a9):g.p c d:=iV k (XO.mpr ⟨x1,XO.mpr ⟨x2,XO.mpr ⟨x3,nofun⟩⟩⟩)
theorem Up(x1:h1.p c d)(x2:h2.p c d)(x3:h3.p c d)(x4:h4.p c d)(k:Md [h1,h2,h3,h4] g=a9):g.p c d:=iV k (XO.mpr ⟨x1,XO.mpr ⟨x2,XO.mpr ⟨x3,XO.mpr ⟨x4,nofun⟩⟩⟩⟩)
end
section
open PySem
namespace Rx
open Sre (M Seen Kept ops maxRepeat)
variable {N:Nat}{m:M}{P:M->Prop}
noncomputable abbrev Fr:=Sre.Frame
def Goes(N:Nat)(m:M)(P:M->Prop):Prop:=∃n,n<=N/\(m.runFor n).outcome.isSome=a9/\P (m.runFor n)
theorem Goes.now(h:m.outcome.isSome=a9)(p:P m):Goes N m P:=cf 0 (Xn _) h p
theorem Goes.step(h:m.outcome=a8)(x:Goes N m.step P):Goes (N+1) m P:=by
 show bV x λn hn a b=>?_;have e:m.runFor (n+1)=m.step.runFor n:=by show aI (by rw[h];show YX)
 show cf (n+1) (Nat.add_le_add_right hn 1) (by rw[e];show a) (by rw[e];show b)
theorem Goes.le{N':Nat}(h:N<=N')(x:Goes N m P):Goes N' m P:=let⟨n,a,b⟩:=x;(bd n (Xf a h) b)
structure Cf where
 code:Array Nat
 l:List Nat
 b:Nat
 whole:Bool
noncomputable abbrev K(c:Cf)(ay:Nat)(aJ:Bool)(pc ai aC:Nat)(aS:Bool)(aq:Array (Option Nat))(lm li:Int)(fr:List Fr)(wt:Nat)(Me:Option Bool)(aA:Seen)(lp:Array AaV)(bU:Option Nat):M:={ code:=c.code,text:=c.l.toArray,lim:=c.l.length,start:=ay,lastStart:=c.b,wholeText:=c.whole,mustAdvance:=aJ,pc:=pc,pos:=ai,handed:=aC,outermost:=aS,marks:=aq,lastmark:=lm,lastindex:=li,frames:=fr,weight:=wt,answer:=Me,seen:=aA,loops:=lp,inner:=bU }
variable {c:Cf}{ay:Nat}{aJ:Bool}{pc ai aC:Nat}{aS:Bool}{aq:Array (Option Nat)}{lm li:Int}{fr:List Fr}{wt:Nat}{aA:Seen}{lp:Array AaV}{bU:Option Nat}{N:Nat}{P:M->Prop}
theorem Ak(h1:m.outcome=a8)(h2:m.answer=a8)(h3:m.pc<m.code.size):m.step=m.exec:=by unfold M.step;rw[h1,h2];show aQ ‹_›
theorem my(gI:pc<c.code.size):(K c ay aJ pc ai aC aS aq lm li fr wt a8 aA lp bU).step=(K c ay aJ pc ai aC aS aq lm li fr wt a8 aA lp bU).exec:=Ak rfl rfl gI
theorem CB(h0:c.code.getD pc 0=6)(h1:c.code.getD (pc+1) 0=0)(gI:pc<c.code.size)(hp:ai=0)
  (k:∀aA,Goes N (K c ay aJ (pc+2) ai aC aS aq lm li fr wt a8 aA lp bU) P):Goes (N+1) (K c ay aJ pc ai aC aS aq lm li fr wt a8 aA lp bU) P:=by
 show Goes.step rfl ?_;subst hp;rw[my gI];unfold M.exec;rw[show ops[(K c ay aJ pc 0 aC aS aq lm li fr wt a8 aA lp bU).word 0]?=a7 .AT from by rw[show(K c ay aJ pc 0 aC aS aq lm li fr wt a8 aA lp bU).word 0=6 from h0];rfl];dsimp only;have hi:∀sn,M.isAt (K c ay aJ pc 0 aC aS aq lm li fr wt a8 sn lp bU) 0=.ok a9:=λ_=>rfl;rw[show∀sn,(K c ay aJ pc 0 aC aS aq lm li fr wt a8 sn lp bU).word 1=0 fromλ_=>h1,hi];show k _
theorem rX(h0:c.code.getD pc 0=6)(h1:c.code.getD (pc+1) 0=0)(gI:pc<c.code.size)(hp:ai≠0)
  (k:∀aA,Goes N (K c ay aJ pc ai aC aS aq lm li fr wt (a7 ac) aA lp bU) P):Goes (N+1) (K c ay aJ pc ai aC aS aq lm li fr wt a8 aA lp bU) P:=by
 show Goes.step rfl ?_;rw[my gI];unfold M.exec;rw[show ops[(K c ay aJ pc ai aC aS aq lm li fr wt a8 aA lp bU).word 0]?=a7 .AT from by rw[show(K c ay aJ pc ai aC aS aq lm li fr wt a8 aA lp bU).word 0=6 from h0];rfl];dsimp only;have hi:∀sn,M.isAt (K c ay aJ pc ai aC aS aq lm li fr wt a8 sn lp bU) 0=.ok ac:=λ_=>by change Adp (ai==0)=_;rw[show(ai==0)=ac by show aI ‹_›]
 rw[show∀sn,(K c ay aJ pc ai aC aS aq lm li fr wt a8 sn lp bU).word 1=0 fromλ_=>h1,hi];show k _
theorem tj{i:Nat}(h0:c.code.getD pc 0=17)(h1:c.code.getD (pc+1) 0=i)(gI:pc<c.code.size)(hi:(i:Int)<=lm+1)
  (k:∀aA,Goes N (K c ay aJ (pc+2) ai aC aS (aq.setIfInBounds i (a7 ai)) (max lm i) (if i % 2==1 then(i / 2+1:Nat)else li) fr wt a8 aA lp bU) P):Goes (N+1) (K c ay aJ pc ai aC aS aq lm li fr wt a8 aA lp bU) P:=by
 show Goes.step rfl ?_;rw[my gI];unfold M.exec;rw[show ops[(K c ay aJ pc ai aC aS aq lm li fr wt a8 aA lp bU).word 0]?=a7 .MARK from by rw[show(K c ay aJ pc ai aC aS aq lm li fr wt a8 aA lp bU).word 0=17 from h0];rfl];dsimp only;rw[show∀sn,(K c ay aJ pc ai aC aS aq lm li fr wt a8 sn lp bU).word 1=i fromλ_=>h1];unfold M.mark;dsimp only;rw[aQ hi];show k _
theorem qe(h0:c.code.getD pc 0=1)(gI:pc<c.code.size)(hw:c.whole=a9->ai=c.l.length)(hm:aJ=a9->ai≠ay)
  (k:∀aA,Goes N (K c ay aJ pc ai ai aS aq lm li fr wt (a7 a9) aA lp bU) P):Goes (N+1) (K c ay aJ pc ai aC aS aq lm li fr wt a8 aA lp bU) P:=by
 show Goes.step rfl ?_;have hc:(aS && ((c.whole && ai != c.l.length) ||(aJ && ai==ay)))=ac:=by
  rw[Adr];right;rw[Bool.or_eq_false_iff];constructor
  .cases rY:c.whole with|false=>rfl|true=>simp[hw rY]
  .cases Pw:aJ with|false=>rfl|true=>simp[hm Pw]
 rw[my gI];unfold M.exec;rw[show ops[(K c ay aJ pc ai aC aS aq lm li fr wt a8 aA lp bU).word 0]?=a7 .SUCCESS from by rw[show(K c ay aJ pc ai aC aS aq lm li fr wt a8 aA lp bU).word 0=1 from h0];rfl];dsimp only;rw[hc];show k _
theorem rH(h0:c.code.getD pc 0=1)(gI:pc<c.code.size)(ho:aS=a9)(hw:(c.whole=a9/\ai≠c.l.length)\/(aJ=a9/\ai=ay))
  (k:∀aA,Goes N (K c ay aJ pc ai aC aS aq lm li fr wt (a7 ac) aA lp bU) P):Goes (N+1) (K c ay aJ pc ai aC aS aq lm li fr wt a8 aA lp bU) P:=by
 show Goes.step rfl ?_;have hc:(aS && ((c.whole && ai != c.l.length) ||(aJ && ai==ay)))=a9:=by
  clear k;subst ho;rcases hw with⟨a,b⟩|⟨a,b⟩
  .simp[a,b]
  .simp[a,b]
 rw[my gI];unfold M.exec;rw[show ops[(K c ay aJ pc ai aC aS aq lm li fr wt a8 aA lp bU).word 0]?=a7 .SUCCESS from by rw[show(K c ay aJ pc ai aC aS aq lm li fr wt a8 aA lp bU).word 0=1 from h0];rfl];dsimp only;rw[hc];show k _
structure hW(c:Cf)(pc:Nat)(aX:Nat->Bool):Prop where
 op:c.code.getD pc 0=13\/c.code.getD pc 0=16\/c.code.getD pc 0=2
 acc:∀ch aA,∃s',Zz c.code pc ch aA=.ok (aX ch,s')
theorem uG{aX:Nat->Bool}(h:hW c pc aX)(gI:pc<c.code.size):∃sn,(K c ay aJ pc ai aC aS aq lm li fr wt a8 aA lp bU).step=(if ai≥c.l.length then K c ay aJ pc ai aC aS aq lm li fr wt (a7 ac) sn lp bU else
  match Zz c.code pc (c.l.toArray.getD ai 0) sn with
  |.error why=>M.stick (K c ay aJ pc ai aC aS aq lm li fr wt a8 sn lp bU) why
  |.ok (ac,du)=>K c ay aJ pc ai aC aS aq lm li fr wt (a7 ac) du lp bU
  |.ok (a9,du)=>K c ay aJ (pc+Z4 c.code pc) (ai+1) aC aS aq lm li fr wt a8 du lp bU):=by
 rw[my gI];unfold M.exec;rcases h.op with h0|h0|h0
 .rw[show ops[(K c ay aJ pc ai aC aS aq lm li fr wt a8 aA lp bU).word 0]?=a7 .IN from by rw[show(K c ay aJ pc ai aC aS aq lm li fr wt a8 aA lp bU).word 0=13 from h0];rfl];show⟨_,rfl⟩
 .rw[show ops[(K c ay aJ pc ai aC aS aq lm li fr wt a8 aA lp bU).word 0]?=a7 .LITERAL from by rw[show(K c ay aJ pc ai aC aS aq lm li fr wt a8 aA lp bU).word 0=16 from h0];rfl];show⟨_,rfl⟩
 .rw[show ops[(K c ay aJ pc ai aC aS aq lm li fr wt a8 aA lp bU).word 0]?=a7 .ANY from by rw[show(K c ay aJ pc ai aC aS aq lm li fr wt a8 aA lp bU).word 0=2 from h0];rfl];show⟨_,rfl⟩
theorem lO{l:List Nat}{ai ch:Nat}(h:l[ai]?=a7 ch):l.toArray.getD ai 0=ch:=by simp[X4,h]
theorem qf{aX:Nat->Bool}(h:hW c pc aX)(gI:pc<c.code.size){ch:Nat}(tm:c.l[ai]?=a7 ch)(hy:aX ch=a9)
  (k:∀aA,Goes N (K c ay aJ (pc+Z4 c.code pc) (ai+1) aC aS aq lm li fr wt a8 aA lp bU) P):Goes (N+1) (K c ay aJ pc ai aC aS aq lm li fr wt a8 aA lp bU) P:=by
 show Goes.step rfl ?_;have hp:¬ai≥c.l.length:=by have:=(Xc.mp tm).1;show Nat.not_le_of_lt this
 obtain⟨sn,e⟩:=uG (ay:=ay) (aJ:=aJ) (ai:=ai) (aC:=aC) (aS:=aS) (aq:=aq) (lm:=lm) (li:=li) (fr:=fr) (wt:=wt) (aA:=aA) (lp:=lp) (bU:=bU) h gI;show xE (h.acc ch sn) λs' e'=>?_;rw[e,aI hp,lO tm,e',hy];show k _
theorem rZ{aX:Nat->Bool}(h:hW c pc aX)(gI:pc<c.code.size)(hn:∀ch,c.l[ai]?=a7 ch->aX ch=ac)
  (k:∀aA,Goes N (K c ay aJ pc ai aC aS aq lm li fr wt (a7 ac) aA lp bU) P):Goes (N+1) (K c ay aJ pc ai aC aS aq lm li fr wt a8 aA lp bU) P:=by
 show Goes.step rfl ?_;obtain⟨sn,e⟩:=uG (ay:=ay) (aJ:=aJ) (ai:=ai) (aC:=aC) (aS:=aS) (aq:=aq) (lm:=lm) (li:=li) (fr:=fr) (wt:=wt) (aA:=aA) (lp:=lp) (bU:=bU) h gI;by_cases hp:ai≥c.l.length
 .rw[e,aQ hp];show k _
 .have tm:c.l[ai]?=a7 c.l[ai]:=Xk (Nat.lt_of_not_le ‹_›);show xE (h.acc c.l[ai] sn) λs' e'=>?_;rw[e,aI hp,lO tm,e',hn _ tm];show k _
end Rx
end
section
open PySem
namespace Rx
open Sre (M Seen ops maxRepeat)
variable {c:Cf}{ay:Nat}{aJ:Bool}{pc ai aC:Nat}{aS:Bool}{aq:Array (Option Nat)}{lm li:Int}{fr:List Fr}{wt:Nat}{aA:Seen}{lp:Array AaV}{bU:Option Nat}{N:Nat}{P:M->Prop}
section
variable {aX:Nat->Bool}{yes:Bool}{b6:Nat}
noncomputable def cnt(aX:Nat->Bool)(l:List Nat)(p:Nat):Nat:=((l.drop p).takeWhile aX).length
theorem gK(aX:Nat->Bool)(l:List Nat)(p:Nat):cnt aX l p<=l.length-p:=by
 unfold cnt
 have:=(Adl aX (l:=l.drop p)).length_le;simpa using this
theorem GL{aj:Array Nat}{i:Nat}(acc:∀ch aA,∃s',Zz aj i ch aA=.ok (aX ch,s'))(l:List Nat)(n:Nat):∀(p found:Nat) (aA:Seen),l.length=p+n->∃s',Sre.run aj l.toArray i n p found aA=.ok (found+cnt aX l p,s'):=by
 induction n with
 |zero=>showλp found aA h=>⟨aA,by unfold cnt;rw[ZG.mpr (Y6 h)];rfl⟩
 |succ n ih=>
  intro p found aA h;have hp:p<l.length:=by show"Ea+b+c1Tba" h
  show xE (acc l[p] aA) λs' e=>?_;have hd:l.drop p=l[p]::l.drop (p+1):=Yw hp;cases hc:aX l[p]with|true=>show xE (ih (p+1) (found+1) s' (by show"Ea+b+c1Ea++b1c" h)) λfF e'=>⟨fF,?_⟩;change(Zz aj i (l.toArray.getD p 0) aA >>= _)=_;rw[lO (Xk hp),e,hc];change Sre.run aj l.toArray i n (p+1) (found+1) s'=_;rw[e'];unfold cnt;rw[hd,Y2,hc];congr 2;show Ym found (List.takeWhile aX (Aae (p+1) l)).length|false=>show⟨s',?_⟩;change(Zz aj i (l.toArray.getD p 0) aA >>= _)=_;rw[lO (Xk hp),e,hc];unfold cnt;rw[hd,Y2,hc];rfl
noncomputable abbrev kp(aq:Array (Option Nat))(lm li:Int)(w:Bool):Acm:={ lastmark:=lm,lastindex:=li,whole:=w,marks:=if w then aq.extract 0 (lm+1).toNat else #[] }
theorem uH{aq:Array (Option Nat)}{lm li:Int}{w:Bool}:(kp aq lm li w).marks.size<=aq.size:=by
 cases w with|false=>show Xn _|true=>change(aq.extract 0 (lm+1).toNat).size<=_;simp;show AaI (lm+1).toNat aq.size
noncomputable abbrev Al(pc ai:Nat)(aS:Bool)(n:Int)(k:Acm):Fr:={ wait:=.giveBack,pc:=pc,pos:=ai,outermost:=aS,count:=n,kept:=k }
noncomputable abbrev CC(pc ai:Nat)(aS:Bool):Fr:={ wait:=.nextStart,pc:=pc,pos:=ai,outermost:=aS }
structure fR(c:Cf)(pc:Nat)(aX:Nat->Bool)(least skip:Nat):Prop where
 op:c.code.getD pc 0=24
 skip:c.code.getD (pc+1) 0=skip
 least:c.code.getD (pc+2) 0=least
 most:c.code.getD (pc+3) 0=4294967295
 acc:∀ch aA,∃s',Zz c.code (pc+4) ch aA=.ok (aX ch,s')
 size:pc<c.code.size
 len:c.l.length<=1000000
theorem gV{f:Fr}{target CD:Nat}{o:Bool}{Me:Option Bool}(h:wt+1+f.kept.marks.size<=16777216):(K c ay aJ pc ai aC aS aq lm li fr wt Me aA lp bU).attempt f target CD o=K c ay aJ target CD CD o aq lm li (f::fr) (wt+1+f.kept.marks.size) Me aA lp bU:=by unfold M.attempt;rw[aI (by change¬wt+1+f.kept.marks.size > 16777216;show(λ{a b}=>Z5.mpr) h)]
theorem uI{least skip:Nat}(h:fR c pc aX least skip)(hp:ai<=c.l.length)(hw:wt+aq.size<=1000000):∃sn,(K c ay aJ pc ai aC aS aq lm li fr wt a8 aA lp bU).step =
  if cnt aX c.l ai<least then K c ay aJ pc ai aC aS aq lm li fr wt (a7 ac) sn lp bU
  else K c ay aJ (pc+1+skip) (ai+cnt aX c.l ai) (ai+cnt aX c.l ai) aS aq lm li (Al pc (ai+cnt aX c.l ai) aS (cnt aX c.l ai) (kp aq lm li bU.isSome)::fr) (wt+1+(kp aq lm li bU.isSome).marks.size) a8 sn lp bU:=by
 have gL:=gK aX c.l ai;rw[my h.size];unfold M.exec;rw[show ops[(K c ay aJ pc ai aC aS aq lm li fr wt a8 aA lp bU).word 0]?=a7 .REPEAT_ONE from by rw[show(K c ay aJ pc ai aC aS aq lm li fr wt a8 aA lp bU).word 0=24 from h.op];rfl];dsimp only;rw[show∀sn,(K c ay aJ pc ai aC aS aq lm li fr wt a8 sn lp bU).word 2=least from fun  u=>h.least,show∀sn,(K c ay aJ pc ai aC aS aq lm li fr wt a8 sn lp bU).word 3=4294967295 from fun  u=>h.most];by_cases hr:((least:Nat):Int) > (c.l.length:Int)-ai
 .rw[aQ hr];show⟨(aA.add ((K c ay aJ pc ai aC aS aq lm li fr wt a8 aA lp bU).word 0)),?_⟩;rw[aQ (by show"LabLc-baH-$b$a$dTcd" hp gL hr)];rfl
 .rw[aI hr];have hm:min 4294967295 ((c.l.length:Int)-ai).toNat=c.l.length-ai:=by have:=h.len;lia
  show xE (GL h.acc c.l (c.l.length-ai) ai 0 ((aA.add ((K c ay aJ pc ai aC aS aq lm li fr wt a8 aA lp bU).word 0)).add ((K c ay aJ pc ai aC aS aq lm li fr wt a8 (aA.add ((K c ay aJ pc ai aC aS aq lm li fr wt a8 aA lp bU).word 0)) lp bU).word 4)) (Eq.symm (ZH hp))) λs' e=>⟨s',?_⟩;rw[hm,e];dsimp only;rw[XI];by_cases hl:cnt aX c.l ai<least
  .rw[aQ hl,aQ hl];rfl
  .unfold M.afterRun;rw[show(K c ay aJ pc (ai+cnt aX c.l ai) aC aS aq lm li fr wt a8 s' lp bU).word 1=skip from h.skip];rw[gV (by change wt+1+(kp aq lm li bU.isSome).marks.size<=_;have:=@uH aq lm li bU.isSome;show"L+ab1000000LcbL++a1c16777216" hw this)];rfl
theorem xd{aX:Nat->Bool}{least skip:Nat}(h:fR c pc aX least skip)(hp:ai<=c.l.length)(hw:wt+aq.size<=1000000)(hn:least<=cnt aX c.l ai)
  (k:∀aA,Goes N (K c ay aJ (pc+1+skip) (ai+cnt aX c.l ai) (ai+cnt aX c.l ai) aS aq lm li (Al pc (ai+cnt aX c.l ai) aS (cnt aX c.l ai) (kp aq lm li bU.isSome)::fr) (wt+1+(kp aq lm li bU.isSome).marks.size) a8 aA lp bU) P):Goes (N+1) (K c ay aJ pc ai aC aS aq lm li fr wt a8 aA lp bU) P:=by
 show Goes.step rfl (xE (uI (ay:=ay) (aJ:=aJ) (aC:=aC) (aS:=aS) (aq:=aq) (lm:=lm) (li:=li) (fr:=fr) (aA:=aA) (lp:=lp) (bU:=bU) h hp hw) λsn e=>?_);rw[e,aI ((λ{a b}=>Z5.mpr) hn)];show k _
theorem s4{aX:Nat->Bool}{least skip:Nat}(h:fR c pc aX least skip)(hp:ai<=c.l.length)(hw:wt+aq.size<=1000000)(hn:cnt aX c.l ai<least)
  (k:∀aA,Goes N (K c ay aJ pc ai aC aS aq lm li fr wt (a7 ac) aA lp bU) P):Goes (N+1) (K c ay aJ pc ai aC aS aq lm li fr wt a8 aA lp bU) P:=by
 show Goes.step rfl (xE (uI (ay:=ay) (aJ:=aJ) (aC:=aC) (aS:=aS) (aq:=aq) (lm:=lm) (li:=li) (fr:=fr) (aA:=aA) (lp:=lp) (bU:=bU) h hp hw) λsn e=>?_);rw[e,aQ hn];show k _
theorem jT{f:Fr}{wt:Nat}:(K c ay aJ pc ai aC aS aq lm li (f::fr) wt (a7 yes) aA lp bU).step=M.resume (K c ay aJ f.pc f.pos aC f.outermost aq lm li fr (wt-(1+f.kept.marks.size)) a8 aA lp bU) f yes:=by rfl
theorem qg{bA:Nat}{cS:Bool}{n:Int}{q:Acm}(k:Goes N (K c ay aJ bA b6 aC cS aq lm li fr wt (a7 a9) aA lp bU) P):Goes (N+1) (K c ay aJ pc ai aC aS aq lm li (Al bA b6 cS n q::fr) (wt+1+q.marks.size) (a7 a9) aA lp bU) P:=by
 show Goes.step rfl ?_;rw[jT];have:wt+1+q.marks.size-(1+(Al bA b6 cS n q).kept.marks.size)=wt:=by change wt+1+q.marks.size-(1+q.marks.size)=wt;show"E-++a1b+1ba"
 rw[this];show k
theorem qh{bA:Nat}{cS:Bool}(k:Goes N (K c ay aJ bA b6 aC cS aq lm li fr wt (a7 a9) aA lp bU) P):Goes (N+1) (K c ay aJ pc ai aC aS aq lm li (CC bA b6 cS::fr) (wt+1) (a7 a9) aA lp bU) P:=by show Goes.step rfl ?_;show k
theorem qi(p:P { K c ay aJ pc ai aC aS aq lm li [] wt (a7 yes) aA lp bU with outcome:=a7 (if yes then .matched else .failed) }):Goes (N+1) (K c ay aJ pc ai aC aS aq lm li [] wt (a7 yes) aA lp bU) P:=by show Goes.step rfl ?_;show Goes.now rfl p
theorem Am{bA b6:Nat}{cS:Bool}{n:Nat}{dK dN:Int}{least:Nat}(hl:c.code.getD (bA+2) 0=least)(hn:n<=least)
  (k:Goes N (K c ay aJ bA b6 aC cS aq dK dN fr wt (a7 ac) aA lp bU) P):Goes (N+1) (K c ay aJ pc ai aC aS aq lm li (Al bA b6 cS n (kp #[] dK dN ac)::fr) (wt+1) (a7 ac) aA lp bU) P:=by
 show Goes.step rfl ?_;rw[jT];have:wt+1-(1+(Al bA b6 cS n (kp #[] dK dN ac)).kept.marks.size)=wt:=by change wt+1-(1+0)=wt;rfl
 rw[this];unfold M.resume;dsimp only;rw[show(K c ay aJ bA b6 aC cS aq lm li fr wt a8 aA lp bU).word 2=least from hl];simp only[ZV,if_false];rw[aQ (by show"LabH-$a1$b" hn)];show k
theorem uJ{bA b6:Nat}{cS:Bool}{n:Nat}{dK dN:Int}{least skip:Nat}(hl:c.code.getD (bA+2) 0=least)(Qb:c.code.getD (bA+1) 0=skip)(hn:least<n)(hw:wt<=1000000)
  (k:Goes N (K c ay aJ (bA+1+skip) (b6-1) (b6-1) cS aq dK dN (Al bA (b6-1) cS ((n-1:Nat):Int) (kp #[] dK dN ac)::fr) (wt+1) a8 aA lp bU) P):Goes (N+1) (K c ay aJ pc ai aC aS aq lm li (Al bA b6 cS n (kp #[] dK dN ac)::fr) (wt+1) (a7 ac) aA lp bU) P:=by
 show Goes.step rfl ?_;rw[jT];have:wt+1-(1+(Al bA b6 cS n (kp #[] dK dN ac)).kept.marks.size)=wt:=by change wt+1-(1+0)=wt;rfl
 rw[this];unfold M.resume;dsimp only;rw[show(K c ay aJ bA b6 aC cS aq lm li fr wt a8 aA lp bU).word 2=least from hl];simp only[ZV,if_false];rw[aI (by show"TabNH-$b1$a" hn)];unfold M.afterRun;rw[show({ M.putBack (K c ay aJ bA b6 aC cS aq lm li fr wt a8 aA lp bU) (kp #[] dK dN ac)with pos:=b6-1 }:M)=K c ay aJ bA (b6-1) aC cS aq dK dN fr wt a8 aA lp bU from rfl];rw[show(K c ay aJ bA (b6-1) aC cS aq dK dN fr wt a8 aA lp bU).word 1=skip from Qb];rw[gV (by change wt+1+0<=_;show"La1000000L++a1.0.16777216" hw)];have e:((n:Int)-1)=((n-1:Nat):Int):=by show"TabI-$b1$-b1" hn
 change Goes N (K c ay aJ (bA+1+skip) (b6-1) (b6-1) cS aq dK dN (Al bA (b6-1) cS ((n:Int)-1) (kp #[] dK dN ac)::fr) (wt+1) a8 aA lp bU) P;rw[e];show k
end
section
variable {g d n least skip:Nat}{b:Int}{aX:Nat->Bool}
structure Fail(c:Cf)(ay:Nat)(aJ aS:Bool)(g:Nat)(b:Int)(d pc ai n:Nat):Prop where
 run:∀{aC:Nat} {aq:Array (Option Nat)} {lm li:Int} {fr:List Fr} {wt:Nat} {aA:Seen} {lp:Array AaV} {N:Nat} {P:M->Prop},aq.size=g->wt+d<=900000->b<=lm->
  (∀to pos' gR fS bO mz mA du,bO.size=g->Goes N (K c ay aJ to pos' gR fS bO mz mA fr wt (a7 ac) du lp a8) P)->
  Goes (N+n) (K c ay aJ pc ai aC aS aq lm li fr wt a8 aA lp a8) P
theorem Fail.le{n':Nat}(h:Fail c ay aJ aS g b d pc ai n)(e:n<=n'):Fail c ay aJ aS g b d pc ai n':=⟨λa1 a2 a3 k=>Goes.le (AbR e _) (h.run a1 a2 a3 k)⟩
theorem Fail.deeper{d':Nat}(h:Fail c ay aJ aS g b d pc ai n)(e:d<=d'):Fail c ay aJ aS g b d' pc ai n:=⟨λa1 a2 a3 k=>h.run a1 (by show"LabL+cb900000L+ca900000" e a2) a3 k⟩
theorem Fail.GN(h0:c.code.getD pc 0=6)(h1:c.code.getD (pc+1) 0=0)(gI:pc<c.code.size)(h:Fail c ay aJ aS g b d (pc+2) ai n):Fail c ay aJ aS g b d pc ai (n+1):=by
 constructor;intro aC aq lm li fr wt aA lp N P a1 a2 a3 k;by_cases hp:ai=0
 .show CB h0 h1 gI hp fun  u=>h.run a1 a2 a3 k
 .show Goes.le (by show"L+a1+a+b1") (rX (N:=N) h0 h1 gI hp fun  u=>k _ _ _ _ _ _ _ _ a1)
theorem Fail.K3(h0:c.code.getD pc 0=6)(h1:c.code.getD (pc+1) 0=0)(gI:pc<c.code.size)(hp:ai≠0):Fail c ay aJ aS g b d pc ai 1:=by constructor;intro aC aq lm li fr wt aA lp N P a1 a2 a3 k;show rX h0 h1 gI hp fun  u=>k _ _ _ _ _ _ _ _ a1
theorem Fail.mark{i:Nat}(h0:c.code.getD pc 0=17)(h1:c.code.getD (pc+1) 0=i)(gI:pc<c.code.size)(hi:(i:Int)<=b+1)(h:Fail c ay aJ aS g (max b i) d (pc+2) ai n):Fail c ay aJ aS g b d pc ai (n+1):=by constructor;intro aC aq lm li fr wt aA lp N P a1 a2 a3 k;show tj h0 h1 gI (by show"G$a+p1GpqG$a+q1" hi a3) fun  u=>h.run (by simpa using a1) a2 (by lia) k
theorem Fail.one(h:hW c pc aX)(gI:pc<c.code.size)(f:(∃ch,c.l[ai]?=a7 ch/\aX ch=a9)->Fail c ay aJ aS g b d (pc+Z4 c.code pc) (ai+1) n):Fail c ay aJ aS g b d pc ai (n+1):=by
 constructor;intro aC aq lm li fr wt aA lp N P a1 a2 a3 k;by_cases e:∃ch,c.l[ai]?=a7 ch/\aX ch=a9
 .have e':=e;show bb e λch e1 e2=>qf h gI e1 e2 fun  u=>(f e').run a1 a2 a3 k
 .show Goes.le (by show"L+a1+a+b1") (rZ (N:=N) h gI (λch hc=>by
   cases q:aX ch with|false=>rfl|true=>show absurd ⟨ch,hc,q⟩ e) fun  u=>k _ _ _ _ _ _ _ _ a1)
theorem Fail.success(h0:c.code.getD pc 0=1)(gI:pc<c.code.size)(ho:aS=a9)(hw:(c.whole=a9/\ai≠c.l.length)\/(aJ=a9/\ai=ay)):Fail c ay aJ aS g b d pc ai 1:=by constructor;intro aC aq lm li fr wt aA lp N P a1 a2 a3 k;show rH h0 gI ho hw fun  u=>k _ _ _ _ _ _ _ _ a1
theorem CE(h:fR c pc aX least skip)(f:∀j,least<=j->j<=least+MP->Fail c ay aJ aS g b d (pc+1+skip) (ai+j) n) :
  ∀j,j<=MP->∀{aC:Nat} {aq:Array (Option Nat)} {lm li z0 z5:Int} {fr:List Fr} {wt:Nat} {aA:Seen} {lp:Array AaV} {N:Nat} {P:M->Prop},aq.size=g->wt+d+1<=900000->b<=lm->
  (∀to pos' gR fS bO mz mA du,bO.size=g->Goes N (K c ay aJ to pos' gR fS bO mz mA fr wt (a7 ac) du lp a8) P)->
  Goes (N+(j+1)*(n+1)) (K c ay aJ (pc+1+skip) (ai+(least+j)) aC aS aq lm li (Al pc (ai+(least+j)) aS ((least+j:Nat):Int) (kp #[] lm li ac)::fr) (wt+1) a8 aA lp a8) P:=by
 intro j;induction j with
 |zero=>intro hj aC aq lm li z0 z5 fr wt aA lp N P a1 a2 a3 k;have z:=(f least (Xd _) (Yd _ _)).run (aC:=aC) (aq:=aq) (lm:=lm) (li:=li) (fr:=Al pc (ai+least) aS ((least:Nat):Int) (kp #[] lm li ac)::fr) (wt:=wt+1) (aA:=aA) (lp:=lp) (N:=N+1) (P:=P) a1 (by show"L++ab1.900000L++a1b900000" a2) a3 λto pos' gR fS bO mz mA du hm=>Am h.least (Xd _) (k _ _ _ _ _ _ _ _ hm);show Goes.le (by lia) z
 |succ j ih=>
  intro hj aC aq lm li z0 z5 fr wt aA lp N P a1 a2 a3 k;have z:=(f (least+(j+1)) (Yd _ _) ((λ{m k n}=>Ac4.mpr) hj)).run (aC:=aC) (aq:=aq) (lm:=lm) (li:=li) (fr:=Al pc (ai+(least+(j+1))) aS ((least+(j+1):Nat):Int) (kp #[] lm li ac)::fr) (wt:=wt+1) (aA:=aA) (lp:=lp) (N:=N+(j+1)*(n+1)+1) (P:=P) a1 (by show"L++ab1.900000L++a1b900000" a2) a3 λto pos' gR fS bO mz mA du hm=>uJ h.least h.skip (by show"Ta+a+b1") (by show"L++ab1.900000La1000000" a2) (by have r:=ih (YM ‹_›) (aC:=ai+(least+j)) (aq:=bO) (lm:=lm) (li:=li) (z0:=lm) (z5:=li) (fr:=fr) (wt:=wt) (aA:=du) (lp:=lp) (N:=N) (P:=P) hm (by assumption) a3 k;have e1:ai+(least+(j+1))-1=ai+(least+j):=Adu ai (least.add j);have e2:least+(j+1)-1=least+j:=Adu least j;show aE e1 ?_;show aE e2 ?_;show r)
  show Goes.le ?_ z;show aE (Acw (j+1) 1 (n+1)) ?_;show"L+++ab1c+a+b*1+c1"
theorem Fail.rep(h:fR c pc aX least skip)(hp:ai<=c.l.length)(hg:g<=100)(f:∀j,least<=j->j<=cnt aX c.l ai->Fail c ay aJ aS g b d (pc+1+skip) (ai+j) n) :
  Fail c ay aJ aS g b (d+1) pc ai ((c.l.length+1)*(n+1)+1):=by
 constructor;intro aC aq lm li fr wt aA lp N P a1 a2 a3 k;have hc:=gK aX c.l ai;by_cases hl:cnt aX c.l ai<least
 .show Goes.le (by show"L+a1+a+b1") (s4 (N:=N) h hp (by show"La100EbaL+c+d1.900000L+cb1000000" hg a1 a2) hl fun  u=>k _ _ _ _ _ _ _ _ a1)
 .show xd (N:=N+(c.l.length+1)*(n+1)) h hp (by show"La100EbaL+c+d1.900000L+cb1000000" hg a1 a2) (ZO ‹_›) λsn=>?_;have r:=CE (MP:=cnt aX c.l ai-least) h (λj j1 j2=>f j j1 (by show"NTabLc+b-abLca" hl j2)) (cnt aX c.l ai-least) (Xd _) (aC:=ai+cnt aX c.l ai) (aq:=aq) (lm:=lm) (li:=li) (z0:=lm) (z5:=li) (fr:=fr) (wt:=wt) (aA:=sn) (lp:=lp) (N:=N) (P:=P) a1 (by assumption) a3 k;rw[show least+(cnt aX c.l ai-least)=cnt aX c.l ai by show"NTabE+b-aba" hl]at r;show Goes.le (AbR (Adt _ (by show"La-bcL+-ad1+b1" hc)) _) r
structure fh(c:Cf)(ay:Nat)(aJ aS:Bool)(d pc ai:Nat)(aq:Array (Option Nat))(lm li:Int)(e:Nat)(bO:Array (Option Nat))(mz mA:Int)(n:Nat):Prop where
 run:∀{aC:Nat} {fr:List Fr} {wt:Nat} {aA:Seen} {lp:Array AaV} {bU:Option Nat} {N:Nat} {P:M->Prop},wt+d<=900000->
  (∀to pos' fS du xe lQ,Goes N (K c ay aJ to pos' e fS bO mz mA fr wt (a7 a9) du xe lQ) P)->
  Goes (N+n) (K c ay aJ pc ai aC aS aq lm li fr wt a8 aA lp bU) P
variable {e:Nat}{bO:Array (Option Nat)}{mz mA:Int}
theorem fh.le{n':Nat}(h:fh c ay aJ aS d pc ai aq lm li e bO mz mA n)(q:n<=n'):fh c ay aJ aS d pc ai aq lm li e bO mz mA n':=⟨λa2 k=>Goes.le (AbR q _) (h.run a2 k)⟩
theorem fh.GN(h0:c.code.getD pc 0=6)(h1:c.code.getD (pc+1) 0=0)(gI:pc<c.code.size)(hp:ai=0)(h:fh c ay aJ aS d (pc+2) ai aq lm li e bO mz mA n):fh c ay aJ aS d pc ai aq lm li e bO mz mA (n+1):=by constructor;intro aC fr wt aA lp bU N P a2 k;show CB h0 h1 gI hp fun  u=>h.run a2 k
theorem fh.mark{i:Nat}(h0:c.code.getD pc 0=17)(h1:c.code.getD (pc+1) 0=i)(gI:pc<c.code.size)(hi:(i:Int)<=lm+1)(h:fh c ay aJ aS d (pc+2) ai (aq.setIfInBounds i (a7 ai)) (max lm i) (if i % 2==1 then(i / 2+1:Nat)else li) e bO mz mA n):fh c ay aJ aS d pc ai aq lm li e bO mz mA (n+1):=by constructor;intro aC fr wt aA lp bU N P a2 k;show tj h0 h1 gI hi fun  u=>h.run a2 k
theorem fh.one{ch:Nat}(h:hW c pc aX)(gI:pc<c.code.size)(tm:c.l[ai]?=a7 ch)(hy:aX ch=a9)(f:fh c ay aJ aS d (pc+Z4 c.code pc) (ai+1) aq lm li e bO mz mA n):fh c ay aJ aS d pc ai aq lm li e bO mz mA (n+1):=by constructor;intro aC fr wt aA lp bU N P a2 k;show qf h gI tm hy fun  u=>f.run a2 k
theorem fh.success(h0:c.code.getD pc 0=1)(gI:pc<c.code.size)(hw:c.whole=a9->ai=c.l.length)(hm:aJ=a9->ai≠ay):fh c ay aJ aS d pc ai aq lm li ai aq lm li 1:=by constructor;intro aC fr wt aA lp bU N P a2 k;show qe h0 gI hw hm fun  u=>k _ _ _ _ _ _
theorem fh.rep(h:fR c pc aX least skip)(hp:ai<=c.l.length)(hg:aq.size<=100)(hl:least<=cnt aX c.l ai)(f:fh c ay aJ aS d (pc+1+skip) (ai+cnt aX c.l ai) aq lm li e bO mz mA n):fh c ay aJ aS (d+101) pc ai aq lm li e bO mz mA (n+2):=by constructor;intro aC fr wt aA lp bU N P a2 k;show Goes.le (N:=N+1+n+1) (by show"L+++a1b1+a+b2") (xd (N:=N+1+n) h hp (by show"La100L+b+c101.900000L+ba1000000" hg a2) hl λsn=>?_);have q:=@uH aq lm li bU.isSome;show f.run (by show"La100L+b+c101.900000LdaL+++b1dc900000" hg a2 q) λto pos' fS du xe lQ=>qg (k _ _ _ _ _ _)
end
section
variable {s0 groups:Nat}{aj:Array Nat}{l:List Nat}
theorem eF:∀(n:Nat) {m:M},m.outcome.isSome=a9->m.runFor n=m
 |0,_,_=>rfl
 |n+1,m,h=>aQ h
theorem uK(n:Nat)(m:M):m.runFor (n+1)=if m.outcome.isSome then m else m.step.runFor n:=rfl
theorem jl:∀(a b:Nat) (m:M),m.runFor (a+b)=(m.runFor a).runFor b:=by
 intro zz;induction zz with
 |zero=>showλb m=>by rw[XI];rfl
 |succ a ih=>
  showλb m=>by
   cases h:m.outcome.isSome with|true=>rw[eF _ h,eF _ h,eF _ h]|false=>rw[show a+1+b=(a+b)+1 by show Nat.add_right_comm a 1 b,uK,aI (by rw[h];show YX),ih b];congr 1;rw[uK,aI (by rw[h];show YX)]
theorem CF{Mo:Model}{A:Around}{E:Value->Shared->Prop}{s:Shared}{Q:M->Shared->Prop}(t:Nat):∀(n:Nat) {m:M},n<=4*t->(m.runFor n).outcome.isSome=a9->0<t->Q (m.runFor n) s->wpAny Mo A (Builtin.Re.reDrive t m) Q E s:=by
 induction t with
 |zero=>show fun  u u u u ht=>absurd ht (Y5 0)
 |succ t ih=>
  intro n m h e ht q;change wpAny Mo A (if(m.runFor 4).outcome.isSome=a9 then pure (m.runFor 4)else _) Q E s;cases h4:(m.runFor 4).outcome.isSome with
  |true=>
   apply GT;by_cases hn:n<=4
   .have:m.runFor 4=(m.runFor n).runFor (4-n):=by(rw[<-jl];show aE (show n+(4-n)=4 by show ZH hn) rfl)
    rw[this,eF _ e];show q
   .have:m.runFor n=(m.runFor 4).runFor (n-4):=by(rw[<-jl];show aE (show 4+(n-4)=n by show"NLa4E+4-a4a" hn) rfl)
    rw[this,eF _ h4]at q;show q
  |false=>
   apply Xb;apply Zj;have hn:4<n:=by
    apply Aa3;intro hn;have:m.runFor 4=(m.runFor n).runFor (4-n):=by(rw[<-jl];show aE (show n+(4-n)=4 by show"NT4aE+a-4a4" hn) rfl)
    rw[this,eF _ e,e]at h4;injection h4
   have e':m.runFor n=(m.runFor 4).runFor (n-4):=by(rw[<-jl];show aE (show 4+(n-4)=n by show"T4aE+4-a4a" hn) rfl)
   rw[e']at e q;show ih (n-4) (Nat.sub_le_of_le_add h) e (by show"La*4+b1T4aT0b" h hn) q
theorem jU{Mo:Model}{A:Around}{E:Value->Shared->Prop}{s:Shared}{Q:Option M->Shared->Prop}{m:M}(h:Goes N m P)(hN:N<=4*2 ^ 64)
  (k:∀m',P m'->(m'.outcome=a7 .matched/\Q (a7 m') s)\/(m'.outcome=a7 .failed/\Q a8 s)):wpAny Mo A (Builtin.Re.reRunToEnd m) Q E s:=by
 show bV h λn hn e p=>?_;apply Xb;show CF (2 ^ 64) n (Xf ‹_› ‹_›) e (by decide) ?_;apply Xb;show wpAny_forIn_list _ (fun  u u s'=>s'=s) _ (λi aV b s' e=>?_) (λb s' e=>?_) _ _ rfl
 .subst e;split
  .apply Xb;apply Zj;show GT rfl
  .show GT rfl
 .subst e;rcases k _ p with⟨o,q⟩|⟨o,q⟩
  .show aE o ?_;show GT q
  .show aE o ?_;show GT q
noncomputable def lastOf(aj:Array Nat)(n s0:Nat):Nat:=if(Zk aj).1 > 1 && !((Zk aj).2 != 0 && aj.getD 2 0 &&& 5 != 0)then max s0 (n-((Zk aj).1-1))else n
noncomputable abbrev sc(aj:Array Nat)(l:List Nat)(s0:Nat):Cf:={ code:=aj,l:=l,b:=lastOf aj l.length s0,whole:=ac }
theorem s5{bA b6:Nat}{cS:Bool}(hf:∀m:M,m.code=c.code->m.hasFirstSet=ac)(hb:b6<c.b)(hw:wt<=900000)
  (k:Goes N (K c (b6+1) ac bA (b6+1) (b6+1) ac aq (-1) (-1) (CC bA (b6+1) ac::fr) (wt+1) a8 aA lp bU) P) :
  Goes (N+1) (K c ay aJ pc ai aC aS aq lm li (CC bA b6 cS::fr) (wt+1) (a7 ac) aA lp bU) P:=by
 show Goes.step rfl ?_;rw[jT];have:wt+1-(1+(CC bA b6 cS).kept.marks.size)=wt:=by change wt+1-(1+0)=wt;rfl
 show aE this ?_;unfold M.resume;dsimp only;rw[aQ hb];unfold M.attemptFrom;rw[hf _ rfl];change Goes N ((K c (b6+1) ac bA (b6+1) aC cS aq (-1) (-1) fr wt a8 aA lp bU).attempt (CC bA (b6+1) ac) bA (b6+1) ac) P;rw[gV (by change wt+1+0<=_;show"La900000L++a1.0.16777216" hw)];show k
theorem uL{bA b6:Nat}{cS:Bool}(hb:¬b6<c.b)
  (k:Goes N (K c ay aJ bA b6 aC cS aq lm li fr wt (a7 ac) aA lp bU) P) :
  Goes (N+1) (K c ay aJ pc ai aC aS aq lm li (CC bA b6 cS::fr) (wt+1) (a7 ac) aA lp bU) P:=by
 show Goes.step rfl ?_;rw[jT];have:wt+1-(1+(CC bA b6 cS).kept.marks.size)=wt:=by change wt+1-(1+0)=wt;rfl
 show aE this ?_;unfold M.resume;dsimp only;rw[aI hb];show k
abbrev Mf(c:Cf)(aJ:Bool)(s0:Nat)(g d pc n:Nat)(t:Nat):Prop:=Fail c t (t==s0 && aJ) (t==s0) g (-1) d pc t n
def SR(c:Cf)(aJ:Bool)(s0:Nat)(g d pc n:Nat)(s e:Nat)(R:Array (Option Nat)->Int->Int->Prop):Prop:=∀aq,aq.size=g->∃bO mz mA,fh c s (s==s0 && aJ) (s==s0) d pc s aq (-1) (-1) e bO mz mA n/\R bO mz mA
theorem CG{g d n s e pc:Nat}{R}(hd:d<=800000)(hf:∀m:M,m.code=c.code->m.hasFirstSet=ac)(hb:s<=c.b)(bad:∀t,s0<=t->t<s->Mf c aJ s0 g d pc n t)(hit:SR c aJ s0 g d pc n s e R) :
  ∀k t,t+k=s->s0<=t->∀{aq:Array (Option Nat)} {aA:Seen} {lp:Array AaV},aq.size=g->
  Goes ((k+1)*(n+2)+1) (K c t (t==s0 && aJ) pc t t (t==s0) aq (-1) (-1) [CC pc t (t==s0)] 1 a8 aA lp a8) (λm=>m.outcome=a7 .matched/\m.start=s/\m.handed=e/\R m.marks m.lastmark m.lastindex):=by
 intro k;induction k with
 |zero=>
  intro t ht h0 aq aA lp hm;have:t=s:=by assumption
  subst this;show hV (hit aq hm) λbO mz mA w r=>Goes.le (N:=2+n) (by lia) (w.run (by show"La800000L+1a900000" hd) λto pos' fS du xe lQ=>?_);show qh (N:=1) (wt:=0) (qi (N:=0) ⟨rfl,rfl,rfl,r⟩)
 |succ k ih=>
  intro t ht h0 aq aA lp hm;show Goes.le (N:=(k+1)*(n+2)+1+1+n) ?_ ((bad t h0 (by show"E+a+b1cTac" ht)).run hm (by show"La800000L+1a900000" hd) (AcC _) λto pos' gR fS bO mz mA du IK=>?_)
  .show aE (Acw (k+1) 1 (n+2)) ?_;show"L+++a1.1b++a*1+b2.1"
  .show s5 (N:=(k+1)*(n+2)+1) (wt:=0) hf (by show"LabE+c+d1aTcb" hb ht) (Xn _) ?_;have r:=ih (t+1) (by show"E+a+b1cE++a1bc" ht) (Abr h0) (aq:=bO) (aA:=du) (lp:=lp) IK;have e1:(t+1==s0)=ac:=by simp;show"LabNE+b1a" h0
   rw[e1,AcQ]at r;show r
theorem An{g d n pc:Nat}(hd:d<=800000)(hf:∀m:M,m.code=c.code->m.hasFirstSet=ac)(bad:∀t,s0<=t->t<=c.b->Mf c aJ s0 g d pc n t) :
  ∀k t,t+k=c.b->s0<=t->∀{aq:Array (Option Nat)} {aA:Seen} {lp:Array AaV},aq.size=g->
  Goes ((k+1)*(n+2)+1) (K c t (t==s0 && aJ) pc t t (t==s0) aq (-1) (-1) [CC pc t (t==s0)] 1 a8 aA lp a8) (λm=>m.outcome=a7 .failed):=by
 intro k;induction k with
 |zero=>intro t ht h0 aq aA lp hm;show Goes.le (N:=2+n) (by lia) ((bad t h0 (Y6 ht)).run hm (by show"La800000L+1a900000" hd) (AcC _) λto pos' gR fS bO mz mA du IK=>?_);show uL (N:=1) (wt:=0) (by show"E+a0bNTab" ht) (qi (N:=0) rfl)
 |succ k ih=>
  intro t ht h0 aq aA lp hm;show Goes.le (N:=(k+1)*(n+2)+1+1+n) ?_ ((bad t h0 (Nat.le.intro ht)).run hm (by show"La800000L+1a900000" hd) (AcC _) λto pos' gR fS bO mz mA du IK=>?_)
  .show aE (Acw (k+1) 1 (n+2)) ?_;show"L+++a1.1b++a*1+b2.1"
  .show s5 (N:=(k+1)*(n+2)+1) (wt:=0) hf (by show"E+a+b1cTac" ht) (Xn _) ?_;have r:=ih (t+1) (by show"E+a+b1cE++a1bc" ht) (Abr h0) (aq:=bO) (aA:=du) (lp:=lp) IK;have e1:(t+1==s0)=ac:=by simp;show"LabNE+b1a" h0
   rw[e1,AcQ]at r;show r
theorem mB{aJ:Bool}(hf:∀m:M,m.code=aj->m.hasFirstSet=ac)(h0:s0<=l.length)(hl:(Zk aj).1<=l.length-s0) :
  ∃aA,XH aj l.toArray groups s0 l.length aJ=K (sc aj l s0) s0 aJ (Zk aj).2 s0 s0 a9 (AcF (2*groups) a8) (-1) (-1) [CC (Zk aj).2 s0 a9] 1 a8 aA #[] a8:=by
 show⟨if(Zk aj).2==0 then{}else({}:Seen).add 14,?_⟩;unfold XH;rw[aI (by simp;trivial)];unfold M.attemptFrom;rw[hf _ rfl];rfl
theorem hZ{aj:Array Nat}{l:List Nat}{groups s0 s e d n:Nat}{aJ:Bool}{R}(hf:∀m:M,m.code=aj->m.hasFirstSet=ac)(h0:s0<=s)(hb:s<=lastOf aj l.length s0)(pq:s0<=l.length)(hl:(Zk aj).1<=l.length-s0)(hd:d<=800000)
  (bad:∀t,s0<=t->t<s->Mf (sc aj l s0) aJ s0 (2*groups) d (Zk aj).2 n t) (hit:SR (sc aj l s0) aJ s0 (2*groups) d (Zk aj).2 n s e R) :
  Goes ((s-s0+1)*(n+2)+1) (XH aj l.toArray groups s0 l.length aJ) (λm=>m.outcome=a7 .matched/\m.start=s/\m.handed=e/\R m.marks m.lastmark m.lastindex):=by
 show xE (mB (groups:=groups) (aJ:=aJ) hf pq hl) λsn q=>aE q ?_;have r:=CG (c:=sc aj l s0) (aJ:=aJ) (aA:=sn) (lp:=#[]) hd hf hb bad hit (s-s0) s0 (ZH h0) (Xd _) (aq:=AcF (2*groups) a8) Adx;simpa using r
theorem gq{aj:Array Nat}{l:List Nat}{groups s0 d n:Nat}{aJ:Bool}(hf:∀m:M,m.code=aj->m.hasFirstSet=ac)(h0:s0<=lastOf aj l.length s0)(pq:s0<=l.length)(hl:(Zk aj).1<=l.length-s0)(hd:d<=800000)
  (bad:∀t,s0<=t->t<=lastOf aj l.length s0->Mf (sc aj l s0) aJ s0 (2*groups) d (Zk aj).2 n t) :
  Goes ((lastOf aj l.length s0-s0+1)*(n+2)+1) (XH aj l.toArray groups s0 l.length aJ) (λm=>m.outcome=a7 .failed):=by
 show xE (mB (groups:=groups) (aJ:=aJ) hf pq hl) λsn q=>aE q ?_;have r:=An (c:=sc aj l s0) (aJ:=aJ) (aA:=sn) (lp:=#[]) hd hf bad (lastOf aj l.length s0-s0) s0 (by change s0+(lastOf aj l.length s0-s0)=lastOf aj l.length s0;show ZH h0) (Xd _) (aq:=AcF (2*groups) a8) Adx;simpa using r
theorem fT{aJ:Bool}(hl:s0 > l.length\/l.length-s0<(Zk aj).1) :
  Goes 1 (XH aj l.toArray groups s0 l.length aJ) (λm=>m.outcome=a7 .failed):=by
 have:∃m:M,m.outcome=a8/\m.answer=a8/\m.frames=[]/\XH aj l.toArray groups s0 l.length aJ=m.say ac:=by unfold XH;rw[aQ (by simpa using hl)];show gn _ rfl rfl rfl rfl
 show pX this λm h1 h2 h3 e=>aE e (Goes.step h1 (Goes.now (N:=0) ?_ ?_))
 .unfold M.step M.say;dsimp only;show aE h1 ?_;show aE h3 ?_;rfl
 .unfold M.step M.say;dsimp only;show aE h1 ?_;show aE h3 ?_;rfl
end
section
def gW(aj:Array Nat)(ch n i:Nat)(y r:Bool):Prop:=∀aA,∃s',AaR aj ch n i y aA=.ok (r,s')
theorem jV{aj:Array Nat}{c n i x:Nat}{y:Bool}{aA:Seen}(h:aj.getD i 0=x):AaR aj c (n+1) i y aA =
  (λ(w:Nat->Nat)=>(λaA:Seen=>match ops[x]? with
  |some .FAILURE=>.ok (!y,aA)
  |some .NEGATE=>AaR aj c n (i+1) (!y) aA
  |some .LITERAL=>if c==w 1 then .ok (y,aA)else AaR aj c n (i+2) y aA
  |some .RANGE=>if w 1<=c && c<=w 2 then .ok (y,aA)else AaR aj c n (i+3) y aA
  |some .RANGE_UNI_IGNORE=>(λu=>if(w 1<=c && c<=w 2) ||(w 1<=u && u<=w 2)then .ok (y,aA)else AaR aj c n (i+3) y aA) (Sre.upperUni c)
  |some .CATEGORY=>do
   if <-Adh (w 1) c then pure (y,aA.add (55+w 1))else AaR aj c n (i+2) y (aA.add (55+w 1))
  |some .CHARSET=>if c<256 && (w (1+c / 32)).testBit (c % 32)then .ok (y,aA)else AaR aj c n (i+9) y aA
  |some .BIGCHARSET=>(λblock=>if c<0x10000 && (w (66+(block*256+c % 256) / 32)).testBit (c % 32)then .ok (y,aA)else AaR aj c n (i+66+8*w 1) y aA) ((w (2+c / 256 / 4) >>> (8*(c / 256 % 4))) % 256)
  |_=>.error "code:set") (aA.add x)) (λk=>aj.getD (i+k) 0):=by
 subst h;rfl
theorem gW.fail{aj:Array Nat}{ch n i:Nat}{y:Bool}(h:aj.getD i 0=0):gW aj ch (n+1) i y (!y):=by intro aA;show aE (jV h) ⟨_,rfl⟩
theorem gW.neg{aj:Array Nat}{ch n i:Nat}{y r:Bool}(h:aj.getD i 0=21)(k:gW aj ch n (i+1) (!y) r):gW aj ch (n+1) i y r:=by intro aA;show aE (jV h) (k _)
theorem xf{b:Bool}{a c:Except String (Bool×Seen)}{y r:Bool}{s:Seen}(k:∃s',c=.ok (r,s'))(e:a=.ok (y,s)):∃s',(if b=a9 then a else c)=.ok (if b then y else r,s'):=by
 cases b with|true=>show⟨_,e⟩|false=>show k
theorem gW.lit{aj:Array Nat}{ch n i x:Nat}{y r:Bool}(h:aj.getD i 0=16)(h1:aj.getD (i+1) 0=x)(k:gW aj ch n (i+2) y r):gW aj ch (n+1) i y (if ch==x then y else r):=by intro aA;show aE (jV h) ?_;rw[<-h1];show xf (k _) rfl
theorem gW.cat{aj:Array Nat}{ch n i:Nat}{y r:Bool}(h:aj.getD i 0=8)(h1:aj.getD (i+1) 0=12)(k:gW aj ch n (i+2) y r):gW aj ch (n+1) i y (if XD ch then y else r):=by
 intro aA;have e:Adh (aj.getD (i+1) 0) ch=.ok (XD ch):=by rw[h1];change(Adp (XD ch):Except String Bool).map (· != (12 % 2==1))=_;cases XD ch<;>rfl
 show aE (jV h) ?_;change∃s',(Adh (aj.getD (i+1) 0) ch >>= λb=>if b=a9 then _ else _)=_;show aE e (xf (k _) rfl)
theorem gW.chars{aj:Array Nat}{ch n i:Nat}{y r q:Bool}(h:aj.getD i 0=9)(e:(decide (ch<256) && (aj.getD (i+(1+ch / 32)) 0).testBit (ch % 32))=q)(k:gW aj ch n (i+9) y r):gW aj ch (n+1) i y (if q then y else r):=by intro aA;show aE (jV h) ?_;rw[<-e];show xf (k _) rfl
theorem jW{aj:Array Nat}{i ch:Nat}{r:Bool}(h:aj.getD i 0=13)(k:gW aj ch aj.size (i+2) a9 r):∀aA,∃s',Zz aj i ch aA=.ok (r,s'):=by intro aA;unfold Zz;show aE h (k _)
theorem kQ{aj:Array Nat}{i ch x:Nat}(h:aj.getD i 0=16)(h1:aj.getD (i+1) 0=x):∀aA,∃s',Zz aj i ch aA=.ok (ch==x,s'):=by intro aA;unfold Zz;show aE h ?_;show aE h1 ?_;show⟨_,rfl⟩
theorem tp{aj:Array Nat}{i ch:Nat}(h:aj.getD i 0=2):∀aA,∃s',Zz aj i ch aA=.ok (ch != 10,s'):=by intro aA;unfold Zz;show aE h ⟨_,rfl⟩
theorem tq{aX:Nat->Bool}{l:List Nat}{p j:Nat}(h:j<cnt aX l p):∃ch,l[p+j]?=a7 ch/\aX ch=a9:=by
 unfold cnt at h;have hm:((l.drop p).takeWhile aX)[j]?=a7 ((l.drop p).takeWhile aX)[j]:=Xk h;have hp:=(Adl aX (l:=l.drop p))
 have e:(l.drop p)[j]?=a7 ((l.drop p).takeWhile aX)[j]:=by show ix hm ((List.prefix_iff_getElem?.mp hp j h).trans hm.symm)
 show bd (((l.drop p).takeWhile aX)[j]) ?_ ?_
 .rw[AaW]at e;show e
 .show X8.mp (List.all_takeWhile) _ (Aah h)
theorem qj{aX:Nat->Bool}{l:List Nat}{p:Nat}(h:∀ch,l[p]?=a7 ch->aX ch=ac):cnt aX l p=0:=by apply Aa3;intro hn;show bb (tq (aX:=aX) (l:=l) (p:=p) (j:=0) (AbY ‹_›)) λch e q=>?_;rw[h ch e]at q;show XA q
noncomputable def bI(ch:Nat):Bool:=XD ch
noncomputable def dO(ch:Nat):Bool:=!(ch==61 ||ch==59 ||ch==44 ||bI ch)
noncomputable def isVal(ch:Nat):Bool:=!(ch==59 ||ch==44 ||bI ch)
noncomputable def dD(ch:Nat):Bool:=!(ch==34 ||ch==92)
noncomputable def cJ(ch:Nat):Bool:=ch==61 ||ch==59 ||bI ch
noncomputable def isBlank(ch:Nat):Bool:=ch==32 ||ch==9
noncomputable def ly:Array Nat:=#[14,4,0,1,4294967295,6,0,24,9,0,4294967295,13,4,8,12,0,1,17,0,24,19,1,4294967295,13,14,21,9,0,671092736,0,0,0,0,0,0,8,12,0,1,17,1,1]
noncomputable def eG:Array Nat:=#[14,4,0,3,4294967295,6,0,24,9,0,4294967295,13,4,8,12,0,1,16,61,24,9,0,4294967295,13,4,8,12,0,1,16,34,17,0,24,12,0,4294967295,13,7,21,16,34,16,92,0,1,23,19,0,4294967295,16,92,2,24,12,0,4294967295,13,7,21,16,34,16,92,0,1,18,17,1,16,34,1]
noncomputable def lR:Array Nat:=#[14,4,0,1,4294967295,6,0,24,9,0,4294967295,13,4,8,12,0,1,16,61,24,9,0,4294967295,13,4,8,12,0,1,17,0,24,14,0,4294967295,13,9,21,8,12,16,59,16,44,0,1,17,1,1]
noncomputable def tw:Array Nat:=#[14,8,1,2,2,1,1,92,0,16,92,17,0,2,17,1,1]
noncomputable def i6:Array Nat:=#[14,4,0,0,4294967295,6,0,24,13,0,4294967295,13,8,16,61,8,12,16,59,0,1,1]
noncomputable def gr:Array Nat:=#[14,4,0,1,4294967295,24,16,1,4294967295,13,11,9,0,67071226,3355443198,1476395007,0,0,0,0,0,1,1]
noncomputable def eK:Array Nat:=#[14,9,4,1,1,16,34,16,92,0,17,0,13,6,16,34,16,92,0,17,1,1]
noncomputable def K4:Array Nat:=#[14,4,0,1,4294967295,17,0,24,11,1,4294967295,13,6,16,32,16,9,0,1,17,1,1]
theorem Ao{aj:Array Nat}{i ch n:Nat}(h0:aj.getD i 0=8)(h1:aj.getD (i+1) 0=12)(h2:aj.getD (i+2) 0=0):gW aj ch (n+2) i a9 (bI ch):=by have:=gW.cat (ch:=ch) (y:=a9) h0 h1 (gW.fail (ch:=ch) (n:=n) (y:=a9) h2);unfold bI;cases h:XD ch<;>rw[h]at this<;>show this
theorem iW{c:Cf}(hl:c.l.length<=1000000)(h0:c.code.getD pc 0=24)(h1:c.code.getD (pc+1) 0=9)(h2:c.code.getD (pc+2) 0=0)(h3:c.code.getD (pc+3) 0=4294967295)(h4:c.code.getD (pc+4) 0=13)
  (h6:c.code.getD (pc+4+2) 0=8) (h7:c.code.getD (pc+4+2+1) 0=12) (h8:c.code.getD (pc+4+2+2) 0=0) (hs:pc+2<c.code.size):fR c pc bI 0 9:=
 ⟨h0,h1,h2,h3,λch=>jW h4 (by show xE (⟨c.code.size-2,by show"T+a2bEb+-b2.2" hs⟩:∃n,c.code.size=n+2) λn e=>aE e ?_;show Ao h6 h7 h8),by show Aaw hs,hl⟩
theorem nI{aj:Array Nat}{ch n i:Nat}{y r r':Bool}(h:gW aj ch n i y r)(e:r=r'):gW aj ch n i y r':=e▸h
theorem Ap(ch:Nat):(decide (ch<256) && (ly.getD (26+(1+ch / 32)) 0).testBit (ch % 32))=(ch==61 ||ch==59 ||ch==44):=by
 by_cases h:ch<256
 .have:∀ch:Fin 256,(decide (ch.val<256) && (ly.getD (26+(1+ch.val / 32)) 0).testBit (ch.val % 32))=(ch.val==61 ||ch.val==59 ||ch.val==44):=by decide +kernel
  show this ⟨ch,h⟩
 ·(show aE (decide_eq_false h) ?_;rw[AcQ])
  symm;simp;show"NTa256AANEa61NEa59NEa44" h
theorem GP(ch:Nat):gW ly ch ly.size 25 a9 (dO ch):=by show nI (gW.neg (n:=41) (i:=25) (y:=a9) (by rfl) (gW.chars (q:=(ch==61 ||ch==59 ||ch==44)) (by rfl) (Ap ch) (gW.cat (by rfl) (by rfl) (gW.fail (by rfl))))) ?_;unfold dO bI;cases(ch==61 ||ch==59 ||ch==44)<;>cases XD ch<;>rfl
theorem GQ(ch:Nat):gW lR ch lR.size 37 a9 (isVal ch):=by show nI (gW.neg (n:=48) (i:=37) (y:=a9) (by rfl) (gW.cat (by rfl) (by rfl) (gW.lit (x:=59) (by rfl) (by rfl) (gW.lit (x:=44) (by rfl) (by rfl) (gW.fail (by rfl)))))) ?_;unfold isVal bI;cases(ch==59)<;>cases(ch==44)<;>cases XD ch<;>rfl
theorem CH{i:Nat}(ch:Nat)(h0:eG.getD i 0=21)(h1:eG.getD (i+1) 0=16)(h2:eG.getD (i+1+1) 0=34)(h3:eG.getD (i+1+2) 0=16)(h4:eG.getD (i+1+2+1) 0=92)(h5:eG.getD (i+1+2+2) 0=0):gW eG ch eG.size i a9 (dD ch):=by show nI (gW.neg (n:=71) (i:=i) (y:=a9) h0 (gW.lit h1 h2 (gW.lit h3 h4 (gW.fail h5)))) ?_;unfold dD;cases(ch==34)<;>cases(ch==92)<;>rfl
theorem CI(ch:Nat):gW i6 ch i6.size 13 a9 (cJ ch):=by show nI (gW.lit (n:=21) (i:=13) (y:=a9) (x:=61) (by rfl) (by rfl) (gW.cat (by rfl) (by rfl) (gW.lit (x:=59) (by rfl) (by rfl) (gW.fail (by rfl))))) ?_;unfold cJ bI;cases(ch==61)<;>cases(ch==59)<;>cases XD ch<;>rfl
theorem mC{i:Nat}(ch:Nat)(h1:eK.getD i 0=16)(h2:eK.getD (i+1) 0=34)(h3:eK.getD (i+2) 0=16)(h4:eK.getD (i+2+1) 0=92)(h5:eK.getD (i+2+2) 0=0):gW eK ch eK.size i a9 (!dD ch):=by show nI (gW.lit (n:=21) (i:=i) (y:=a9) h1 h2 (gW.lit h3 h4 (gW.fail h5))) ?_;unfold dD;cases(ch==34)<;>cases(ch==92)<;>rfl
noncomputable def dW(ch:Nat):Bool:=decide (ch<128) && (#[0,67071226,3355443198,1476395007].getD (ch / 32) 0).testBit (ch % 32)
theorem CJ(ch:Nat):gW gr ch gr.size 11 a9 (dW ch):=by
 have e:(decide (ch<256) && (gr.getD (11+(1+ch / 32)) 0).testBit (ch % 32))=dW ch:=by
  by_cases h:ch<256
  .have:∀ch:Fin 256,(decide (ch.val<256) && (gr.getD (11+(1+ch.val / 32)) 0).testBit (ch.val % 32))=dW ch.val:=by decide +kernel
   show this ⟨ch,h⟩
  .unfold dW;show aE (decide_eq_false h) ?_;show aE (decide_eq_false (show¬ch<128 by show"NTa256NTa128" h)) ?_;rfl
 show nI (gW.chars (n:=22) (i:=11) (y:=a9) (by rfl) e (gW.fail (by rfl))) ?_;cases dW ch<;>rfl
end
section
variable {aj:Array Nat}{l:List Nat}{s0 g d n x:Nat}
def K5(b e:Nat)(aq:Array (Option Nat))(lm li:Int):Prop:=lm=1/\aq.getD 0 a8=a7 b/\aq.getD 1 a8=a7 e
theorem nf(h:((match ops[aj.getD 0 0]? with|some .INFO=>a9|_=>ac) && aj.getD 2 0==4)=ac)(m:M)(e:m.code=aj):m.hasFirstSet=ac:=by unfold M.hasFirstSet;show aE e h
theorem kR{pc t:Nat}{aJ:Bool}(h0:aj.getD pc 0=6)(h1:aj.getD (pc+1) 0=0)(gI:pc<aj.size)(ht:t≠0):Mf (sc aj l s0) aJ s0 g d pc (n+1) t:=by show Fail.le (Fail.K3 h0 h1 gI ht) (XQ _)
theorem Fail.K6{b:Int}(h0:c.code.getD pc 0=16)(h1:c.code.getD (pc+1) 0=x)(gI:pc<c.code.size)(hn:c.l[ai]?≠a7 x):Fail c ay aJ aS g b d pc ai 1:=by
 have h:hW c pc (λch=>ch==x):=⟨.inr (.inl h0),λch=>kQ h0 h1⟩
 show Fail.one (n:=0) h gI λ⟨ch,e,q⟩=>?_;have:ch=x:=by simpa using q
 clear h h1 q;subst this;show absurd e hn
theorem Fail.lit{b:Int}(h0:c.code.getD pc 0=16)(h1:c.code.getD (pc+1) 0=x)(gI:pc<c.code.size)(h:c.l[ai]?=a7 x->Fail c ay aJ aS g b d (pc+2) (ai+1) n):Fail c ay aJ aS g b d pc ai (n+1):=by
 have ha:hW c pc (λch=>ch==x):=⟨.inr (.inl h0),λch=>kQ h0 h1⟩
 have hw:Z4 c.code pc=2:=by unfold Z4;show aE h0 ?_;rfl
 show Fail.one (n:=n) ha gI λ⟨ch,e,q⟩=>aE hw ?_;have:ch=x:=by simpa using q
 clear h1 ha q;subst this;show h e
theorem fh.lit{e:Nat}{bO:Array (Option Nat)}{mz mA:Int}(h0:c.code.getD pc 0=16)(h1:c.code.getD (pc+1) 0=x)(gI:pc<c.code.size)(tm:c.l[ai]?=a7 x)(f:fh c ay aJ aS d (pc+2) (ai+1) aq lm li e bO mz mA n):fh c ay aJ aS d pc ai aq lm li e bO mz mA (n+1):=by
 have ha:hW c pc (λch=>ch==x):=⟨.inr (.inl h0),λch=>kQ h0 h1⟩
 have hw:Z4 c.code pc=2:=by unfold Z4;show aE h0 ?_;rfl
 show fh.one ha gI tm ReflBEq.rfl (aE hw ?_);show f
theorem Fail.xh{g d x n:Nat}{b:Int}(hr:fR c pc bI 0 9)(hp:ai<=c.l.length)(hg:g<=100)(h0:c.code.getD (pc+1+9) 0=16)(h1:c.code.getD (pc+1+9+1) 0=x)(gI:pc+1+9<c.code.size)(hx:bI x=ac)
  (h:c.l[ai+cnt bI c.l ai]?=a7 x->Fail c ay aJ aS g b d (pc+1+9+2) (ai+cnt bI c.l ai+1) n):Fail c ay aJ aS g b (d+1) pc ai ((c.l.length+1)*(n+1+1)+1):=by
 show Fail.rep (n:=n+1) hr hp hg fun  j u hj=>?_;by_cases K7:j<cnt bI c.l ai
 .show bb (tq K7) λch e q=>Fail.le (Fail.K6 h0 h1 gI ?_) (XQ _);show aE e ?_;intro z;clear e;cases z;rw[hx]at q;injection q
 .have:j=cnt bI c.l ai:=by show"LabNTabEab" hj K7
  clear hj K7;subst this;show Fail.lit h0 h1 gI h
theorem CM:bI 61=ac:=by rfl
theorem K8:bI 34=ac:=by rfl
/-! Cg Qc aw -/
theorem z6(hl:l.length<=1000000):fR (sc ly l s0) 7 bI 0 9:=iW hl (by rfl) (by rfl) (by rfl) (by rfl) (by rfl) (by rfl) (by rfl) (by rfl) (by change 7+2<ly.size;decide)
theorem uM(hl:l.length<=1000000):fR (sc ly l s0) 19 dO 1 19:=⟨by rfl,by rfl,by rfl,by rfl,λch=>jW (by rfl) (GP ch),by change 19<ly.size;decide,hl⟩
theorem GR(hl:l.length<=1000)(hk:0<cnt dO l (cnt bI l 0)) :
  Goes 30 (XH ly l.toArray 1 0 l.length ac) (λm=>m.outcome=a7 .matched/\m.start=0/\m.handed=cnt bI l 0+cnt dO l (cnt bI l 0)/\K5 (cnt bI l 0) (cnt bI l 0+cnt dO l (cnt bI l 0)) m.marks m.lastmark m.lastindex):=by
 have h1:=gK bI l 0;have h2:=gK dO l (cnt bI l 0);show Goes.le (N:=(0-0+1)*(12+2)+1) (Xx _ _) (hZ (groups:=1) (d:=500) (n:=12) (nf (by rfl)) (Xd _) (Xn _) (Xn _) (by change 1<=l.length-0;show"T0aLa-bcL1-b0" hk h2) (Xx _ _) (λt a b=>absurd b (Y5 t)) ?_);intro aq hm;show rW ((aq.setIfInBounds 0 (a7 (cnt bI l 0))).setIfInBounds 1 (a7 (cnt bI l 0+cnt dO l (cnt bI l 0)))) 1 1 (fh.le (n:=1+1+2+1+2+1) ?_ (Xx _ _)) ?_
 .show fh.GN (d:=500) (by rfl) (by rfl) (aP rfl) rfl (fh.rep (d:=399) (z6 (by show"La1000La1000000" hl)) (Xn _) (by show"Ea*2.1La100" hm) (Xn _) ?_);show fh.mark (i:=0) (by rfl) (by rfl) (aP rfl) (aP rfl) (aE (show 0+cnt bI (sc ly l 0).l 0=cnt bI l 0 from XI _) ?_);show fh.rep (d:=298) (uM (by show"La1000La1000000" hl)) (by change cnt bI l 0<=l.length;assumption) (by simp;show"Ea*2.1La100" hm) (by change 1<=cnt dO l _;assumption) ?_;show fh.mark (i:=1) (by rfl) (by rfl) (aP rfl) (aP rfl) (fh.success (by rfl) (aP rfl) (λh=>XA h) (λh=>XA h))
 .show⟨rfl,?_,?_⟩
  .simp[X4,hm]
  .simp[X4,hm]
theorem uN(hl:l.length<=1000)(hk:cnt dO l (cnt bI l 0)=0) :
  Goes 10000000000 (XH ly l.toArray 1 0 l.length ac) (λm=>m.outcome=a7 .failed):=by
 by_cases h0:l.length=0
 .show Goes.le (XQ _) (fT (.inr (by change l.length-0<1;show(λ{n}=>Nat.lt_one_iff.mpr) h0)))
 .have h1:=gK bI l 0;have eT:lastOf ly l.length 0=l.length:=rfl;show Goes.le ?_ (gq (groups:=1) (d:=500) (n:=(l.length+1)*(2+1)+1+1) (nf (by rfl)) (Xn _) (Xn _) (by change 1<=l.length-0;show AbY ‹_›) (Xx _ _) (λt a b=>?_))
  .show aE eT ?_;have:(l.length-0+1)*((l.length+1)*(2+1)+1+1+2)<=1001*(1001*3+4):=Aad (ZN hl) (by lia);show"La*1001+*1001.3.4L+a1.10000000000" this
  .by_cases ht:t=0
   .clear a b;subst ht;show Fail.GN (by rfl) (by rfl) (aP rfl) (Fail.deeper (d:=499+1) (Fail.rep (n:=2) (z6 (by show"La1000La1000000" hl)) (Xn _) (Xx _ _) fun  j u hj=>?_) (Yi _));show Fail.mark (n:=1) (i:=0) (by rfl) (by rfl) (aP rfl) (aP rfl) ?_;have hz:cnt dO (sc ly l 0).l (0+j)=0:=by
     by_cases K7:j<cnt bI l 0
     .show bb (tq K7) λch e q=>qj λSS e'=>?_;rw[show(sc ly l 0).l=l from rfl,e]at e';injection e' with e';subst e'
      unfold dO;show aE q ?_;simp
     .have Ch:j<=cnt bI l 0:=hj;have:j=cnt bI l 0:=by show"NTabLabEab" K7 Ch
      clear hj Ch K7;subst this;rw[XI];show hk
    constructor;intro aC aq lm li fr wt aA lp N P a1 a2 a3 k;show s4 (uM (by show"La1000La1000000" hl)) (by change 0+j<=l.length;have Ch:j<=cnt bI l 0:=hj;show"La-b0LcaL+0cb" h1 Ch) (by show"Ea*2.1L+b499.900000L+ba1000000" a1 a2) (by show aE hz ?_;show Nat.one_pos) fun  u=>k _ _ _ _ _ _ _ _ a1
   .show kR (by rfl) (by rfl) (aP rfl) ht
/-! Cg bare value -/
theorem z7(hl:l.length<=1000000):fR (sc lR l s0) 7 bI 0 9:=iW hl (by rfl) (by rfl) (by rfl) (by rfl) (by rfl) (by rfl) (by rfl) (by rfl) (by change 7+2<lR.size;decide)
theorem CN(hl:l.length<=1000000):fR (sc lR l s0) 19 bI 0 9:=iW hl (by rfl) (by rfl) (by rfl) (by rfl) (by rfl) (by rfl) (by rfl) (by rfl) (by change 19+2<lR.size;decide)
theorem CO(hl:l.length<=1000000):fR (sc lR l s0) 31 isVal 0 14:=⟨by rfl,by rfl,by rfl,by rfl,λch=>jW (by rfl) (GQ ch),by change 31<lR.size;decide,hl⟩
noncomputable def dP(l:List Nat):Nat:=cnt bI l 0
noncomputable def aZ(l:List Nat):Nat:=dP l+1+cnt bI l (dP l+1)
theorem GS(hl:l.length<=1000)(hk:l[dP l]?=a7 61) :
  Goes 30 (XH lR l.toArray 1 0 l.length ac) (λm=>m.outcome=a7 .matched/\m.start=0/\m.handed=aZ l+cnt isVal l (aZ l)/\K5 (aZ l) (aZ l+cnt isVal l (aZ l)) m.marks m.lastmark m.lastindex):=by
 have h2:=gK bI l (dP l+1);have h3:dP l<l.length:=(Xc.mp hk).1;show Goes.le (N:=(0-0+1)*(14+2)+1) (Xx _ _) (hZ (groups:=1) (d:=500) (n:=14) (nf (by rfl)) (Xd _) (Xn _) (Xn _) (by change 1<=l.length-0;show Nat.one_le_of_lt h3) (Xx _ _) (λt a b=>absurd b (Y5 t)) ?_);intro aq hm;show rW ((aq.setIfInBounds 0 (a7 (aZ l))).setIfInBounds 1 (a7 (aZ l+cnt isVal l (aZ l)))) 1 1 (fh.le (n:=1+1+2+1+2+1+2+1) ?_ (Xx _ _)) ?_
 .show fh.GN (d:=500) (by rfl) (by rfl) (aP rfl) rfl (fh.rep (d:=399) (z7 (by show"La1000La1000000" hl)) (Xn _) (by show"Ea*2.1La100" hm) (Xn _) ?_);show aE (show 0+cnt bI (sc lR l 0).l 0=dP l from XI _) (fh.lit (x:=61) (by rfl) (by rfl) (aP rfl) hk ?_);show fh.rep (d:=298) (CN (by show"La1000La1000000" hl)) (by change dP l+1<=l.length;assumption) (by show"Ea*2.1La100" hm) (Xn _) ?_;show fh.mark (i:=0) (by rfl) (by rfl) (aP rfl) (aP rfl) (fh.rep (d:=197) (CO (by show"La1000La1000000" hl)) (by change dP l+1+cnt bI l (dP l+1)<=l.length;show"La-b+c1TcbL++c1ab" h2 h3) (by simp;show"Ea*2.1La100" hm) (Xn _) ?_);show fh.mark (i:=1) (by rfl) (by rfl) (aP rfl) (aP rfl) (fh.success (by rfl) (aP rfl) (λh=>XA h) (λh=>XA h))
 .show⟨rfl,?_,?_⟩
  .simp[X4,hm,aZ]
  .simp[X4,hm,aZ]
theorem CP(hl:l.length<=1000)(hk:l[dP l]?≠a7 61) :
  Goes 10000000000 (XH lR l.toArray 1 0 l.length ac) (λm=>m.outcome=a7 .failed):=by
 by_cases h0:l.length=0
 .show Goes.le (XQ _) (fT (.inr (by change l.length-0<1;show(λ{n}=>Nat.lt_one_iff.mpr) h0)))
 .have eT:lastOf lR l.length 0=l.length:=rfl;show Goes.le ?_ (gq (groups:=1) (d:=500) (n:=(l.length+1)*(0+1+1)+1+1) (nf (by rfl)) (Xn _) (Xn _) (by change 1<=l.length-0;show AbY ‹_›) (Xx _ _) (λt a b=>?_))
  .show aE eT ?_;have:(l.length-0+1)*((l.length+1)*(0+1+1)+1+1+2)<=1001*(1001*2+4):=Aad (ZN hl) (by lia);show"La*1001+*1001.2.4L+a1.10000000000" this
  .by_cases ht:t=0
   .clear a b;subst ht;show Fail.GN (by rfl) (by rfl) (aP rfl) (Fail.deeper (d:=499+1) (Fail.xh (x:=61) (n:=0) (z7 (by show"La1000La1000000" hl)) (Xn _) (Xx _ _) (by rfl) (by rfl) (aP rfl) CM λe=>?_) (Yi _));rw[show 0+cnt bI (sc lR l 0).l 0=dP l from XI _]at e;show absurd e hk
   .show kR (by rfl) (by rfl) (aP rfl) ht
end
section
variable {bA b6 i:Nat}{cS:Bool}{q:Acm}
theorem nJ{α:Type}(a:Array α)(x d:α):(a.push x).getD a.size d=x:=by simp[X4]
theorem jX{α:Type}(a:Array α)(x:α)(f:α->α):(a.push x).modify a.size f=a.push (f x):=by
 apply Array.ext
 .simp
 .intro i h1 h2;rw[Array.getElem_modify,Array.getElem_push,Array.getElem_push];by_cases h:a.size=i
  .clear h1 h2;subst h;simp
  .rw[aI h];have:i<a.size:=by simp at h1;show"NEabTb+a1Tba" h h1
   simp[this]
theorem xi(a:Array (Option Nat))(n:Nat):a.extract 0 n++a.extract (a.extract 0 n).size a.size=a:=by
 apply Array.toList_inj.mp;simp only[Array.toList_append,Adw,Aa0,Array.size_extract];rw[Zi,Ace];have hl:a.toList.length=a.size:=Array.length_toList;have:AbA (a.size-min n a.size) (Aae (min n a.size) a.toList)=Aae (min n a.size) a.toList:=Yl (by simp);rw[this];by_cases h:n<=a.size
 .rw[Zn h];show Y7 _ _
 .rw[Abm (Aag h),<-hl,List.drop_length,Yl (Aag h),Xv]
noncomputable abbrev Mg(pc ai:Nat)(aS:Bool)(i:Nat)(n:Int)(k:Acm)(bg:Option Nat):Fr:={ wait:=.maxMore,pc:=pc,pos:=ai,outermost:=aS,loop:=i,count:=n,kept:=k,began:=bg }
noncomputable abbrev Px(pc ai:Nat)(aS:Bool)(i:Nat)(n:Int)(k:Acm):Fr:={ wait:=.maxTail,pc:=pc,pos:=ai,outermost:=aS,loop:=i,count:=n,kept:=k }
noncomputable abbrev ST(pc ai:Nat)(aS:Bool)(i:Nat):Fr:={ wait:=.closeLoop,pc:=pc,pos:=ai,outermost:=aS,loop:=i }
theorem Aq{skip:Nat}(h0:c.code.getD pc 0=23)(h1:c.code.getD (pc+1) 0=skip)(gI:pc<c.code.size)(hw:wt<=900000)
  (k:∀aA,Goes N (K c ay aJ (pc+1+skip) ai ai aS aq lm li (ST pc ai aS lp.size::fr) (wt+1) a8 aA (lp.push { pc:=pc,count:=-1,began:=a8,outer:=bU }) (a7 lp.size)) P) :
  Goes (N+1) (K c ay aJ pc ai aC aS aq lm li fr wt a8 aA lp bU) P:=by
 show Goes.step rfl ?_;rw[my gI];unfold M.exec;rw[show ops[(K c ay aJ pc ai aC aS aq lm li fr wt a8 aA lp bU).word 0]?=a7 .REPEAT from by rw[show(K c ay aJ pc ai aC aS aq lm li fr wt a8 aA lp bU).word 0=23 from h0];rfl];dsimp only;rw[show∀sn lp bU,(K c ay aJ pc ai aC aS aq lm li fr wt a8 sn lp bU).word 1=skip from fun  u u u=>h1];rw[gV (by change wt+1+0<=_;show"La900000L++a1.0.16777216" hw)];show k _
theorem oG{K9:Nat}{cn:Int}{bg outer:Option Nat}(h0:c.code.getD pc 0=18)(gI:pc<c.code.size)(hw:wt<=900000)(hm:aq.size<=100)(hl:c.code.getD (K9+2) 0=0)(Ut:c.code.getD (K9+3) 0=4294967295)(Gn:0<=cn+1)(hb:bg≠a7 ai)
  (k:∀aA,Goes N (K c ay aJ (K9+4) ai ai aS aq lm li (Mg (pc+1) ai aS lp.size (cn+1) (kp aq lm li a9) bg::fr) (wt+1+(kp aq lm li a9).marks.size) a8 aA (lp.push { pc:=K9,count:=cn+1,began:=a7 ai,outer:=outer }) (a7 lp.size)) P) :
  Goes (N+1) (K c ay aJ pc ai aC aS aq lm li fr wt a8 aA (lp.push { pc:=K9,count:=cn,began:=bg,outer:=outer }) (a7 lp.size)) P:=by
 show Goes.step rfl ?_;rw[my gI];unfold M.exec;rw[show∀lp bU,ops[(K c ay aJ pc ai aC aS aq lm li fr wt a8 aA lp bU).word 0]?=a7 .MAX_UNTIL fromλlp bU=>by rw[show(K c ay aJ pc ai aC aS aq lm li fr wt a8 aA lp bU).word 0=18 from h0];rfl];dsimp only;unfold M.until_;dsimp only;unfold M.loopAt;rw[nJ];dsimp only;rw[hl,Ut];rw[aI (Int.not_lt_of_ge Gn)];simp only[Bool.not_true,ZV,if_false];rw[aQ (by simp[maxRepeat];intro h;show hb h)];unfold M.round M.setLoop M.loopAt;dsimp only;rw[nJ,jX];have hk:=@uH aq lm li a9;show Eq.mpr (congrArg (λm=>Goes N m P) (gV (c:=c) (ay:=ay) (aJ:=aJ) (pc:=pc+1) (ai:=ai) (aC:=aC) (aS:=aS) (aq:=aq) (lm:=lm) (li:=li) (fr:=fr) (wt:=wt) (aA:=_) (lp:=_) (bU:=a7 lp.size) (f:=Mg (pc+1) ai aS lp.size (cn+1) (kp aq lm li a9) bg) (Me:=a8) (by change wt+1+(kp aq lm li a9).marks.size<=_;show"La900000Lb100LcbL++a1c16777216" hw hm hk))) ?_;show k _
theorem xj{n:Int}{bg:Option Nat}(k:∀xe,Goes N (K c ay aJ bA b6 aC cS aq lm li fr wt (a7 a9) aA xe bU) P):Goes (N+1) (K c ay aJ pc ai aC aS aq lm li (Mg bA b6 cS i n q bg::fr) (wt+1+q.marks.size) (a7 a9) aA lp bU) P:=by
 show Goes.step rfl ?_;rw[jT];have:wt+1+q.marks.size-(1+(Mg bA b6 cS i n q bg).kept.marks.size)=wt:=by change wt+1+q.marks.size-(1+q.marks.size)=wt;show"E-++a1b+1ba"
 rw[this];show k _
theorem xk{n:Int}(k:∀lQ,Goes N (K c ay aJ bA b6 aC cS aq lm li fr wt (a7 a9) aA lp lQ) P):Goes (N+1) (K c ay aJ pc ai aC aS aq lm li (Px bA b6 cS i n q::fr) (wt+1+q.marks.size) (a7 a9) aA lp bU) P:=by
 show Goes.step rfl ?_;rw[jT];have:wt+1+q.marks.size-(1+(Px bA b6 cS i n q).kept.marks.size)=wt:=by change wt+1+q.marks.size-(1+q.marks.size)=wt;show"E-++a1b+1ba"
 rw[this];show k _
theorem xl(k:∀xe lQ,Goes N (K c ay aJ bA b6 aC cS aq lm li fr wt (a7 a9) aA xe lQ) P):Goes (N+1) (K c ay aJ pc ai aC aS aq lm li (ST bA b6 cS i::fr) (wt+1) (a7 a9) aA lp bU) P:=by show Goes.step rfl ?_;show k _ _
theorem Ar{bA b6 K9:Nat}{cS:Bool}{n cn:Int}{bg Uu outer:Option Nat}{dK dN:Int}(hw:wt<=900000)
  (k:∀L:AaV,L.outer=outer->Goes N (K c ay aJ bA b6 b6 cS aq dK dN (Px bA b6 cS lp.size n (kp #[] dK dN ac)::fr) (wt+1) a8 aA (lp.push L) outer) P) :
  Goes (N+1) (K c ay aJ pc ai aC aS aq lm li (Mg bA b6 cS lp.size n (kp aq dK dN a9) bg::fr) (wt+1+(kp aq dK dN a9).marks.size) (a7 ac) aA (lp.push { pc:=K9,count:=cn,began:=Uu,outer:=outer }) bU) P:=by
 show Goes.step rfl ?_;rw[jT];have:wt+1+(kp aq dK dN a9).marks.size-(1+(Mg bA b6 cS lp.size n (kp aq dK dN a9) bg).kept.marks.size)=wt:=by change wt+1+(kp aq dK dN a9).marks.size-(1+(kp aq dK dN a9).marks.size)=wt;show"E-++a1b+1ba"
 rw[this];unfold M.resume;dsimp only;unfold M.setLoop;rw[jX];simp only[ZV,if_false];unfold M.putBack;dsimp only[if_true];rw[xi,jX];unfold M.afterLoop M.loopAt;dsimp only;rw[nJ];show Eq.mpr (congrArg (λm=>Goes N m P) (gV (c:=c) (ay:=ay) (aJ:=aJ) (pc:=bA) (ai:=b6) (aC:=aC) (aS:=cS) (aq:=aq) (lm:=dK) (li:=dN) (fr:=fr) (wt:=wt) (aA:=_) (lp:=_) (bU:=outer) (f:=Px bA b6 cS lp.size n (kp #[] dK dN ac)) (Me:=a8) (by change wt+1+0<=_;show"La900000L++a1.0.16777216" hw))) ?_;show k _ rfl
end
section
variable {l:List Nat}{n p q s0:Nat}
inductive QB(l:List Nat):Nat->Nat->Nat->Prop
 |stop {p:Nat}:l[p]?=a7 34->QB l 0 p p
 |step {n p q ch:Nat}:l[p]?=a7 92->l[p+1]?=a7 ch->ch≠10->QB l n (p+2+cnt dD l (p+2)) q->QB l (n+1) p q
theorem QB.lt(h:QB l n p q):q<l.length/\p+2*n<=q:=by
 induction h with|stop h=>show⟨(Xc.mp h).1,by show Xd _⟩|step a b d e ih=>show⟨ih.1,by show"ATabL+++c2d*2eaL+c*2+e1a" ih⟩
theorem QB.at(h:QB l n p q):l[q]?=a7 34:=by
 induction h with|stop h=>show h|step a b d e ih=>show ih
theorem z8(hl:l.length<=1000000):fR (sc eG l s0) 7 bI 0 9:=iW hl (by rfl) (by rfl) (by rfl) (by rfl) (by rfl) (by rfl) (by rfl) (by rfl) (by change 7+2<eG.size;decide)
theorem uO(hl:l.length<=1000000):fR (sc eG l s0) 19 bI 0 9:=iW hl (by rfl) (by rfl) (by rfl) (by rfl) (by rfl) (by rfl) (by rfl) (by rfl) (by change 19+2<eG.size;decide)
theorem CQ(hl:l.length<=1000000):fR (sc eG l s0) 33 dD 0 12:=⟨by rfl,by rfl,by rfl,by rfl,λch=>jW (by rfl) (CH ch (by rfl) (by rfl) (by rfl) (by rfl) (by rfl) (by rfl)),by change 33<eG.size;decide,hl⟩
theorem CR(hl:l.length<=1000000):fR (sc eG l s0) 53 dD 0 12:=⟨by rfl,by rfl,by rfl,by rfl,λch=>jW (by rfl) (CH ch (by rfl) (by rfl) (by rfl) (by rfl) (by rfl) (by rfl)),by change 53<eG.size;decide,hl⟩
abbrev uP(ay:Nat)(aJ aS:Bool)(aq:Array (Option Nat))(li:Int)(l:List Nat)(s0 n p q:Nat):Prop:=∀{aC:Nat} {fr:List Fr} {wt:Nat} {aA:Seen} {lp:Array AaV} {cn:Int} {bg oo:Option Nat} {N:Nat} {P:M->Prop},wt+(n+1)*300<=900000->aq.size=2->0<=cn+1->bg≠a7 p->
  (∀to pos' fS du xe lQ,Goes N (K (sc eG l s0) ay aJ to pos' (q+1) fS (aq.setIfInBounds 1 (a7 q)) 1 1 fr wt (a7 a9) du xe lQ) P)->aJ=ac->
  Goes (N+(n+1)*10) (K (sc eG l s0) ay aJ 66 p aC aS aq 0 li fr wt a8 aA (lp.push { pc:=46,count:=cn,began:=bg,outer:=oo }) (a7 lp.size)) P
theorem CS(h:l[p]?=a7 34):uP ay aJ aS aq li l s0 0 p p:=λ{aC fr wt aA lp cn bg oo N P} hw hm Gn hb k Qd=>by
  show Goes.le (N:=N+7) (by show"L+a7+a:+0.1.10") (oG (N:=N+6) (c:=sc eG l s0) (by rfl) (aP rfl) (Zp hw) (by show"Ea2La100" hm) (by rfl) (by rfl) Gn hb λsn=>?_);have Ka:hW (sc eG l s0) 50 (λch=>ch==92):=⟨.inr (.inl rfl),λch=>kQ rfl rfl⟩
  show rZ (N:=N+5) Ka (aP rfl) (λch e=>?_) λsn=>?_
  .rw[show(sc eG l s0).l=l from rfl,h]at e;obtain rfl:=Xe e;rfl
  show Ar (N:=N+4) (Zp hw) fun  L u=>tj (N:=N+3) (i:=1) (by rfl) (by rfl) (aP rfl) (aP rfl) λsn=>?_;have Uv:hW (sc eG l s0) 69 (λch=>ch==34):=⟨.inr (.inl rfl),λch=>kQ rfl rfl⟩
  show qf (N:=N+2) (ch:=34) Uv (aP rfl) h rfl λsn=>qe (N:=N+1) (by rfl) (aP rfl) (λz=>XA z) (λz=>by rw[Qd]at z;show XA z) λsn=>?_;show xk λlQ=>k _ _ _ _ _ _
theorem CT{ch:Nat}(hl:l.length<=1000)(Uw:l[p]?=a7 92)(tm:l[p+1]?=a7 ch)(z9:ch≠10)(hq:uP ay aJ aS aq li l s0 n (p+2+cnt dD l (p+2)) q):uP ay aJ aS aq li l s0 (n+1) p q:=λ{aC fr wt aA lp cn bg oo N P} hw hm Gn hb k Qd=>by
  have Kb:p+1<l.length:=(Xc.mp tm).1;have hk:=@uH aq 0 li a9;show Goes.le (N:=(N+2+(n+1)*10)+4) (by show"L+++a2:+b1.10.4+a:++b1.1.10") (oG (N:=(N+2+(n+1)*10)+3) (c:=sc eG l s0) (by rfl) (aP rfl) (Zp hw) (by show"Ea2La100" hm) (by rfl) (by rfl) Gn hb λsn=>?_);have Ka:hW (sc eG l s0) 50 (λch=>ch==92):=⟨.inr (.inl rfl),λch=>kQ rfl rfl⟩
  show qf (N:=(N+2+(n+1)*10)+2) Ka (aP rfl) Uw rfl λsn=>?_;have CU:hW (sc eG l s0) 52 (λch=>ch != 10):=⟨.inr (.inr rfl),λch=>tp rfl⟩
  show qf (N:=(N+2+(n+1)*10)+1) CU (aP rfl) tm (by simpa using z9) λsn=>xd (N:=N+2+(n+1)*10) (CR (by show"La1000La1000000" hl)) (by assumption) (by show"L+a:++b1.1.300.900000Ec2LdcL+++a1dc1000000" hw hm hk) (Xn _) λsn=>?_;have Ux:=@uH aq 0 li (a7 lp.size).isSome;show hq (by show"L+a:++b1.1.300.900000Ec2LdcLecL+++++a1d1e:+b1.300.900000" hw hm hk Ux) hm (Int.le_add_one Gn) (by intro z;have:=Xe z;show"Ea++a2b0" this) (λto pos' fS du xe lQ=>?_) Qd;show qg (N:=N+1) (xj (N:=N) λxe=>k _ _ _ _ _ _)
theorem CV(hl:l.length<=1000)(h:QB l n p q):uP ay aJ aS aq li l s0 n p q:=h.rec (motive:=fun  n p q u=>uP ay aJ aS aq li l s0 n p q) (λh=>CS h) fun  a b d u ih=>CT hl a b d ih
theorem GU(hl:l.length<=1000)(h1:l[dP l]?=a7 61)(h2:l[aZ l]?=a7 34)(hq:QB l n (aZ l+1+cnt dD l (aZ l+1)) q) :
  Goes 100000 (XH eG l.toArray 1 0 l.length ac) (λm=>m.outcome=a7 .matched/\m.start=0/\m.handed=q+1/\K5 (aZ l+1) q m.marks m.lastmark m.lastindex):=by
 have a3:dP l<l.length:=(Xc.mp h1).1;have a4:aZ l<l.length:=(Xc.mp h2).1;have a5:=hq.lt;have a6:dP l<aZ l:=by unfold aZ;show Yd _ _
 show Goes.le (N:=(0-0+1)*((n+1)*10+20+2)+1) (by lia) (hZ (groups:=1) (d:=700000) (n:=(n+1)*10+20) (nf (by rfl)) (Xd _) (Xn _) (Xn _) (by change 3<=l.length-0;show"ATabL+++c1d*2eaTfcL3-b0" a5 a6) (Xx _ _) (λt a b=>absurd b (Y5 t)) ?_);intro aq hm;show rW ((aq.setIfInBounds 0 (a7 (aZ l+1))).setIfInBounds 1 (a7 q)) 1 1 (fh.le (n:=(n+1)*10+1+1+2+1+1+2+1+2+1) ?_ (by show"L+++++++++:+a1.10.1.1.2.1.1.2.1.2.1+:+a1.10.20")) ?_
 .show fh.GN (d:=700000) (by rfl) (by rfl) (aP rfl) rfl (fh.rep (d:=699899) (z8 (by show"La1000La1000000" hl)) (Xn _) (by show"Ea*2.1La100" hm) (Xn _) ?_);show aE (show 0+cnt bI (sc eG l 0).l 0=dP l from XI _) (fh.lit (x:=61) (by rfl) (by rfl) (aP rfl) h1 ?_);show fh.rep (d:=699798) (uO (by show"La1000La1000000" hl)) (by assumption) (by show"Ea*2.1La100" hm) (Xn _) (fh.lit (x:=34) (by rfl) (by rfl) (aP rfl) h2 ?_);show fh.mark (i:=0) (by rfl) (by rfl) (aP rfl) (aP rfl) (fh.rep (d:=699697) (CQ (by show"La1000La1000000" hl)) (by assumption) (by simp;show"Ea*2.1La100" hm) (Xn _) ?_);constructor;intro aC fr wt aA lp bU N P hw k;show Goes.le (N:=N+1+(n+1)*10+1) (by show"L+++a1:+b1.10.1+a+:+b1.10.2") (Aq (N:=N+1+(n+1)*10) (skip:=19) (by rfl) (by rfl) (aP rfl) (by show"L+a699697.900000La900000" hw) λsn=>?_);show CV (wt:=wt+1) (cn:=-1) (bg:=a8) (li:=-1) (aq:=aq.setIfInBounds 0 (a7 (aZ l+1))) hl hq (by show"La1000ATbaL+++c1d*2ebL+f699697.900000L++f1:+e1.300.900000" hl a5 hw) (by simpa using hm) (Int.zero_le_ofNat (1-Aco 0)) (Ne.symm (AbQ (aZ l+1+cnt dD l (aZ l+1)))) (λto pos' fS du xe lQ=>?_) rfl;show xl (N:=N) λxe lQ=>k _ _ _ _ _ _
 .show⟨rfl,?_,?_⟩
  .simp[X4,hm]
  .simp[X4,hm]
theorem s6(hl:l.length<=1000)(hk:l[dP l]?≠a7 61\/l[aZ l]?≠a7 34) :
  Goes 10000000000 (XH eG l.toArray 1 0 l.length ac) (λm=>m.outcome=a7 .failed):=by
 revert l;delta l;intro hl hk;by_cases h0:l.length<3
 .show Goes.le (XQ _) (fT (.inr (by assumption)))
 .have eT:lastOf eG l.length 0<=l.length:=by change max 0 (l.length-(3-1))<=l.length;show Nat.sub_le _ _
  show Goes.le ?_ (gq (groups:=1) (d:=500) (n:=(l.length+1)*((l.length+1)*(0+1+1)+1+1+1)+1+1) (nf (by rfl)) (Xn _) (Xn _) (ZO ‹_›) (Xx _ _) (λt a b=>?_))
  .skip;have b2:(l.length+1)*((l.length+1)*(0+1+1)+1+1+1)<=1001*2005:=Aad (ZN hl) (by lia);have b3:(lastOf eG l.length 0-0+1)*((l.length+1)*((l.length+1)*(0+1+1)+1+1+1)+1+1+2)<=1001*(1001*2005+4):=Aad (by show"La1000LbaL+-b0.1.1001" hl eT) (Nat.le_add_of_sub_le b2);show"La*1001+*1001.2005.4L+a1.10000000000" b3
  .by_cases ht:t=0
   .clear a b;subst ht;show Fail.GN (by rfl) (by rfl) (aP rfl) (Fail.deeper (d:=499+1) (Fail.xh (x:=61) (n:=(l.length+1)*(0+1+1)+1) (z8 (by show"La1000La1000000" hl)) (Xn _) (Xx _ _) (by rfl) (by rfl) (aP rfl) CM λe=>?_) (Yi _));rw[show 0+cnt bI (sc eG l 0).l 0=dP l from XI _]at e ⊢;have a3:dP l<l.length:=(Xc.mp e).1;show Fail.deeper (d:=498+1) (Fail.xh (x:=34) (n:=0) (uO (by show"La1000La1000000" hl)) (by assumption) (Xx _ _) (by rfl) (by rfl) (aP rfl) K8 λe'=>?_) (Yi _);rcases hk with hk|hk
    .trivial
    .trivial
   .show kR (by rfl) (by rfl) (aP rfl) ht
end
section
variable {l:List Nat}{s0 s:Nat}{m:M}
/-! a As and a sign -/
def s7(l:List Nat)(t:Nat):Prop:=l[t]?=a7 92/\∃ch,l[t+1]?=a7 ch/\ch≠10
theorem za{t:Nat}(h:¬s7 l t):Mf (sc tw l s0) aJ s0 2 500 9 3 t:=by
 show Fail.lit (x:=92) (by rfl) (by rfl) (aP rfl) λe=>Fail.mark (i:=0) (by rfl) (by rfl) (aP rfl) (aP rfl) ?_;have CU:hW (sc tw l s0) 13 (λch=>ch != 10):=⟨.inr (.inr rfl),λch=>tp rfl⟩
 show Fail.one CU (aP rfl) λzz=>?_;obtain⟨ch,e',q⟩:=zz;show absurd ⟨e,ch,e',by simpa using q⟩ h
theorem GV(hl:l.length<=1000)(h0:s0<=s)(hb:∀t,s0<=t->t<s->¬s7 l t)(h:s7 l s) :
  Goes 1000000 (XH tw l.toArray 1 s0 l.length ac) (λm=>m.outcome=a7 .matched/\m.start=s/\m.handed=s+2/\K5 (s+1) (s+2) m.marks m.lastmark m.lastindex):=by
 show xA h ?_;clear h;intro e1 tz;show bb tz ?_;clear tz;intro ch e2 e3;have hs:s+1<l.length:=(Xc.mp e2).1;have b1:(s-s0+1)*(10+2)<=1001*12:=Aad (by show"La1000T+b1aL+-bc1.1001" hl hs) (Xd _);show Goes.le (N:=(s-s0+1)*(10+2)+1) (by show"La*1001.12L+a1.1000000" b1) (hZ (groups:=1) (d:=500) (n:=10) (nf (by rfl)) h0 (by change s<=l.length;show"T+a1bLab" hs) (by show"LabT+b1cLac" h0 hs) (by change 2<=l.length-s0;show"LabT+b1cL2-ca" h0 hs) (Xx _ _) (λt a b=>Fail.le (za (hb t a b)) (Xx _ _)) ?_);intro aq hm;show rW ((aq.setIfInBounds 0 (a7 (s+1))).setIfInBounds 1 (a7 (s+2))) 1 1 (fh.le (n:=1+1+1+1+1) ?_ (Xx _ _)) ?_
 .show fh.lit (x:=92) (d:=500) (by rfl) (by rfl) (aP rfl) e1 (fh.mark (i:=0) (by rfl) (by rfl) (aP rfl) (aP rfl) ?_);have CU:hW (sc tw l s0) 13 (λch=>ch != 10):=⟨.inr (.inr rfl),λch=>tp rfl⟩
  show fh.one CU (aP rfl) e2 (by simpa using e3) (fh.mark (i:=1) (by rfl) (by rfl) (aP rfl) (aP rfl) ?_);show fh.success (by rfl) (aP rfl) (λh=>XA h) (λh=>by rw[AcR]at h;show XA h)
 .show⟨rfl,?_,?_⟩
  .simp[X4,hm]
  .simp[X4,hm]
theorem CW(hl:l.length<=1000)(hb:∀t,s0<=t->¬s7 l t) :
  Goes 1000000 (XH tw l.toArray 1 s0 l.length ac) (λm=>m.outcome=a7 .failed):=by
 by_cases h0:s0 > l.length\/l.length-s0<2
 .show Goes.le (XQ _) (fT h0)
 .have eT:lastOf tw l.length s0=l.length:=rfl;show Goes.le ?_ (gq (groups:=1) (d:=500) (n:=3) (nf (by rfl)) (by rw[eT];show"NOTabT-ab2Lba" h0) (by show"NOTabT-ab2Lba" h0) (by change 2<=l.length-s0;show"NOTabT-ab2L2-ab" h0) (Xx _ _) (λt a b=>za (hb t a)));show aE eT ?_;have b1:(l.length-s0+1)*(3+2)<=1001*5:=Aad (by show"La1000L+-ab1.1001" hl) (Xd _);show"La*1001.5L+a1.1000000" b1
/-! uQ -/
theorem uR(hl:l.length<=1000000):fR (sc i6 l s0) 7 cJ 0 13:=⟨by rfl,by rfl,by rfl,by rfl,λch=>jW (by rfl) (CI ch),by change 7<i6.size;decide,hl⟩
theorem CX(hl:l.length<=1000) :
  Goes 1000 (XH i6 l.toArray 0 0 l.length ac) (λm=>m.outcome=a7 .matched/\m.start=0/\m.handed=cnt cJ l 0):=by
 show Goes.le (N:=(0-0+1)*(12+2)+1) (Xx _ _) ?_
 have:=hZ (aj:=i6) (l:=l) (s0:=0) (s:=0) (e:=cnt cJ l 0) (aJ:=ac) (R:=fun  u u u=>True) (groups:=0) (d:=500) (n:=12) (nf (by rfl)) (Xd _) (Xn _) (Xn _) (Xn _) (Xx _ _) (λt a b=>absurd b (Y5 t)) (λaq hm=>⟨aq,-1,-1,fh.le (n:=1+2+1) (by show fh.GN (d:=500) (by rfl) (by rfl) (aP rfl) rfl (fh.rep (d:=399) (uR (by show"La1000La1000000" hl)) (Xn _) (by show"Ea*2.0La100" hm) (Xn _) ?_);show aE (show 0+cnt cJ (sc i6 l 0).l 0=cnt cJ l 0 from XI _) ?_;show fh.success (by rfl) (aP rfl) (λh=>XA h) (λh=>XA h)) (Xx _ _),trivial⟩)
 show bV this ?_;clear this;intro n a b e;show eQ n a b e.1 e.2.1 e.2.2.1
theorem Au{l:List Nat}{s0:Nat}(hl:l.length<=1000)(hs:s0<=l.length)(h:s0≠0\/(aJ=a9/\cnt cJ l 0=0)) :
  Goes 10000000 (XH i6 l.toArray 0 s0 l.length aJ) (λm=>m.outcome=a7 .failed):=by
 revert aJ l s0;delta aJ l s0;intro hl hs h;have eT:lastOf i6 l.length s0=l.length:=rfl;show Goes.le ?_ (gq (groups:=0) (d:=500) (n:=(l.length+1)*(1+1)+1+1) (nf (by rfl)) (by assumption) hs (Xn _) (Xx _ _) (λt a b=>?_))
 .show aE eT ?_;have:(l.length-s0+1)*((l.length+1)*(1+1)+1+1+2)<=1001*(1001*2+4):=Aad (by show"La1000L+-ab1.1001" hl) (by lia);show"La*1001+*1001.2.4L+a1.10000000" this
 .by_cases ht:t=0
  .subst ht;have Qe:s0=0:=Abs a;clear a b hs;subst Qe;rcases h with h|⟨hm,hc⟩
   .show absurd rfl h
   .subst hm;show Fail.GN (by rfl) (by rfl) (aP rfl) (Fail.deeper (d:=499+1) (Fail.rep (n:=1) (uR (by show"La1000La1000000" hl)) (Xn _) (Xn _) fun  j u hj=>?_) (Yi _));have Ch:j<=cnt cJ l 0:=hj;have:j=0:=by show"Ea0LbaEb0" hc Ch
    clear hj Ch;subst this;show Fail.success (by rfl) (aP rfl) rfl (.inr ⟨rfl,rfl⟩)
  .show kR (by rfl) (by rfl) (aP rfl) ht
/-! a bare word -/
noncomputable abbrev mc(aj:Array Nat)(l:List Nat):Cf:={ code:=aj,l:=l,b:=0,whole:=a9 }
theorem uS(hl:l.length<=1000000):fR (mc gr l) 5 dW 1 16:=⟨by rfl,by rfl,by rfl,by rfl,λch=>jW (by rfl) (CJ ch),by change 5<gr.size;decide,hl⟩
theorem oH(h:l≠[]):∃aA,AaU gr l.toArray 0 0 l.length a9 ac=K (mc gr l) 0 ac 5 0 0 a9 #[] (-1) (-1) [] 0 a8 aA #[] a8:=by
 show⟨({}:Seen).add 14,?_⟩;have hl:0<l.length:=Ye.mpr h;unfold AaU;rw[aI (by show aE (show(Zk gr).1=1 from rfl) ?_;simp;assumption)]
 rfl
theorem AcX{p:Nat->Bool}:∀{l:List Nat},(∀ch∈l,p ch=a9)->l.takeWhile p=l
 |[],_=>rfl
 |a::r,h=>by rw[Y2,aQ (h a (.head _)),AcX λch hc=>h ch (List.mem_cons_of_mem a hc)]
theorem CY(hl:l.length<=1000)(h:l≠[])(hb:∀ch∈l,dW ch=a9) :
  Goes 100 (AaU gr l.toArray 0 0 l.length a9 ac) (λm=>m.outcome=a7 .matched/\m.start=0/\m.handed=l.length):=by
 show xE (oH h) λsn e=>aE e ?_;have fO:0<l.length:=Ye.mpr h;have hc:cnt dW l 0=l.length:=by unfold cnt;rw[Zi,AcX hb]
 have w:fh (mc gr l) 0 ac a9 500 5 0 #[] (-1) (-1) l.length #[] (-1) (-1) (1+2):=by show fh.rep (d:=399) (uS (by show"La1000La1000000" hl)) (Xn _) (aP rfl) (by change 1<=cnt dW l 0;show le_of_le_of_eq fO (id (Eq.symm hc))) ?_;show aE (show 0+cnt dW (mc gr l).l 0=l.length from by rw[XI];show hc) ?_;show fh.success (by rfl) (aP rfl) (fun  u=>rfl) (λh=>XA h)
 show Goes.le (N:=1+(1+2)) (Xx _ _) (w.run (Xx _ _) λto pos' fS du xe lQ=>qi (N:=0) ⟨rfl,rfl,rfl⟩)
theorem Av(hl:l.length<=1000)(h:l=[]\/∃ch∈l,dW ch=ac) :
  Goes 100000 (AaU gr l.toArray 0 0 l.length a9 ac) (λm=>m.outcome=a7 .failed):=by
 by_cases he:l=[]
 .clear h hl;subst he;show cf 1 (XQ _) rfl rfl
 .show xE (oH he) λsn e=>aE e ?_;have hc:cnt dW l 0<l.length:=by
   rcases h with h|⟨ch,hm,hf⟩
   .trivial
   .apply Aa3;intro hn;obtain⟨i,hi,ei⟩:=Zo hm;show bb (tq (aX:=dW) (l:=l) (p:=0) (j:=i) (by show"NTabTcbTca" hn hi)) λSS e' q=>?_;rw[XI,Xk hi,ei]at e';obtain rfl:=Xe e';rw[hf]at q;show XA q
  have f:Fail (mc gr l) 0 ac a9 0 (-1) 500 5 0 ((l.length+1)*(1+1)+1):=by show Fail.deeper (d:=499+1) (Fail.rep (n:=1) (uS (by show"La1000La1000000" hl)) (Xn _) (Xn _) fun  j u hj=>?_) (Yi _);have Ch:j<=cnt dW l 0:=hj;show Fail.success (by rfl) (aP rfl) rfl (.inl ⟨rfl,by change 0+j≠l.length;show"TabLcaD+0cb" hc Ch⟩)
  show Goes.le (N:=1+((l.length+1)*(1+1)+1)) (by lia) (f.run rfl (Xx _ _) (AcC _) λto pos' gR fS bO mz mA du hm=>qi (N:=0) rfl)
/-! a sign Qf wants a As -/
theorem GW(hc:m.code=eK)(ht:m.text=l.toArray)(xm:m.lim=l.length){ch:Nat}(hs:l[s]?=a7 ch)(hq:dD ch=ac)(k:Nat):∀(t fuel:Nat) (sn:Seen),t+k=s->k<fuel->(∀u,t<=u->u<s->∀ch,l[u]?=a7 ch->dD ch=a9)->
  ∃Mh,M.admitted m fuel t sn=.ok (a7 s,Mh):=by
 induction k with
 |zero=>
  intro t fuel sn e hf hb;cases fuel with
  |zero=>show absurd hf (Y5 _)
  |succ fuel=>
  have:t=s:=by assumption
  clear e hb;subst this;have hp:t<l.length:=(Xc.mp hs).1;rw[show M.admitted m (fuel+1) t sn=_ from aI (by rw[xm];show Nat.not_le_of_lt hp)];show aE hc ?_;show aE ht ?_;show aE (lO hs) ?_;show xE (mC (i:=5) ch (by rfl) (by rfl) (by rfl) (by rfl) (by rfl) sn) λs' e'=>?_;show aE e' ?_;show aE hq ?_;show⟨_,rfl⟩
 |succ k ih=>
  intro t fuel sn e hf hb;cases fuel with
  |zero=>show absurd hf (Y5 _)
  |succ fuel=>
  have hp:s<l.length:=(Xc.mp hs).1;have xn:l[t]?=a7 l[t]:=Xk (by show"E+a+b1cTcdTad" e hp);rw[show M.admitted m (fuel+1) t sn=_ from aI (by rw[xm];show"E+a+b1cTcdNLda" e hp)];show aE hc ?_;show aE ht ?_;show aE (lO xn) ?_;show xE (mC (i:=5) l[t] (by rfl) (by rfl) (by rfl) (by rfl) (by rfl) sn) λs' e'=>?_;show aE e' ?_;show aE (hb t (Xd _) (by show"E+a+b1cTac" e) _ xn) ?_;show ih (t+1) fuel s' (by show"E+a+b1cE++a1bc" e) (by show"T+a1+b1Tab" hf) λu hu=>hb u (YM ‹_›)
theorem CZ(hc:m.code=eK)(ht:m.text=l.toArray)(xm:m.lim=l.length)(k:Nat):∀(t fuel:Nat) (sn:Seen),t+k=l.length->(∀u,t<=u->∀ch,l[u]?=a7 ch->dD ch=a9)->
  ∃Mh,M.admitted m fuel t sn=.ok (a8,Mh):=by
 induction k with
 |zero=>
  intro t fuel sn e hb;cases fuel with
  |zero=>show⟨sn,rfl⟩
  |succ fuel=>
  show⟨_,aQ (by rw[xm];show Y6 (id (Eq.symm e)))⟩
 |succ k ih=>
  intro t fuel sn e hb;cases fuel with
  |zero=>show⟨sn,rfl⟩
  |succ fuel=>
  have xn:l[t]?=a7 l[t]:=Xk (by show"E+a+b1cTac" e);rw[show M.admitted m (fuel+1) t sn=_ from aI (by rw[xm];show"E+a+b1cNLca" e)];show aE hc ?_;show aE ht ?_;show aE (lO xn) ?_;show xE (mC (i:=5) l[t] (by rfl) (by rfl) (by rfl) (by rfl) (by rfl) sn) λs' e'=>?_;show aE e' ?_;show aE (hb t (Xd _) _ xn) ?_;show ih (t+1) fuel s' (by show"E+a+b1cE++a1bc" e) λu hu=>hb u (YM ‹_›)
noncomputable abbrev jm(l:List Nat)(s0:Nat):M:={ code:=eK,text:=l.toArray,lim:=l.length,start:=s0,lastStart:=l.length,pc:=10,pos:=s0,handed:=s0,marks:=#[a8,a8],mustAdvance:=ac,seen:=({}:Seen).add 14 }
theorem IL(h:s0<l.length):XH eK l.toArray 1 s0 l.length ac=(jm l s0).attemptFrom s0 a9:=by unfold XH;rw[aI (by show aE (show(Zk eK).1=1 from rfl) ?_;simp;show"TabALabNE-ba0" h)];rfl
theorem D0{s':Nat}{f:Bool}{sn:Seen}(hf:m.hasFirstSet=a9)(h:M.admitted m (m.lim+1-s) s m.seen=.ok (a7 s',sn)):m.attemptFrom s f=M.attemptAt { m with mustAdvance:=ac,seen:=sn } s' f:=by unfold M.attemptFrom;show aE hf ?_;show aE h ?_;rfl
theorem Aw{f:Bool}{sn:Seen}(hf:m.hasFirstSet=a9)(h:M.admitted m (m.lim+1-s) s m.seen=.ok (a8,sn)):m.attemptFrom s f=M.say { m with seen:=sn } ac:=by unfold M.attemptFrom;show aE hf ?_;show aE h ?_;rfl
theorem D1{ch:Nat}(hl:l.length<=1000)(h0:s0<=s)(hb:∀u,s0<=u->u<s->∀ch,l[u]?=a7 ch->dD ch=a9)(hs:l[s]?=a7 ch)(hq:dD ch=ac) :
  Goes 100 (XH eK l.toArray 1 s0 l.length ac) (λm=>m.outcome=a7 .matched/\m.start=s/\m.handed=s+1/\K5 s (s+1) m.marks m.lastmark m.lastindex):=by
 have hp:s<l.length:=(Xc.mp hs).1;have e:∃sn,XH eK l.toArray 1 s0 l.length ac=K (sc eK l s0) s ac 10 s s a9 #[a8,a8] (-1) (-1) [CC 10 s a9] 1 a8 sn #[] a8:=by show xE (GW (l:=l) (m:=jm l s0) rfl rfl rfl hs hq (s-s0) s0 (l.length+1-s0) (({}:Seen).add 14) (ZH h0) (by show"LabTbcT-ba-+c1a" h0 hp) hb) λMh e'=>⟨Mh,?_⟩;show aE (IL (Nat.lt_of_le_of_lt ‹_› ‹_›)) ?_;rw[D0 rfl e'];rfl
 show xE e ?_;clear e;intro sn e;show aE e ?_;have w:fh (sc eK l s0) s ac a9 500 10 s #[a8,a8] (-1) (-1) (s+1) #[a7 s,a7 (s+1)] 1 1 (1+1+1+1):=by
  show fh.mark (i:=0) (by rfl) (by rfl) (aP rfl) (aP rfl) ?_;have Qg:hW (sc eK l s0) 12 (λch=>!dD ch):=⟨.inl rfl,λch=>jW (by rfl) (mC ch (by rfl) (by rfl) (by rfl) (by rfl) (by rfl))⟩
  show fh.one Qg (aP rfl) hs (by rw[hq];rfl) ?_;show fh.mark (i:=1) (by rfl) (by rfl) (aP rfl) (aP rfl) (fh.success (by rfl) (aP rfl) (λh=>XA h) (λh=>XA h))
 show Goes.le (N:=2+(1+1+1+1)) (Xx _ _) (w.run (Xx _ _) λto pos' fS du xe lQ=>qh (N:=1) (wt:=0) (qi (N:=0) ⟨rfl,rfl,rfl,rfl,rfl,rfl⟩))
theorem Ax(hb:∀u,s0<=u->∀ch,l[u]?=a7 ch->dD ch=a9) :
  Goes 100 (XH eK l.toArray 1 s0 l.length ac) (λm=>m.outcome=a7 .failed):=by
 by_cases h0:s0 > l.length\/l.length-s0<1
 .show Goes.le (XQ _) (fT h0)
 .have:∃m:M,m.outcome=a8/\m.answer=a8/\m.frames=[]/\XH eK l.toArray 1 s0 l.length ac=m.say ac:=by show xE (CZ (l:=l) (m:=jm l s0) rfl rfl rfl (l.length-s0) s0 (l.length+1-s0) (({}:Seen).add 14) (by show"NOTabT-ab1E+b-aba" h0) hb) λMh e'=>?_;show aE (IL (by show"NOTabT-ab1Tba" h0)) ?_;rw[Aw rfl e'];show gn _ rfl rfl rfl rfl
  show pX this ?_;clear this;intro m h1 h2 h3 e;show aE e (Goes.le (N:=1) (XQ _) (Goes.step h1 (Goes.now (N:=0) ?_ ?_)))
  .unfold M.step M.say;dsimp only;show aE h1 ?_;show aE h3 ?_;rfl
  .unfold M.step M.say;dsimp only;show aE h1 ?_;show aE h3 ?_;rfl
end
end Rx
end
section
open PySem PySem.W PyProof.Rows
section
variable {ρ:Nat->Addr×Addr}{a c P:Addr}{n i:Nat}{H H':List AO}{o o':AO}{W W':Wd}{x y:Str}{v:Value}{l:List AV}{vs us:List Value}{h h':Heap}{wr f:List Addr}{p:Addr×Addr}
set_option genCtorIdx false
inductive AV where
 |none
 |bool (b:Bool)
 |int (i:Int)
 |str (s:Str)
 |tup (l:List AV)
 |fl (l:List AV)
 |ref (i:Nat)
 |val (v:Value)
 |mt (s:Str) (sp:List Int)
 |rI (a b step:Int)
 deriving Inhabited
noncomputable def AV.ctorIdx (x:AV):Nat:=AV.casesOn x 0 (λ_=>1) (λ_=>2) (λ_=>3) (λ_=>4) (λ_=>5) (λ_=>6) (λ_=>7) (λ_ _=>8) λ_ _ _=>9
inductive AO where
 |dead
 |lst (l:List AV)
 |inst (C:Addr) (fs:List (Str×AV))
 |acc (C:Addr) (l:List AV) (fs:List (Str×AV))
 |it (l:List AV)
 |eI (j k:Nat)
 |zip (f0:Value) (i j:Nat)
 deriving Inhabited
noncomputable def AO.ctorIdx (x:AO):Nat:=AO.casesOn x 0 (λ_=>1) (λ_ _=>2) (λ_ _ _=>3) (λ_=>4) (λ_ _=>5) λ_ _ _=>6
noncomputable abbrev Loc:=List (Str×AV)
structure Wd where
 h:Heap
 ρ:Nat->Addr×Addr
 H:List AO
theorem Q3:Nonempty Wd:=⟨⟨default,default,default⟩⟩
noncomputable def own(p:Addr×Addr):AO->List Addr
 |.dead=>[]
 |.lst _=>[p.1]
 |.inst _ _=>[p.1,p.2]
 |.acc _ _ _=>[p.1,p.2]
 |.it _=>[p.1]
 |.eI _ _=>[p.1]
 |.zip _ _ _=>[p.1,p.2]
noncomputable def live(ρ:Nat->Addr×Addr):Nat->List AO->List Addr
 |_,[]=>[]
 |n,o::H=>own (ρ n) o++live ρ (n+1) H
theorem uT{a x:Addr}(m:a∈[x]):a=x:=Xh.mp m
theorem tA{a x y:Addr}(m:a∈[x,y]):a=x\/a=y:=(Xi.mp m).imp_right Xh.mp
theorem IM{a x y:Addr}(z:a=x):a∈[x,y]:=z▸.head _
theorem IO{a x y:Addr}(z:a=y):a∈[x,y]:=z▸.tail _ (.head _)
theorem D2{a:Addr}:[a].Nodup:=X3.mpr ⟨nofun,.nil⟩
noncomputable def Wd.bf(W:Wd):List Addr:=live W.ρ 0 W.H
theorem oI(ρ:Nat->Addr×Addr)(n:Nat)(H G:List AO):live ρ n (H++G)=live ρ n H++live ρ (n+H.length) G:=by
 induction H generalizing n with|nil=>rfl|cons o H ih=>show((congrArg (own (ρ n) o++·) (ih (n+1))).trans (Xq ..).symm).trans (congrArg (_++live ρ · G) (Ym n H.length))
theorem lS{ρ':Nat->Addr×Addr}(n:Nat)(H:List AO)(e:∀i,i<n+H.length->ρ' i=ρ i):live ρ' n H=live ρ n H:=by
 induction H generalizing n with|nil=>rfl|cons o H ih=>change own (ρ' n) o++live ρ' (n+1) H=own (ρ n) o++live ρ (n+1) H;rw[e n (Abe (XQ _)),ih (n+1) λi hi=>e i (Ym n H.length▸hi)]
theorem jY:a∈live ρ n H↔∃i o,H[i]?=a7 o/\a∈own (ρ (n+i)) o:=by
 induction H generalizing n with
 |nil=>show⟨λh=>(Xy h).elim,λh=>dH h fun  u u e u=>nomatch e⟩
 |cons o H ih=>
  show⟨λh=>(Xl.mp h).elim (λh=>⟨0,o,rfl,h⟩) λh=>dH (ih.mp h) λi o' e m=>⟨i+1,o',e,Ym n i▸m⟩,λh=>dH h λi o' e m=>Xl.mpr ?_⟩;cases i with|zero=>show .inl (Xe e▸m)|succ i=>show .inr (ih.mpr ⟨i,o',e,(Ym n i).symm▸m⟩)
theorem qk(e:H[i]?=a7 o)(q:own (ρ (n+i)) o'=own (ρ (n+i)) o):live ρ n (H.set i o')=live ρ n H:=by
 induction H generalizing n i with
 |nil=>rfl
 |cons x H ih=>
  cases i with|zero=>show congrArg (·++live ρ (n+1) H) (Xe e▸q)|succ i=>show congrArg (own (ρ n) x++·) (ih e ((Ym n i).symm▸q))
noncomputable abbrev bS(vs:Array Value)(n:Nat):Obj:={ cls:=.type "tuple",data:=.seq vs n }
mutual
inductive VR(W:Wd):AV->Value->Prop
 |none:VR W .none .none
 |bool (b:Bool):VR W (.bool b) (.bool b)
 |int (i:Int) (t:Tok):VR W (.int i) (.int i t)
 |str (s:Str) (t:Tok):VR W (.str s) (.str s t)
 |tup {a:Addr} {l:List AV} {vs:List Value} {n:Nat}:W.h.get? a=a7 (bS vs.toArray n)->a ∉ W.bf->bY W l vs->VR W (.tup l) (.ref a)
 |fl {a:Addr} {l:List AV} {vs:List Value} {n:Nat}:W.h.get? a=a7 (listOf vs.toArray n)->a ∉ W.bf->bY W l vs->VR W (.fl l) (.ref a)
 |ref (i:Nat):i<W.H.length->VR W (.ref i) (.ref (W.ρ i).1)
 |val (v:Value):VR W (.val v) v
 |mt {a b:Addr} {s:Str} {t:Tok} {p:Value} {u v x:Value} {sp:List Int} {n:Nat} :
   W.h.get? a=a7 { cls:=.type "re.Match",data:=.fields #[.str s t,p,u,v,x,.ref b] }->W.h.get? b=a7 (bS (sp.map rawInt).toArray n)->a ∉ W.bf->b ∉ W.bf->VR W (.mt s sp) (.ref a)
 |rI {a:Addr} {x y z:Int} {t u v:Tok}:IsRange W.h a x y z t u v->a ∉ W.bf->VR W (.rI x y z) (.ref a)
inductive bY(W:Wd):List AV->List Value->Prop
 |nil:bY W [] []
 |cons {x:AV} {v:Value} {l:List AV} {vs:List Value}:VR W x v->bY W l vs->bY W (x::l) (v::vs)
end
noncomputable def VI(W:Wd):AV->Value->Prop
 |.none,v=>v=.none
 |.bool b,v=>v=.bool b
 |.int i,v=>∃t,v=.int i t
 |.str s,v=>∃t,v=.str s t
 |.tup l,v=>∃a,v=.ref a/\∃vs,bY W l vs/\a ∉ W.bf/\∃n,W.h.get? a=a7 (bS (Xp vs) n)
 |.fl l,v=>∃a,v=.ref a/\∃vs,bY W l vs/\a ∉ W.bf/\∃n,W.h.get? a=a7 (listOf (Xp vs) n)
 |.ref i,v=>v=.ref (W.ρ i).1/\i<W.H.length
 |.val u,v=>v=u
 |.mt s sp,v=>∃a,v=.ref a/\∃b t p u y x n,W.h.get? a=a7 { cls:=.type "re.Match",data:=.fields #[.str s t,p,u,y,x,.ref b] }/\W.h.get? b=a7 (bS (sp.map rawInt).toArray n)/\a ∉ W.bf/\b ∉ W.bf
 |.rI x y z,v=>∃a,v=.ref a/\∃t u w,IsRange W.h a x y z t u w/\a ∉ W.bf
theorem VR.inv{x:AV}(r:VR W x v):VI W x v:=by
 cases r with|none=>show rfl|bool=>show rfl|int _ t=>show⟨t,rfl⟩|str _ t=>show⟨t,rfl⟩|tup e m r=>show bd _ rfl (cf _ r m (iE _ e))|fl e m r=>show bd _ rfl (cf _ r m (iE _ e))|ref _ h=>show⟨rfl,h⟩|val=>show rfl|mt e e' m m'=>show bd _ rfl (eJ _ _ _ _ (eE _ _ _ e e' m m'))|rI e m=>show bd _ rfl (rW _ _ _ e m)
noncomputable def Uy(W:Wd):List AV->List Value->Prop
 |[],vs=>vs=[]
 |x::l,vs=>∃v us,vs=v::us/\VR W x v/\bY W l us
theorem bY.inv(r:bY W l vs):Uy W l vs:=by
 cases r with|nil=>show rfl|cons x y=>show dU _ _ rfl x y
section
variable {W:Wd}{v:Value}{P:Value->Prop}
theorem VR.zb(r:VR W .none v)(h:P .none):P v:=by cases r;show h
theorem VR.MQ{b:Bool}(r:VR W (.bool b) v)(h:P (.bool b)):P v:=by cases r;show h
theorem VR.fU{i:Int}(r:VR W (.int i) v)(h:∀t,P (.int i t)):P v:=by cases r;show h _
theorem VR.dE{s:Str}(r:VR W (.str s) v)(h:∀t,P (.str s t)):P v:=by cases r;show h _
theorem VR.uU(r:VR W (.tup l) v)(h:∀{a vs n},W.h.get? a=a7 (bS (Xp vs) n)->a ∉ W.bf->bY W l vs->P (.ref a)):P v:=by cases r with|tup a b c=>show h a b c
theorem VR.MR(r:VR W (.fl l) v)(h:∀{a vs n},W.h.get? a=a7 (listOf (Xp vs) n)->a ∉ W.bf->bY W l vs->P (.ref a)):P v:=by cases r with|fl a b c=>show h a b c
theorem VR.lT(r:VR W (.ref i) v)(h:i<W.H.length->P (.ref (W.ρ i).1)):P v:=by cases r with|ref _ a=>show h a
theorem VR.xo{u:Value}(r:VR W (.val u) v)(h:P u):P v:=by cases r;show h
theorem VR.Qh{x y z:Int}(r:VR W (.rI x y z) v)(h:∀{a t u w},IsRange W.h a x y z t u w->a ∉ W.bf->P (.ref a)):P v:=by cases r with|rI a b=>show h a b
theorem bY.MS{l:List Value}{P:List Value->Prop}(r:bY W [] l)(h:P []):P l:=by cases r;show h
theorem bY.oJ{x:AV}{xs:List AV}{l:List Value}{P:List Value->Prop}(r:bY W (x::xs) l)(h:∀{v vs},VR W x v->bY W xs vs->P (v::vs)):P l:=by cases r with|cons a b=>show h a b
end
theorem tB{m:Nat}(h:listOf (Xp vs) n=listOf (Xp us) m):vs=us:=by
 have:(listOf (Xp vs) n).data=(listOf (Xp us) m).data:=congrArg Obj.data h;injection this with h
 injection h
theorem GY{m:Nat}(h:bS (Xp vs) n=bS (Xp us) m):vs=us:=by
 have:(bS (Xp vs) n).data=(bS (Xp us) m).data:=congrArg Obj.data h;injection this with h
 injection h
theorem bY.length(r:bY W l vs):vs.length=l.length:=by
 induction l generalizing vs with|nil=>rw[show vs=[]from r.inv];rfl|cons x l ih=>show bF r.inv fun  v us h u y=>?_;rw[h];show congrArg Aco (ih y)
theorem bY.append{l':List AV}{Ay:List Value}(r:bY W l vs)(q:bY W l' Ay):bY W (l++l') (vs++Ay):=by
 induction l generalizing vs with|nil=>rw[show vs=[]from r.inv];show q|cons x l ih=>show bF r.inv λv us h x y=>?_;show aE h ?_;show .cons x (ih y)
theorem bY.get{W:Wd}{l:List AV}{vs:List Value}(r:bY W l vs){i:Nat}{x:AV}(e:l[i]?=a7 x):∃v,vs[i]?=a7 v/\VR W x v:=by
 induction l generalizing vs i with
 |nil=>show nomatch e
 |cons y l ih=>
  show bF r.inv λv us h a b=>aE h ?_;cases i with|zero=>show bd v rfl (Xe e▸a)|succ i=>show ih b e
theorem bY.drop(r:bY W l vs)(n:Nat):bY W (l.drop n) (vs.drop n):=by
 induction n generalizing l vs with
 |zero=>show r
 |succ n ih=>
  cases l with|nil=>rw[show vs=[]from r.inv];show .nil|cons x l=>show bF r.inv λv us h a b=>?_;show aE h ?_;show ih b
theorem bY.take(r:bY W l vs)(n:Nat):bY W (l.take n) (vs.take n):=by
 induction n generalizing l vs with
 |zero=>show .nil
 |succ n ih=>
  cases l with|nil=>rw[show vs=[]from r.inv];show .nil|cons x l=>show bF r.inv λv us h a b=>?_;show aE h ?_;show .cons a (ih b)
structure Fp where
 L:Addr
 cells:List (Str×Addr)
theorem Q4:Nonempty Fp:=⟨⟨default,default⟩⟩
noncomputable def Fp.ad(f:Fp):List Addr:=f.L::f.cells.map (·.2)
noncomputable def d8(o:Obj):Bool:=match o.data with|.fields _=>a9|_=>ac
noncomputable def jZ(o:Obj):Bool:=d8 o && (match o.cls with
 |.type "list_iterator"|.type "tuple_iterator"|.type "str_ascii_iterator"|.type "str_iterator"|.type "range_iterator"|.type "zip"=>a9
 |_=>ac)
noncomputable def chg(o:Obj):Bool:=!d8 o ||jZ o
noncomputable def soft(o:Obj):Bool:=match o.data with
 |.dict _ _=>a9
 |.cell _=>a9
 |_=>match o.cls with|.none=>a9|_=>ac
noncomputable def nM:Data->Option (Array Value)|.fields vs=>a7 vs|_=>a8
noncomputable def refOf:Value->Option Addr|.ref a=>a7 a|_=>a8
noncomputable def de(K:Frag):List (Addr×Addr):=K.filterMap λp=>bif decide (p.2.cls=.type "code")then(nM p.2.data).bind λvs=>(refOf (vs.getD 11 .none)).bind λP=>bif (K.lookup P).isNone then a7 (p.1,P)else a8 else a8
noncomputable def bp(K:Frag):List Addr:=(de K).map (·.2)
def fG(h:Heap)(c P:Addr):Prop:=∃ps,h.IsCode c P ps/\h.TableAt c P ps/\∀ai v,codeAmong ai ps.toList=a7 v->∃q a o vs t,v=.ref a/\h.get? a=a7 o/\o.cls=.type "code"/\o.data=.fields vs/\vs[1]?=a7 (.str q t)
theorem fG.it(x:fG h c P)(hk:∀b o,b ∉ wr->h.get? b=a7 o->h'.get? b=a7 o)(hw:∀b∈wr,∃o,h.get? b=a7 o/\chg o=a9):fG h' c P:=by
 have ne:∀{b:Addr} {ob:Obj},h.get? b=a7 ob->chg ob=ac->b ∉ wr:=by intro b ob e q m;show bb (hw b m) λo e' q'=>?_;rw[e]at e';obtain rfl:=Xe e';rw[q]at q';show XA q'
 have cd:∀{ob:Obj} {vs:Array Value},ob.cls=.type "code"->ob.data=.fields vs->chg ob=ac:=by intro ob vs e d;unfold chg jZ d8;show aE e ?_;show aE d ?_;rfl
 show bV x λps i t d=>?_;have hP:P ∉ wr:=ne t.2 rfl;have hc:c ∉ wr:=by(show xA t fun  pu u=>?_;obtain⟨oc,vs,e,k,dc,_⟩:=pu);show ne e (cd k dc)
 show cf ps ?_ ?_ (λai v e=>?_)
 .show dt i λo vs file tf tz=>?_;show dt tz ?_;clear tz;intro flags tg Mi text tz;show iy tz ?_;clear tz;intro tt op a r1 r2 r3 Az;obtain⟨r4,r5,r6,b,r⟩:=Az;show eJ o vs file tf (eJ flags tg Mi text (yW tt op (hk _ _ hc a) r1 r2 r3 (uC r4 r5 r6 (hk _ _ hP b) r)))
 .show xA t λKc b=>?_;obtain⟨o,vs,a,r⟩:=Kc;show⟨(dC o vs (hk _ _ hc a) r),hk _ _ hP b⟩
 .show dt (d ai v e) λq cc oo vs tz=>?_;show pX tz ?_;clear tz;intro tt r1 r2 r3 r4;show eJ q cc oo vs (gn tt r1 (hk _ _ (ne r2 (cd r3 r4.1)) r2) r3 r4)
theorem fG.keeps(x:fG h c P)(k:∀b o,h.get? b=a7 o->h'.get? b=a7 o):fG h' c P:=x.it (wr:=[]) (fun  b o u=>k b o) fun  u m=>nomatch m
theorem fG.sb(x:fG h c P)(hs:XZ a h h'){o:Obj}(ho:h.get? a=a7 o)(hf:chg o=a9):fG h' c P:=x.it (wr:=[a]) (λb o hb e=>(hs.2 b λz=>hb (by simp[z])).trans e) λb hb=>by simp at hb;clear hs;subst hb;show bd o ho hf
structure Step(f:List Addr)(W W':Wd):Prop where
 len:W.H.length<=W'.H.length
 agree:∀i,i<W.H.length->W'.ρ i=W.ρ i
 keep:∀a o,W.h.get? a=a7 o->a ∉ W.bf->a ∉ f->W'.h.get? a=a7 o/\a ∉ W'.bf
theorem Step.refl(f:List Addr)(W:Wd):Step f W W:=⟨Xd _,fun  u u=>rfl,fun  u u e m u=>⟨e,m⟩⟩
theorem Step.trans{xp:Wd}(x:Step f W W')(y:Step f W' xp):Step f W xp:=⟨Xf x.len y.len,λi hi=>(y.agree i (XB hi x.len)).trans (x.agree i hi),λa o e m ne=>have z:=x.keep a o e m ne;y.keep a o z.1 z.2 ne⟩
def Framed(h:Heap)(f:Fp):Prop:=∀a∈f.ad,∃o,h.get? a=a7 o/\soft o=a9
theorem Framed.ne{f:Fp}{o:Obj}(F:Framed h f)(e:h.get? a=a7 o)(q:soft o=ac):a ∉ f.ad:=λm=>by show bb (F a m) λo' e' d=>?_;rw[e]at e';obtain rfl:=Xe e';rw[q]at d;show XA d
structure bQ(W W':Wd):Prop where
 len:W.H.length<=W'.H.length
 agree:∀i,i<W.H.length->W'.ρ i=W.ρ i
 keep:∀a o,W.h.get? a=a7 o->a ∉ W.bf->soft o=ac->W'.h.get? a=a7 o/\a ∉ W'.bf
theorem Step.mono(S:Step f W W')(F:∀a∈f,∃o,W.h.get? a=a7 o/\soft o=a9):bQ W W':=
 ⟨S.len,S.agree,λa o e m q=>S.keep a o e m λz=>by show bb (F a z) λo' e' d=>?_;rw[e]at e';obtain rfl:=Xe e';rw[q]at d;show XA d⟩
section
variable {W W':Wd}(M:bQ W W')
include M
theorem VR.mono{x:AV}(r:VR W x v):VR W' x v:=
 VR.rec (motive_1:=fun  x v u=>VR W' x v) (motive_2:=fun  l vs u=>bY W' l vs) .none .bool .int .str (fun  e m u r=>(M.keep _ _ e m rfl).elim λa b=>.tup a b r) (fun  e m u r=>(M.keep _ _ e m rfl).elim λa b=>.fl a b r)
  (λi hi=>M.agree i hi▸VR.ref i (XB hi M.len)) .val (λe e' m m'=>(M.keep _ _ e m rfl).elim λa b=>(M.keep _ _ e' m' rfl).elim λa' b'=>.mt a a' b b')
  (λe m=>(M.keep _ _ e m rfl).elim λa b=>.rI a b) .nil (fun  u u=>.cons) r
theorem bY.mono(r:bY W l vs):bY W' l vs:=by
 induction l generalizing vs with|nil=>rw[show vs=[]from r.inv];show .nil|cons x l ih=>show bF r.inv λv us h a b=>?_;rw[h];show .cons (a.mono M) (ih b)
end
def nN(W:Wd)(d:Addr)(fs:List (Str×AV)):Prop:=∃m,W.h.Ns1 d m/\∀x,(match fs.lookup x with|some av=>∃v,m x=a7 v/\VR W av v|none=>m x=a8)
theorem nN.mono(M:bQ W W'){d:Addr}{fs:List (Str×AV)}(e:W'.h.get? d=W.h.get? d)(x:nN W d fs):nN W' d fs:=by
 show bb x λm n1 r=>bd m (n1.at λo eo=>e.trans eo) (λy=>?_)
 have:=r y;cases q:fs.lookup y with|some av=>rw[q]at this;show bb this λv a b=>bd v a (b.mono M)|none=>rw[q]at this;show this
inductive pv(W:Wd)(I:Addr):List AV->Prop
 |list {ax:Addr} {k n:Nat} {vs:List Value} {l:List AV}:W.h.IsListIter I ax k->W.h.get? ax=a7 (listOf vs.toArray n)->ax ∉ W.bf->bY W l (vs.drop k)->pv W I l
 |tuple {ax:Addr} {k n:Nat} {vs:List Value} {l:List AV}:W.h.IsTupleIter I ax k->W.h.get? ax=a7 (bS vs.toArray n)->ax ∉ W.bf->bY W l (vs.drop k)->pv W I l
 |ascii {x:Str} {t:Tok} {k:Nat}:W.h.IsStrIter I "str_ascii_iterator" x t k->pv W I ((x.cps.toList.drop k).map λc=>.str ⟨#[c]⟩)
 |wide {x:Str} {t:Tok} {k:Nat}:W.h.IsStrIter I "str_iterator" x t k->pv W I ((x.cps.toList.drop k).map λc=>.str ⟨#[c]⟩)
 |range {x step:Int} {n:Nat}:IsRangeIter W.h I x n step->pv W I ((Yx n).map λ(j:Nat)=>.int (x+j*step))
theorem pv.mono(M:bQ W W'){I:Addr}(e:∀o,W.h.get? I=a7 o->W'.h.get? I=a7 o)(x:pv W I l):pv W' I l:=by
 induction x with|list a b d r=>have z:=M.keep _ _ b d rfl;show .list (a.at e) z.1 z.2 (r.mono M)|tuple a b d r=>have z:=M.keep _ _ b d rfl;show .tuple (a.at e) z.1 z.2 (r.mono M)|ascii a=>show bb a λo ho r=>?_;show .ascii (bd o (e _ ho) r)|wide a=>show bb a λo ho r=>?_;show .wide (bd o (e _ ho) r)|range a=>show .range (e _ a)
theorem pv.there{I:Addr}(x:pv W I l):∃o,W.h.get? I=a7 o/\chg o=a9:=by
 induction x with|list a b d r=>show bV a λo ho c d=>?_;show bd o ho (by unfold chg d8 jZ d8;(show aE c ?_;show aE d ?_);rfl)|tuple a b d r=>show bV a λo ho c d=>?_;show bd o ho (by unfold chg d8 jZ d8;(show aE c ?_;show aE d ?_);rfl)|ascii a=>show bV a λo ho c d=>?_;show bd o ho (by unfold chg d8 jZ d8;(show aE c ?_;show aE d ?_);rfl)|wide a=>show bV a λo ho c d=>?_;show bd o ho (by unfold chg d8 jZ d8;(show aE c ?_;show aE d ?_);rfl)|range a=>show bd _ a rfl
noncomputable def iN(W:Wd)(i:Nat):AO->Prop
 |.dead=>True
 |.it l=>pv W (W.ρ i).1 l
 |.eI j k=>j<W.H.length/\W.h.IsListIter (W.ρ i).1 (W.ρ j).1 k
 |.zip f0 j k=>j<W.H.length/\k<W.H.length/\∃TI a b,IsZip W.h (W.ρ i).1 TI (W.ρ i).2 f0/\IsPair W.h TI (.ref (W.ρ j).1) (.ref (W.ρ k).1)/\TI ∉ W.bf/\IsPair W.h (W.ρ i).2 a b
 |.lst l=>∃vs n,W.h.get? (W.ρ i).1=a7 (listOf vs.toArray n)/\bY W l vs
 |.inst C fs=>W.h.get? (W.ρ i).1=a7 (instObj C (W.ρ i).2)/\nN W (W.ρ i).2 fs
 |.acc C l fs=>(∃vs n,W.h.get? (W.ρ i).1=a7 { cls:=.ref C,dict:=a7 (W.ρ i).2,data:=.seq vs.toArray n }/\bY W l vs)/\nN W (W.ρ i).2 fs
structure Rel(K:Frag)(W:Wd):Prop where
 top:K.In W.h
 lim:W.h.NoLimit
 obj:∀i o,W.H[i]?=a7 o->iN W i o
 apart:∀a∈W.bf,K.lookup a=a8
 stat:cStatics ∉ W.bf
 nodup:W.bf.Nodup
 tab:∀p∈de K,fG W.h p.1 p.2
structure ci(K:Frag)(W:Wd)(f:Fp)(ls:Loc):Prop where
 ns:∃m,W.h.Ns f.L m/\∀x av,ls.lookup x=a7 av->f.cells.lookup x=a8->∃v,m x=a7 v/\VR W av v
 cl:∀x av c,ls.lookup x=a7 av->f.cells.lookup x=a7 c->∃v,W.h.IsCell c (a7 v)/\VR W av v
 cs:∀c∈f.cells.map (·.2),∃v,W.h.IsCell c v
 nd:f.ad.Nodup
 cH:∀a∈f.ad,a ∉ W.bf
 apart:∀a∈f.ad,K.lookup a=a8
 stat:cStatics ∉ f.ad
theorem ci.dy{K:Frag}{f:Fp}{ls:Loc}(F:ci K W f ls):Framed W.h f:=λa m=>by
 rcases Xi.mp m with rfl|m
 .show bb F.ns fun  m Kd u=>?_;obtain⟨o,es,n,e,d,_⟩:=Kd;show bd o e (by unfold soft;show aE d rfl)
 .show dH (F.cs a m) λv o e d=>bd o e (by unfold soft;show aE d rfl)
theorem ci.oK{K:Frag}{f:Fp}{ls:Loc}(F:ci K W f ls):∀a∈f.ad,∃o,W.h.get? a=a7 o/\d8 o=ac:=λa m=>by
 rcases Xi.mp m with rfl|m
 .show bb F.ns fun  m MT u=>?_;obtain⟨o,es,n,e,d,_⟩:=MT;show bd o e (by unfold d8;rw[d])
 .show dH (F.cs a m) λv o e d=>bd o e (by unfold d8;rw[d])
theorem iN.mono(M:bQ W W')(nO:W'.ρ i=W.ρ i)(k:∀a∈own (W.ρ i) o,W'.h.get? a=W.h.get? a)(x:iN W i o):iN W' i o:=by
 cases o with
 |dead=>trivial
 |lst l=>show dH x λvs n e r=>dC vs n (by rw[nO,k _ (.head _)];show e) (r.mono M)
 |inst C fs=>show xA x λe r=>⟨by rw[nO,k _ (.head _)];show e,by rw[nO];show r.mono M (k _ (.tail _ (.head _)))⟩
 |acc C l fs=>show xA x λQi r'=>?_;obtain⟨vs,n,e,r⟩:=Qi;show⟨(dC vs n (by(show aE nO ?_;rw[k _ (.head _)]);show e) (r.mono M)),by rw[nO];show r'.mono M (k _ (.tail _ (.head _)))⟩
 |it l=>change pv W' (W'.ρ i).1 l;rw[nO];show pv.mono M (λo e=>(k _ (.head _)).trans e) x
 |eI j n=>show xA x λa b=>⟨XB a M.len,?_⟩;rw[nO,M.agree j a];show b.at λo e=>(k _ (.head _)).trans e
 |zip f0 j n=>
  show pJ x λa b tz=>?_;show c0 tz ?_;clear tz;intro TI u v z1 z2 z3 z4;have z:=M.keep _ _ z2 z3 rfl;show Gi (XB a M.len) (XB b M.len) (eE TI u v ?_ ?_ z.2 ?_)
  .rw[nO];show(k _ (.head _)).trans z1
  .rw[M.agree j a,M.agree n b];show z.1
  .rw[nO];show(k _ (.tail _ (.head _))).trans z4
theorem Wd.gu(e:W.H[i]?=a7 o)(m:a∈own (W.ρ i) o):a∈W.bf:=jY.mpr (dC i o e (by rwa[XI]))
theorem iN.there(x:iN W i o)(m:a∈own (W.ρ i) o):∃ob,W.h.get? a=a7 ob/\chg ob=a9:=by
 have nf:∀{ob:Obj},d8 ob=ac->chg ob=a9:=λh=>by unfold chg;rw[h];rfl
 cases o with|dead=>cases m|lst l=>show dH x λvs n e r=>?_;obtain rfl:=uT m;show bd _ e rfl|inst C fs=>show xA x λe tz=>?_;show bb tz ?_;clear tz;intro m' n1 y;show g8 n1.ns fun  o es n e' d y=>?_;show(tA m).elim (λz=>z▸(bd _ e rfl)) (λz=>z▸(bd _ e' (nf (by unfold d8;rw[d]))))|acc C l fs=>show xA x λKe tz=>?_;show bb tz ?_;clear tz;intro m' n1 y;obtain⟨vs,n,e,r⟩:=Ke;show g8 n1.ns fun  o es n' e' d y=>?_;show(tA m).elim (λz=>z▸(bd _ e rfl)) (λz=>z▸(bd _ e' (nf (by unfold d8;rw[d]))))|it l=>obtain rfl:=uT m;show pv.there x|eI j k=>obtain rfl:=uT m;show bV x.2 λo ho c d=>?_;show bd o ho (by unfold chg d8 jZ d8;(show aE c ?_;show aE d ?_);rfl)|zip f0 j k=>show pJ x fun  y y tz=>?_;show c0 tz ?_;clear tz;intro TI u v z1 z2 z3 z4;show(tA m).elim (λz=>z▸(bd _ z1 rfl)) (λz=>z▸(bd _ z4 rfl))
section
variable {K:Frag}{W:Wd}{f:Fp}{ls:Loc}
theorem Rel.df(R:Rel K W)(m:a∈W.bf):∃ob,W.h.get? a=a7 ob/\chg ob=a9:=by show dH (jY.mp m) λi o e q=>?_;rw[XI]at q;show(R.obj i o e).there q
theorem Rel.fresh(R:Rel K W):W.h.objs.size ∉ W.bf:=λm=>by show bb (R.df m) fun  o e u=>absurd (XF e) (XM _)
theorem Rel.iB(R:Rel K W):∀a∈bp K,∃o,W.h.get? a=a7 o/\soft o=a9:=λa m=>by show bb (Xr.mp m) λp hp MU=>?_;clear m;subst MU;show bV (R.tab p hp) fun  ps u t u=>bd _ t.2 rfl
theorem Rel.xq(R:Rel K W):K.lookup W.h.objs.size=a8:=by
 cases q:K.lookup W.h.objs.size with|none=>rfl|some o=>show absurd (XF (R.top _ _ q)) (XM _)
theorem bQ.up(k:∀b o,W.h.get? b=a7 o->h'.get? b=a7 o):bQ W ⟨h',W.ρ,W.H⟩:=⟨Xd _,fun  u u=>rfl,fun  a o e m u=>⟨k a o e,m⟩⟩
theorem Step.up{f:List Addr}(k:∀b o,W.h.get? b=a7 o->h'.get? b=a7 o):Step f W ⟨h',W.ρ,W.H⟩:=⟨Xd _,fun  u u=>rfl,fun  a o e m u=>⟨k a o e,m⟩⟩
theorem Rel.up(R:Rel K W)(k:∀b o,W.h.get? b=a7 o->h'.get? b=a7 o):Rel K ⟨h',W.ρ,W.H⟩ where
 top:=R.top.keeps k
 lim:=R.lim.keeps k
 obj:=λi o e=>(R.obj i o e).mono (bQ.up k) rfl λa m=>by show bb ((R.obj i o e).there m) fun  ob q u=>?_;rw[q];show k _ _ q
 apart:=R.apart
 stat:=R.stat
 nodup:=R.nodup
 tab:=λp hp=>(R.tab p hp).keeps k
theorem ci.mono(F:ci K W f ls)(M:bQ W W')(e:∀a∈f.ad,W'.h.get? a=W.h.get? a)(hm:∀a∈f.ad,a ∉ W'.bf):ci K W' f ls where
 ns:=by show bb F.ns λm Uz r=>?_;obtain⟨o,es,n,eo,r1⟩:=Uz;show bd m ⟨o,es,n,(e f.L (.head _)).trans eo,r1⟩ (λx av q z=>let⟨v,a,y⟩:=r x av q z;⟨v,a,y.mono M⟩)
 cl:=λx av c q z=>by show bb (F.cl x av c q z) λv Qj y=>?_;obtain⟨o,eo,d⟩:=Qj;show bd v ⟨o,(e c (.tail _ (Xr.mpr ⟨(x,c),YS z,rfl⟩))).trans eo,d⟩ (y.mono M)
 cs:=λc hc=>by show dH (F.cs c hc) λv o eo d=>dC v o ((e c (.tail _ hc)).trans eo) d
 nd:=F.nd
 cH:=hm
 apart:=F.apart
 stat:=F.stat
theorem ci.there(F:ci K W f ls):∀a∈f.ad,∃o,W.h.get? a=a7 o:=λa m=>let⟨o,e,_⟩:=F.dy a m;⟨o,e⟩
theorem ci.up(F:ci K W f ls)(k:∀b o,W.h.get? b=a7 o->h'.get? b=a7 o):ci K ⟨h',W.ρ,W.H⟩ f ls:=F.mono (bQ.up k) (λa m=>by show xE (F.there a m) λo e=>?_;rw[e];show k _ _ e) F.cH
theorem bQ.sb{l:Addr}(F:Framed W.h f)(hl:l∈f.ad)(hs:XZ l W.h h'):bQ W ⟨h',W.ρ,W.H⟩:=⟨Xd _,fun  u u=>rfl,λa o e m q=>⟨(hs.2 a λz=>F.ne e q (z▸hl)).trans e,m⟩⟩
theorem Step.sb{f:List Addr}{l:Addr}(hl:l∈f)(hs:XZ l W.h h'):Step f W ⟨h',W.ρ,W.H⟩:=⟨Xd _,fun  u u=>rfl,λa o e m q=>⟨(hs.2 a λz=>q (z▸hl)).trans e,m⟩⟩
theorem Rel.sb{l:Addr}(R:Rel K W)(F:ci K W f ls)(hl:l∈f.ad)(hs:XZ l W.h h'):Rel K ⟨h',W.ρ,W.H⟩ where
 top:=λa o e=>(hs.2 a (λq=>by rw[q,F.apart _ hl]at e;trivial)).trans (R.top a o e)
 lim:=R.lim.sameBut hs λz=>F.stat (z▸hl)
 obj:=λi o e=>(R.obj i o e).mono (bQ.sb F.dy hl hs) rfl λa m=>hs.2 a λq=>F.cH _ hl (q▸Wd.gu e m)
 apart:=R.apart
 stat:=R.stat
 nodup:=R.nodup
 tab:=λp hp=>by show bb (F.oK l hl) λo e q=>(R.tab p hp).sb hs e (by unfold chg;rw[q];rfl)
noncomputable def put(x:Str)(v:AV):Loc->Loc
 |[]=>[(x,v)]
 |(y,u)::r=>if y==x then(y,v)::r else(y,u)::put x v r
theorem tC{v:AV}(ls:Loc):(put x v ls).lookup x=a7 v:=by
 induction ls with
 |nil=>show YC
 |cons p r ih=>
  obtain⟨z,u⟩:=p;change((if z==x then(z,v)::r else(z,u)::put x v r):Loc).lookup x=_;cases h:z==x with|true=>rw[eq_of_beq h];show YC|false=>change(match x==z with|true=>a7 u|false=>(put x v r).lookup x)=_;rw[show(x==z)=ac from beq_eq_false_iff_ne.mpr (beq_eq_false_iff_ne.mp h).symm];show ih
theorem tD{v:AV}(h:y≠x)(ls:Loc):(put x v ls).lookup y=ls.lookup y:=by
 have e:=beq_eq_false_iff_ne.mpr h;induction ls with
 |nil=>change(match y==x with|true=>a7 v|false=>a8)=_;rw[e];rfl
 |cons p r ih=>
  obtain⟨z,u⟩:=p;change((if z==x then(z,v)::r else(z,u)::put x v r):Loc).lookup y=(match y==z with|true=>a7 u|false=>r.lookup y)
  cases hz:z==x with|true=>change(match y==z with|true=>a7 v|false=>r.lookup y)=_;rw[eq_of_beq hz,e]|false=>change(match y==z with|true=>a7 u|false=>(put x v r).lookup y)=_;rw[ih]
theorem eS(x:Str)(v:AV)(y:Str)(ls:Loc):(put x v ls).lookup y=if y==x then a7 v else ls.lookup y:=by
 by_cases h:y=x
 .rw[h,tC,aQ (beq_self_eq_true x)]
 .rw[tD h,aI (λe=>h (eq_of_beq e))]
theorem zc{v u:AV}{ls:Loc}{P:Prop}(e:(put x v ls).lookup y=a7 u)(a:y=x->u=v->P)(b:y≠x->ls.lookup y=a7 u->P):P:=by
 by_cases h:y=x
 .rw[h,tC]at e;show a h (Xe e).symm
 .rw[tD h]at e;show b h e
theorem ci.sb{h':Heap}{x:Str}{v:Value}{av:AV}(F:ci K W f ls)(hs:XZ f.L W.h h'){m:Str->Option Value}
  (r:∀x av,ls.lookup x=a7 av->f.cells.lookup x=a8->∃v,m x=a7 v/\VR W av v)
  (n':h'.Ns f.L (λy=>if y=x then a7 v else m y)) (hx:f.cells.lookup x=a8) (q:VR W av v):ci K ⟨h',W.ρ,W.H⟩ f (put x av ls) where
 ns:=⟨_,n',λy bv e z=>zc e (λh k=>⟨v,aQ h,k▸q.mono (bQ.sb F.dy (.head _) hs)⟩) λh k=>bb (r y bv k z) λu a b=>⟨u,(aI h).trans a,b.mono (bQ.sb F.dy (.head _) hs)⟩⟩
 cl:=λy bv c e z=>bb (F.cl y bv c ((tD (λh=>by rw[h,hx]at z;cases z) _).symm.trans e) z) λu a b=>⟨u,a.sameBut hs (λh=>(X3.mp F.nd).1 (h▸Xr.mpr ⟨_,YS z,rfl⟩)),b.mono (bQ.sb F.dy (.head _) hs)⟩
 cs:=λc hc=>xE (F.cs c hc) λu a=>⟨u,a.sameBut hs λh=>(X3.mp F.nd).1 (h▸hc)⟩
 nd:=F.nd
 cH:=F.cH
 apart:=F.apart
 stat:=F.stat
theorem GZ{l:List (Str×Addr)}:(l.map (·.2)).Nodup->(x,c)∈l->(y,c)∈l->x=y:=by
 induction l with
 |nil=>show fun  u m=>nomatch m
 |cons p l ih=>
  intro nd m n;rw[Xu,X3]at nd;show(Xi.mp m).elim (λa=>(Xi.mp n).elim (λb=>congrArg Prod.fst (a.trans b.symm)) λb=>?_) λa=>(Xi.mp n).elim (λb=>?_) λb=>ih nd.2 a b
  .show absurd (a▸Xr.mpr ⟨_,b,rfl⟩) nd.1
  .show absurd (b▸Xr.mpr ⟨_,a,rfl⟩) nd.1
theorem lU{l:List (Str×Addr)}(nd:(l.map (·.2)).Nodup)(e:l.lookup x=a7 c)(e':l.lookup y=a7 c):x=y:=GZ nd (YS e) (YS e')
theorem ci.sc{av:AV}(F:ci K W f ls)(hs:XZ c W.h h')(hx:f.cells.lookup x=a7 c)(hc:h'.IsCell c (a7 v))(q:VR W av v) :
  ci K ⟨h',W.ρ,W.H⟩ f (put x av ls):=
 have mc:c∈f.cells.map (·.2):=Xr.mpr ⟨_,YS hx,rfl⟩;have M:=bQ.sb F.dy (.tail _ mc) hs;have nd:=X3.mp F.nd
 ⟨bb F.ns λm n r=>⟨m,n.sameBut hs (λz=>nd.1 (z▸mc)),λy bv e z=>bb (r y bv ((tD (λh=>by rw[h,hx]at z;cases z) _).symm.trans e) z) λu a b=>⟨u,a,b.mono M⟩⟩,
  λy bv d e z=>zc e (λh k=>by rw[h,hx]at z;show⟨v,Xe z▸hc,k▸q.mono M⟩) λh k=>bb (F.cl y bv d k z) λu a b=>⟨u,a.sameBut hs (λg=>h (lU nd.2 z (g▸hx))),b.mono M⟩,
  λd hd=>if h:d=c then⟨_,h▸hc⟩else xE (F.cs d hd) λu a=>⟨u,a.sameBut hs h⟩,F.nd,F.cH,F.apart,F.stat⟩
noncomputable def upd(f:Nat->Addr×Addr)(i:Nat)(p:Addr×Addr):Nat->Addr×Addr:=λj=>if j=i then p else f j
theorem bQ.ch(m:a∈W.bf)(hs:XZ a W.h h')(hl:H'.length=W.H.length)(he:live W.ρ 0 H'=live W.ρ 0 W.H):bQ W ⟨h',W.ρ,H'⟩:=⟨Y6 hl.symm,fun  u u=>rfl,fun  b o e n u=>⟨(hs.2 b λq=>n (q▸m)).trans e,λk=>n (by unfold Wd.bf at k ⊢;show he▸k)⟩⟩
theorem Step.ch{f:List Addr}(m:a∈W.bf)(hs:XZ a W.h h')(hl:H'.length=W.H.length)(he:live W.ρ 0 H'=live W.ρ 0 W.H):Step f W ⟨h',W.ρ,H'⟩:=⟨Y6 hl.symm,fun  u u=>rfl,fun  b o e n u=>⟨(hs.2 b λq=>n (q▸m)).trans e,λk=>n (by unfold Wd.bf at k ⊢;show he▸k)⟩⟩
theorem uV(e:H[i]?=a7 o)(m:a∈own (ρ (n+(i+1))) o):a∈live ρ (n+1) H:=jY.mpr ⟨i,o,e,(Ym n i).symm▸m⟩
theorem AbW{j:Nat}(d:(live ρ n H).Nodup)(e:H[i]?=a7 o)(e':H[j]?=a7 o')(ne:i≠j):∀a∈own (ρ (n+i)) o,a ∉ own (ρ (n+j)) o':=λa m m'=>by
 induction H generalizing n i j with
 |nil=>cases e
 |cons x H ih=>
  have d:=Aa9.mp d;cases i with
  |zero=>
   cases j with|zero=>show ne rfl|succ j=>show d.2.2 a (Xe e▸m) a (uV (H:=H) (i:=j) e' m') rfl
  |succ i=>
   cases j with|zero=>show d.2.2 a (Xe e'▸m') a (uV (H:=H) (i:=i) e m) rfl|succ j=>show ih d.2.1 e e' (λh=>ne (congrArg (· + 1) h)) ((Ym n i).symm▸m) ((Ym n j).symm▸m')
theorem Rel.ch{h':Heap}{a:Addr}{i:Nat}{o o':AO}(R:Rel K W)(e:W.H[i]?=a7 o)(m:a∈own (W.ρ i) o)(hs:XZ a W.h h')(ho:own (W.ρ i) o'=own (W.ρ i) o)
  (q:∀W',W'=(⟨h',W.ρ,W.H.set i o'⟩:Wd)->bQ W W'->iN W' i o'):Rel K ⟨h',W.ρ,W.H.set i o'⟩:=by
 have hm:=Wd.gu e m;have le:live W.ρ 0 (W.H.set i o')=live W.ρ 0 W.H:=qk e (by rwa[XI]);have M:bQ W ⟨h',W.ρ,W.H.set i o'⟩:=bQ.ch hm hs Yg le;show⟨λb ob e'=>(hs.2 b λz=>?_).trans (R.top b ob e'),R.lim.sameBut hs λz=>R.stat (z▸hm),λj oj ej=>?_,λb hb=>R.apart b (by unfold Wd.bf at hb ⊢;show le▸hb),λhb=>R.stat (by unfold Wd.bf at hb ⊢;show le▸hb),by unfold Wd.bf;show le.symm▸R.nodup,λp hp=>?_⟩
 .rw[z,R.apart a hm]at e';trivial
 .by_cases hj:j=i
  .clear ho le m;subst hj;have:(W.H.set j o')[j]?=a7 o':=by rw[Y0];show(Xc.mp e).1
   rw[this]at ej;obtain rfl:=Xe ej;show q _ rfl M
  .have:W.H[j]?=a7 oj:=by show ix ej ?_;change _=(W.H.set i o')[j]?;show Eq.symm (XC λa=>hj (id (Eq.symm a)))
   show(R.obj j oj this).mono M rfl λb hb=>hs.2 b λz=>?_;have nd:(live W.ρ 0 W.H).Nodup:=R.nodup;show AbW nd this e hj b (by rwa[XI]) (by rw[XI,z];show m)
 .show bb ((R.obj i o e).there m) λob eb q=>(R.tab p hp).sb hs eb q
theorem ci.ch(F:ci K W f ls)(e:W.H[i]?=a7 o)(m:a∈own (W.ρ i) o)(hs:XZ a W.h h')(ho:own (W.ρ i) o'=own (W.ρ i) o):ci K ⟨h',W.ρ,W.H.set i o'⟩ f ls:=by have hm:=Wd.gu e m;have le:live W.ρ 0 (W.H.set i o')=live W.ρ 0 W.H:=qk e (by rwa[XI]);show F.mono (bQ.ch hm hs Yg le) (λb hb=>hs.2 b λz=>F.cH b hb (z▸hm)) (λb hb=>by unfold Wd.bf;show aE le ?_;show F.cH b hb)
theorem bQ.gen(hw:∀a∈wr,a∈W.bf)(hk:∀b o,b ∉ wr->W.h.get? b=a7 o->h'.get? b=a7 o)(hl:H'.length=W.H.length)(he:Z0 (live W.ρ 0 H') (live W.ρ 0 W.H)):bQ W ⟨h',W.ρ,H'⟩:=⟨Y6 hl.symm,fun  u u=>rfl,fun  b o e n u=>⟨hk b o (λq=>n (hw b q)) e,λk=>n (he.mem k)⟩⟩
theorem Step.gen{f:List Addr}(hw:∀a∈wr,a∈W.bf)(hk:∀b o,b ∉ wr->W.h.get? b=a7 o->h'.get? b=a7 o)(hl:H'.length=W.H.length)(he:Z0 (live W.ρ 0 H') (live W.ρ 0 W.H)):Step f W ⟨h',W.ρ,H'⟩:=⟨Y6 hl.symm,fun  u u=>rfl,fun  b o e n u=>⟨hk b o (λq=>n (hw b q)) e,λk=>n (he.mem k)⟩⟩
theorem Rel.gen{h':Heap}{H':List AO}{wr:List Addr}(R:Rel K W)(hw:∀a∈wr,a∈W.bf)(hk:∀b o,b ∉ wr->W.h.get? b=a7 o->h'.get? b=a7 o)(hl:H'.length=W.H.length)(he:Z0 (live W.ρ 0 H') (live W.ρ 0 W.H))
  (q:bQ W ⟨h',W.ρ,H'⟩->∀i o,H'[i]?=a7 o->(W.H[i]?=a7 o/\∀a∈own (W.ρ i) o,a ∉ wr)\/iN ⟨h',W.ρ,H'⟩ i o):Rel K ⟨h',W.ρ,H'⟩:=by
 have M:=bQ.gen hw hk hl he;have st:cStatics ∉ wr:=λz=>R.stat (hw _ z);show⟨λb ob e'=>hk b ob (λz=>by rw[R.apart b (hw b z)]at e';trivial) (R.top b ob e'),?_,λi o e=>?_,λb hb=>R.apart b (he.mem hb),λhb=>R.stat (he.mem hb),R.nodup.sublist he,λp hp=>(R.tab p hp).it hk λb hb=>R.df (hw b hb)⟩
 .show bb R.lim λmc Qk q=>?_;obtain⟨o,es,ep,eo,r⟩:=Qk;show bd mc ⟨o,es,ep,hk _ _ st eo,r⟩ q
 .rcases q M i o e with⟨e',ha⟩|z
  .show(R.obj i o e').mono M rfl λa m=>bb ((R.obj i o e').there m) fun  ob eb u=>?_;rw[eb];show hk _ _ (ha a m) eb
  .show z
theorem ci.gen(F:ci K W f ls)(hw:∀a∈wr,a∈W.bf)(hk:∀b o,b ∉ wr->W.h.get? b=a7 o->h'.get? b=a7 o)(hl:H'.length=W.H.length)(he:Z0 (live W.ρ 0 H') (live W.ρ 0 W.H)):ci K ⟨h',W.ρ,H'⟩ f ls:=
 F.mono (bQ.gen hw hk hl he) (λa m=>by show bb (F.dy a m) fun  o e u=>?_;change h'.get? a=_;rw[e];show hk _ _ (λz=>F.cH a m (hw a z)) e) λa m z=>F.cH a m (he.mem z)
theorem H1(q:∀o,H[i]?=a7 o->Z0 (own (ρ (n+i)) o') (own (ρ (n+i)) o)):Z0 (live ρ n (H.set i o')) (live ρ n H):=by
 induction H generalizing n i with
 |nil=>show .slnil
 |cons x H ih=>
  cases i with|zero=>show(q x rfl).append (Zm _)|succ i=>show(Zm _).append (ih λo e=>(Ym n i).symm▸q o e)
noncomputable def Wd.add(W:Wd)(h':Heap)(p:Addr×Addr)(o:AO):Wd:=⟨h',upd W.ρ W.H.length p,W.H++[o]⟩
theorem dz(W:Wd)(h':Heap)(p:Addr×Addr)(o:AO):(W.add h' p o).ρ W.H.length=p:=aQ rfl
theorem i7(W:Wd)(h':Heap)(p:Addr×Addr)(o:AO):(W.add h' p o).bf=W.bf++own p o:=by unfold Wd.bf Wd.add;dsimp only;rw[oI,lS (ρ:=W.ρ) 0 W.H λi hi=>aI (by show"Ta+0bNEab" hi)];show congrArg (live W.ρ 0 W.H++·) ((Xv _).trans (congrArg (own · o) ((congrArg (upd W.ρ W.H.length p) (XI _)).trans (aQ rfl))))
theorem bQ.add(k:∀b o,W.h.get? b=a7 o->h'.get? b=a7 o)(hp:∀a∈own p o,W.h.get? a=a8):bQ W (W.add h' p o):=
 ⟨by show wH,λi hi=>aI (YL hi),fun  a ob e m u=>⟨k a ob e,λz=>by
  rw[i7]at z;rcases Xl.mp z with z|z
  .show m z
  .rw[hp a z]at e;trivial⟩⟩
theorem Step.add{f:List Addr}(k:∀b o,W.h.get? b=a7 o->h'.get? b=a7 o)(hp:∀a∈own p o,W.h.get? a=a8):Step f W (W.add h' p o):=
 ⟨by show wH,λi hi=>aI (YL hi),fun  a ob e m u=>⟨k a ob e,λz=>by
  rw[i7]at z;rcases Xl.mp z with z|z
  .show m z
  .rw[hp a z]at e;trivial⟩⟩
theorem Rel.add{h':Heap}{p:Addr×Addr}{o:AO}(R:Rel K W)(k:∀b o,W.h.get? b=a7 o->h'.get? b=a7 o)(hp:∀a∈own p o,W.h.get? a=a8)(hd:(own p o).Nodup)
  (q:bQ W (W.add h' p o)->iN (W.add h' p o) W.H.length o):Rel K (W.add h' p o):=by
 have M:=bQ.add (W:=W) (o:=o) k hp;show⟨R.top.keeps k,R.lim.keeps k,λi oi e=>?_,λa m=>?_,λm=>?_,?_,λp hp=>(R.tab p hp).keeps k⟩
 .by_cases hi:i<W.H.length
  .have e':W.H[i]?=a7 oi:=by simpa[Wd.add,Yv hi]using e
   show(R.obj i oi e').mono M (M.agree i hi) λa m=>bb ((R.obj i oi e').there m) fun  ob z u=>?_;change h'.get? a=_;rw[z];show k _ _ z
  .have hl:i=W.H.length:=by have:=(Xc.mp e).1;simp[Wd.add]at this;show Nat.eq_of_lt_succ_of_not_lt this hi
   clear hi;subst hl;have:o=oi:=by simpa[Wd.add]using e
   clear e;subst this;show q M
 .rw[i7]at m;rcases Xl.mp m with m|m
  .show R.apart a m
  .cases z:K.lookup a with|none=>rfl|some ob=>have:=R.top a ob z;rw[hp a m]at this;trivial
 .rw[i7]at m;rcases Xl.mp m with m|m
  .show R.stat m
  .show bb R.lim fun  u Ql u=>?_;obtain⟨_,_,_,e,_⟩:=Ql;rw[hp _ m]at e;trivial
 .rw[i7,Aa9];show⟨R.nodup,hd,λa ha b hb e=>?_⟩;subst e;show bb (R.df ha) fun  ob z u=>?_;rw[hp a hb]at z;trivial
theorem ci.add(F:ci K W f ls)(k:∀b o,W.h.get? b=a7 o->h'.get? b=a7 o)(hp:∀a∈own p o,W.h.get? a=a8):ci K (W.add h' p o) f ls:=by
 show F.mono (bQ.add k hp) (λa m=>?_) λa m z=>?_
 .show xE (F.there a m) λob e=>?_;rw[e];show k _ _ e
 .rw[i7]at z;rcases Xl.mp z with z|z
  .show F.cH a m z
  .show xE (F.there a m) λob e=>?_;rw[hp _ z]at e;trivial
end
end
section
structure Cx where
 prog:Program
 w:World
 K:Frag
 A:Around
 f:Fp
theorem Q5:Nonempty Cx:=⟨⟨default,Classical.choice ML,default,{},⟨default,default⟩⟩⟩
noncomputable abbrev Cx.M(c:Cx):Model:=model c.prog c.w
noncomputable abbrev Cx.sub(c:Cx)(A:Around)(f:Fp):Cx:=⟨c.prog,c.w,c.K,A,f⟩
abbrev Qm{α β:Type}(M:Model)(A:Around)(k:α->Sem β)(Q:β->Shared->Prop)(E:Value->Shared->Prop):α->Shared->Prop:=λa s=>wpAny M A (k a) Q E s
theorem aM{M:Model}{A:Around}{α β:Type}{m:Sem α}{k:α->Sem β}{s:Shared}{Q:β->Shared->Prop}{E:Value->Shared->Prop}(h:wpAny M A m (Qm M A k Q E) E s):wpAny M A (m >>= k) Q E s:=Xb h
structure GE(G G':Array GenState):Prop where
 bare:AllBare G->AllBare G'
 keep:∀(i:Nat) (y:GenState),G[i]?=a7 y->G'[i]?=a7 y
theorem GE.refl{G:Array GenState}:GE G G:=⟨id,λi y=>id⟩
theorem GE.trans{G G' Go:Array GenState}(x:GE G G')(y:GE G' Go):GE G Go:=⟨λh=>y.bare (x.bare h),λi z e=>y.keep i z (x.keep i z e)⟩
def Sh(s s':Shared):Prop:=s'.os=s.os/\GE s.gens s'.gens
theorem Sh.refl(s:Shared):Sh s s:=⟨rfl,.refl⟩
theorem Sh.trans{s s' fF:Shared}(x:Sh s s')(y:Sh s' fF):Sh s fF:=⟨y.1.trans x.1,x.2.trans y.2⟩
structure Good(c:Cx)(W:Wd)(s:Shared)(W':Wd)(s':Shared)(dq:Loc):Prop where
 hh:W'.h=s'.heap
 st:Step (c.f.ad++bp c.K) W W'
 rel:Rel c.K W'
 fr:ci c.K W' c.f dq
 sh:Sh s s'
structure bN(c:Cx)(W:Wd)(s:Shared)(W':Wd)(s':Shared)(dq:Loc):Prop extends Good c W s W' s' dq where
 tk:0<s'.toks
instance {c:Cx} {W W':Wd} {s s':Shared} {dq:Loc}:Coe (bN c W s W' s' dq) (Good c W s W' s' dq):=⟨bN.toGood⟩
structure Here(c:Cx)(W:Wd)(s:Shared)(ls:Loc):Prop where
 hh:W.h=s.heap
 rel:Rel c.K W
 fr:ci c.K W c.f ls
 tk:0<s.toks
theorem bN.here{c:Cx}{W W':Wd}{s s':Shared}{ls:Loc}(g:bN c W s W' s' ls):Here c W' s' ls:=⟨g.hh,g.rel,g.fr,g.tk⟩
theorem Good.at{c:Cx}{W W':Wd}{s s':Shared}{ls:Loc}(g:Good c W s W' s' ls)(t:0<s'.toks):bN c W s W' s' ls:={ g with tk:=t }
theorem Here.good{c:Cx}{W:Wd}{s:Shared}{ls:Loc}(g:Here c W s ls):bN c W s W s ls:={ hh:=g.hh,st:=.refl _ _,rel:=g.rel,fr:=g.fr,sh:=.refl _,tk:=g.tk }
theorem cA{M:Model}{A:Around}{α:Type}{t:Sem α}{s:Shared}{P Q:α->Shared->Prop}{E F:Value->Shared->Prop}(hn:0<s.toks)(h:wpAny M A t P E s)(k:∀a s',0<s'.toks->P a s'->Q a s')(kE:∀a s',E a s'->F a s'):wpAny M A t Q F s:=Xz (wpAny_toks_of hn h) (λa s' x=>k a s' x.1 x.2) (λe s' x=>kE e s' x.2)
theorem Good.trans{c:Cx}{W W' xp:Wd}{s s' fF:Shared}{ls dq:Loc}(g:Good c W s W' s' ls)(k:Good c W' s' xp fF dq):Good c W s xp fF dq:=⟨k.hh,g.st.trans k.st,k.rel,k.fr,g.sh.trans k.sh⟩
theorem bN.tr{c:Cx}{W W' xp:Wd}{s s' fF:Shared}{ls dq:Loc}(g:bN c W s W' s' dq)(k:bN c W' s' xp fF ls):bN c W s xp fF ls:=(g.toGood.trans k.toGood).at k.tk
theorem Good.mono{c:Cx}{W W':Wd}{s s' bD:Shared}{ls dq:Loc}(g:Good c W s W' s' ls)(F:Here c W bD dq):bQ W W':=g.st.mono λa m=>by
 rcases Xl.mp m with m|m
 .show F.fr.dy a m
 .show F.rel.iB a m
theorem Good.vr{c:Cx}{W W':Wd}{s s' bD:Shared}{ls dq:Loc}{x:AV}{v:Value}(g:Good c W s W' s' ls)(F:Here c W bD dq)(r:VR W x v):VR W' x v:=r.mono (g.mono F)
theorem Good.Kf{c:Cx}{W W':Wd}{s s' bD:Shared}{ls dq:Loc}{x:List AV}{v:List Value}(g:Good c W s W' s' ls)(F:Here c W bD dq)(r:bY W x v):bY W' x v:=r.mono (g.mono F)
theorem Here.tok{c:Cx}{W:Wd}{s:Shared}{ls:Loc}(g:Here c W s ls)(t:Nat):Good c W s W { s with toks:=t } ls:=⟨g.hh,.refl _ _,g.rel,g.fr,⟨rfl,.refl⟩⟩
theorem Good.uW{c:Cx}{W W':Wd}{s s':Shared}{ls:Loc}(g:Good c W s W' s' ls)(t:Nat):Good c W s W' { s' with toks:=t } ls:=⟨g.hh,g.st,g.rel,g.fr,g.sh⟩
theorem Here.grow{c:Cx}{W:Wd}{s:Shared}{ls:Loc}(g:Here c W s ls){h':Heap}(t:Nat)(k:∀b o,s.heap.get? b=a7 o->h'.get? b=a7 o) :
  Good c W s ⟨h',W.ρ,W.H⟩ { s with heap:=h',toks:=t } ls:=
 ⟨rfl,.up (by rw[g.hh];show k),g.rel.up (by rw[g.hh];show k),g.fr.up (by rw[g.hh];show k),⟨rfl,.refl⟩⟩
inductive gS(c:Cx){α β:Type}(R:Wd->β->α->Prop)(Q:β->List AO->Loc->Prop)(W:Wd)(s:Shared)(a:α)(s':Shared):Prop
 |mk (W':Wd) (dq:Loc) (b:β) (g:Good c W s W' s' dq) (r:R W' b a) (q:Q b W'.H dq)
abbrev qm:Value->Shared->Prop:=fun  u u=>False
def Ok(c:Cx){α β:Type}(R:Wd->β->α->Prop)(t:Sem α)(H:List AO)(ls:Loc)(Q:β->List AO->Loc->Prop):Prop:=∀W s,Here c W s ls->W.H=H->wpAny c.M c.A t (gS c R Q W s) qm s
section
variable {c:Cx}{α β:Type}{R:Wd->β->α->Prop}{t:Sem α}{H:List AO}{ls:Loc}{Q Q':β->List AO->Loc->Prop}
theorem Ok.mono(h:Ok c R t H ls Q)(k:∀b H' dq,Q b H' dq->Q' b H' dq):Ok c R t H ls Q':=λW s g e=>Xz (h W s g e) (λa s' ⟨W',dq,b,x,y,z⟩=>⟨W',dq,b,x,y,k _ _ _ z⟩) fun  u u f=>f
theorem Ok.run(h:Ok c R t H ls Q){W:Wd}{s:Shared}(g:Here c W s ls)(e:W.H=H){P:α->Shared->Prop}{E:Value->Shared->Prop}
  (k:∀W' s' dq b a,bN c W s W' s' dq->R W' b a->Q b W'.H dq->P a s'):wpAny c.M c.A t P E s:=
 cA g.tk (h W s g e) (λa s' t ⟨W',dq,b,x,y,z⟩=>k W' s' dq b a (x.at t) y z) fun  u u f=>f.elim
theorem Ok.pure{a:α}(b:β)(r:∀W,R W b a)(q:Q b H ls):Ok c R (pure a) H ls Q:=λW s g e=>GT ⟨W,ls,b,g.good,r W,e▸q⟩
end
def pz(c:Cx){α β:Type}(R:Wd->β->α->Prop)(t:Value->Sem α)(x:AV)(H:List AO)(ls:Loc)(Q:β->List AO->Loc->Prop):Prop:=∀W s v,Here c W s ls->W.H=H->VR W x v->wpAny c.M c.A (t v) (gS c R Q W s) qm s
def lF(c:Cx){α β:Type}(R:Wd->β->α->Prop)(t:Value->Value->Sem α)(x y:AV)(H:List AO)(ls:Loc)(Q:β->List AO->Loc->Prop):Prop:=∀W s v u,Here c W s ls->W.H=H->VR W x v->VR W y u->wpAny c.M c.A (t v u) (gS c R Q W s) qm s
def kS(c:Cx){α β:Type}(R:Wd->β->α->Prop)(t:List Value->Sem α)(xs:List AV)(H:List AO)(ls:Loc)(Q:β->List AO->Loc->Prop):Prop:=∀W s vs,Here c W s ls->W.H=H->bY W xs vs->wpAny c.M c.A (t vs) (gS c R Q W s) qm s
theorem behind{c:Cx}{α β:Type}{R:Wd->β->α->Prop}{Q:β->List AO->Loc->Prop}{W W':Wd}{s s':Shared}{ls:Loc}(g:bN c W s W' s' ls){a:α}{fF:Shared} :
  gS c R Q W' s' a fF->gS c R Q W s a fF:=λ⟨xp,Qn,b,x,y,z⟩=>⟨xp,Qn,b,g.toGood.trans x,y,z⟩
section
variable {c:Cx}{α β:Type}{R:Wd->β->α->Prop}{Q:β->List AO->Loc->Prop}{W aK:Wd}{s aH:Shared}{aU:Loc}(G:bN c W s aK aH aU)
include G
theorem Ok.tail{t:Sem α}(h:Ok c R t aK.H aU Q):wpAny c.M c.A t (gS c R Q W s) qm aH:=Xz (h aK aH G.here rfl) (fun  u u=>behind G) fun  u u f=>f
theorem pz.tail{t:Value->Sem α}{x:AV}{v:Value}(h:pz c R t x aK.H aU Q)(r:VR aK x v):wpAny c.M c.A (t v) (gS c R Q W s) qm aH:=Xz (h aK aH v G.here rfl r) (fun  u u=>behind G) fun  u u f=>f
theorem lF.tail{t:Value->Value->Sem α}{x y:AV}{v u:Value}(h:lF c R t x y aK.H aU Q)(r:VR aK x v)(r':VR aK y u):wpAny c.M c.A (t v u) (gS c R Q W s) qm aH:=Xz (h aK aH v u G.here rfl r r') (fun  z z=>behind G) fun  z z f=>f
theorem kS.tail{t:List Value->Sem α}{xs:List AV}{vs:List Value}(h:kS c R t xs aK.H aU Q)(r:bY aK xs vs):wpAny c.M c.A (t vs) (gS c R Q W s) qm aH:=Xz (h aK aH vs G.here rfl r) (fun  u u=>behind G) fun  u u f=>f
end
/-! D3 comes behind,by aw -/
abbrev K1(c:Cx){α β:Type}(R:Wd->β->α->Prop)(t:Value->Sem α)(Q:β->List AO->Loc->Prop):AV->List AO->Loc->Prop:=λx H l=>pz c R t x H l Q
abbrev K2(c:Cx){α β:Type}(R:Wd->β->α->Prop)(t:Value->Value->Sem α)(Q:β->List AO->Loc->Prop)(x:AV):AV->List AO->Loc->Prop:=λy H l=>lF c R t x y H l Q
abbrev KE(c:Cx)(ae:Env)(e:Expr)(k:AV->AV->List AO->Loc->Prop):AV->List AO->Loc->Prop:=λx H l=>Ok c VR (eval e ae) H l (k x)
abbrev Kg(c:Cx)(ae:Env)(ai:Pos)(aV:List Expr)(k:AV->List AV->List AO->Loc->Prop):AV->List AO->Loc->Prop:=λx H l=>Ok c bY (spliced (backTo ai (starEach aV ae))) H l (k x)
abbrev MV(Q:List AV->List AO->Loc->Prop)(y:AV):List AV->List AO->Loc->Prop:=λys H l=>Q (y::ys) H l
abbrev SU(f:List AV->AV)(Q:AV->List AO->Loc->Prop):List AV->List AO->Loc->Prop:=λxs H l=>xs.length<=sizeLine/\Q (f xs) H l
abbrev Qo(Q:AV->List AO->Loc->Prop):List AV->List AO->Loc->Prop:=λxs H l=>xs.length<=sizeLine/\Q (.ref H.length) (H++[.lst xs]) l
abbrev UA(Q:Bool->List AO->Loc->Prop):AV->List AO->Loc->Prop:=λz H l=>∃b,z=.bool b/\Q b H l
abbrev KNot(Q:Bool->List AO->Loc->Prop):Bool->List AO->Loc->Prop:=λb H l=>Q (!b) H l
abbrev MW(c:Cx)(ae:Env)(a b:Expr)(Q:AV->List AO->Loc->Prop):Bool->List AO->Loc->Prop:=λt H l=>(t=a9->Ok c VR (eval a ae) H l Q)/\(t=ac->Ok c VR (eval b ae) H l Q)
structure ba(ae:Env)(f:Fp):Prop where
 kind:ae.scope.kind=.function
 loc:ae.locals=f.L
 Qp:∀x a,f.cells.lookup x=a7 a->ae.cells.lookup x=a7 a
 glob:ae.globals=mainGlobals
 blt:ae.builtins=builtinsNs
def cy(_:Wd)(b a:Bool):Prop:=a=b
def jF(_:Wd)(_ _:Unit):Prop:=True
abbrev MX(c:Cx)(ae:Env)(aV:List Expr)(Q:Bool->List AO->Loc->Prop):Bool->List AO->Loc->Prop:=λb H l=>(b=a9->Ok c cy (allTrue .And aV ae) H l Q)/\(b=ac->Q ac H l)
abbrev MY(c:Cx)(ae:Env)(aV:List Expr)(Q:Bool->List AO->Loc->Prop):Bool->List AO->Loc->Prop:=λb H l=>(b=ac->Ok c cy (allTrue .Or aV ae) H l Q)/\(b=a9->Q a9 H l)
set_option genCtorIdx false
inductive AF where
 |next|brk|cont
 |ret (x:AV)
noncomputable def AF.ctorIdx (x:AF):Nat:=AF.casesOn x 0 1 2 λ_=>3
inductive aY(W:Wd):AF->Flow->Prop
 |next:aY W .next .next
 |brk:aY W .brk .brk
 |cont:aY W .cont .cont
 |ret {x:AV} {v:Value}:VR W x v->aY W (.ret x) (.ret v)
abbrev MZ(Q:AF->List AO->Loc->Prop):AV->List AO->Loc->Prop:=λy H l=>Q (.ret y) H l
abbrev zd{β:Type}(Q:AF->List AO->Loc->Prop):β->List AO->Loc->Prop:=fun  u H l=>Q .next H l
abbrev Qq(x:Str)(Q:AF->List AO->Loc->Prop):AV->List AO->Loc->Prop:=λy H l=>Q .next H (put x y l)
abbrev Qr(Q:AF->List AO->Loc->Prop):Bool->List AO->Loc->Prop:=λb H l=>b=a9/\Q .next H l
abbrev Seq(c:Cx)(aV:List Stmt)(ae:Env)(Q:AF->List AO->Loc->Prop):AF->List AO->Loc->Prop:=λfl bu aU=>match fl with|.next=>Ok c aY (execs aV ae) bu aU Q|fl=>Q fl bu aU
abbrev IP(N:List AO->Loc->Prop)(Q:AF->List AO->Loc->Prop):AF->List AO->Loc->Prop:=λfl H l=>match fl with
 |.next|.cont=>N H l
 |.brk=>Q .next H l
 |.ret x=>Q (.ret x) H l
abbrev D4(c:Cx){β:Type}(ae:Env)(aB:List Stmt)(N:List AO->Loc->Prop)(Q:AF->List AO->Loc->Prop):β->List AO->Loc->Prop:=fun  u H l=>Ok c aY (execs aB ae) H l (IP N Q)
abbrev Qs(c:Cx)(ae:Env)(aB orelse:List Stmt)(Q:AF->List AO->Loc->Prop):Bool->List AO->Loc->Prop:=λb H l=>(b=a9->Ok c aY (execs aB ae) H l Q)/\(b=ac->Ok c aY (execs orelse ae) H l Q)
section
variable {c:Cx}{H:List AO}{ls:Loc}{Q:AV->List AO->Loc->Prop}{ae:Env}
theorem GB{k:Nat}{ai:Pos}(q:Q .none H ls):Ok c VR (eval (.Constant .none k ai) ae) H ls Q:=λW s g e=>wpAny_Constant_none ⟨W,ls,_,g.good,.none,e▸q⟩
theorem GC{b:Bool}{k:Nat}{ai:Pos}(q:Q (.bool b) H ls):Ok c VR (eval (.Constant (.bool b) k ai) ae) H ls Q:=λW s g e=>AbM ⟨W,ls,_,g.good,.bool b,e▸q⟩
theorem JQ{i:Int}{k:Nat}{ai:Pos}(q:Q (.int i) H ls):Ok c VR (eval (.Constant (.int i) k ai) ae) H ls Q:=λW s g e=>wpAny_Constant_int ⟨W,ls,_,g.tok _,.int i _,e▸q⟩
theorem Kh{x:Str}{k:Nat}{ai:Pos}(q:Q (.str x) H ls):Ok c VR (eval (.Constant (.str x) k ai) ae) H ls Q:=λW s g e=>wpAny_Constant_str ⟨W,ls,_,g.tok _,.str x _,e▸q⟩
theorem Cv{x:Str}{ai:Pos}{av:AV}(E:ba ae c.f)(hk:ae.kindOf x=a7 .local)(hc:c.f.cells.lookup x=a8)(hl:ls.lookup x=a7 av)(q:Q av H ls)(hd:(x==("__debug__" : Str))=ac) :
  Ok c VR (eval (.Name x ai) ae) H ls Q:=λW s g e=>by
 show bb g.fr.ns λm n r=>bb (r x av hl hc) λv hv y=>AaP (Ze E.kind hk (by rw[E.loc,<-g.hh];show n) hv ⟨W,ls,_,g.good,y,e▸q⟩) hd
theorem GD{x:Str}{ai:Pos}{av:AV}{a:Addr}(E:ba ae c.f)(hk:ae.kindOf x=a7 .cell)(hc:c.f.cells.lookup x=a7 a)(hl:ls.lookup x=a7 av)(q:Q av H ls)(hd:(x==("__debug__" : Str))=ac) :
  Ok c VR (eval (.Name x ai) ae) H ls Q:=λW s g e=>by
 show bb (g.fr.cl x av a hl hc) λv hv y=>AaP (wpAny_loadName_cell E.kind hk (E.Qp _ _ hc) (by rw[<-g.hh];show hv) ⟨W,ls,_,g.good,y,e▸q⟩) hd
theorem GF{x:Str}{ai:Pos}{av:AV}{a:Addr}(E:ba ae c.f)(hk:ae.kindOf x=a7 .free)(hc:c.f.cells.lookup x=a7 a)(hl:ls.lookup x=a7 av)(q:Q av H ls)(hd:(x==("__debug__" : Str))=ac) (hn:(x==("__classdict__" : Str))=ac) :
  Ok c VR (eval (.Name x ai) ae) H ls Q:=λW s g e=>by
 show bb (g.fr.cl x av a hl hc) λv hv y=>AaP (wpAny_loadName_free E.kind hk (E.Qp _ _ hc) (by rw[<-g.hh];show hv) ⟨W,ls,_,g.good,y,e▸q⟩ hn) hd
noncomputable def cF(K:Frag)(x:Str):Option Value:=match nsIn K mainGlobals x with
 |some (a7 v)=>a7 v
 |some none=>(match nsIn K builtinsNs x with|some (a7 v)=>a7 v|_=>a8)
 |none=>a8
theorem kT{K:Frag}{x:Str}{v:Value}(h:cF K x=a7 v):nsIn K mainGlobals x=a7 (a7 v)\/nsIn K mainGlobals x=a7 a8/\nsIn K builtinsNs x=a7 (a7 v):=by
 unfold cF at h;cases a:nsIn K mainGlobals x with
 |none=>rw[a]at h;injection h
 |some o=>
  rw[a]at h;cases o with
  |some u=>show .inl (congrArg a7 h)
  |none=>
   cases b:nsIn K builtinsNs x with
   |none=>rw[b]at h;injection h
   |some o=>
    replace h:=b▸h;cases o with|some u=>show .inr ⟨rfl,congrArg a7 h⟩|none=>injection h
theorem jj{x:Str}{ai:Pos}{v:Value}(E:ba ae c.f)(hk:ae.kindOf x=a7 .globalImplicit)(hv:cF c.K x=a7 v)(q:Q (.val v) H ls)(hd:(x==("__debug__" : Str))=ac) :
  Ok c VR (eval (.Name x ai) ae) H ls Q:=λW s g e=>by
 have X:c.K.In s.heap:=g.hh▸g.rel.top;show AaS E.kind hk ?_ hd;unfold loadGlobal;show aE E.glob ?_;show aE E.blt ?_;rcases kT hv with hu|⟨hu,hb⟩
 .show aM ((Za X hu).here (GT ⟨W,ls,_,g.good,.val _,e▸q⟩))
 .show aM ((Za X hu).here (aM ((Za X hb).here (GT ⟨W,ls,_,g.good,.val _,e▸q⟩))))
theorem uA{l r:Expr}{op:Operator}{ai:Pos}(h:Ok c VR (eval l ae) H ls (KE c ae r (K2 c VR (binaryOp op) Q))):Ok c VR (eval (.BinOp l op r ai) ae) H ls Q:=λW s g e=>wpAny_BinOp (h.run g e λaK aH aU x v aD b8 aR=>aR.run aD.here rfl λb4 aN cj y u aF dg bB=>bB.tail (aD.tr aF) (aF.vr aD.here b8) dg)
theorem wR{l r:Expr}{op:CmpOp}{ai:Pos}(h:Ok c VR (eval l ae) H ls (KE c ae r (K2 c VR (compareOp op) Q)))
  (hm:behindInMarks op r=ac):Ok c VR (eval (.Compare l [op] [r] ai) ae) H ls Q:=λW s g e=>
 wpAny_Compare1 (h.run g e λaK aH aU x v aD b8 aR=>aR.run aD.here rfl λb4 aN cj y u aF dg bB=>bB.tail (aD.tr aF) (aF.vr aD.here b8) dg) hm
theorem Ct{x:Expr}{op:UnaryOp}{ai:Pos}(h:Ok c VR (eval x ae) H ls (K1 c VR (unaryOp op) Q)):Ok c VR (eval (.UnaryOp op x ai) ae) H ls Q:=λW s g e=>wpAny_UnaryOp (h.run g e λaK aH aU x v aD b8 aR=>aR.tail aD b8)
theorem Cu{test a b:Expr}{ai:Pos}(h:Ok c cy (isTrue test ae (eval test ae)) H ls (MW c ae a b Q)) :
  Ok c VR (eval (.IfExp test a b ai) ae) H ls Q:=λW s g e=>
 wpAny_IfExp (h.run g e λaK aH aU t t' aD b8 aR=>by
  cases b8;cases t with|true=>show Xz (aR.1 rfl aK aH aD.here rfl) (fun  u u z=>behind aD z) fun  u u f=>f|false=>show Xz (aR.2 rfl aK aH aD.here rfl) (fun  u u z=>behind aD z) fun  u u f=>f)
theorem Ac{ai:Pos}{Q:List AV->List AO->Loc->Prop}(q:Q [] H ls):Ok c bY (spliced (backTo ai (starEach [] ae))) H ls Q:=λW s g e=>YR ⟨W,ls,_,g.good,.nil,e▸q⟩
theorem pW{ai:Pos}{x:Expr}{aV:List Expr}{Q:List AV->List AO->Loc->Prop}
  (h:Ok c VR (eval x ae) H ls (Kg c ae ai aV (MV Q)))
  (he:starEach (x::aV) ae=(ac,eval x ae)::starEach aV ae):Ok c bY (spliced (backTo ai (starEach (x::aV) ae))) H ls Q:=λW s g e=>
 Yp (h.run g e λaK aH aU x v aD b8 aR=>aR.run aD.here rfl λb4 aN cj y u aF dg bB=>⟨b4,cj,_,aD.trans aF,.cons (aF.vr aD.here b8) dg,bB⟩) he
theorem Cs{gM:List Expr}{k:Nat}{ai:Pos}(h:Ok c bY (spliced (backTo ai (starEach gM ae))) H ls (SU .tup Q)):Ok c VR (eval (.Tuple gM k ai) ae) H ls Q:=λW s g e=>
 wpAny_Tuple (h.run g e λaK aH aU xs vs aD b8 aR=>by show⟨by rw[b8.length];show aR.1,?_⟩;have aF:=aD.here.grow (h':=aH.heap.push (bS vs.toArray 0)) aH.toks (λb o e=>Xa _ e);show⟨_,aU,_,aD.trans aF,.tup (n:=0) (Xo _ rfl) (aD.hh▸aD.rel.fresh) (aF.Kf aD.here b8),aR.2⟩)
theorem cW{gM:List Expr}{ai:Pos}(h:Ok c bY (spliced (backTo ai (starEach gM ae))) H ls (SU .fl Q)):Ok c VR (eval (.List gM ai) ae) H ls Q:=λW s g e=>
 wpAny_List (h.run g e λaK aH aU xs vs aD b8 aR=>by show⟨by rw[b8.length];show aR.1,?_⟩;have aF:=aD.here.grow (h':=aH.heap.push (listOf vs.toArray 0)) aH.toks (λb o e=>Xa _ e);show⟨_,aU,_,aD.trans aF,.fl (n:=0) (Xo _ rfl) (aD.hh▸aD.rel.fresh) (aF.Kf aD.here b8),aR.2⟩)
theorem dX{gM:List Expr}{ai:Pos}(h:Ok c bY (spliced (backTo ai (starEach gM ae))) H ls (Qo Q)):Ok c VR (eval (.List gM ai) ae) H ls Q:=λW s g e=>
 wpAny_List (h.run g e λaK aH aU xs vs aD b8 aR=>by
  show⟨by rw[b8.length];show aR.1,?_⟩;have k:∀b o,aK.h.get? b=a7 o->(aH.heap.push (listOf vs.toArray 0)).get? b=a7 o:=λb o e=>Xa _ (aD.hh▸e);have hp:∀a∈own (aH.heap.objs.size,0) (.lst xs),aK.h.get? a=a8:=λa m=>by
   obtain rfl:=uT m;cases q:aK.h.get? aH.heap.objs.size with|none=>rfl|some o=>show absurd (aD.hh▸XF q) (XM _)
  have M:=bQ.add (W:=aK) (o:=.lst xs) k hp;show⟨aK.add (aH.heap.push (listOf vs.toArray 0)) (aH.heap.objs.size,0) (.lst xs),aU,.ref aK.H.length,aD.trans ⟨rfl,.add k hp,aD.rel.add k hp D2 fun  u=>?_,aD.fr.add k hp,⟨rfl,.refl⟩⟩,?_,aR.2⟩
  .show dC vs 0 ?_ (b8.mono M);rw[dz];show Xo _ rfl
  .have:=VR.ref (W:=aK.add (aH.heap.push (listOf vs.toArray 0)) (aH.heap.objs.size,0) (.lst xs)) aK.H.length IH
   rwa[dz]at this)
end
section
variable {c:Cx}{H:List AO}{ls:Loc}{ae:Env}
theorem wS{e:Expr}{whole:Sem Value}{Q:Bool->List AO->Loc->Prop}(h:Ok c VR whole H ls (K1 c cy truthy Q))
  (he:isTrue e ae whole=(do let v <-whole;standAt e.pos;holding [v] (truthy v))):Ok c cy (isTrue e ae whole) H ls Q:=λW s g q=>
 AbV (h.run g q λaK aH aU x v aD b8 aR=>aR.tail aD b8) he
theorem ti{l r:Expr}{op:CmpOp}{ai:Pos}{whole:Sem Value}{Q:Bool->List AO->Loc->Prop}
  (h:Ok c VR (eval l ae) H ls (KE c ae r (K2 c VR (compareOp op) (UA Q))))
  (hm:behindInMarks op r=ac):Ok c cy (isTrue (.Compare l [op] [r] ai) ae whole) H ls Q:=λW s g e=>
 Ade (h.run g e λaK aH aU x v aD b8 aR=>aR.run aD.here rfl λb4 aN cj y u aF dg bB=>
  Xz (bB b4 aN v u aF.here rfl (aF.vr aD.here b8) dg) (λd bJ ⟨b7,d5,z,aT,eU,b,hz,q⟩=>by subst hz;cases eU;show Aaz ⟨b7,d5,b,aD.trans (aF.trans aT),rfl,q⟩) fun  j j f=>f) hm
theorem Cw{x:Expr}{ai:Pos}{whole:Sem Value}{Q:Bool->List AO->Loc->Prop}(h:Ok c cy (isTrue x ae (eval x ae)) H ls (KNot Q)):Ok c cy (isTrue (.UnaryOp .Not x ai) ae whole) H ls Q:=λW s g e=>wpAny_isTrue_Not (h.run g e λaK aH aU b a aD b8 aR=>⟨aK,aU,!b,aD,congrArg _ b8,aR⟩)
theorem uB{op:BoolOp}{values:List Expr}{ai:Pos}{whole:Sem Value}{Q:Bool->List AO->Loc->Prop}(h:Ok c cy (allTrue op values ae) H ls Q):Ok c cy (isTrue (.BoolOp op values ai) ae whole) H ls Q:=λW s g e=>wpAny_isTrue_BoolOp (h W s g e)
theorem all_nil{op:BoolOp}{Q:Bool->List AO->Loc->Prop}(q:Q (op==.And) H ls):Ok c cy (allTrue op [] ae) H ls Q:=λW s g e=>by
 cases op
 .show wpAny_allTrue_And_nil ⟨W,ls,_,g.good,rfl,e▸q⟩
 .show wpAny_allTrue_Or_nil ⟨W,ls,_,g.good,rfl,e▸q⟩
theorem Gx{x:Expr}{aV:List Expr}{Q:Bool->List AO->Loc->Prop}(h:Ok c cy (isTrue x ae (eval x ae)) H ls (MX c ae aV Q)) :
  Ok c cy (allTrue .And (x::aV) ae) H ls Q:=λW s g e=>
 wpAny_allTrue_And_cons (h.run g e λaK aH aU b a aD b8 aR=>by
  cases b8;cases b with|true=>show Xz (aR.1 rfl aK aH aD.here rfl) (fun  u u z=>behind aD z) fun  u u f=>f|false=>show⟨aK,aU,ac,aD,rfl,aR.2 rfl⟩)
theorem JO{x:Expr}{aV:List Expr}{Q:Bool->List AO->Loc->Prop}(h:Ok c cy (isTrue x ae (eval x ae)) H ls (MY c ae aV Q)) :
  Ok c cy (allTrue .Or (x::aV) ae) H ls Q:=λW s g e=>
 wpAny_allTrue_Or_cons (h.run g e λaK aH aU b a aD b8 aR=>by
  cases b8;cases b with|false=>show Xz (aR.1 rfl aK aH aD.here rfl) (fun  u u z=>behind aD z) fun  u u f=>f|true=>show⟨aK,aU,a9,aD,rfl,aR.2 rfl⟩)
theorem execs_nil{Q:AF->List AO->Loc->Prop}(q:Q .next H ls):Ok c aY (execs [] ae) H ls Q:=λW s g e=>Abx ⟨W,ls,_,g.good,.next,e▸q⟩
theorem execs_cons{st:Stmt}{aV:List Stmt}{Q:AF->List AO->Loc->Prop}(h:Ok c aY (exec st ae) H ls (Seq c aV ae Q)) :
  Ok c aY (execs (st::aV) ae) H ls Q:=λW s g e=>
 X7 (h.run g e λaK aH aU fl a aD b8 aR=>by
  induction b8 with|next=>show aR.tail aD|brk=>show⟨aK,aU,_,aD,.brk,aR⟩|cont=>show⟨aK,aU,_,aD,.cont,aR⟩|ret r=>show⟨aK,aU,_,aD,.ret r,aR⟩)
theorem IF{test:Expr}{aB orelse:List Stmt}{ai:Pos}{Q:AF->List AO->Loc->Prop}
  (h:Ok c cy (isTrue test ae (eval test ae)) H ls (Qs c ae aB orelse Q)) :
  Ok c aY (exec (.If test aB orelse ai) ae) H ls Q:=λW s g e=>
 wpAny_If (h.run g e λaK aH aU b a aD b8 aR=>by
  cases b8;cases b with|true=>show Xz (aR.1 rfl aK aH aD.here rfl) (fun  u u z=>behind aD z) fun  u u f=>f|false=>show Xz (aR.2 rfl aK aH aD.here rfl) (fun  u u z=>behind aD z) fun  u u f=>f)
theorem nz{x:Expr}{ai:Pos}{Q:AF->List AO->Loc->Prop}(h:Ok c VR (eval x ae) H ls (MZ Q)):Ok c aY (exec (.Return (a7 x) ai) ae) H ls Q:=λW s g e=>wpAny_Return_some (h.run g e λaK aH aU b a aD b8 aR=>⟨aK,aU,_,aD,.ret b8,aR⟩)
theorem rF{ai:Pos}{Q:AF->List AO->Loc->Prop}(q:Q (.ret .none) H ls):Ok c aY (exec (.Return a8 ai) ae) H ls Q:=λW s g e=>wpAny_Return_none ⟨W,ls,_,g.good,.ret .none,e▸q⟩
theorem Cl{ai:Pos}{Q:AF->List AO->Loc->Prop}(q:Q .brk H ls):Ok c aY (exec (.Break ai) ae) H ls Q:=λW s g e=>wpAny_Break ⟨W,ls,_,g.good,.brk,e▸q⟩
theorem uy{ai:Pos}{Q:AF->List AO->Loc->Prop}(q:Q .cont H ls):Ok c aY (exec (.Continue ai) ae) H ls Q:=λW s g e=>wpAny_Continue ⟨W,ls,_,g.good,.cont,e▸q⟩
theorem Af{test:Expr}{msg:Option Expr}{ai:Pos}{Q:AF->List AO->Loc->Prop}(h:Ok c cy (isTrue test ae (eval test ae)) H ls (Qr Q)):Ok c aY (exec (.Assert test msg ai) ae) H ls Q:=λW s g e=>wpAny_Assert_holds (h.run g e λaK aH aU b a aD b8 aR=>⟨b8.trans aR.1,aK,aU,_,aD,.next,aR.2⟩)
theorem oN{x:Str}{W:Wd}{s:Shared}{v:Value}{y:AV}{P:Unit->Shared->Prop}{E:Value->Shared->Prop}(g:Here c W s ls)(Ev:ba ae c.f)(hk:ae.kindOf x=a7 .local)(hc:c.f.cells.lookup x=a8)(r:VR W y v)
  (k:∀W' s',Good c W s W' s' (put x y ls)->W'.H=W.H->P () s'):wpAny c.M c.A (storeName ae x v) P E s:=by
 show bb g.fr.ns λm n r'=>Adc hk (by rw[Ev.loc,<-g.hh];show n) (λh' n' hs=>?_) (by show aE Ev.kind ?_;rfl);rw[Ev.loc]at n' hs;replace hs:=(g.hh).symm▸hs;show k ⟨h',W.ρ,W.H⟩ _ ⟨rfl,.sb (XN _ (.head _)) hs,g.rel.sb g.fr (.head _) hs,g.fr.sb hs r' n' hc r,⟨rfl,.refl⟩⟩ rfl
theorem xr{x:Str}{W:Wd}{s:Shared}{v:Value}{y:AV}{a:Addr}{P:Unit->Shared->Prop}{E:Value->Shared->Prop}(g:Here c W s ls)(Ev:ba ae c.f)(hk:ae.kindOf x=a7 .cell)(hc:c.f.cells.lookup x=a7 a)(r:VR W y v)
  (k:∀W' s',Good c W s W' s' (put x y ls)->W'.H=W.H->P () s'):wpAny c.M c.A (storeName ae x v) P E s:=by
 have mc:a∈c.f.cells.map (·.2):=Xr.mpr (bd (x,a) (YS hc) rfl);show xE (g.fr.cs a mc) λUB hv=>wpAny_storeName_cell Ev.kind hk (Ev.Qp _ _ hc) (by rw[<-g.hh];show hv) (λh' n' hs=>?_);rw[<-g.hh]at hs;show k ⟨h',W.ρ,W.H⟩ _ ⟨rfl,.sb (XN _ (.tail _ mc)) hs,g.rel.sb g.fr (.tail _ mc) hs,g.fr.sc hs hc n' r,⟨rfl,.refl⟩⟩ rfl
inductive Kept(ae:Env)(f:Fp)(x:Str):Prop
 |local:ae.kindOf x=a7 .local->f.cells.lookup x=a8->Kept ae f x
 |cell (a:Addr):ae.kindOf x=a7 .cell->f.cells.lookup x=a7 a->Kept ae f x
theorem store{x:Str}{W:Wd}{s:Shared}{v:Value}{y:AV}{P:Unit->Shared->Prop}{E:Value->Shared->Prop}(g:Here c W s ls)(Ev:ba ae c.f)(hk:Kept ae c.f x)(r:VR W y v)
  (k:∀W' s',Good c W s W' s' (put x y ls)->W'.H=W.H->P () s'):wpAny c.M c.A (storeName ae x v) P E s:=by
 cases hk with|«local» a b=>show oN g Ev a b r k|cell a b d=>show xr g Ev b d r k
theorem Ag{x:Str}{p ai:Pos}{value:Expr}{Q:AF->List AO->Loc->Prop}(Ev:ba ae c.f)(hk:Kept ae c.f x)(h:Ok c VR (eval value ae) H ls (Qq x Q))
  (hs:swapsWith value (a7 (.Name x p)) ai.line ae=Xj ac):Ok c aY (exec (.Assign [.Name x p] value ai) ae) H ls Q:=λW s g e=>
 Z3 (h.run g e λaK aH aU y v aD b8 aR=>store aD.here Ev hk b8 λb4 aN aF cT=>⟨b4,_,_,aD.trans aF,.next,by rw[cT];show aR⟩) hs
end
def Hid{β:Type}(Q P:β->List AO->Loc->Prop):Prop:=∀b H l,Q b H l->P b H l
theorem hide{c:Cx}{H:List AO}{ls:Loc}{α β:Type}{R:Wd->β->α->Prop}{t:Sem α}{Q:β->List AO->Loc->Prop}(h:∀P,Hid Q P->Ok c R t H ls P):Ok c R t H ls Q:=h Q fun  u u u x=>x
end
end
open PySem PySem.W PyProof.Rows
variable {c:Cx}{H:List AO}{E:Value->Shared->Prop}{n:Nat}{s:Shared}{Q:AV->List AO->Loc->Prop}{v:Value}{ai:Pos}{i:Nat}{W:Wd}{fs:List (Str×AV)}{α:Type}{vs:List Value}{A:Around}{K:Frag}{t:List Nat}{C:Addr}{x:AV}{lines:List Tx}{l':List AV}{P:Value->Shared->Prop}{aB:List Stmt}{aW:Tx}{o:AO}{h:Int}{b:Bool}{xs:List AV}{au:Arguments}{al:Scope}{aj:Value}{ae:Env}{L:Addr}{m:Pi->Option Value}{ps:Ps}{j:Nat}{fd:FuncData}{fa:Addr}{aw:Str}{r:Int}{y:AV}{p:Pos}{sl:Array (Option Value)}{h':Heap}{signs:Tx}{wd:Int}{β:Type}{ts:List (List Nat)}{q:Pi}{T:String}{td:List (Option (List Nat))}{G':Array GenState}{r1:Int}{aO:List Expr}{W':Wd}{s':Shared}{bD:Shared}{w:World}{N:Nat}{p1:Pos}{g:Nat}{p0:Pos}{eY:Pos}{ft:List Nat}{qo:List (Str×AV)}{af:Program}{h₀:Heap}{p3:Pos}{p2:Pos}{od:Option Addr}{us:List Value}
section
open PySem PySem.W PyProof.Rows
section
variable {k:Keeper}
structure cM(A:Around)(n:Nat):Prop where
 handled:A.handled=a8
 depth:A.depth+n<=900
 units:A.units+10*n<=9000
 frames:∃l,A.frames=a7 l
theorem cM.deeper(x:cM A (n+1))(ae:Env):cM (A.deeper ae) n:=⟨x.handled,by have:=x.depth;change A.depth+1+n<=900;show"L+a+b1.900L++a1b900" this,by have:=x.units;change A.units+3+10*n<=9000;show"L+a*10+b1.9000L++a3*10b9000" this,by show xE x.frames λl e=>?_;show⟨ae::l,by change A.frames.map _=_;rw[e];rfl⟩⟩
theorem cM.in1(x:cM A (n+1)):cM A.in1 n:=⟨x.handled,by have:=x.depth;change A.depth+n<=900;show YM ‹_›,by have:=x.units;change A.units+1+10*n<=9000;show"L+a*10+b1.9000L++a1*10b9000" this,x.frames⟩
theorem cM.le{m:Nat}(x:cM A n)(h:m<=n):cM A m:=⟨x.handled,by have:=x.depth;show"LabL+cb900L+ca900" h this,by have:=x.units;show"LabL+c*10b9000L+c*10a9000" h this,x.frames⟩
theorem cM.room(x:cM A n):A.depth<recursionLimit:=by have:=x.depth;change A.depth<1000;show"L+ab900Ta1000" this
noncomputable def eV(K:Frag):Value->Option Keeper
 |.ref a=>(match K.lookup a with|some ⟨_,_,.func _,_⟩=>a7 .frame|some ⟨_,_,.cls _,_⟩=>(specialIn K (.ref a) "__call__").map λr=>if r==a7 (.builtin "type.__call__")then .machine else .caller|_=>a8)
 |_=>a7 .machine
theorem Qt{M:Model}{h:Heap}(e:a7 Keeper.machine=a7 k)(p:keeperOf v=Xj Keeper.machine):Looks M h (keeperOf v) k:=by obtain rfl:=Xe e;show Aaq p
theorem dY{M:Model}{h:Heap}(x:K.In h)(e:eV K v=a7 k):Looks M h (keeperOf v) k:=by
 cases v with
 |ref a=>
  unfold eV at e;dsimp only at e;intro A Q E s k' q;cases ho:K.lookup a with
  |none=>rw[ho]at e;injection e
  |some o=>
   replace e:=ho▸e;have ho:=k' _ _ (x _ _ ho);obtain⟨_,_,da,_⟩:=o;cases da with|func f=>injection e with e;subst e;show aM (Z1 ho (GT q))|cls cd=>show bb (ZT.mp e) λr hr iO=>?_;clear e;subst iO;show aM (Z1 ho (aM (looks_specialIn (x.keeps k') hr A _ E s (fun  u u z=>z) (GT q))))|_=>injection e
 |_=>show Qt e rfl
theorem cx{M:Model}{A:Around}{E:Value->Shared->Prop}{s:Shared}{ai:Pos}{f:Value}{first:List Value}{aO:List (Bool×Sem Value)}{Q:Value->Shared->Prop}
  (wI:aO.any (·.1)=ac) (SV:∀x,aO≠[(a9,x)])
  (h:wpAny M A (spliced aO) (λvs aH=>(∃k,Looks M aH.heap (keeperOf f) k)/\wpAny M A (call f (first++vs)) Q E aH) E s) :
  wpAny M A (callWith ai f first aO []) Q E s:=by
 have he:wpAny M A (evalArgs f a9 aO []) (λa aH=>(∃k,Looks M aH.heap (keeperOf f) k)/\wpAny M A (call f (first++a.pos) a.kw) Q E aH) E s:=by
  cases aO with
  |nil=>show aM (Xz h (λvs aH aR=>?_) fun  u u z=>z);show aM (GT (XE (aM (GT (aM (GT (GT aR)))))))
  |cons y aV=>
   obtain⟨b,x⟩:=y;cases b with|true=>trivial|false=>show Calls.evalArgs_plain h
 show aM (XE (Xz he (λx aH aR=>aM (Yy ?_)) fun  u u x=>x));show xA aR ?_;clear aR;intro Az hc;obtain⟨k,hk⟩:=Az;have tail:∀{t:Sem Value},wpAny M A t Q E aH->wpAny M A (t >>= λr=>holding [r] point >>= fun  u=>pure r) Q E aH:=λht=>aM (Xz ht (λr aN hr=>aM (XE (wpAny_point (GT hr)))) fun  u u x=>x)
 show aM (hk.here (aE wI ?_));clear hk;cases k
 .skip;split
  .show tail hc
  .show tail ?_;unfold callMarked;show Calls.wpAny_keep hc
 .skip;split
  .show tail hc
  .show tail ?_;unfold callMarked;show Calls.wpAny_keep hc
 .show tail hc
 .show tail (wpAny_operateT hc)
noncomputable def mD(e:Expr):Bool:=!(e.ctorIdx==22)
theorem uX(h:aO.all mD=a9):(backTo ai (starEach aO ae)).any (·.1)=ac:=by
 induction aO with
 |nil=>rfl
 |cons e aV ih=>have h:=X9.mp (show(mD e && aV.all mD)=a9 from h);have ih:=ih h.2;have h1:=h.1;clear h;clear h;cases e<;>first|(change(ac ||_)=ac;show ih)|(show absurd h1 YX)
section
variable {ls:Loc}
noncomputable def fH(aO:List Expr):Bool:=aO.all mD
theorem dZ(h:fH aO=a9):(backTo ai (starEach aO ae)).any (·.1)=ac/\∀x,backTo ai (starEach aO ae)≠[(a9,x)]:=by have a:=uX (ae:=ae) (ai:=ai) h;show⟨a,λx e=>by rw[e]at a;injection a⟩
abbrev KCall(c:Cx)(v:Value)(Q:AV->List AO->Loc->Prop):List AV->List AO->Loc->Prop:=λxs H l=>kS c VR (λvs=>call v vs) xs H l Q
abbrev tE(c:Cx)(v:Value)(x:AV)(Q:AV->List AO->Loc->Prop):List AV->List AO->Loc->Prop:=λxs H l=>kS c VR (λvs=>call v vs) (x::xs) H l Q
abbrev Qu(c:Cx)(ae:Env)(ai:Pos)(aO:List Expr)(v:Value)(Q:AV->List AO->Loc->Prop):AV->List AO->Loc->Prop:=λx H l=>x=.val v/\Ok c bY (spliced (backTo ai (starEach aO ae))) H l (KCall c v Q)
theorem H3{func:Expr}{ai:Pos}{k:Keeper}(hp:fH aO=a9)(hk:eV c.K v=a7 k)
  (hf:Ok c VR (eval func ae) H ls (Qu c ae ai aO v Q))
  (he:eval (.Call func aO [] ai) ae=(do callWith ai (<-eval func ae) [] (backTo ai (starEach aO ae)) (backToKw ai (keywordEach [] ae)))) :
  Ok c VR (eval (.Call func aO [] ai) ae) H ls Q:=λW s g e=>by
 show Call_ (hf.run g e λaK aH aU x u aD b8 aR=>?_) he;show xA aR ?_;clear aR;intro jN aR;subst jN;cases b8;show cx (dZ hp).1 (dZ hp).2 (aR.run aD.here rfl λb4 aN cj xs vs aF dg bB=>⟨⟨k,dY (aF.hh▸aF.rel.top) hk⟩,?_⟩);show bB.tail (aD.tr aF) dg
def Meth(c:Cx)(aw:Str)(x:AV)(H:List AO)(v:Value):Prop:=∀W s u ls (P:Value×List Value->Shared->Prop) (E:Value->Shared->Prop) (pl:Sem Bool),Here c W s ls->W.H=H->VR W x u->P (v,[u]) s->wpAny c.M c.A (getMethod u aw pl) P E s
end
end
end
section
end
section
open PySem PySem.W PyProof.Rows
/-! D3 is left of a Qv own objects: lists Qw values -/
mutual
inductive Fz(H:List AO)(n:Nat):AV->AV->Prop
 |none:Fz H n .none .none
 |bool (b:Bool):Fz H n (.bool b) (.bool b)
 |int (i:Int):Fz H n (.int i) (.int i)
 |str (s:Str):Fz H n (.str s) (.str s)
 |val (v:Value):Fz H n (.val v) (.val v)
 |mt (s:Str) (sp:List Int):Fz H n (.mt s sp) (.mt s sp)
 |rI (a b k:Int):Fz H n (.rI a b k) (.rI a b k)
 |tup {l l':List AV}:iU H n l l'->Fz H n (.tup l) (.tup l')
 |fl {l l':List AV}:iU H n l l'->Fz H n (.fl l) (.fl l')
 |keep (i:Nat):i<n->Fz H n (.ref i) (.ref i)
 |lst {i:Nat} {l l':List AV}:n<=i->H[i]?=a7 (.lst l)->iU H n l l'->Fz H n (.ref i) (.fl l')
inductive iU(H:List AO)(n:Nat):List AV->List AV->Prop
 |nil:iU H n [] []
 |cons {x x':AV} {l l':List AV}:Fz H n x x'->iU H n l l'->iU H n (x::l) (x'::l')
end
def Gp(H:List AO)(n:Nat)(fs qo:List (Str×AV)):Prop:=∀x,(match qo.lookup x with|some y'=>∃y,fs.lookup x=a7 y/\Fz H n y y'|none=>fs.lookup x=a8)
inductive ze(H:List AO)(n:Nat):AO->AO->Prop
 |dead:ze H n .dead .dead
 |lst {l l':List AV}:iU H n l l'->ze H n (.lst l) (.lst l')
 |inst {C:Addr} {fs qo:List (Str×AV)}:Gp H n fs qo->ze H n (.inst C fs) (.inst C qo)
 |acc {C:Addr} {l l':List AV} {fs qo:List (Str×AV)}:iU H n l l'->Gp H n fs qo->ze H n (.acc C l fs) (.acc C l' qo)
 |it {l l':List AV}:iU H n l l'->ze H n (.it l) (.it l')
 |eI (j k:Nat):j<n->ze H n (.eI j k) (.eI j k)
 |zip (f0:Value) (i j:Nat):i<n->j<n->ze H n (.zip f0 i j) (.zip f0 i j)
def FI(x x':AV):Prop:=match x with|.str s=>x'=.str s|.int s=>x'=.int s|_=>True
theorem Fz.inv{x':AV}(r:Fz H n x x'):FI x x':=by cases r<;>first|show rfl|show trivial
def UC(H:List AO)(n:Nat)(l l':List AV):Prop:=match l with|[]=>l'=[]|x::l=>∃x' r,l'=x'::r/\Fz H n x x'/\iU H n l r
theorem iU.inv{l:List AV}(r:iU H n l l'):UC H n l l':=by
 cases r with|nil=>show rfl|cons x y=>show dU _ _ rfl x y
theorem iU.N0{f:α->AV}(hf:∀a x',Fz H n (f a) x'->x'=f a)(l:List α):∀{l':List AV},iU H n (l.map f) l'->l'=l.map f:=by
 induction l with|nil=>showλr=>r.inv|cons a l ih=>intro l' r;show bF r.inv λx' k h y z=>?_;rw[h,hf a x' y,ih z];rfl
theorem iU.D5{g:α->Str}{l:List α}:iU H n (l.map λc=>.str (g c)) l'->l'=l.map λc=>.str (g c):=iU.N0 (f:=λc=>.str (g c)) (fun  u u r=>r.inv) l
theorem iU.Ki{g:α->Int}{l:List α}:iU H n (l.map λc=>.int (g c)) l'->l'=l.map λc=>.int (g c):=iU.N0 (f:=λc=>.int (g c)) (fun  u u r=>r.inv) l
inductive lG(H:List AO)(n:Nat):List AO->List AO->Prop
 |nil:lG H n [] []
 |cons {o o':AO} {G G':List AO}:ze H n o o'->lG H n G G'->lG H n (o::G) (o'::G')
theorem lG.length{G G':List AO}(h:lG H n G G'):G'.length=G.length:=by
 induction h with|nil=>rfl|cons _ _ ih=>show congrArg Aco ih
theorem lG.get{G G':List AO}(h:lG H n G G'):∀{i:Nat} {o':AO},G'[i]?=a7 o'->∃o,G[i]?=a7 o/\ze H n o o':=by
 induction h with
 |nil=>showλe=>nomatch e
 |cons x _ ih=>
  intro i o' e;cases i with|zero=>show bd _ rfl (Xe e▸x)|succ i=>show ih e
theorem ze.own{o':AO}(x:ze H n o o')(p:Addr×Addr):own p o'=own p o:=by induction x<;>rfl
theorem lG.live{ρ:Nat->Addr×Addr}{G G':List AO}(h:lG H n G G'):∀{k:Nat},Internal.live ρ k G'=Internal.live ρ k G:=by
 induction h with|nil=>show rfl|cons x _ ih=>intro k;change Internal.own (ρ k) _++Internal.live ρ (k+1) _=Internal.own (ρ k) _++Internal.live ρ (k+1) _;rw[x.own,ih]
section
variable {H':List AO}
noncomputable def Wd.cut(W:Wd)(H':List AO):Wd:=⟨W.h,W.ρ,H'⟩
theorem k9(F:lG W.H n (W.H.take n) H'):(W.cut H').bf=live W.ρ 0 (W.H.take n):=F.live
theorem i8:W.bf=live W.ρ 0 (W.H.take n)++live W.ρ (W.H.take n).length (W.H.drop n):=by have:=oI W.ρ 0 (W.H.take n) (W.H.drop n);rw[Y7,XI]at this;show this
theorem fV(F:lG W.H n (W.H.take n) H'){a:Addr}(m:a ∉ W.bf):a ∉ (W.cut H').bf:=λz=>by rw[k9 F]at z;show m (by rw[i8 (n:=n)];show XN _ z)
def mE(W:Wd)(H':List AO)(x x':AV):Prop:=∀{v:Value},VR W x v->VR (W.cut H') x' v
def oO(W:Wd)(H':List AO)(l l':List AV):Prop:=∀{vs:List Value},bY W l vs->bY (W.cut H') l' vs
section
variable (R:Rel K W)(hn:n<=W.H.length)(F:lG W.H n (W.H.take n) H')
theorem uY:mE W H' .none .none:=λr=>by rw[show _=_ from r.inv];show .none
theorem uZ(b:Bool):mE W H' (.bool b) (.bool b):=λr=>by rw[show _=_ from r.inv];show .bool b
theorem zf(v:Value):mE W H' (.val v) (.val v):=λr=>by rw[show _=_ from r.inv];show .val v
theorem zg(b:Int):mE W H' (.int b) (.int b):=λr=>by show xE r.inv λt h=>?_;rw[h];show .int b t
theorem cut_str(b:Str):mE W H' (.str b) (.str b):=λr=>by show xE r.inv λt h=>?_;rw[h];show .str b t
include F
theorem D6(s:Str)(sp:List Int):mE W H' (.mt s sp) (.mt s sp):=λr=>by show bb r.inv λa h tz=>?_;show dt tz ?_;clear tz;intro b t p u tz;show c0 tz ?_;clear tz;intro y x n e e' m m';rw[h];show .mt e e' (fV F m) (fV F m')
theorem zh(a b c:Int):mE W H' (.rI a b c) (.rI a b c):=λr=>by show bb r.inv λa h tz=>?_;show hV tz ?_;clear tz;intro t u w e m;rw[h];show .rI e (fV F m)
theorem zj{l:List AV}(ih:oO W H' l l'):mE W H' (.tup l) (.tup l'):=λr=>by show bb r.inv λa h tz=>?_;show bV tz ?_;clear tz;intro vs rs m tz;show xE tz ?_;clear tz;intro n e;rw[h];show .tup e (fV F m) (ih rs)
theorem D7{l:List AV}(ih:oO W H' l l'):mE W H' (.fl l) (.fl l'):=λr=>by show bb r.inv λa h tz=>?_;show bV tz ?_;clear tz;intro vs rs m tz;show xE tz ?_;clear tz;intro n e;rw[h];show .fl e (fV F m) (ih rs)
include hn
theorem v4(i:Nat)(hi:i<n):mE W H' (.ref i) (.ref i):=λr=>by rw[r.inv.1];show VR.ref (W:=W.cut H') i (XB hi (Y6 (by change n=H'.length;rw[F.length,XJ,Zn hn])))
include R
theorem zk{l:List AV}(hi:n<=i)(e:W.H[i]?=a7 (.lst l))(ih:oO W H' l l'):mE W H' (.ref i) (.fl l'):=λr=>by
 show dH (R.obj i _ e) λvs k ho rs=>?_;rw[r.inv.1];show .fl (W:=W.cut H') (n:=k) ho (λz=>?_) (ih rs);rw[k9 F]at z;have nd:W.bf.Nodup:=R.nodup;rw[i8 (n:=n),Aa9]at nd;have hs:n+(i-n)=i:=Nat.add_sub_cancel' hi;show nd.2.2 _ z _ (jY.mpr (dC (i-n) (.lst l) ?_ ?_)) rfl
 ·(rw[AaW];show aE hs ?_);show e
 ·(rw[XJ];show aE (Zn hn) ?_;show aE hs ?_);show .head _
omit R hn F
theorem zl:oO W H' [] []:=λr=>by rw[show _=_ from r.inv];show .nil
theorem v5{x':AV}{l:List AV}(i1:mE W H' x x')(i2:oO W H' l l'):oO W H' (x::l) (x'::l'):=λr=>by show bF r.inv λv us h a b=>?_;rw[h];show .cons (i1 a) (i2 b)
include R hn F
theorem Fz.vr{x':AV}(f:Fz W.H n x x'):∀{v:Value},VR W x v->VR (W.cut H') x' v:=Fz.rec (motive_1:=fun  x x' u=>mE W H' x x') (motive_2:=fun  l l' u=>oO W H' l l') uY uZ zg cut_str zf (D6 F) (zh F) (fun  u=>zj F) (fun  u=>D7 F) (v4 hn F) (fun  a b u=>zk R hn F a b) zl (fun  u u=>v5) f
theorem iU.vr{l:List AV}(f:iU W.H n l l'):∀{vs:List Value},bY W l vs->bY (W.cut H') l' vs:=iU.rec (motive_1:=fun  x x' u=>mE W H' x x') (motive_2:=fun  l l' u=>oO W H' l l') uY uZ zg cut_str zf (D6 F) (zh F) (fun  u=>zj F) (fun  u=>D7 F) (v4 hn F) (fun  a b u=>zk R hn F a b) zl (fun  u u=>v5) f
end
theorem Gp.look(f:Gp W.H n fs qo)(x:Str):(match qo.lookup x with|some y'=>∃y,fs.lookup x=a7 y/\Fz W.H n y y'|none=>fs.lookup x=a8):=f x
theorem Gp.fr(R:Rel K W)(hn:n<=W.H.length)(F:lG W.H n (W.H.take n) H')(f:Gp W.H n fs qo){d:Addr}(x:nN W d fs):nN (W.cut H') d qo:=by
 show bb x ?_;clear x;intro m ns r;show bd m ns (λy=>?_);have l:=f.look y;have ry:=r y;cases q:qo.lookup y with|some z'=>rw[q]at l;show bb l ?_;clear l;intro z lz fz;rw[lz]at ry;show bb ry ?_;clear ry;intro v a b;show bd v a (fz.vr R hn F b)|none=>rw[q]at l;replace l:fs.lookup y=a8:=l;rw[l]at ry;show ry
theorem Rel.cut(R:Rel K W)(hn:n<=W.H.length)(F:lG W.H n (W.H.take n) H'):Rel K (W.cut H') where
 top:=R.top
 lim:=R.lim
 obj:=λi o' e=>by
  show bb (F.get (show H'[i]?=a7 o' from e)) λo eo x=>?_;have hi:i<n:=by have:=(Xc.mp eo).1;rw[XJ]at this;show"Ta<bcTab" this
  have r:=R.obj i o (by rw[Aba hi]at eo;show eo);induction x with
  |dead=>trivial
  |lst f=>show dH r ?_;clear r;intro vs k a b;show dC vs k a (f.vr R hn F b)
  |inst f=>show xA r ?_;clear r;intro a d;show⟨a,f.fr R hn F d⟩
  |acc f f'=>(show xA r ?_;clear r;intro pu q;obtain⟨vs,k,a,b⟩:=pu);show⟨(dC vs k a (f.vr R hn F b)),f'.fr R hn F q⟩
  |it f=>
   change pv (W.cut H') (W.ρ i).1 _;cases r with|list a b d r=>show .list (W:=W.cut H') a b (fV F d) (f.vr R hn F r)|tuple a b d r=>show .tuple (W:=W.cut H') a b (fV F d) (f.vr R hn F r)|ascii a=>rw[f.D5];show .ascii (W:=W.cut H') a|wide a=>rw[f.D5];show .wide (W:=W.cut H') a|range a=>rw[f.Ki];show .range (W:=W.cut H') a
  |eI j k hj=>show⟨by change j<H'.length;rw[F.length,XJ];show"LabTcaTc<ab" hn hj,r.2⟩
  |zip f0 j k hj hk=>show pJ r ?_;clear r;intro z z tz;show c0 tz ?_;clear tz;intro TI u v z1 z2 z3 z4;show Gi (by change j<H'.length;rw[F.length,XJ];show"LabTcaTc<ab" hn hj) (by change k<H'.length;rw[F.length,XJ];show"LabTcaTc<ab" hn hk) (eE TI u v z1 z2 (fV F z3) z4)
 apart:=λa m=>R.apart a (by rw[k9 F]at m;rw[i8 (n:=n)];show XN _ m)
 stat:=λm=>R.stat (by rw[k9 F]at m;rw[i8 (n:=n)];show XN _ m)
 nodup:=by rw[k9 F];have nd:W.bf.Nodup:=R.nodup;rw[i8 (n:=n),Aa9]at nd;show nd.1
 tab:=R.tab
end
/-! all places Qf are named lie below n -/
mutual
noncomputable def AV.gX(n:Nat):AV->Bool
 |.ref i=>i<n
 |.tup l=>dS n l
 |.fl l=>dS n l
 |_=>a9
noncomputable def dS(n:Nat):List AV->Bool
 |[]=>a9
 |x::l=>x.gX n && dS n l
end
def D8(n:Nat)(fs:List (Str×AV)):Prop:=∀x av,fs.lookup x=a7 av->av.gX n=a9
noncomputable def AO.gX(n:Nat):AO->Prop
 |.dead=>True
 |.lst l=>dS n l=a9
 |.inst _ fs=>D8 n fs
 |.acc _ l fs=>dS n l=a9/\D8 n fs
 |.it l=>dS n l=a9
 |.eI j _=>j<n
 |.zip _ i j=>i<n/\j<n
def bw(n:Nat)(H:List AO):Prop:=∀o∈H,o.gX n
mutual
theorem AV.gX.mono{m:Nat}(h:n<=m):∀{x:AV},x.gX n=a9->x.gX m=a9
 |.ref i,e=>decide_eq_true (XB (aP e) h)
 |.tup l,e=>dS.mono (l:=l) h e
 |.fl l,e=>dS.mono (l:=l) h e
 |.none,_=>rfl
 |.bool _,_=>rfl
 |.int _,_=>rfl
 |.str _,_=>rfl
 |.val _,_=>rfl
 |.mt _ _,_=>rfl
 |.rI _ _ _,_=>rfl
theorem dS.mono{m:Nat}(h:n<=m):∀{l:List AV},dS n l=a9->dS m l=a9
 |[],_=>rfl
 |x::l,e=>X9.mpr ⟨AV.gX.mono h (X9.mp e).1,dS.mono h (X9.mp e).2⟩
end
mutual
theorem Fz.refl:∀{x:AV},x.gX n=a9->Fz H n x x
 |.ref i,e=>.keep i (aP e)
 |.tup l,e=>.tup (iU.refl (l:=l) e)
 |.fl l,e=>.fl (iU.refl (l:=l) e)
 |.none,_=>.none
 |.bool b,_=>.bool b
 |.int i,_=>.int i
 |.str s,_=>.str s
 |.val v,_=>.val v
 |.mt s sp,_=>.mt s sp
 |.rI a b k,_=>.rI a b k
theorem iU.refl:∀{l:List AV},dS n l=a9->iU H n l l
 |[],_=>.nil
 |x::l,e=>.cons (Fz.refl (X9.mp e).1) (iU.refl (X9.mp e).2)
end
theorem Gp.refl(h:D8 n fs):Gp H n fs fs:=λx=>by
 cases e:fs.lookup x with|some y=>show bd y rfl (Fz.refl (h x y e))|none=>rfl
theorem ze.refl(h:o.gX n):ze H n o o:=by
 cases o with|dead=>show .dead|lst l=>show .lst (iU.refl h)|inst C fs=>show .inst (Gp.refl h)|acc C l fs=>show .acc (iU.refl h.1) (Gp.refl h.2)|it l=>show .it (iU.refl h)|eI j k=>show .eI j k h|zip f i j=>show .zip f i j h.1 h.2
theorem lG.refl:∀{G:List AO},bw n G->lG H n G G
 |[],_=>.nil
 |o::G,h=>.cons (ze.refl (h o (.head _))) (lG.refl λo' m=>h o' (.tail _ m))
theorem v6{l:List AV}(a:x.gX n=a9)(b:dS n l=a9):dS n (x::l)=a9:=X9.mpr ⟨a,b⟩
theorem VR.gX(r:VR W x v):x.gX W.H.length=a9:=VR.rec (motive_1:=fun  x u u=>x.gX W.H.length=a9) (motive_2:=fun  l u u=>dS W.H.length l=a9) rfl (fun  u=>rfl) (fun  u u=>rfl) (fun  u u=>rfl) (fun  u u u h=>h) (fun  u u u h=>h) (fun  u h=>decide_eq_true h) (fun  u=>rfl) (fun  u u u u=>rfl) (fun  u u=>rfl) rfl (fun  u u=>v6) r
theorem bY.gX{l:List AV}(r:bY W l vs):dS W.H.length l=a9:=by
 induction l generalizing vs with|nil=>rfl|cons x l ih=>show bF r.inv fun  v us u a b=>v6 a.gX (ih b)
theorem nN.gX{d:Addr}(x:nN W d fs):D8 W.H.length fs:=λy av e=>by
 show bb x ?_;clear x;intro m u r
 have:=r y;rw[e]at this;show bb this ?_;clear this;intro v u q;show q.gX
theorem cN{g:α->AV}:∀{l:List α},(∀a∈l,(g a).gX n=a9)->dS n (l.map g)=a9:=by
 intro zz;induction zz with|nil=>show fun  u=>rfl|cons a l ih=>showλh=>X9.mpr ⟨h a (.head _),ih λb m=>h b (.tail _ m)⟩
theorem Rel.closed(R:Rel K W):bw W.H.length W.H:=λo m=>by
 obtain⟨i,hi,e⟩:=Zo m;have O:=R.obj i o (by(show aE (Xk hi) ?_;show aE e rfl));cases o with
 |dead=>trivial
 |lst l=>show dH O ?_;clear O;intro u u u r;show r.gX
 |inst C fs=>show O.2.gX
 |acc C l fs=>(show xA O ?_;clear O;intro Az f;obtain⟨_,_,_,r⟩:=Az);show⟨r.gX,f.gX⟩
 |it l=>
  change pv W (W.ρ i).1 l at O;induction O with|list _ _ _ r=>show r.gX|tuple _ _ _ r=>show r.gX|ascii _=>show cN fun  u u=>rfl|wide _=>show cN fun  u u=>rfl|range _=>show cN fun  u u=>rfl
 |eI j k=>show O.1
 |zip f j k=>show⟨O.1,O.2.1⟩
theorem AO.gX.mono{m:Nat}(h:n<=m)(x:o.gX n):o.gX m:=by
 cases o with|dead=>trivial|lst l=>show dS.mono h x|inst C fs=>showλy av e=>AV.gX.mono h (x y av e)|acc C l fs=>show⟨dS.mono h x.1,λy av e=>AV.gX.mono h (x.2 y av e)⟩|it l=>show dS.mono h x|eI j k=>show XB x h|zip f j k=>show⟨XB x.1 h,XB x.2 h⟩
theorem bw.set(h:bw n H)(ho:o.gX n)(i:Nat):bw n (H.set i o):=λo' m=>by
 rcases List.mem_or_eq_of_mem_set m with m|rfl
 .show h _ m
 .show ho
theorem bw.append{G:List AO}(h:bw n H)(g:bw n G):bw n (H++G):=λo m=>(Xl.mp m).elim (h o) (g o)
structure Done(n:Nat)(H:List AO)(x:AV)(H':List AO)(x':AV):Prop where
 len:n<=H.length
 objs:lG H n (H.take n) H'
 res:Fz H n x x'
noncomputable def IQ:AF->AV
 |.ret x=>x
 |_=>.none
abbrev ka(cD:Nat)(Q:AV->List AO->Prop):AF->List AO->Loc->Prop:=fun  fl d7 u=>∃n' H' x',cD<=n'/\Done n' d7 (IQ fl) H' x'/\Q x' H'
abbrev Kj(cD:Nat)(Q:AV->List AO->Prop):AV->List AO->Loc->Prop:=fun  y d7 u=>∃n' H' x',cD<=n'/\Done n' d7 y H' x'/\Q x' H'
theorem aY.val{fl:AF}{f:Flow}(r:aY W fl f):VR W (IQ fl) (match(generalizing:=false) f with|.ret v=>v|_=>.none):=by
 induction r with|ret z=>show z|_=>show .none
inductive Ends(K:Frag)(W:Wd)(s:Shared)(Q:AV->List AO->Prop)(r:Result)(s':Shared):Prop
 |mk (v:Value) (W':Wd) (x:AV):r=.ok (.ret v)->W'.h=s'.heap->Step (bp K) W W'->Rel K W'->VR W' x v->Sh s s'->Q x W'.H->Ends K W s Q r s'
theorem Ends.leave{b4:Wd}{s aH aN:Shared}{cj:Loc}{Q:AV->List AO->Prop}{n':Nat}{H':List AO}{x x':AV}{v:Value}(k:∀b o,W.h.get? b=a7 o->h₀.get? b=a7 o)(fr:∀a∈c.f.ad,W.h.get? a=a8)
  (G:Good c ⟨h₀,W.ρ,W.H⟩ aH b4 aN cj) (sh:Sh s aN) (hn:W.H.length<=n') (D:Done n' b4.H x H' x') (rv:VR b4 x v) (hq:Q x' H'):Ends c.K W s Q (.ok (.ret v)) aN:=
 .mk v (b4.cut H') x' rfl G.hh ⟨by change W.H.length<=H'.length;rw[D.objs.length,XJ,Zn D.len];show hn,G.st.agree,λa o e m nt=>
  have z:=G.st.keep a o (k a o e) m λz=>(Xl.mp z).elim (λz=>nomatch (fr a z).symm.trans e) nt
  ⟨z.1,fV D.objs z.2⟩⟩ (G.rel.cut D.len D.objs) (D.res.vr G.rel D.len D.objs rv) sh hq
theorem Rel.free(hh:W.h=s.heap):∀a∈(⟨s.heap.objs.size,[]⟩:Fp).ad,W.h.get? a=a8:=λa m=>by
 rw[Xh.mp m,hh];cases q:s.heap.get? s.heap.objs.size with|none=>rfl|some o=>show absurd (XF q) (XM _)
theorem Here.enter{af:Program}{w:World}{A':Around}{m:Str->Option Value}{t:Nat}{ls:Loc}(ht:0<t)(hh:W.h=s.heap)(R:Rel K W)(k:∀b o,W.h.get? b=a7 o->h₀.get? b=a7 o)
  (cD:h₀.Ns s.heap.objs.size m) (Kk:∀x av,ls.lookup x=a7 av->∃v,m x=a7 v/\VR W av v):Here ⟨af,w,K,A',⟨s.heap.objs.size,[]⟩⟩ ⟨h₀,W.ρ,W.H⟩ { s with heap:=h₀,toks:=t } ls:=
 ⟨rfl,R.up k,⟨⟨m,cD,fun  x av e u=>bb (Kk x av e) λv a b=>⟨v,a,b.mono (bQ.up k)⟩⟩,fun  u u u u e=>(nomatch e),fun  u e=>(Xy e).elim,X3.mpr ⟨Xy,.nil⟩,
  λa m=>by rw[Xh.mp m];show hh▸R.fresh,λa m=>by rw[Xh.mp m];show hh▸R.xq,λm=>bb R.lim fun  mc nc u=>XM _ (by
   have:=nc.lt
   rwa[Xh.mp m,hh]at this)⟩,ht⟩
theorem cX{x y:Str}{v:α}{l:List (Str×α)}(h:x≠y):((y,v)::l).lookup x=l.lookup x:=by rw[YK,beq_eq_false_iff_ne.mpr h]
theorem jn{x:Str}{v:α}{l:List (Str×α)}:((x,v)::l).lookup x=a7 v:=by rw[YK,BEq.rfl]
section
theorem H4{fa:Addr}{fd:FuncData}{aB:List Stmt}{oc:Value}{od:Option Addr}{nu:Array (Option Value)}{n:Nat}{W:Wd}{s:Shared}{xs:List AV}{vs:List Value}{ls:Loc}{bs:List (Str×Value)}{Q:AV->List AO->Prop}
  (hA:cM A (n+1)) (hK:K.lookup fa=a7 ⟨oc,od,.func fd,nu⟩) (hb:fd.body=.stmts aB) (pK:codeIn K fd.code fd.qualname=a9)
  (D9:fd.globals=mainGlobals) (Kl:fd.builtins=builtinsNs) (cr:∀x∈fd.scope.names,x.2≠.cell)
  (iP:fd.scope.isCoroutine=ac) (fv:fd.scope.isGenerator=ac) (hk:fd.scope.kind=.function)
  (tk:0<s.toks) (hh:W.h=s.heap) (R:Rel K W) (fW:BindsTo s fd ⟨vs,[]⟩ bs) (fx:∀x∈bs,fd.scope.names.lookup x.1=a7 .local)
  (Kk:∀x av,ls.lookup x=a7 av->∃v,bs.reverse.lookup x=a7 v/\VR W av v)
  (h:∀L,cM (A.deeper (callEnv fd L fa)) n->ba (callEnv fd L fa) ⟨L,[]⟩->bw W.H.length W.H->Ok ⟨af,w,K,A.deeper (callEnv fd L fa),⟨L,[]⟩⟩ aY (execs aB (callEnv fd L fa)) W.H ls (ka W.H.length Q)) :
  codeAny (model af w) A (.call (.ref fa) ⟨vs,[]⟩) (Ends K W s Q) s:=by
 have ho:s.heap.get? fa=a7 ⟨oc,od,.func fd,nu⟩:=hh▸R.top _ _ hK;show codeAny_call_def (fd:=fd) (body:=aB) (binds:=bs) hA.room ho rfl (hh▸R.lim) (AcT (hh▸R.top) pK) hb fW cr fx (λh₀ cD tF=>?_) iP fv hk;have hE:ba (callEnv fd s.heap.objs.size fa) ⟨s.heap.objs.size,[]⟩:=⟨hk,rfl,fun  u u e=>by trivial,D9,Kl⟩
 have k₁:∀b o,W.h.get? b=a7 o->h₀.get? b=a7 o:=λb o e=>tF b o (hh▸e);show(h s.heap.objs.size (hA.deeper _) hE R.closed).run (Here.enter (XB tk (Yd _ _)) hh R k₁ cD Kk) rfl λb4 aN cj fl f G r q=>g8 q λn' H' x' Km D hq=>Ends.leave k₁ (Rel.free hh) G.toGood G.sh Km D r.val hq
def bk(c:Cx)(f:Value)(xs:List AV)(H:List AO)(Q:AV->List AO->Prop):Prop:=∀W s vs,0<s.toks->W.h=s.heap->Rel c.K W->W.H=H->bY W xs vs->codeAny c.M c.A (.call f ⟨vs,[]⟩) (Ends c.K W s Q) s
theorem Ends.good{ls:Loc}{Q:AV->List AO->Prop}{r:Result}(g:Here c W s ls)(h:Ends c.K W s Q r s'):∃v W' x,r=.ok (.ret v)/\Good c W s W' s' ls/\VR W' x v/\Q x W'.H:=by
 obtain⟨v,W',x,hr,hh,st,rel,vr,sh,q⟩:=h;have M:bQ W W':=st.mono g.rel.iB;have nt:∀a∈c.f.ad,a ∉ bp c.K:=λa m z=>by show bb (Xr.mp z) λp hp jN=>?_;clear z;subst jN;show bV (g.rel.tab p hp) fun  ps u t u=>bb (g.fr.oK _ m) λo e q=>?_;replace e:=t.2▸e;cases e;cases q
 have keep:∀a∈c.f.ad,W'.h.get? a=W.h.get? a/\a ∉ W'.bf:=λa m=>by show xE (g.fr.there a m) λo eo=>?_;have z:=st.keep a o eo (g.fr.cH a m) (nt a m);show⟨by rw[z.1,eo],z.2⟩
 show eE v W' x hr ⟨hh,⟨st.len,st.agree,λa o e m q=>st.keep a o e m λz=>q (X6 _ z)⟩,rel,g.fr.mono M (λa m=>(keep a m).1) λa m=>(keep a m).2,sh⟩ vr q
theorem bK{f:Value}{ls:Loc}(h:bk c f xs H λx H'=>Q x H' ls):kS c VR (λvs=>call f vs) xs H ls Q:=λW s vs g e r=>
 YD (Yr (h W s vs g.tk g.hh g.rel e r) λr s' z=>by show c0 (Ends.good g z) λv W' x hr G vr q=>?_;clear z;subst hr;show⟨W',ls,x,G,vr,q⟩)
theorem bk.mono{f:Value}{Q Q':AV->List AO->Prop}(h:bk c f xs H Q)(k:∀x H',Q x H'->Q' x H'):bk c f xs H Q':=λW s vs tk hh R e r=>Yr (h W s vs tk hh R e r) λr s' z=>by obtain⟨v,W',x,a1,a2,a3,a4,a5,a6,q⟩:=z;show⟨v,W',x,a1,a2,a3,a4,a5,a6,k _ _ q⟩
end
inductive iX(K:Frag)(C:Addr):Prop
 |obj:findIn K (.ref C) "__getattribute__" = a7 (a7 (.builtin "object.__getattribute__"))->findIn K (.ref C) "__getattr__" = a7 a8->iX K C
 |lst:findIn K (.ref C) "__getattribute__" = a7 (a7 (.builtin "list.__getattribute__"))->findIn K (.ref C) "__getattr__" = a7 a8->mroIn K C (.type "list")=a7 a9->iX K C
theorem iX.hook(h:iX K C):findIn K (.ref C) "__getattr__" = a7 a8:=by
 cases h with|obj _ b=>show b|lst _ b _=>show b
theorem iX.UD(h:iX K C):∃g,findIn K (.ref C) "__getattribute__" = a7 (a7 (.builtin g))/\(Manifest.canonical g != "object.__getattribute__")=ac:=by
 cases h with|obj a _=>show bd _ a PySem.F.canon_object_ga|lst a _ _=>show bd _ a PySem.canon_list_getattribute
section
variable {x:Addr}{ox:Obj}{od:Option Obj}{expr:Bool}{Q:Value->Shared->Prop}{pl:Sem Bool}
theorem zm{f tf:Value}{P:Value×List Value->Shared->Prop}(X:K.In s.heap)(I:InstAt s.heap x ox C od)(G:iX K C)(hf:findIn K (.ref C) aw=a7 (a7 f))(ht:typeIn K f=a7 tf)
  (UE:(tf != .type "function" && tf != .type "method_descriptor" && tf != .type "wrapper_descriptor")=ac) (hs:shadowIn od aw=a7 ac) (h:P (f,[.ref x]) s):wpAny (model af w) A (getMethod (.ref x) aw pl) P E s:=by
 show bb G.UD λg Qx Qy=>?_;unfold getMethod specialOf;show Xb (Xb (I.type.here ((Zh X Qx).here ?_)));dsimp only;show aE Qy ?_;rw[aI (by decide)];show Xb (Xb (I.type.here ((Zh X G.hook).here (Xb (Xb (I.type.here ((Zh X hf).here (Xb ((looks_typeIn X ht).here ?_)))))))));rw[aI (by rw[UE];decide)];show Xb (Zx I.at_ ?_);have hd:=I.dict;cases e:ox.dict with
 |none=>show Xb (Zj (GT h))
 |some dx=>
  cases od with|none=>replace hd:=e▸hd;show hd.elim|some o=>rw[e]at hd;show bb (ZT.mp hs) λr a b=>Xb (Xb (Zx hd (aE (nsLook_of a) (GT (aE b (aM (Zj (GT h))))))))
theorem xt{id n:String}{B:Builtin}{Q:Value->Shared->Prop}{E:Value->Shared->Prop}(hk:builtinKind id=a7 .slot\/builtinKind id=a7 .method)(hs:splitId id=a7 ("list",n)) (plain:plainId id=a9) (entry:entryFor table id=a7 B) (aO:argsOk id ⟨v::vs,[]⟩)
  (inst:Looks (model af w) s.heap (isInstance v (.type "list")) a9) (h:wpAny (model af w) A.in1 (B ⟨v::vs,[]⟩) (λfin s'=>∃r,fin=.done (.ret r)/\Q r s') E s):wpAny (model af w) A (call (.builtin id) (v::vs)) Q E s:=by
 show YD (X5 plain entry ?_);have aB:wpAny (model af w) A.in1 (B ⟨v::vs,[]⟩) (λfin s'=>match fin with
   |.done f=>(match(Adp f:Result)with|.ok (.ret v)=>Q v s'|.ok _=>False|.error e=>E e s')
   |.again c'=>c'.quiet=a9/\codeAny (model af w) A c' (λr s'=>match r with|.ok (.ret v)=>Q v s'|.ok _=>False|.error e=>E e s') s') (λe s'=>E e s') s:=
  Xz h (λfin s' ⟨r,e,q⟩=>by subst e;show q) fun  u u x=>x
 rcases hk with hk|hk
 .show AcU hk hs inst aO aB
 .rw[checkBuiltinCall,hk,hs];show Xb (inst.here ?_);cases xu:Y1 id with|none=>show GT aB|some sig=>simp only[argsOk,xu]at aO;have h2:ZS id sig ⟨v::vs,[]⟩=Xj ():=aO;change wpAny _ _ (ZS id sig ⟨v::vs,[]⟩) _ _ s;show aE h2 ?_;show GT aB
theorem AA(X:K.In s.heap)(I:InstAt s.heap x ox C od)(hm:mroIn K C (.type "list")=a7 a9):Looks (model af w) s.heap (isInstance (.ref x) (.type "list")) a9:=I.type.andThen (Zy X hm)
theorem v7(X:K.In s.heap)(I:InstAt s.heap x ox C od)(Qx:findIn K (.ref C) "__getattribute__" = a7 (a7 (.builtin "list.__getattribute__"))) (hh:findIn K (.ref C) "__getattr__" = a7 a8) (hm:mroIn K C (.type "list")=a7 a9)
  (h:wpAny (model af w) A.in1 (Builtin.«object.__getattribute__» ⟨[.ref x,.str aw s.toks],[]⟩) (λfin s'=>∃r,fin=.done (.ret r)/\wpAny (model af w) A (handedOut r) Q E s') (fun  u u=>False) { s with toks:=s.toks+1 }) :
  wpAny (model af w) A (getAttr (.ref x) aw expr) Q E s:=by
 obtain⟨hp,g,d,t,os⟩:=s;have L0:=I.type (M:=model af w);have L1:=Zh (M:=model af w) X Qx;have L2:=Zh (M:=model af w) X hh;unfold getAttr getAttrBy;show aM (Abw (XE (aM (L0.at (aM (L1.at ?_))))));change wpAny _ _ (getAttrByItsOwn _ _ _ _ _ _) _ _ _;unfold getAttrByItsOwn;show aM (m:=hookBefore (.ref C)) (show wpAny _ _ (typeLookup (.ref C) "__getattr__") _ _ _ from L2.at (aM (Z2 ?_)));change wpAny _ _ (holding [] (callGetattribute _ _ _ _)) _ _ _;show XE ?_;unfold callGetattribute;rw[aI (by cases expr<;>show ne_true_of_eq_false rfl)];unfold boundAndCalled;show aM (XX (F.slot_list_getattribute.bind _) (xt (.inl (by decide +kernel)) (n:="__getattribute__") (by decide +kernel) F.slot_list_getattribute.plain F.entry_list_ga (F.args_list_getattribute_2 _ _) (AA X I hm) ?_));show Xz h (λfin s' z=>z) fun  u u z=>z.elim
theorem iX.value(G:iX K C)(X:K.In s.heap)(I:InstAt s.heap x ox C od)(hf:findObj K C od aw=a7 (.value v))(hh:handedIn v=a9)(h:Q v { s with toks:=s.toks+1 }):wpAny (model af w) A (getAttr (.ref x) aw expr) Q E s:=by
 cases G with|obj a b=>show get_value X I a hf hh h|lst a b m=>show v7 X I a b m ?_;obtain⟨hp,g,d,t,os⟩:=s;have L0:=I.type (M:=model af w);have L1:=looks_find (M:=model af w) X I hf;unfold Builtin.«object.__getattribute__»;show aM (GT (aM (GT (aM (L0.at (aM (L1.at (GT (bd v rfl ?_)))))))));show aE (Adf hh) ?_;show GT h
theorem iX.bind{g a:Value}(G:iX K C)(X:K.In s.heap)(I:InstAt s.heap x ox C od)(hf:findObj K C od aw=a7 (.bind g a))
  (h:∀A,wpAny (model af w) A (call g [a,.ref x,.ref C]) (λv s'=>∀A,wpAny (model af w) A (handedOut v) Q E s') (fun  u u=>False) { s with toks:=s.toks+1 }) :
  wpAny (model af w) A (getAttr (.ref x) aw expr) Q E s:=by
 cases G with|obj p b=>show get_bind X I p hf b (Xz (h _) (fun  u u z=>z _) fun  u u z=>z.elim)|lst p b m=>show v7 X I p b m ?_;obtain⟨hp,gg,d,t,os⟩:=s;have L0:=I.type (M:=model af w);have L1:=looks_find (M:=model af w) X I hf;unfold Builtin.«object.__getattribute__»;show aM (GT (aM (GT (aM (L0.at (aM (L1.at ?_)))))));change wpAny _ _ (holding [a] (call g [a,.ref x,.ref C]) >>= ret) _ _ _;show aM (XE (Xz (h _) (λv s' z=>GT (bd v rfl (z _))) fun  u u z=>z.elim))
end
section
variable {m:Str->Option Value}{W:Wd}{i:Nat}{o:AO}{C:Addr}{fs:List (Str×AV)}
theorem zn{h:Heap}{d:Addr}(n:h.Ns d m):∃o,h.get? d=a7 o/\∀x,lookIn x o=a7 (m x):=by
 show c0 n λo es ep e dd sk r=>bd o e (λx=>?_);unfold lookIn;show aE dd ?_;dsimp only;have hr:=r x;unfold nsFind findBy at hr;rw[<-Array.find?_toList]at hr;cases q:es.toList.find? (λe=>e.key.isStr x)with
 |some en=>rw[q]at hr;show congrArg a7 hr
 |none=>
  rw[q]at hr;have:es.toList.any (·.refKey)=ac:=by rw[List.any_eq_false];intro en hm;show IG (sk en (by simpa using hm)) λnm t hk=>?_;simp[DictEntry.refKey,hk]
  simp only[this,ZV,if_false];show congrArg a7 hr
noncomputable def eN:AO->Option (Addr×List (Str×AV))
 |.inst C fs=>a7 (C,fs)
 |.acc C _ fs=>a7 (C,fs)
 |_=>a8
noncomputable def s8(fs:List (Str×AV)):AO->AO
 |.inst C _=>.inst C fs
 |.acc C l _=>.acc C l fs
 |o=>o
theorem dA(x:iN W i o)(h:eN o=a7 (C,fs)) :
  ∃ox od m,InstAt W.h (W.ρ i).1 ox C (a7 od)/\ox.dict=a7 (W.ρ i).2/\W.h.Ns1 (W.ρ i).2 m/\(∀y,lookIn y od=a7 (m y))/\∀y,(match fs.lookup y with|some av=>∃v,m y=a7 v/\VR W av v|none=>m y=a8):=by
 revert W i o C fs;delta W i o C fs;intro x h;cases o with|inst C' qo=>cases h;show xA x λe tz=>?_;show bb tz ?_;clear tz;intro m n r;show bb (zn n.ns) λod eo lk=>mw _ od m ⟨e,rfl,rfl,eo⟩ rfl n lk r|acc C' l qo=>cases h;show xA x λpu tz=>?_;show bb tz ?_;clear tz;intro m n r;obtain⟨vs,k,e,_⟩:=pu;show bb (zn n.ns) λod eo lk=>mw _ od m ⟨e,rfl,rfl,eo⟩ rfl n lk r|_=>trivial
section
variable {c:Cx}{H:List AO}{ls:Loc}{ae:Env}
theorem tG{f:Addr}(hi:H[i]?=a7 o)(ho:eN o=a7 (C,fs))(hg:iX c.K C)(hf:findIn c.K (.ref C) aw=a7 (a7 (.ref f)))(ht:isFn c.K (.ref f)=a9)
  (hl:fs.lookup aw=a8):Meth c aw (.ref i) H (.ref f):=λW s u l P E pl g e r p=>by
 cases r;have X:c.K.In s.heap:=g.hh▸g.rel.top;show fQ (dA (g.rel.obj i o (by show aE e ?_;show hi)) ho) fun  ox od m I z z lk q=>?_;rw[g.hh]at I;have qn:=q aw;rw[hl]at qn;show zm X I hg hf (beq_iff_eq.mp ht) (by decide +kernel) (by change(lookIn aw od).map _=_;rw[lk,qn];rfl) p
theorem Da{id:String}(hi:H[i]?=a7 o)(ho:eN o=a7 (C,fs))(hg:iX c.K C)(hf:findIn c.K (.ref C) aw=a7 (a7 (.builtin id)))
  (ht:typeIn c.K (.builtin id)=a7 (.type "method_descriptor")) (hl:fs.lookup aw=a8):Meth c aw (.ref i) H (.builtin id):=λW s u l P E pl g e r p=>by
 cases r;have X:c.K.In s.heap:=g.hh▸g.rel.top;show fQ (dA (g.rel.obj i o (by show aE e ?_;show hi)) ho) fun  ox od m I wJ z lk q=>?_;rw[g.hh]at I;have qn:=q aw;rw[hl]at qn;show zm X I hg hf ht (by decide +kernel) (by change(lookIn aw od).map _=_;rw[lk,qn];rfl) p
theorem Gz{value:Expr}{attr:Str}{ai:Pos}(h:Ok c VR (eval value ae) H ls (K1 c VR (λv=>getAttr v attr a9) Q))
  (he:eval (.Attribute value attr ai) ae=(do
   let o <-eval value ae
   standAt ai.atName
   let r <-holding [o] (getAttr o attr a9)
   letTemporaryGo value o r
   pure r)):Ok c VR (eval (.Attribute value attr ai) ae) H ls Q:=λW s g e=>
 Aa4 (h.run g e λaK aH aU x v aD b8 aR=>aR.tail aD b8) he
noncomputable def AV.handed:AV->Bool
 |.val v=>handedIn v
 |_=>a9
theorem VR.handed(r:VR W x v)(h:x.handed=a9):handedIn v=a9:=by cases r<;>first|rfl|show h
theorem Db{aw:Str}{av:AV}{attr:Option Value}{ex:Bool}{Q:AV->List AO->Loc->Prop}(hi:H[i]?=a7 o)(ho:eN o=a7 (C,fs))(hg:iX c.K C)
  (hh:hasDictIn c.K C=a9) (ha:findIn c.K (.ref C) aw=a7 attr) (hn:noGet c.K attr=a9) (hl:fs.lookup aw=a7 av) (hv:av.handed=a9) (q:Q av H ls):pz c VR (λv=>getAttr v aw ex) (.ref i) H ls Q:=λW s u g e r=>by
 cases r;have X:c.K.In s.heap:=g.hh▸g.rel.top;show fQ (dA (g.rel.obj i o (by show aE e ?_;show hi)) ho) fun  ox od m I z z lk qq=>?_;rw[g.hh]at I;have qn:=qq aw;rw[hl]at qn;show bb qn λv hm rv=>hg.value X I (findObj_own hh ha hn (by rw[lk,hm])) (rv.handed hv) ⟨W,ls,av,g.tok _,rv,e▸q⟩
abbrev N1(c:Cx)(attr:Str)(Q:AF->List AO->Loc->Prop)(y:AV):AV->List AO->Loc->Prop:=λx H l=>lF c jF (λv u=>setAttr v attr u) x y H l (zd Q)
theorem rG{ob value:Expr}{attr:Str}{p ai:Pos}{Q:AF->List AO->Loc->Prop}(h:Ok c VR (eval value ae) H ls (KE c ae ob (N1 c attr Q)))
  (hs:swapsWith value (a7 (.Attribute ob attr p)) ai.line ae=Xj ac):Ok c aY (exec (.Assign [.Attribute ob attr p] value ai) ae) H ls Q:=λW s g e=>
 AaB (h.run g e λaK aH aU y u aD b8 aR=>aR.run aD.here rfl λb4 aN cj x v aF dg bB=>Xz (bB b4 aN v u aF.here rfl dg (aF.vr aD.here b8)) (λ_ _ ⟨b7,d5,b,aT,_,q⟩=>⟨b7,d5,_,aD.trans (aF.trans aT),.next,q⟩) fun  z z f=>f) hs
theorem AB(h:eN o=a7 (C,fs))(p:Addr×Addr):own p o=[p.1,p.2]:=by cases o<;>first|rfl|show nomatch h
theorem s9(fs:List (Str×AV))(o:AO)(p:Addr×Addr):own p (s8 fs o)=own p o:=by cases o<;>rfl
theorem iN.Qz(OR:iN W i o)(ho:eN o=a7 (C,fs))(M:bQ W W')(nO:W'.ρ i=W.ρ i)(k:W'.h.get? (W.ρ i).1=W.h.get? (W.ρ i).1)(FL:nN W' (W'.ρ i).2 qo):iN W' i (s8 qo o):=by
 rw[<-nO]at k;cases o with|inst C' qo=>show⟨k.trans (nO.symm▸OR.1),FL⟩|acc C' l' qo=>show⟨OR.1.elim λvs h=>h.elim λn h=>(dC vs n (k.trans (nO.symm▸h.1)) (h.2.mono M)),FL⟩|_=>show nomatch ho
theorem iN.ne(OR:iN W i o)(ho:eN o=a7 (C,fs)):(W.ρ i).2≠(W.ρ i).1:=λz=>by
 have key:∀{ob:Obj} {m:Str->Option Value},W.h.get? (W.ρ i).1=a7 ob->W.h.Ns (W.ρ i).2 m->soft ob=ac->False:=λe n q=>by show g8 n fun  u u u e2 d2 u=>?_;rw[z,e]at e2;obtain rfl:=Xe e2;unfold soft at q;rw[d2]at q;show XA q
 cases o with|inst C' qo=>show OR.2.elim λm h=>key OR.1 h.1.ns rfl|acc C' l' qo=>show OR.2.elim λm h=>OR.1.elim λvs h1=>h1.elim λn h1=>key h1.1 h.1.ns rfl|_=>show nomatch ho
theorem nN.put{d:Addr}{fs:List (Str×AV)}{m:Str->Option Value}{u:Value}(M:bQ W W')(n:W'.h.Ns1 d (λz=>if z=aw then a7 u else m z))(ry:VR W y u)
  (qq:∀y,(match fs.lookup y with|some av=>∃v,m y=a7 v/\VR W av v|none=>m y=a8)):nN W' d (put aw y fs):=by
 show bd _ n (λz=>?_);rw[eS];have qz:=qq z;by_cases hz:z=aw
 .rw[aQ (aQ ‹_›),aQ hz];show bd u rfl (ry.mono M)
 .rw[aI (by simpa using hz),aI hz];clear n ry hz;cases l:fs.lookup z with|some av=>rw[l]at qz;show qz.imp λv h=>⟨h.1,h.2.mono M⟩|none=>rw[l]at qz;show qz
theorem xw{u:Value}(qq:∀y,(match fs.lookup y with|some av=>∃v,m y=a7 v/\VR W av v|none=>m y=a8)):Within (λx=>if x=aw then a7 u else m x) (aw::fs.map (·.1)):=
 Within.cons aw u λz hz=>by
  have qz:=qq z;cases l:fs.lookup z with|some av=>show Xr.mpr (bd (z,av) (YS l) rfl)|none=>rw[l]at qz;show absurd qz hz
theorem Dc{af:Program}{w:World}{K:Frag}{A:Around}{s:Shared}{x C d:Addr}{ox od:Obj}{u:Value}{aw:Str}{Q:Unit->Shared->Prop}{E:Value->Shared->Prop}{cd:ClassData}{m:Str->Option Value}{names:List Str}(X:K.In s.heap)(I:InstAt s.heap x ox C od)
  (hs:findIn K (.ref C) "__setattr__" = a7 (a7 (.builtin "object.__setattr__"))) (hc:clsIn K C=a7 cd) (v8:mroIn K C (.type "object")=a7 a9) (AC:∀self,refuseLoop self "__setattr__" cd.mro=Xj ())
  (ht:takerIn K C aw=a7 a8) (hh:cd.hasDict=a9) (hz:names.length<=2000) (wi:Within (λx=>if x=aw then a7 u else m x) names) (wJ:ox.dict=a7 d) (n:s.heap.Ns1 d m)
  (q:∀h',h'.Ns1 d (λy=>if y=aw then a7 u else m y)->XZ d s.heap h'->∀t,Q () { s with heap:=h',toks:=t }):wpAny (model af w) A (setAttr (.ref x) aw u) Q E s:=by
 revert af w K A s x C d ox od u aw Q E cd m names;delta af w K A s x C d ox od u aw Q E cd m names;intro X I hs hc v8 AC ht hh hz wi wJ n q;show set_plain X I hs ?_;have SF:=AbD;have sub:Looks (model af w) s.heap (isInstance (.ref x) (.type "object")) a9:=I.type.andThen (Zy X v8);show X5 SF.slot.plain SF.entry (@AcU (model af w) _ _ _ "object.__setattr__" "object" "__setattr__" (.ref x) [.str aw s.toks,u] [] _ SF.kind SF.split sub (SF.args (.ref x) (.str aw s.toks) u) ?_);clear hs sub v8 SF;show bb (YE.mp ht) λattr ha hr=>?_;revert attr;delta attr;intro ha hr;have hm:Looks (model af w) s.heap (mroOf (.ref C)) cd.mro:=(AbO X hc).andThen .now;have L3:Looks (model af w) s.heap (Aci attr) a8:=by
  clear q wi n wJ hm AC ha ht;cases attr with
  |none=>show .now
  |some a=>
   show bb (ZT.mp hr) λb hb UF=>(looks_takesIn X hb).andThen ?_;cases b with|true=>show nomatch UF|false=>show .now
 rw[osa_eq,refuse_eq];show Xb (Xb (I.type.at (Xb (hm.at ?_))));rw[AC];show GT (aM (I.type.at (aM ((Zh X ha).at (aM (L3.at ?_))))));obtain⟨hx,gL,hn,SW⟩:=I;obtain⟨oc,odi,oda,nu⟩:=ox;dsimp only at gL wJ;clear SW ht hr L3 hm ha;clear hn;subst gL wJ;show Xb (GT (Xb (Xb (Zx hx (Xb ((AbO X hc).at (aE hh (GT (a:=a7 d) (aM (GT (aM (wpAny_nsSet1 n λh' n' oP=>g8 (n'.count wi) λo3 UG UH e3 d3 z3=>aM (wpAny_lookBehind (o:=o3) e3 (by rw[d3];show pastItsLine_dict (by change _<=2 ^ 24+1;show"La2000LbaLb+16777216.1" hz z3)) ?_)))))))))))));show GT (q h' n' oP _)
theorem AD{cd:ClassData}{aw:Str}{y:AV}{Q:Unit->List AO->Loc->Prop}(hi:H[i]?=a7 o)(ho:eN o=a7 (C,fs))
  (hs:findIn c.K (.ref C) "__setattr__" = a7 (a7 (.builtin "object.__setattr__"))) (hc:clsIn c.K C=a7 cd) (v8:mroIn c.K C (.type "object")=a7 a9) (AC:∀self,refuseLoop self "__setattr__" cd.mro=Xj ())
  (ht:takerIn c.K C aw=a7 a8) (hh:cd.hasDict=a9) (hz:fs.length<=1000) (q:Q () (H.set i (s8 (put aw y fs) o)) ls):lF c jF (λv u=>setAttr v aw u) (.ref i) y H ls Q:=λW s v u g e r ry=>by
 subst e;apply VR.lT r;intro j;have OR:=g.rel.obj i o hi;show fQ (dA OR ho) λox od m I wJ n lk qq=>?_;rw[g.hh]at I n;show Dc (g.hh▸g.rel.top) I hs hc v8 AC ht hh (names:=aw::fs.map (·.1)) (by simp;show"La1000La1999" hz) (xw qq) wJ n λh' n' oP t=>?_;replace oP:=(g.hh).symm▸oP;clear I n wJ lk;have tA:(W.ρ i).2∈own (W.ρ i) o:=by rw[AB ho];show .tail _ (.head _)
 have ow:=s9 (put aw y fs) o (W.ρ i);show⟨⟨h',W.ρ,W.H.set i (s8 (put aw y fs) o)⟩,ls,(),⟨rfl,.ch (Wd.gu hi tA) oP Yg (qk hi (s9 (put aw y fs) o (W.ρ (0+i)))),
  g.rel.ch hi tA oP ow λW' UI M=>by subst UI;show OR.Qz ho M rfl (oP.2 _ λz=>OR.ne ho z.symm) (nN.put M n' ry qq),g.fr.ch hi tA oP ow,⟨rfl,.refl⟩⟩,trivial,q⟩
end
end
section
variable {M:Model}{I it l:Addr}{P:Heap->Prop}{Q:Option Value->Shared->Prop}{items:Array Value}{ol:Obj}{x:Str}{t:Tok}{left step:Int}
section
def eW(M:Model)(A:Around)(I:Addr)(s:Shared)(v:Value)(P:Heap->Prop):Prop:=∀(Q:Option Value->Shared->Prop) (E:Value->Shared->Prop),(∀h' tk,P h'->XZ I s.heap h'->Q (a7 v) { s with heap:=h',toks:=tk })->wpAny M A (callSpecial? (.ref I) "__next__") Q E s
def gk(M:Model)(A:Around)(I:Addr)(s:Shared):Prop:=∀(Q:Option Value->Shared->Prop) (E:Value->Shared->Prop),(∀h' e,Abk I s.heap h'->(∃o,h'.get? e=a7 o/\o.cls=.type "StopIteration")->E (.ref e) { s with heap:=h' })->wpAny M A (callSpecial? (.ref I) "__next__") Q E s
theorem eW.py(x:eW M A I s v P)(h:∀h' tk,P h'->XZ I s.heap h'->Q (a7 v) { s with heap:=h',toks:=tk }):wpAny M A (pyNext (.ref I)) Q E s:=by show aM (Z2 (x _ _ λh' tk a b=>GT (h h' tk a b)))
theorem gk.py(x:gk (model af w) A I s)(h:∀h',Abk I s.heap h'->Q a8 { s with heap:=h' }):wpAny (model af w) A (pyNext (.ref I)) Q E s:=by show aM (Z2 (x _ _ λh' e a zz=>?_));obtain⟨o,ho,hc⟩:=zz;show aM (ZM (T:="StopIteration") (b:=a9) (bd o ho hc) isSubtype_stop (GT (h h' a)))
theorem eW.of{Q:Value->Shared->Prop}(x:eW M A I s v P)(h:∀h' tk,P h'->XZ I s.heap h'->Q v { s with heap:=h',toks:=tk }):wpAny M A (AcO (.ref I)) Q E s:=by show aM (x _ _ λh' tk a b=>GT (h h' tk a b))
theorem gk.of{Q:Value->Shared->Prop}(x:gk M A I s)(h:∀h' e,Abk I s.heap h'->(∃o,h'.get? e=a7 o/\o.cls=.type "StopIteration")->E (.ref e) { s with heap:=h' }):wpAny M A (AcO (.ref I)) Q E s:=by show aM (x _ _ h)
theorem i9{M:Model}{Q:α->Shared->Prop}{E:Value->Shared->Prop}{I:Addr}{t:Nat}(hh:A.handled=a8)(hs:Abk I h₀ s.heap)
  (h:∀h' e,Abk I h₀ h'->(∃o,h'.get? e=a7 o/\o.cls=.type "StopIteration")->E (.ref e) { s with heap:=h' }):wpAny M A.in1 (do raiseNew (<-newExc (.type "StopIteration") [])) Q E s:=by
 change wpAny _ _ (newExc (.type "StopIteration") [] >>= _) _ _ _;show aM (aM (YB ?_ (by size_fits)));show aM (m:=firstArgMember _ _) (XX (a:=Zb) (by first|rfl|(simp only[firstArgMember];rfl)) ?_);show YB ?_ (by size_fits);show aM (wpAny_handled (aE (show A.in1.handled=a8 from hh) (aM (GT (wpAny_throw (h _ _ ((hs.push _).push _) (bd _ (Xo _ rfl) rfl)))))))
theorem nQ{x:Value}(hit:s.heap.IsListIter it l i)(Kn:s.heap.get? l=a7 ol)(iY:ol.data=.seq items n)(hx:items[i]?=a7 x) :
  eW (model af w) A it s x (λh'=>h'.IsListIter it l (i+1)):=λQ E hQ=>by
 show bV (id hit) λo ho hc hd=>?_;show XS (name:=YJ "__next__") hit.typeIs Aao
  (Yz Aao hit.typeIs entry_listiter_next ?_ (args_listiter_next _))
 change wpAny _ _ (field (.ref it) 0 >>= _) _ _ s;show aM (XR ho hd (x:=.ref l) rfl ?_);change wpAny _ _ (if(YZ l==Zb)=a9 then _ else _) _ _ s;show aM (XR ho hd (x:=.int i 0) rfl (Xb (X1 Kn iY ?_)));simp only[Yq,hx];show Xb (Zw ho hd (Xd _) (GT (bd x rfl (hQ _ _ ?_ (Yk ..)))));show⟨_,XY _ ho (Zs (YG hd _)),(AaC ..).trans hc,by rw[YG hd];rfl⟩
theorem qp(hh:A.handled=a8)(hit:s.heap.IsListIter it l i)(Kn:s.heap.get? l=a7 ol)(iY:ol.data=.seq items n)(hx:items[i]?=a8) :
  gk (model af w) A it s:=λQ E hE=>by
 show bV (id hit) λo ho hc hd=>?_;show XS (name:=YJ "__next__") hit.typeIs Aao
  (Yz Aao hit.typeIs entry_listiter_next ?_ (args_listiter_next _))
 change wpAny _ _ (field (.ref it) 0 >>= _) _ _ s;show aM (XR ho hd (x:=.ref l) rfl ?_);change wpAny _ _ (if(YZ l==Zb)=a9 then _ else _) _ _ s;show aM (XR ho hd (x:=.int i 0) rfl (Xb (X1 Kn iY ?_)));simp only[Yq,hx];show Xb (Zj (Xb (Zw ho hd (Yb _) ?_)));show i9 (t:=0) hh (Yk ..).extBut hE
theorem xx{x:Value}(hit:s.heap.IsTupleIter it l i)(Kn:s.heap.get? l=a7 ol)(iY:ol.data=.seq items n)(hx:items[i]?=a7 x) :
  eW (model af w) A it s x (λh'=>h'.IsTupleIter it l (i+1)):=λQ E hQ=>by
 show bV (id hit) λo ho hc hd=>?_;show XS (name:=YJ "__next__") hit.typeIs F.slot_tuple_iterator_next
  (Yz F.slot_tuple_iterator_next hit.typeIs F.entry_tuple_iterator_next ?_ (F.args_tuple_iterator_next_1 _))
 change wpAny _ _ (field (.ref it) 0 >>= _) _ _ s;show aM (XR ho hd (x:=.ref l) rfl ?_);change wpAny _ _ (if(YZ l==Zb)=a9 then _ else _) _ _ s;show aM (XR ho hd (x:=.int i 0) rfl (Xb (X1 Kn iY ?_)));simp only[Yq,hx];show Xb (Zw ho hd (Xd _) (GT (bd x rfl (hQ _ _ ?_ (Yk ..)))));show⟨_,XY _ ho (Zs (YG hd _)),(AaC ..).trans hc,by rw[YG hd];rfl⟩
theorem AE(hh:A.handled=a8)(hit:s.heap.IsTupleIter it l i)(Kn:s.heap.get? l=a7 ol)(iY:ol.data=.seq items n)(hx:items[i]?=a8) :
  gk (model af w) A it s:=λQ E hE=>by
 show bV (id hit) λo ho hc hd=>?_;show XS (name:=YJ "__next__") hit.typeIs F.slot_tuple_iterator_next
  (Yz F.slot_tuple_iterator_next hit.typeIs F.entry_tuple_iterator_next ?_ (F.args_tuple_iterator_next_1 _))
 change wpAny _ _ (field (.ref it) 0 >>= _) _ _ s;show aM (XR ho hd (x:=.ref l) rfl ?_);change wpAny _ _ (if(YZ l==Zb)=a9 then _ else _) _ _ s;show aM (XR ho hd (x:=.int i 0) rfl (Xb (X1 Kn iY ?_)));simp only[Yq,hx];show Xb (Zj (Xb (Zw ho hd (Yb _) ?_)));show i9 (t:=0) hh (Yk ..).extBut hE
theorem xy{c:Nat}(hit:s.heap.IsStrIter it "str_ascii_iterator" x t i) (hx:x.cps[i]?=a7 c) :
  eW (model af w) A it s (.str ⟨#[c]⟩ s.toks) (λh'=>h'.IsStrIter it "str_ascii_iterator" x t (i+1)):=λQ E hQ=>by
 show bV (id hit) λo ho hc hd=>?_;show XS (name:=YJ "__next__") hit.typeIs F.slot_str_ascii_iterator_next
  (Yz F.slot_str_ascii_iterator_next hit.typeIs F.entry_str_ascii_iterator_next ?_ (F.args_str_ascii_iterator_next_1 _))
 change wpAny _ _ (field (.ref it) 0 >>= _) _ _ s;show aM (XR ho hd (x:=.str x t) rfl ?_);change wpAny _ _ (field (.ref it) 1 >>= _) _ _ s;show Xb (XR ho hd (x:=.int i 0) rfl ?_);simp only[Yq,hx];show aM (Zw ho hd (Xd _) (aM (Acq (GT (bd _ rfl (hQ _ _ ?_ (Yk ..)))))));show⟨_,XY _ ho (Zs (YG hd _)),(AaC ..).trans hc,by rw[YG hd];rfl⟩
theorem AG(hh:A.handled=a8)(hit:s.heap.IsStrIter it "str_ascii_iterator" x t i) (hx:x.cps[i]?=a8):gk (model af w) A it s:=λQ E hE=>by
 show bV (id hit) λo ho hc hd=>?_;show XS (name:=YJ "__next__") hit.typeIs F.slot_str_ascii_iterator_next
  (Yz F.slot_str_ascii_iterator_next hit.typeIs F.entry_str_ascii_iterator_next ?_ (F.args_str_ascii_iterator_next_1 _))
 change wpAny _ _ (field (.ref it) 0 >>= _) _ _ s;show aM (XR ho hd (x:=.str x t) rfl ?_);change wpAny _ _ (field (.ref it) 1 >>= _) _ _ s;show Xb (XR ho hd (x:=.int i 0) rfl ?_);simp only[Yq,hx];show aM (Zj (aM (Zw ho hd (Yb _) (aM (AaA ?_)))));show i9 (t:=0) hh (Yk ..).extBut hE
theorem AH{c:Nat}(hit:s.heap.IsStrIter it "str_iterator" x t i) (hx:x.cps[i]?=a7 c) :
  eW (model af w) A it s (.str ⟨#[c]⟩ s.toks) (λh'=>h'.IsStrIter it "str_iterator" x t (i+1)):=λQ E hQ=>by
 show bV (id hit) λo ho hc hd=>?_;show XS (name:=YJ "__next__") hit.typeIs F.slot_str_iterator_next
  (Yz F.slot_str_iterator_next hit.typeIs F.entry_str_iterator_next ?_ (F.args_str_iterator_next_1 _))
 change wpAny _ _ (field (.ref it) 0 >>= _) _ _ s;show aM (XR ho hd (x:=.str x t) rfl ?_);change wpAny _ _ (field (.ref it) 1 >>= _) _ _ s;show Xb (XR ho hd (x:=.int i 0) rfl ?_);simp only[Yq,hx];show aM (Zw ho hd (Xd _) (aM (Acq (GT (bd _ rfl (hQ _ _ ?_ (Yk ..)))))));show⟨_,XY _ ho (Zs (YG hd _)),(AaC ..).trans hc,by rw[YG hd];rfl⟩
theorem Dd(hh:A.handled=a8)(hit:s.heap.IsStrIter it "str_iterator" x t i) (hx:x.cps[i]?=a8):gk (model af w) A it s:=λQ E hE=>by
 show bV (id hit) λo ho hc hd=>?_;show XS (name:=YJ "__next__") hit.typeIs F.slot_str_iterator_next
  (Yz F.slot_str_iterator_next hit.typeIs F.entry_str_iterator_next ?_ (F.args_str_iterator_next_1 _))
 change wpAny _ _ (field (.ref it) 0 >>= _) _ _ s;show aM (XR ho hd (x:=.str x t) rfl ?_);change wpAny _ _ (field (.ref it) 1 >>= _) _ _ s;show Xb (XR ho hd (x:=.int i 0) rfl ?_);simp only[Yq,hx];show aM (Zj (aM (Zw ho hd (Yb _) (aM (AaA ?_)))));show i9 (t:=0) hh (Yk ..).extBut hE
theorem xz{x:Int}(hit:IsRangeIter s.heap it x left step)(De:0<left) :
  eW (model af w) A it s (.int x s.toks) (λh'=>IsRangeIter h' it (x+step) (left-1) step):=λQ E hQ=>by
 have hT:s.TypeIs (.ref it) "range_iterator":=bd _ hit rfl;show XS (name:=YJ "__next__") hT F.slot_range_iterator_next
  (AbC F.slot_range_iterator_next hT F.entry_range_iterator_next (F.args_range_iterator_next_1 _) (AutoRange.range_iterator___next___range_iterator_1 it x left step ((λ{a b}=>Acd.mpr) De)) ⟨hit,?_⟩)
 show hQ _ _ (XY _ (XY _ hit rfl) rfl) ((Yk ..).trans (Yk ..))
theorem AI{x:Int}(hh:A.handled=a8)(hit:IsRangeIter s.heap it x left step)(De:left<=0):gk (model af w) A it s:=λQ E hE=>by
 have hT:s.TypeIs (.ref it) "range_iterator":=bd _ hit rfl;show XS (name:=YJ "__next__") hT F.slot_range_iterator_next
  (Yz F.slot_range_iterator_next hT F.entry_range_iterator_next ?_ (F.args_range_iterator_next_1 _))
 change wpAny _ _ (field (.ref it) 0 >>= _) _ _ s;show aM (XR hit rfl (x:=rawInt x) rfl (aM (XR hit rfl (x:=rawInt left) rfl (aM (XR hit rfl (x:=rawInt step) rfl ?_)))));change wpAny _ _ (if left<=0 then _ else _) _ _ s;rw[aQ De];show aM (Zj (aM (i9 (t:=0) hh (Heap.ExtBut.refl _ _) hE)))
end
end
section
variable {s:Shared}{target:Expr}{W:Wd}{i k j:Nat}{o:AO}{H H':List AO}{x:AV}{r l:List AV}
noncomputable def owners:List String:=["enumerate", "zip", "dict_itemiterator", "dict_reverseitemiterator", "odict_iterator", "itertools.zip_longest", "itertools.pairwise"]
theorem v9{M:Model}{A:Around}{I:Addr}{v:Value}{o:Obj}{n:String}{Q:Unit->Shared->Prop}{E:Value->Shared->Prop}(ho:s.heap.get? I=a7 o)(hc:o.cls=.type n)(hn:owners.contains n=ac)(q:Q () s) :
  wpAny M A (letOwnedTupleGo target (.ref I) v) Q E s:=by
 have tl:wpAny M A (match((.ref I:Value),v)with
   |(.ref r,.ref a)=>do
    let o <-load r
    match o.cls,o.data with|.type n,.fields vs=>if(owners.contains n && vs[0]?==a7 (rawInt a))=a9 then do rule "for.unpacks-the-owned-tuple";updateField r 0 .none else pure PUnit.unit|_,_=>pure ()
   |_=>pure ()) Q E s:=by
  cases v with
  |ref a=>
   show Xb (Z1 ho (aE hc ?_));cases hd:o.data with|fields vs=>dsimp only;rw[aI (by show aE hn ?_;show ne_true_of_eq_false rfl)];show GT q|_=>show GT q
  |_=>show GT q
 cases target with|Tuple _ _ _=>show tl|List _ _=>show tl|_=>show GT q
theorem Df(x:iN W i o)(h:(∃l,o=.it l)\/∃j k,o=.eI j k):∃ob n,W.h.get? (W.ρ i).1=a7 ob/\ob.cls=.type n/\owners.contains n=ac:=by
 revert W i o;delta W i o;intro x h;rcases h with⟨l,rfl⟩|⟨j,k,rfl⟩
 .change pv W (W.ρ i).1 l at x;induction x with|list a b d r=>show bV a λo ho c d=>?_;show dU o _ ho c (by decide +kernel)|tuple a b d r=>show bV a λo ho c d=>?_;show dU o _ ho c (by decide +kernel)|ascii a=>show bV a λo ho c d=>?_;show dU o _ ho c (by decide +kernel)|wide a=>show bV a λo ho c d=>?_;show dU o _ ho c (by decide +kernel)|range a=>show dU _ _ a rfl (by decide +kernel)
 .show bV x.2 λo ho c d=>?_;show dU o _ ho c (by decide +kernel)
section
variable {c:Cx}
theorem Here.move{ls:Loc}(g:Here c W s ls){o':AO}(tk:Nat)(hi:W.H[i]?=a7 o)(hk:∀b ob,b ∉ own (W.ρ i) o->s.heap.get? b=a7 ob->h'.get? b=a7 ob)
  (hs:Z0 (own (W.ρ i) o') (own (W.ρ i) o)) (q:bQ W ⟨h',W.ρ,W.H.set i o'⟩->iN ⟨h',W.ρ,W.H.set i o'⟩ i o'):Good c W s ⟨h',W.ρ,W.H.set i o'⟩ { s with heap:=h',toks:=tk } ls:=by
 replace hk:=(g.hh).symm▸hk;have hw:∀a∈own (W.ρ i) o,a∈W.bf:=λa m=>Wd.gu hi m;have hl:(W.H.set i o').length=W.H.length:=Yg;have he:Z0 (live W.ρ 0 (W.H.set i o')) (live W.ρ 0 W.H):=H1 λUJ e=>by rw[hi]at e;obtain rfl:=Xe e;rw[XI];show hs
 show⟨rfl,.gen hw hk hl he,g.rel.gen hw hk hl he λM j oj ej=>?_,g.fr.gen hw hk hl he,⟨rfl,.refl⟩⟩;by_cases hj:j=i
 .clear he hk hl hs hw;subst hj;have:(W.H.set j o')[j]?=a7 o':=by rw[Y0];show(Xc.mp hi).1
  rw[this]at ej;obtain rfl:=Xe ej;show .inr (q M)
 .have e':W.H[j]?=a7 oj:=by show ix ej ?_;change _=(W.H.set i o')[j]?;show Eq.symm (XC λa=>hj (id (Eq.symm a)))
  show .inl ⟨e',λa m=>?_⟩;have nd:(live W.ρ 0 W.H).Nodup:=g.rel.nodup
  have:=AbW nd e' hi hj a (by rwa[XI])
  rwa[XI]at this
def Ko(c:Cx)(i:Nat)(H:List AO)(x:AV)(H':List AO):Prop:=(∃o,H[i]?=a7 o/\∀p,own p o=[p.1])/\
 ∀W s ls,Here c W s ls->W.H=H->∃v P,(∀A,eW c.M A (W.ρ i).1 s v P)/\VR W x v/\∀h' tk,P h'->XZ (W.ρ i).1 s.heap h'->
  Good c W s ⟨h',W.ρ,H'⟩ { s with heap:=h',toks:=tk } ls
def Fin(c:Cx)(i:Nat)(H:List AO)(H':List AO):Prop:=∀W s ls,Here c W s ls->W.H=H->(∀A,A.handled=a8->gk c.M A (W.ρ i).1 s)/\∀h',Abk (W.ρ i).1 s.heap h'->Good c W s ⟨h',W.ρ,H'⟩ { s with heap:=h' } ls
theorem fI{l:List α}{v:α}{r:List α}(e:l.drop k=v::r):l[k]?=a7 v/\l.drop (k+1)=r:=by
 constructor
 .have:=congrArg (·[0]?) e;simpa using this
 .have:=congrArg (Aae 1) e;simpa[ZR,Adk]using this
theorem ia{l:List α}(e:l.drop k=[]):l[k]?=a8:=by rw[ZG]at e;simp[e]
theorem tH(hi:H[i]?=a7 (.it (x::r))):Ko c i H x (H.set i (.it r)):=⟨(bd _ hi (fun  u=>rfl)),λW s ls g e=>by
 subst e;have mv:=λh' tk (q:bQ W ⟨h',W.ρ,W.H.set i (.it r)⟩->pv ⟨h',W.ρ,W.H.set i (.it r)⟩ (W.ρ i).1 r) (hs:XZ (W.ρ i).1 s.heap h')=>g.move (o':=.it r) (h':=h') tk hi (λb ob hb e=>(hs.2 b (YV hb)).trans e) (Zm _) q
 have I:pv W (W.ρ i).1 (x::r):=g.rel.obj i _ hi;have nx:=g.hh;generalize hl:x::r=l at I;induction I with
 |list a b d R=>
  rw[nx]at a;subst hl;generalize hd:Aae _ _=Ay at R;cases R with|cons rx rr=>show xA (fI hd) λe1 e2=>dU _ _ (λA=>nQ a (nx▸b) rfl (by simpa using e1)) rx (λh' tk p hs=>mv h' tk (λM=>?_) hs);have z:=M.keep _ _ b d rfl;show .list p z.1 z.2 (by show aE e2 ?_;show rr.mono M)
 |tuple a b d R=>
  rw[nx]at a;subst hl;generalize hd:Aae _ _=Ay at R;cases R with|cons rx rr=>show xA (fI hd) λe1 e2=>dU _ _ (λA=>xx a (nx▸b) rfl (by simpa using e1)) rx (λh' tk p hs=>mv h' tk (λM=>?_) hs);have z:=M.keep _ _ b d rfl;show .tuple p z.1 z.2 (by show aE e2 ?_;show rr.mono M)
 |@ascii xs t k a=>
  rw[nx]at a;generalize hd:Aae k xs.cps.toList=cs at hl;cases cs with|nil=>trivial|cons ch cs=>simp only[Xu,Acz]at hl;show xA hl λiO e9=>?_;subst iO;clear hi hl;subst e9;show xA (fI hd) λe1 e2=>dU _ _ (λA=>xy a (by simpa using e1)) (.str _ _) (λh' tk p hs=>mv h' tk (λM=>?_) hs);show ix e2 ?_;show .ascii p
 |@wide xs t k a=>
  rw[nx]at a;generalize hd:Aae k xs.cps.toList=cs at hl;cases cs with|nil=>trivial|cons ch cs=>simp only[Xu,Acz]at hl;show xA hl λjN rJ=>?_;subst jN;clear hi hl;subst rJ;show xA (fI hd) λe1 e2=>dU _ _ (λA=>AH a (by simpa using e1)) (.str _ _) (λh' tk p hs=>mv h' tk (λM=>?_) hs);show ix e2 ?_;show .wide p
 |@range y st n a=>
  replace a:=nx▸a;cases n with
  |zero=>trivial
  |succ n=>
   replace hl:=Aax▸hl;simp only[Xu,Acz,Zu]at hl;show xA hl λAJ Dg=>?_;subst AJ;clear hi hl;subst Dg;show dU _ _ (λA=>xz a (by push_cast;show Int.succ_ofNat_pos n)) (by simpa using VR.int (W:=W) y s.toks) (λh' tk p hs=>mv h' tk (λM=>?_) hs);have:(Yx n).map ((λ(j:Nat)=>AV.int (y+j*st)) ∘ Aco)=(Yx n).map λ(j:Nat)=>.int ((y+st)+j*st):=by
    apply ZK;intro j u;simp only[Function.comp];congr 1
    push_cast
    rw[Int.add_mul,Int.one_mul];show"I+p+qr++prq"
   show aE this (.range ?_);have p':IsRangeIter h' (W.ρ i).1 (y+st) ((n+1:Nat)-1:Int) st:=p
   rwa[show((n+1:Nat)-1:Int)=n by push_cast;show Int.add_sub_cancel (↑n) 1]at p'⟩
theorem xB(hi:H[i]?=a7 (.it [])):Fin c i H (H.set i .dead):=λW s ls g e=>by
 subst e;show⟨λA hA=>?_,λh' hs=>g.move (o':=.dead) (h':=h') s.toks hi (λb ob hb e=>hs b ob (YV hb) e) (Abo _) fun  u=>trivial⟩;have I:pv W (W.ρ i).1 []:=g.rel.obj i _ hi;have nx:=g.hh;generalize hl:([]:List AV)=l at I;induction I with
 |list a b d R=>rw[nx]at a;subst hl;generalize hd:Aae _ _=Ay at R;cases R;show qp hA a (nx▸b) rfl (by simpa using ia hd)
 |tuple a b d R=>rw[nx]at a;subst hl;generalize hd:Aae _ _=Ay at R;cases R;show AE hA a (nx▸b) rfl (by simpa using ia hd)
 |ascii a=>
  rw[nx]at a
  have:=ia (List.map_eq_nil_iff.mp hl.symm);show AG hA a (by simpa using this)
 |wide a=>
  rw[nx]at a
  have:=ia (List.map_eq_nil_iff.mp hl.symm);show Dd hA a (by simpa using this)
 |@range y st n a=>
  rw[nx]at a;cases n with|zero=>show AI hA a (by simp)|succ n=>simp[Aax]at hl
noncomputable def ek:AO->Option (List AV)
 |.lst l=>a7 l
 |.acc _ l _=>a7 l
 |_=>a8
theorem gY(x:iN W j o)(h:ek o=a7 l):∃ob vs n,W.h.get? (W.ρ j).1=a7 ob/\ob.data=.seq (Xp vs) n/\bY W l vs/\(W.ρ j).1∈own (W.ρ j) o:=by
 revert W j o l;delta W j o l;intro x h;cases o with|lst l'=>obtain rfl:=Xe h;show dH x λvs n e r=>?_;show eE _ vs n e rfl r (.head _)|acc C l' fs=>obtain rfl:=Xe h;(show xA x fun  Ke u=>?_;obtain⟨vs,n,e,r⟩:=Ke);show eE _ vs n e rfl r (.head _)|_=>trivial
theorem mF(hi:H[i]?=a7 (.eI j k))(hj:H[j]?=a7 o)(hl:ek o=a7 l)(hx:l[k]?=a7 x):Ko c i H x (H.set i (.eI j (k+1))):=⟨(bd _ hi (fun  u=>rfl)),λW s ls g e=>by subst e;show xA (g.rel.obj i _ hi) λGq a=>c0 (gY (g.rel.obj j _ hj) hl) λob vs n e d r m=>bb (r.get hx) λv hv rv=>?_;rw[g.hh]at a e;show dU v _ (λA=>nQ a e d (by simpa using hv)) rv (λh' tk p hs=>?_);show g.move (o':=.eI j (k+1)) (h':=h') tk hi (λb ob hb e=>(hs.2 b (YV hb)).trans e) (Zm _) λM=>⟨by simpa using Gq,p⟩⟩
theorem qr(hi:H[i]?=a7 (.eI j k))(hj:H[j]?=a7 o)(hl:ek o=a7 l)(hx:l[k]?=a8):Fin c i H (H.set i .dead):=λW s ls g e=>by subst e;show xA (g.rel.obj i _ hi) λGq a=>c0 (gY (g.rel.obj j _ hj) hl) λob vs n e d r m=>?_;rw[g.hh]at a e;show⟨λA hA=>qp hA a e d ?_,λh' hs=>g.move (o':=.dead) (h':=h') s.toks hi (λb ob hb e=>hs b ob (YV hb) e) (Abo _) fun  u=>trivial⟩;rw[AcM]at hx;rw[List.getElem?_toArray,AcM];rw[r.length];show hx
def Turn(c:Cx)(target:Expr)(i:Nat)(H:List AO)(x:AV)(H':List AO):Prop:=
 ∀W s ls,Here c W s ls->W.H=H->∀(P:Option Value->Shared->Prop) (E:Value->Shared->Prop),
  (∀v aH,(∀(P':Unit->Shared->Prop) (E':Value->Shared->Prop),(∀W' s',Good c W s W' s' ls->W'.H=H'->VR W' x v->P' () s')->wpAny c.M c.A (letOwnedTupleGo target (.ref (W.ρ i).1) v) P' E' aH)->P (a7 v) aH)->
  wpAny c.M c.A (pyNext (.ref (W.ρ i).1)) P E s
def Stop(c:Cx)(i:Nat)(H:List AO)(H':List AO):Prop:=∀W s ls,Here c W s ls->W.H=H->∀(P:Option Value->Shared->Prop) (E:Value->Shared->Prop),(∀W' s',Good c W s W' s' ls->W'.H=H'->P a8 s')->wpAny c.M c.A (pyNext (.ref (W.ρ i).1)) P E s
theorem Ko.turn(a:Ko c i H x H')(h:∃o,H'[i]?=a7 o/\((∃l,o=.it l)\/∃j k,o=.eI j k)):Turn c target i H x H':=λW s ls g e P E k=>by show bF (a.2 W s ls g e) λv Pn nx rv mk=>(nx c.A).py λh' tk p hs=>?_;have G:=mk h' tk p hs;show k v _ λP' E' k'=>bb h λo ho hp=>bF (Df (G.rel.obj i o ho) hp) λob n e1 e2 e3=>v9 e1 e2 e3 (k' _ _ G rfl (G.vr g rv))
theorem Fin.stop(hA:c.A.handled=a8)(a:Fin c i H H'):Stop c i H H':=λW s ls g e P E k=>((a W s ls g e).1 c.A hA).py λh' hs=>k _ _ ((a W s ls g e).2 h' hs) rfl
theorem H5(hi:H[i]?=a7 (.it (x::r))):Turn c target i H x (H.set i (.it r)):=(tH hi).turn (bd _ (by rw[Y0];show(Xc.mp hi).1) (.inl ⟨_,rfl⟩))
theorem H6(hA:c.A.handled=a8)(hi:H[i]?=a7 (.it [])):Stop c i H (H.set i .dead):=(xB hi).stop hA
theorem AK(hi:H[i]?=a7 (.eI j k))(hj:H[j]?=a7 o)(hl:ek o=a7 l)(hx:l[k]?=a7 x):Turn c target i H x (H.set i (.eI j (k+1))):=(mF hi hj hl hx).turn (bd _ (by rw[Y0];show(Xc.mp hi).1) (.inr ⟨_,_,rfl⟩))
theorem AL(hA:c.A.handled=a8)(hi:H[i]?=a7 (.eI j k))(hj:H[j]?=a7 o)(hl:ek o=a7 l)(hx:l[k]?=a8):Stop c i H (H.set i .dead):=(qr hi hj hl hx).stop hA
inductive vc(cD:Nat)(H:List AO)(ls:Loc):List AO->Loc->Prop
 |same:vc cD H ls H ls
 |sub (dq:Loc):(∀x av,dq.lookup x=a7 av->ls.lookup x=a7 av)->vc cD H ls H dq
 |cut (n:Nat) (H':List AO) (dq:Loc):cD<=n->n<=H.length->lG H n (H.take n) H'->(∀x N2,dq.lookup x=a7 N2->∃av,ls.lookup x=a7 av/\Fz H n av N2)->vc cD H ls H' dq
theorem ci.sub{f:Fp}{ls dq:Loc}(F:ci K W f ls)(h:∀x av,dq.lookup x=a7 av->ls.lookup x=a7 av):ci K W f dq:=⟨let⟨m,n,r⟩:=F.ns;(bd m n (λx av e=>r x av (h x av e))),λx av c e=>F.cl x av c (h x av e),F.cs,F.nd,F.cH,F.apart,F.stat⟩
theorem Good.sd{cO:Wd}{ls dq:Loc}(G:Good c cO bD W s ls)(C:vc cO.H.length W.H ls H' dq):Good c cO bD (W.cut H') s dq:=by
 induction C with
 |same=>show G
 |sub dq h=>show⟨G.hh,G.st,G.rel,G.fr.sub h,G.sh⟩
 |cut n H' dq h1 h2 F L=>
  show⟨G.hh,⟨?_,G.st.agree,λa o e m q=>?_⟩,G.rel.cut h2 F,?_,G.sh⟩
  .change cO.H.length<=H'.length;rw[F.length,XJ];show"LabLbcLa<bc" h1 h2
  .have z:=G.st.keep a o e m q;show⟨z.1,fV F z.2⟩
  .show⟨?_,λx av cc e z=>?_,G.fr.cs,G.fr.nd,λa m=>fV F (G.fr.cH a m),G.fr.apart,G.fr.stat⟩
   .show bb G.fr.ns λm n1 r=>bd m n1 (λx av e z=>bb (L x av e) λDh lA fz=>bb (r x Dh lA z) λv hv rv=>bd v hv (fz.vr G.rel h2 F rv))
   .show bb (L x av e) λDh lA fz=>bb (G.fr.cl x Dh cc lA z) λv hv rv=>bd v hv (fz.vr G.rel h2 F rv)
section
variable {ae:Env}{target:Expr}{aB orelse:List Stmt}{H:List AO}{ls:Loc}{Q:AF->List AO->Loc->Prop}
abbrev zo(cD:Nat)(N:List AO->Loc->Prop):List AO->Loc->Prop:=λH l=>∃H' l',vc cD H l H' l'/\N H' l'
abbrev N3(Inv:Nat->List AO->Loc->Prop)(n:Nat):List AO->Loc->Prop:=λH l=>∃m,m<n/\Inv m H l
inductive TurnOk(c:Cx)(ae:Env)(target:Expr)(aB orelse:List Stmt)(cD i:Nat)(Q:AF->List AO->Loc->Prop)(Kp:List AO->Loc->Prop)(H:List AO)(ls:Loc):Prop
 |stop (H':List AO):Stop c i H H'->Ok c aY (execs orelse ae) H' ls Q->TurnOk c ae target aB orelse cD i Q Kp H ls
 |item (x:AV) (H':List AO):Turn c target i H x H'->pz c jF (assign target ae) x H' ls (D4 c ae aB (zo cD Kp) Q)->TurnOk c ae target aB orelse cD i Q Kp H ls
def xC(c:Cx)(ae:Env)(target:Expr)(aB orelse:List Stmt)(i:Nat)(H:List AO)(ls:Loc)(Q:AF->List AO->Loc->Prop):Prop:=∃(Inv:Nat->List AO->Loc->Prop) (n:Nat),Inv n H ls/\∀n H' l',Inv n H' l'->TurnOk c ae target aB orelse H.length i Q (N3 Inv n) H' l'
abbrev N4(c:Cx)(ae:Env)(target:Expr)(aB orelse:List Stmt)(Q:AF->List AO->Loc->Prop):AV->List AO->Loc->Prop:=λy H l=>∃i,y=.ref i/\xC c ae target aB orelse i H l Q
theorem Co{iter:Expr}{ai:Pos}(h:Ok c VR (eval iter ae) H ls (K1 c VR pyIter (N4 c ae target aB orelse Q)))
  (hs:∀x,foldedSetIterable iter ae x=Xj x):Ok c aY (exec (.For target iter aB orelse ai) ae) H ls Q:=λW s g e=>by
 revert c ae target aB orelse H ls Q iter ai W s;delta c ae target aB orelse H ls Q iter ai;intro h hs;delta W s;intro g e;show wpAny_For (h.run g e λaK aH aU x v aD b8 aR=>?_) hs;show cA aD.tk (aR aK aH v aD.here rfl b8) (λit aN iQ zz=>?_) fun  u u f=>f.elim;obtain⟨b4,cj,y,aF,dg,i,hy,Inv,n,hI,step⟩:=zz;replace aF:=aF.at iQ;subst hy;cases dg with
 |ref _ hi=>
 show codeAny_forLoop_any (λn s'=>∃W' l',bN c b4 aN W' s' l'/\Inv n W'.H l') (λn s' zz=>?_) n (dC b4 cj aF.here.good hI);obtain⟨W',l',G,I⟩:=zz;have nO:W'.ρ i=b4.ρ i:=G.st.agree i hi;cases step n W'.H l' I with
 |stop H' wI ho=>show ix nO (YA (n:=1) G.tk (wI W' s' l' G.here rfl _ _ λb7 bJ aT cE qt=>?_));replace aT:=aT.at qt;show Xz (ho b7 bJ aT.here cE) (λf fP z=>?_) fun  u u f=>f.elim;show behind aD (behind aF (behind G (behind aT z)))
 |item x H' ht ha=>
  show ix nO (YA (n:=1) G.tk (ht W' s' l' G.here rfl _ _ λv bJ k nR=>YA (n:=1) nR (k _ _ λb7 bJ aT cE rv qt=>?_)));replace aT:=aT.at qt;show cA aT.tk (ha b7 bJ v aT.here cE rv) (fun  u fP AM zz=>?_) fun  u u f=>f.elim;obtain⟨g9,lV,_,bE,_,hb⟩:=zz;replace bE:=bE.at AM;show cA bE.tk (hb g9 fP bE.here rfl) (λf eu pA zz=>?_) fun  u u f=>f.elim;obtain⟨eX,nS,fl,cU,rf,q⟩:=zz;have GG:=G.toGood.trans (aT.toGood.trans (bE.toGood.trans cU));induction rf with|next=>show dH q λkb d5 C tz=>?_;show bb tz ?_;clear tz;intro m hm Kq;show bd m hm (dC _ _ ((GG.sd C).at pA) Kq)|cont=>show dH q λkb d5 C tz=>?_;show bb tz ?_;clear tz;intro m hm Kq;show bd m hm (dC _ _ ((GG.sd C).at pA) Kq)|brk=>show⟨eX,nS,_,aD.toGood.trans (aF.toGood.trans GG),.next,q⟩|ret r=>show⟨eX,nS,_,aD.toGood.trans (aF.toGood.trans GG),.ret r,q⟩
theorem ji{x:Str}{Q:Unit->List AO->Loc->Prop}(Ev:ba ae c.f)(hk:Kept ae c.f x)(q:Q () H (put x y ls)):pz c jF (assign (.Name x ai) ae) y H ls Q:=λW s v g e r=>wpAny_assign_Name (store g Ev hk r λW' s' G e'=>⟨W',_,(),G,trivial,by rw[e',e];show q⟩)
def H7(c:Cx)(ts:List (Value->Sem Unit))(xs:List AV)(H:List AO)(ls:Loc)(Q:Unit->List AO->Loc->Prop):Prop:=kS c jF (assignInOrder ts) xs H ls Q
abbrev UK(c:Cx)(ts:List (Value->Sem Unit))(xs:List AV)(Q:Unit->List AO->Loc->Prop):Unit->List AO->Loc->Prop:=fun  u H l=>H7 c ts xs H l Q
theorem jS{Q:Unit->List AO->Loc->Prop}(q:Q () H ls):H7 c [] [] H ls Q:=λW s vs g e r=>by apply bY.MS r;show wpAny_assignInOrder_none ⟨W,ls,(),g.good,trivial,e▸q⟩
theorem Gw{t:Value->Sem Unit}{ts:List (Value->Sem Unit)}{Q:Unit->List AO->Loc->Prop}(h:pz c jF t x H ls (UK c ts xs Q)):H7 c (t::ts) (x::xs) H ls Q:=λW s vs g e r=>by apply bY.oJ r;intro u u rx rs;show assignInOrder_cons (cA g.tk (h W s _ g e rx) (fun  u aH nR zz=>?_) fun  u u f=>f);obtain⟨aK,aU,_,aD,_,aR⟩:=zz;replace aD:=aD.at nR;show kS.tail aD aR (aD.Kf g rs)
theorem ic{gM:List Expr}{k:Nat}{ai:Pos}{Q:Unit->List AO->Loc->Prop}(hA:c.A.handled=a8)(hn:(assignEach gM ae).length=xs.length)(N5:(assignEach gM ae).findIdx? (·.1)=a8)
  (h:H7 c ((assignEach gM ae).map (·.2)) xs H ls Q):pz c jF (assign (.Tuple gM k ai) ae) (.tup xs) H ls Q:=λW s v g e r=>by
 apply VR.uU r;intro a vs n ho hm rs;rw[g.hh]at ho;show wpAny_assign_Tuple hA (cf _ ho rfl (iE _ rfl)) (by rw[hn];simp[rs.length]) N5 λh' hx=>?_;have aD:=(g.grow (h':=h') s.toks (λb o e=>hx b o (YL (XF e)) e)).at g.tk;subst e;show kS.tail aD h (aD.Kf g rs)
end
end
end
section
variable {i:Nat}{l:List AV}
theorem Here.new{ls:Loc}(g:Here c W s ls){p:Addr×Addr}(tk:Nat)(k:∀b ob,s.heap.get? b=a7 ob->h'.get? b=a7 ob)(hp:∀a∈own p o,s.heap.get? a=a8)(hd:(own p o).Nodup)
  (q:bQ W (W.add h' p o)->iN (W.add h' p o) W.H.length o):Good c W s (W.add h' p o) { s with heap:=h',toks:=tk } ls:=by
 rw[<-g.hh]at k hp;show⟨rfl,.add k hp,g.rel.add k hp hd q,g.fr.add k hp,⟨rfl,.refl⟩⟩
theorem fJ{h:Heap}(hn:h.objs.size<=n):h.get? n=a8:=by
 cases q:h.get? n with|none=>rfl|some o=>show absurd (XF q) (Z5.mpr hn)
def nU(a:Value)(s:Shared)(i:Addr)(aH:Shared):Prop:=∀(af:Program) (w:World) (A:Around) (Q:Value->Shared->Prop) (E:Value->Shared->Prop),Q (.ref i) aH->wpAny (model af w) A (pyIter a) Q E s
def iC(c:Cx)(x:AV)(H:List AO)(i:Nat)(H':List AO):Prop:=∀W s v ls,Here c W s ls->W.H=H->VR W x v->∃W' s',nU v s (W'.ρ i).1 s'/\bN c W s W' s' ls/\W'.H=H'/\i<H'.length
section
variable {c:Cx}{H:List AO}{ls:Loc}
theorem iC.ok{H':List AO}(h:iC c x H i H')(q:Q (.ref i) H' ls):pz c VR pyIter x H ls Q:=λW s v g e r=>by show iL (h W s v ls g e r) λW' s' a G e' hi=>a c.prog c.w c.A _ _ ⟨W',ls,.ref i,G,.ref i (by rw[e'];show hi),by rw[e'];show q⟩
theorem qu{v:Value}(g:Here c W s ls){ob:Obj}{l:List AV}(ho:∀p,own p o=[p.1])
  (a:∀(af:Program) (w:World) (A:Around) (Q:Value->Shared->Prop) (E:Value->Shared->Prop),Q (.ref s.heap.objs.size) { s with heap:=s.heap.push ob }->wpAny (model af w) A (pyIter v) Q E s)
  (q:∀W',W'.h=s.heap.push ob->W'.ρ W.H.length=(s.heap.objs.size,0)->(∀i,i<W.H.length->W'.ρ i=W.ρ i)->W'.H.length=W.H.length+1->bQ W W'->iN W' W.H.length o) :
  ∃W' s',nU v s (W'.ρ W.H.length).1 s'/\bN c W s W' s' ls/\W'.H=W.H++[o]/\W.H.length<(W.H++[o]).length:=by
 show wV (W.add (s.heap.push ob) (s.heap.objs.size,0) o) ({ s with heap:=s.heap.push ob }) (λaf w A Q E h=>?_) ((g.new s.toks (λb ob e=>Xa _ e) (λa m=>?_) (by rw[ho];simp) (λM=>q _ rfl (dz ..) M.agree GK M)).at g.tk) rfl IH
 .rw[dz]at h;show a af w A Q E h
 .rw[ho]at m;simp at m;subst m;show fJ (Xd _)
theorem ke:iC c (.fl l) H H.length (H++[.it l]):=λW s v ls g e r=>by subst e;apply VR.MR r;intro u u u ho hm rs;show qu (l:=l) g (fun  u=>rfl) (λaf w A Q E h=>wpAny_pyIter_list (by rw[g.hh]at ho;show(cf _ ho rfl (iE _ rfl))) h) λW' e1 e2 e4 e5 M=>?_;have z:=M.keep _ _ ho hm rfl;change pv W' (W'.ρ _).1 l;rw[e2];show .list (k:=0) (cf _ (by show aE e1 ?_;show Xo _ rfl) rfl rfl) z.1 z.2 (rs.mono M)
theorem tI{x:Str}:iC c (.str x) H H.length (H++[.it (x.cps.toList.map λc=>.str ⟨#[c]⟩)]):=λW s v ls g e r=>by
 subst e;apply VR.dE r;intro t;cases ha:x.cps.all (· < 128)
 .show qu (l:=[]) g (fun  u=>rfl) (λaf w A Q E h=>wpAny_pyIter_wide ha h) λW' e1 e2 e4 e5 M=>?_;change pv W' (W'.ρ _).1 _;show aE e2 (.wide (W:=W') (x:=x) (t:=t) (k:=0) (cf _ (by show aE e1 ?_;show Xo _ rfl) rfl rfl))
 .show qu (l:=[]) g (fun  u=>rfl) (λaf w A Q E h=>wpAny_pyIter_ascii ha h) λW' e1 e2 e4 e5 M=>?_;change pv W' (W'.ρ _).1 _;show aE e2 (.ascii (W:=W') (x:=x) (t:=t) (k:=0) (cf _ (by show aE e1 ?_;show Xo _ rfl) rfl rfl))
theorem Kr{a b st:Int}(hn:Abl a b st=n)(hs:Builtin.Range.small a b st=a9):iC c (.rI a b st) H H.length (H++[.it ((Yx n).map λ(j:Nat)=>.int (a+j*st))]):=λW s v ls g e r=>by subst e;apply VR.Qh r;intro u u u u ho hm;rw[g.hh]at ho;show qu (l:=[]) g (fun  u=>rfl) (λaf w A Q E h=>wpAny_pyIter_range ho hs h) λW' e1 e2 e4 e5 M=>?_;change pv W' (W'.ρ _).1 _;show aE e2 (.range (W:=W') ?_);change W'.h.get? _=_;rw[e1,Xo _ rfl,hn]
theorem Ks(hj:H[j]?=a7 (.lst l)):iC c (.ref j) H H.length (H++[.eI j 0]):=λW s v ls g e r=>by subst e;apply VR.lT r;intro Gq;show dH (g.rel.obj j _ hj) λvs n ho rs=>?_;rw[g.hh]at ho;show qu (l:=[]) g (fun  u=>rfl) (λaf w A Q E h=>wpAny_pyIter_list (cf _ ho rfl (iE _ rfl)) h) λW' e1 e2 e4 e5 M=>⟨by rw[e5];show AaJ 1 Gq,?_⟩;rw[e2];show aE (e4 j Gq) ?_;show cf _ (by show aE e1 ?_;show Xo _ rfl) rfl rfl
abbrev H8(o:AO):Prop:=(∃l,o=.it l)\/(∃j k,o=.eI j k)\/∃f0 j k,o=.zip f0 j k
theorem zp(g:Here c W s ls)(hi:W.H[i]?=a7 o)(ho:H8 o):nU (.ref (W.ρ i).1) s (W.ρ i).1 s:=λaf w A Q E h=>by
 have O:=g.rel.obj i _ hi;have nx:=g.hh;clear g hi;rcases ho with⟨l,rfl⟩|⟨j,k,rfl⟩|⟨f0,j,k,rfl⟩
 .change pv W (W.ρ i).1 l at O;induction O with|list a b d R=>rw[nx]at a;show Abv a h|tuple a b d R=>rw[nx]at a;show wpAny_pyIter_tupleiter a h|ascii a=>rw[nx]at a;show wpAny_pyIter_striter_ascii a h|wide a=>rw[nx]at a;show wpAny_pyIter_striter_wide a h|range a=>rw[nx]at a;show wpAny_pyIter_rangeiter a h
 .show xA O fun  z a=>?_;rw[nx]at a;show Abv a h
 .show pJ O fun  z z tz=>?_;show hV tz ?_;clear tz;intro TI u v a z;rw[nx]at a;show wpAny_pyIter_zip a h
theorem tJ(hi:H[i]?=a7 o)(ho:H8 o):iC c (.ref i) H i H:=λW s v ls g e r=>by subst e;apply VR.lT r;intro rC;show wV W s (zp g hi ho) g.good rfl rC
abbrev N6(c:Cx)(ae:Env)(aB orelse:List Stmt)(N:List AO->Loc->Prop)(Q:AF->List AO->Loc->Prop):Bool->List AO->Loc->Prop:=λb H l=>(b=a9->Ok c aY (execs aB ae) H l (IP N Q))/\(b=ac->Ok c aY (execs orelse ae) H l Q)
def H9(c:Cx)(ae:Env)(test:Expr)(aB orelse:List Stmt)(H:List AO)(ls:Loc)(Q:AF->List AO->Loc->Prop):Prop:=∃(Inv:Nat->List AO->Loc->Prop) (n:Nat),Inv n H ls/\∀n H' l',Inv n H' l'->Ok c cy (isTrue test ae (eval test ae)) H' l' (N6 c ae aB orelse (zo H.length (N3 Inv n)) Q)
theorem vd{ae:Env}{test:Expr}{aB orelse:List Stmt}{ai:Pos}{Q:AF->List AO->Loc->Prop}(h:H9 c ae test aB orelse H ls Q):Ok c aY (exec (.While test aB orelse ai) ae) H ls Q:=λW s g e=>by
 revert c H ls ae test aB orelse ai Q W s;delta c H ls ae test aB orelse ai Q;intro h;delta W s;intro g e;show dH h λInv n hI step=>?_;clear h;subst e;show wpAny_While (codeAny_whileLoop (λn s'=>∃W' l',bN c W s W' s' l'/\Inv n W'.H l') (λn s' zz=>?_) n (dC W ls g.good hI));obtain⟨W',l',G,I⟩:=zz;show cA G.tk (step n W'.H l' I W' s' G.here rfl) (λb aH nR zz=>?_) fun  u u f=>f.elim;obtain⟨aK,aU,b',aD,rb,ht,hf⟩:=zz;replace aD:=aD.at nR;subst rb;cases b with
 |true=>
  show cA aD.tk (ht rfl aK aH aD.here rfl) (λf aN iQ zz=>?_) fun  u u f=>f.elim;obtain⟨b4,cj,fl,aF,rf,q⟩:=zz;have GG:=G.toGood.trans (aD.toGood.trans aF);induction rf with|next=>show dH q λkb d5 C tz=>?_;show bb tz ?_;clear tz;intro m hm Kq;show bd m hm (dC _ _ ((GG.sd C).at iQ) Kq)|cont=>show dH q λkb d5 C tz=>?_;show bb tz ?_;clear tz;intro m hm Kq;show bd m hm (dC _ _ ((GG.sd C).at iQ) Kq)|brk=>show⟨b4,cj,_,GG,.next,q⟩|ret r=>show⟨b4,cj,_,GG,.ret r,q⟩
 |false=>show Xz (hf rfl aK aH aD.here rfl) (λf aN z=>behind G (behind aD z)) fun  u u f=>f.elim
end
/-! zip -/
theorem AN(a b:Value)(i1 i2:Addr) :
  Meets (Builtin.«zip.__new__» ⟨[.type "zip",a,b],[]⟩) (fun  u R s=>∃aH aN,nU a s i1 aH/\nU b aH i2 aN/\
   R (.ok (.ret (.ref (aN.heap.objs.size+2)))) { aN with heap:=((aN.heap.push (bS #[.ref i1,.ref i2] 0)).push (bS #[.none,.none] 0)).push { cls:=.type "zip",data:=.fields #[.none,.bool ac,.bool ac,.ref aN.heap.objs.size,.ref (aN.heap.objs.size+1)] } }):=
 .of_wp λaf w A R s h=>by
  show bF h λaH aN h1 h2 h=>?_;have jO:=sub_zip;have L1:∀{A:Around} {Q:Value->Shared->Prop} {E:Value->Shared->Prop},Q (.ref i1) aH->wpAny (model af w) A (pyIter a) Q E s:=λq=>h1 _ _ _ _ _ q;have L2:∀{A:Around} {Q:Value->Shared->Prop} {E:Value->Shared->Prop},Q (.ref i2) aN->wpAny (model af w) A (pyIter b) Q E aH:=λq=>h2 _ _ _ _ _ q
  wp_walk using L1,L2
  show bd _ rfl (by simp only[AbL];show h)
end
section
variable {c:Cx}{H:List AO}{ls:Loc}
theorem ve{bu d7:List AO}(h1:iC c x H i bu)(h2:iC c y bu j d7)(q:Q (.ref d7.length) (d7++[.zip .none i j]) ls):kS c VR (λvs=>call (.type "zip") vs) [x,y] H ls Q:=λW s vs g e r=>by
 cases r with
 |@cons _ a _ _ ra r=>
 cases r with
 |@cons _ b _ _ rb r=>
 cases r;show iL (h1 W s a ls g e ra) λaK aH I1 aD c8 hi=>iL (h2 aK aH b ls aD.here c8 (aD.vr g rb)) λb4 aN I2 aF cT hj=>?_;have IR:i<b4.H.length:=XB (by rw[c8];show hi) aF.st.len;have IS:j<b4.H.length:=by rw[cT];show hj
 have ρi:b4.ρ i=aK.ρ i:=aF.st.agree i (by rw[c8];show hi);rw[<-ρi]at I1;have key:∀h',h'=((aN.heap.push (bS #[.ref (b4.ρ i).1,.ref (b4.ρ j).1] 0)).push (bS #[.none,.none] 0)).push { cls:=.type "zip",data:=.fields #[.none,.bool ac,.bool ac,.ref aN.heap.objs.size,.ref (aN.heap.objs.size+1)] }->
   Good c b4 aN (b4.add h' (aN.heap.objs.size+2,aN.heap.objs.size+1) (.zip .none i j)) { aN with heap:=h' } ls/\h'.get? (aN.heap.objs.size+2)=a7 { cls:=.type "zip",data:=.fields #[.none,.bool ac,.bool ac,.ref aN.heap.objs.size,.ref (aN.heap.objs.size+1)] }:=by
  rintro h' rfl
  have gz:(((aN.heap.push (bS #[.ref (b4.ρ i).1,.ref (b4.ρ j).1] 0)).push (bS #[.none,.none] 0)).push { cls:=.type "zip",data:=.fields #[.none,.bool ac,.bool ac,.ref aN.heap.objs.size,.ref (aN.heap.objs.size+1)] }).get? (aN.heap.objs.size+2)=a7 { cls:=.type "zip",data:=.fields #[.none,.bool ac,.bool ac,.ref aN.heap.objs.size,.ref (aN.heap.objs.size+1)] }:=by show aE (show aN.heap.objs.size+2=((aN.heap.push (bS #[.ref (b4.ρ i).1,.ref (b4.ρ j).1] 0)).push (bS #[.none,.none] 0)).objs.size by simp[AbL]) (Xo _ rfl)
  show⟨aF.here.new aN.toks (λb o e=>Xa _ (Xa _ (Xa _ e))) (λa m=>?_) (X3.mpr ⟨λm=>Nat.succ_ne_self _ (uT m),D2⟩) λM=>?_,gz⟩
  .rcases tA m with rfl|rfl
   .show fJ (Yd _ _)
   .show fJ (Yb _)
  .show Gi (by simp[Wd.add];show AaJ 1 IR) (by simp[Wd.add];show AaJ 1 IS) (eE aN.heap.objs.size .none .none ?_ ?_ ?_ ?_)
   .rw[dz];show gz
   ·(show aE (M.agree i IR) ?_;show aE (M.agree j IS) ?_)
    show Xa _ (Xa _ (Xo _ rfl))
   .rw[i7];intro z;rcases Xl.mp z with z|z
    .show aF.rel.fresh (by rw[aF.hh];show z)
    .show(tA z).elim (YL (Abe (XQ 1))) (YL (Yi _))
   .rw[dz];change Heap.get? _ (aN.heap.objs.size+1)=_;show Xa _ ?_;show aE (show aN.heap.objs.size+1=(aN.heap.push (bS #[.ref (b4.ρ i).1,.ref (b4.ρ j).1] 0)).objs.size by show Eq.symm (AbL aN.heap (bS #[YZ (b4.ρ i).fst,YZ (b4.ρ j).fst] 0))) (Xo _ rfl)
 show xA (key _ rfl) λaT gz=>callType_new F.called_zip (by rfl) (F.typeCall_zip_2 _ _) (F.newCall_zip_2 _ _) (λobj=>F.args_object_init_3 obj _ _) F.entry_zip_new (AN a b (b4.ρ i).1 (b4.ρ j).1) ⟨aH,aN,I1,I2,(bd _ gz rfl),_,ls,.ref b4.H.length,aD.trans (aF.trans aT),?_,?_⟩
 .have:=VR.ref (W:=b4.add (((aN.heap.push (bS #[.ref (b4.ρ i).1,.ref (b4.ρ j).1] 0)).push (bS #[.none,.none] 0)).push { cls:=.type "zip",data:=.fields #[.none,.bool ac,.bool ac,.ref aN.heap.objs.size,.ref (aN.heap.objs.size+1)] }) (aN.heap.objs.size+2,aN.heap.objs.size+1) (.zip .none i j)) b4.H.length IH
  rwa[dz]at this
 .change Q (.ref b4.H.length) (b4.H++[.zip .none i j]) ls;show aE cT ?_;show q
theorem bn{o':AO}(h:H[i]?=a7 o):(H.set i o')[i]?=a7 o':=by rw[Y0];show(Xc.mp h).1
theorem gZ(g:Here c W s ls){k n:Nat}{f0 f1 v:Value}(hi:W.H[i]?=a7 (.zip f0 j k)){Q:Unit->Shared->Prop}{E:Value->Shared->Prop}{A:Around}
  (hn:∀TI TO,(#[f0,.bool ac,.bool ac,.ref TI,.ref TO]:Array Value).setIfInBounds n v=#[f1,.bool ac,.bool ac,.ref TI,.ref TO]) (Mj:n<5)
  (q:∀W' h',bN c W s W' { s with heap:=h' } ls->W'.H=W.H.set i (.zip f1 j k)->W'.ρ=W.ρ->W'.h=h'->XZ (W.ρ i).1 s.heap h'->Q () { s with heap:=h' }):wpAny (model c.prog c.w) A (setField (.ref (W.ρ i).1) n v) Q E s:=by
 show pJ (g.rel.obj i _ hi) λhj hk tz=>?_;show c0 tz ?_;clear tz;intro TI a b z1 z2 z3 z4;have ne:(W.ρ i).2≠(W.ρ i).1:=λz=>by have t:W.h.get? (W.ρ i).1=_:=z▸z4;have u:W.h.get? (W.ρ i).1=_:=z1;rw[u]at t;simp at t
 replace z1:=g.hh▸z1;show wpAny_setField_rec z1 (by assumption) λh' hz hs=>?_;rw[hn]at hz;show q ⟨h',W.ρ,W.H.set i (.zip f1 j k)⟩ h' ((g.move (o':=.zip f1 j k) (h':=h') s.toks hi (λb ob hb e=>(hs.2 b (λz=>hb (IM z))).trans e) (Zm _) λM=>?_).at g.tk) rfl rfl rfl hs;have zT:=M.keep _ _ z2 z3 rfl;show Gi (by simpa using hj) (by simpa using hk) (eE TI a b hz zT.1 zT.2 ((hs.2 _ ne).trans (g.hh▸z4)))
theorem tK(g:Here c W s ls){k n:Nat}{f0 v:Value}(hi:W.H[i]?=a7 (.zip f0 j k)){Q:Unit->Shared->Prop}{E:Value->Shared->Prop}{A:Around}{a b a' b':Value}
  (hp:IsPair W.h (W.ρ i).2 a b) (hn:(#[a,b]:Array Value).setIfInBounds n v=#[a',b'])
  (q:∀W' h',bN c W s W' { s with heap:=h' } ls->W'.H=W.H->W'.ρ=W.ρ->W'.h=h'->IsPair h' (W.ρ i).2 a' b'->XZ (W.ρ i).2 s.heap h'->Q () { s with heap:=h' }):wpAny (model c.prog c.w) A (updateSeq (W.ρ i).2 (·.setIfInBounds n v)) Q E s:=by
 show pJ (g.rel.obj i _ hi) λhj hk tz=>?_;show c0 tz ?_;clear tz;intro TI y y z1 z2 z3 z4;have ne:(W.ρ i).1≠(W.ρ i).2:=λz=>by have t:W.h.get? (W.ρ i).1=_:=z▸z4;have u:W.h.get? (W.ρ i).1=_:=z1;rw[u]at t;simp at t
 rw[g.hh]at hp;show wpAny_updateSeq_pair hp λh' ht hs=>?_;rw[hn]at ht;have G:=g.move (o':=.zip f0 j k) (h':=h') s.toks hi (λb ob hb e=>(hs.2 b (λz=>hb (IO z))).trans e) (Zm _) λM=>by have zT:=M.keep _ _ z2 z3 rfl;show Gi (by simpa using hj) (by simpa using hk) (eE TI _ _ ((hs.2 _ ne).trans (g.hh▸z1)) zT.1 zT.2 ht)
 have he:W.H.set i (.zip f0 j k)=W.H:=by
  apply Z6;intro n;by_cases hn:n=i
  .clear G hp hs ht ne q z1 z4;subst hn;(rw[bn hi];show aE hi rfl)
  .rw[XC (Ne.symm hn)]
 rw[he]at G;show q _ h' (G.at g.tk) rfl rfl rfl ht hs
theorem vf{gM:List Expr}{k:Nat}{ai:Pos}{i a b:Nat}{x y:AV}{bu d7:List AO}(hi:H[i]?=a7 (.zip .none a b))(ha:Ko c a (H.set i (.zip .ellipsis a b)) x bu)(h1:bu[i]?=a7 (.zip .ellipsis a b))
  (hb:Ko c b bu y d7) (h2:d7[i]?=a7 (.zip .ellipsis a b)):Turn c (.Tuple gM k ai) i H (.tup [x,y]) (d7.set i (.zip .none a b)):=λW s ls g e P E AP=>by
 revert c H gM k ai i a b x y bu d7 W s ls P E;delta c H gM k ai i a b x y bu d7;intro hi ha h1 hb h2;delta W s ls;intro g e;delta P E;intro AP;subst e;show pJ (g.rel.obj i _ hi) λhj hk tz=>?_;show c0 tz ?_;clear tz;intro TI u v z1 z2 z3 z4;injections TI u v;have y1:=z1;have y2:=z2;have y4:=z4;rw[g.hh]at y1 y2 y4;have hT:s.TypeIs (.ref (W.ρ i).1) "zip":=bd _ y1 rfl;show aM (Z2 (XS (name:=YJ "__next__") hT F.slot_zip_next
  (Yz F.slot_zip_next hT F.entry_zip_next ?_ (F.args_zip_next_1 _))))
 change wpAny _ _ (field (.ref (W.ρ i).1) 2 >>= _) _ _ _;show aM (XR y1 rfl (x:=.bool ac) rfl (aM (XR y1 rfl (x:=.ref TI) rfl (aM (X1 y2 rfl (aM (aM (XR y1 rfl (x:=.none) rfl (GT (aM (Zj (aM (XR y1 rfl (x:=.ref (W.ρ i).2) rfl ?_)))))))))))));show aM (gZ (n:=0) (f1:=.ellipsis) g hi (fun  w w=>rfl) (XQ _) λaK aR aD c8 ρ₁ zq aH=>?_);injections aK aR;show aM ?_;show aM (aM (AbU (bF (ha.2 aK _ ls aD.here c8) λva Pa N7 SX N8=>?_)));injections va Pa;rw[ρ₁]at N7 N8;show aM (YA (n:=1) aD.tk ((N7 _).of λbB mG Kt aN t2=>GT ?_));injections bB mG;have aF:=(N8 bB mG Kt aN).at t2;have N9:∀(W':Wd) (f0:Value),Rel c.K W'->W'.H[i]?=a7 (.zip f0 a b)->∃u v,IsPair W'.h (W'.ρ i).2 u v:=λW' f0 R e=>by injections W' f0;show pJ (R.obj i _ e) fun  w w tz=>?_;show c0 tz ?_;clear tz;intro TI u v w w w z;injections TI u v;show MM u v z
 show IG (N9 _ _ aF.rel h1) λNa AQ iQ=>?_;injections Na AQ;show aM (X1 (show bB.get? (W.ρ i).2=_ from iQ) rfl (aM (tK (n:=0) (a':=va) (b':=AQ) (W:=⟨bB,W.ρ,bu⟩) aF.here h1 iQ rfl λb7 cP aT cE ρ₃ IT qt bJ=>?_)));injections b7 cP;show aM (AaA (GT (aM (aM (AbU (bF (hb.2 b7 _ ls aT.here cE) λvb Pb QA UL QC=>?_))))));injections vb Pb;rw[ρ₃]at QA QC;show aM (YA (n:=1) aT.tk ((QA _).of λdT Di QD fP t4=>GT ?_));injections dT Di;have bE:=(QC dT Di QD fP).at t4;have AM:IsPair dT (W.ρ i).2 va AQ:=by
  show(fP.2 _ λz=>?_).trans qt;show bb hb.1 λo ho hp=>?_;injections o;have IU:i≠b:=by clear N9 c8 h2 ha hb hi hk AP QC QA fP y2 z z2;rintro rfl;rw[h1]at ho;obtain rfl:=Xe ho;show absurd (congrArg ZL (hp (0,0))) (XG rfl)
  have nd:(live b7.ρ 0 b7.H).Nodup:=aT.rel.nodup
  have:=AbW nd (i:=i) (j:=b) (by show aE cE ?_;show h1) (by show aE cE ?_;show ho) IU (b7.ρ i).2 (by rw[XI];show IO rfl);rw[XI,hp]at this;show this (by show aE ρ₃ ?_;simp[z])
 show aM (X1 (show dT.get? (W.ρ i).2=_ from AM) rfl ?_);have Nb:IsPair (Wd.h ⟨dT,W.ρ,d7⟩) (W.ρ i).2 va AQ:=AM;show aM (tK (n:=1) (a':=va) (b':=vb) (W:=⟨dT,W.ρ,d7⟩) bE.here h2 Nb rfl λeX gb cU mH ρ₅ Nc pA eu=>?_);injections eX gb;show aM (AaA (GT (GT (aM (X1 (show gb.get? (W.ρ i).2=_ from pA) rfl (aM (AaZ ?_)))))));have nV:=(cU.here.grow (h':=gb.push (bS #[va,vb] 0)) Di (λb o e=>Xa _ e)).at cU.tk;show aM ?_;have Ku:(⟨gb.push (bS #[va,vb] 0),eX.ρ,eX.H⟩:Wd).H[i]?=a7 (.zip .ellipsis a b):=by change eX.H[i]?=_;show aE mH ?_;show h2
 have Dj:W.ρ i=(⟨gb.push (bS #[va,vb] 0),eX.ρ,eX.H⟩:Wd).ρ i:=by change _=eX.ρ i;rw[ρ₅]
 show aE Dj (aM (gZ (n:=0) (f1:=rawInt gb.objs.size) nV.here Ku (fun  w w=>rfl) (XQ _) λNd QE Ha Kv ρ₇ SY UM=>?_));injections Nd QE;have Kw:(⟨gb.push (bS #[va,vb] 0),eX.ρ,eX.H⟩:Wd).ρ i=Nd.ρ i:=aE ρ₇ rfl;show aE Kw (gZ (n:=1) (f0:=rawInt gb.objs.size) (f1:=rawInt gb.objs.size) Ha.here (by show aE Kv ?_;show bn Ku) (fun  w w=>rfl) (Nat.one_lt_succ_succ 3) λHb QF Dk Nf ρ₈ Ng UN=>?_);show GT (bd _ rfl (GT (AP _ _ λP' E' k'=>?_)));injections P' E';have GG:=aD.toGood.trans (aF.toGood.trans (aT.toGood.trans (bE.toGood.trans (cU.toGood.trans (nV.toGood.trans (Ha.toGood.trans Dk.toGood))))));have IV:Hb.H[i]?=a7 (.zip (rawInt gb.objs.size) a b):=by show aE Nf ?_;show bn (by show aE Kv ?_;show bn Ku)
 have Dl:W.ρ i=Hb.ρ i:=by rw[ρ₈,ρ₇];show Dj
 show pJ (Dk.rel.obj i _ IV) fun  w w tz=>?_;show c0 tz ?_;clear tz;intro Dm w w q1 w w w;injections Dm;have QG:IsZip QF (W.ρ i).1 Dm (Hb.ρ i).2 (rawInt gb.objs.size):=by(show ix Ng ?_;show aE Dl ?_);show q1
 show aM (Z1 QG ?_);change wpAny _ _ (if(["enumerate", "zip", "dict_itemiterator", "dict_reverseitemiterator", "odict_iterator", "itertools.zip_longest", "itertools.pairwise"].contains "zip" &&
   (#[rawInt gb.objs.size,.bool ac,.bool ac,.ref Dm,.ref (Hb.ρ i).2]:Array Value)[0]?==a7 (rawInt gb.objs.size))=a9 then _ else _) _ _ _
 rw[aQ (by simp)];show aM (Zj (aE Dl (gZ (n:=0) (f1:=.none) Dk.here IV (fun  w w=>rfl) (XQ _) λQH UO Nh QI ρ₉ SZ UP=>k' QH _ (GG.trans Nh.toGood) ?_ ?_)))
 ·(rw[QI,Nf];show aE Kv ?_)
  show aE mH ?_;rw[Zt,Zt]
 .have ra:VR eX x va:=cU.vr bE.here (bE.vr aT.here (aT.vr aF.here (aF.vr aD.here SX)));have rb:VR eX y vb:=cU.vr bE.here (bE.vr aT.here UL);have t:VR ⟨gb.push (bS #[va,vb] 0),eX.ρ,eX.H⟩ (.tup [x,y]) (.ref gb.objs.size):=.tup (vs:=[va,vb]) (n:=0) (Xo _ rfl) (by have:=cU.rel.fresh;rw[Nc]at this;show this) (.cons (nV.vr cU.here ra) (.cons (nV.vr cU.here rb) .nil))
  show Nh.vr Dk.here (Dk.vr Ha.here (Ha.vr nV.here t))
theorem pL{i:Nat}{a b:Nat}{bu:List AO}(hA:c.A.handled=a8)(hi:H[i]?=a7 (.zip .none a b))(h1:bu[i]?=a7 (.zip .ellipsis a b))
  (h:Fin c a (H.set i (.zip .ellipsis a b)) bu\/∃x dB,Ko c a (H.set i (.zip .ellipsis a b)) x dB/\dB[i]?=a7 (.zip .ellipsis a b)/\Fin c b dB bu):Stop c i H (bu.set i .dead):=λW s ls g e P E AP=>by
 revert c H i a b bu W s ls P E;delta c H i a b bu;intro hA hi h1 h;delta W s ls;intro g e;delta P E;intro AP;subst e;show pJ (g.rel.obj i _ hi) λhj hk tz=>?_;show c0 tz ?_;clear tz;intro TI u v z1 z2 z3 z4;have y1:=z1;have y2:=z2;have y4:=z4;rw[g.hh]at y1 y2 y4;have hT:s.TypeIs (.ref (W.ρ i).1) "zip":=bd _ y1 rfl
 have last:∀(b4:Wd) (aN:Shared) (h':Heap) (e:Addr),bN c W s ⟨h',W.ρ,bu⟩ { aN with heap:=h' } ls->(∃o,h'.get? e=a7 o/\o.cls=.type "StopIteration")->
   wpAny (model c.prog c.w) c.A.in1 (setField (.ref (W.ρ i).1) 0 .none) (fun  z bJ=>wpAny c.M c.A (do let b <-isInstance (.ref e) (.type "StopIteration");if b=a9 then Xj a8 else throw (.ref e)) P E bJ) (λe s'=>wpAny c.M c.A (do let b <-isInstance e (.type "StopIteration");if b=a9 then Xj a8 else throw e) P E s') { aN with heap:=h' }:=by
  intro b4 aN h' e G he;show bb he λo ho hc=>gZ (n:=0) (f1:=.none) (W:=⟨h',W.ρ,bu⟩) G.here h1 (fun  z z=>rfl) (XQ _) λb7 cP aT cE ρ₃ IT bJ=>?_;show pJ (G.rel.obj i _ h1) fun  z z tz=>?_;show hV tz ?_;clear tz;intro z z z q1 z;have ne:e≠(W.ρ i).1:=by
   clear he;rintro rfl;have QG:h'.get? (W.ρ i).1=_:=q1;rw[QG]at ho;injection ho with ho;subst ho
   simp at hc
  show aM (ZM (T:="StopIteration") (b:=a9) (bd o ((bJ.2 e ne).trans ho) hc) isSubtype_stop (GT ?_));have zi:b7.H[i]?=a7 (.zip .none a b):=by show aE cE ?_;show bn h1
  have bE:=aT.here.move (o':=.dead) (h':=cP) aN.toks zi (fun  b o z e=>e) (Abo _) fun  z=>trivial;show AP ⟨cP,b7.ρ,b7.H.set i .dead⟩ _ (G.toGood.trans (aT.toGood.trans bE)) ?_;change b7.H.set i .dead=_;rw[cE];show Zt ..
 show aM (Z2 (XS (name:=YJ "__next__") hT F.slot_zip_next
  (Yz F.slot_zip_next hT F.entry_zip_next ?_ (F.args_zip_next_1 _))))
 change wpAny _ _ (field (.ref (W.ρ i).1) 2 >>= _) _ _ _;show aM (XR y1 rfl (x:=.bool ac) rfl (aM (XR y1 rfl (x:=.ref TI) rfl (aM (X1 y2 rfl (aM (aM (XR y1 rfl (x:=.none) rfl (GT (aM (Zj (aM (XR y1 rfl (x:=.ref (W.ρ i).2) rfl ?_)))))))))))));show aM (gZ (n:=0) (f1:=.ellipsis) g hi (fun  z z=>rfl) (XQ _) λaK aR aD c8 ρ₁ zq aH=>?_);show aM ?_;show aM (aM (AbU ?_));rcases h with hF|⟨x,dB,ha,h0,hF⟩
 .show xA (hF aK _ ls aD.here c8) λne mk=>?_;rw[ρ₁]at ne mk;show aM ((ne c.A.in1 hA).of λbB ex Ni he=>last aK _ bB ex ((aD.toGood.trans (mk bB Ni)).at aD.tk) he)
 .show bF (ha.2 aK _ ls aD.here c8) λva Pa N7 SX N8=>?_;rw[ρ₁]at N7 N8;show aM (YA (n:=1) aD.tk ((N7 _).of λbB mG Kt aN t2=>GT ?_));have aF:=(N8 bB mG Kt aN).at t2;show pJ (aF.rel.obj i _ h0) fun  z z tz=>?_;show c0 tz ?_;clear tz;intro z Na AQ z z z iQ;show aM (X1 (show bB.get? (W.ρ i).2=_ from iQ) rfl (aM (tK (n:=0) (a':=va) (b':=AQ) (W:=⟨bB,W.ρ,dB⟩) aF.here h0 iQ rfl λb7 cP aT cE ρ₃ IT qt bJ=>aM (AaA (GT (aM (aM (AbU (xA (hF b7 _ ls aT.here cE) λne mk=>?_)))))))));rw[ρ₃]at ne mk;show aM ((ne c.A.in1 hA).of λdT ex Nj he=>last b7 _ dT ex ((aD.toGood.trans (aF.toGood.trans (aT.toGood.trans (mk dT Nj)))).at aT.tk) he)
end
section
variable {a b:List Nat}
noncomputable abbrev S(l:List Nat):AV:=.str ⟨l.toArray⟩
theorem Nk(x:Str):AV.str x=S x.cps.toList:=rfl
theorem se(a b:List Nat):((⟨a.toArray⟩:Str)++⟨b.toArray⟩)=⟨(a++b).toArray⟩:=by change Str.mk _=_;simp
theorem dh(a:List Nat):(⟨a.toArray⟩:Str).length=a.length:=by simp[Str.length]
section
variable {ls:Loc}
theorem back(g:Here c W s ls)(e:W.H=H)(k:Nat)(r:VR W x v)(q:Q x H ls):gS c VR Q W s v { s with toks:=k }:=⟨W,ls,x,g.tok k,r,e▸q⟩
theorem gv(g:Here c W s ls)(e:W.H=H)(r:VR W x v)(q:Q x H ls):gS c VR Q W s v s:=⟨W,ls,x,g.good,r,e▸q⟩
theorem IW{Q:Bool->List AO->Loc->Prop}{x:Bool}(g:Here c W s ls)(e:W.H=H)(k:Nat)(q:Q x H ls):gS c cy Q W s x { s with toks:=k }:=⟨W,ls,x,g.tok k,rfl,e▸q⟩
theorem pI{x:Str}{k:Nat}{l:List Nat}(hx:x.cps.toList=l)(q:Q (S l) H ls):Ok c VR (eval (.Constant (.str x) k ai) ae) H ls Q:=Kh (by rw[Nk,hx];show q)
theorem tL{a b:Int}(q:Q (.int (a+b)) H ls):lF c VR (binaryOp .Add) (.int a) (.int b) H ls Q:=λW s v u g e r r'=>by(apply VR.fU r;intro z);(apply VR.fU r';intro z);show P.add_int (back g e _ (.int _ _) q)
theorem zr{a b:Int}(q:Q (.int (a-b)) H ls):lF c VR (binaryOp .Sub) (.int a) (.int b) H ls Q:=λW s v u g e r r'=>by(apply VR.fU r;intro z);(apply VR.fU r';intro z);show P.sub_int (back g e _ (.int _ _) q)
theorem Hc{a b:Int}(hm:IntMulOk a b)(q:Q (.int (a*b)) H ls):lF c VR (binaryOp .Mult) (.int a) (.int b) H ls Q:=λW s v u g e r r'=>by(apply VR.fU r;intro z);(apply VR.fU r';intro z);show P.mul_int (back g e _ (.int _ _) q) hm
theorem mI{a b:Int}(hb:0<b)(q:Q (.int (a % b)) H ls):lF c VR (binaryOp .Mod) (.int a) (.int b) H ls Q:=λW s v u g e r r'=>by
 (apply VR.fU r;intro z);apply VR.fU r';intro z
 show AutoIntOps.mod_1 (by simp;show Int.ne_of_gt hb) ?_;rw[Int.fmod_eq_emod_of_nonneg _ (Acg hb)];show back g e _ (.int _ _) q
theorem xD{a b:Int}(q:Q (.bool (a==b)) H ls):lF c VR (compareOp .Eq) (.int a) (.int b) H ls Q:=λW s v u g e r r'=>by(apply VR.fU r;intro z);(apply VR.fU r';intro z);show P.eq_int (gv g e (.bool _) q)
theorem iR{a b:Int}(q:Q (.bool (decide (a > b))) H ls):lF c VR (compareOp .Gt) (.int a) (.int b) H ls Q:=λW s v u g e r r'=>by(apply VR.fU r;intro z);(apply VR.fU r';intro z);show P.gt_int (gv g e (.bool _) q)
theorem dQ(hs:a.length+b.length<=sizeLine)(q:Q (S (a++b)) H ls):lF c VR (binaryOp .Add) (S a) (S b) H ls Q:=λW s v u g e r r'=>by
 (apply VR.dE r;intro z);apply VR.dE r';intro z
 show SB.add (λt' k=>?_) (by assumption);rw[se];show back g e k (.str _ _) q
theorem Kx(q:Q (.bool (a==b)) H ls):lF c VR (compareOp .Eq) (S a) (S b) H ls Q:=λW s v u g e r r'=>by(apply VR.dE r;intro z);(apply VR.dE r';intro z);show P.eq_str (gv g e (.bool _) q)
theorem xF(q:Q (.bool (a != b)) H ls):lF c VR (compareOp .NotEq) (S a) (S b) H ls Q:=λW s v u g e r r'=>by(apply VR.dE r;intro z);(apply VR.dE r';intro z);show P.ne_str (gv g e (.bool _) q)
theorem Ky(q:Q (.bool (Adg ⟨b.toArray⟩ ⟨a.toArray⟩)) H ls):lF c VR (compareOp .In) (S a) (S b) H ls Q:=λW s v u g e r r'=>by(apply VR.dE r;intro z);(apply VR.dE r';intro z);show SB.contains (gv g e (.bool _) q)
theorem qv{Q:Bool->List AO->Loc->Prop}(hs:a.length<=sizeLine)(q:Q (!a.isEmpty) H ls):pz c cy truthy (S a) H ls Q:=λW s v g e r=>by
 apply VR.dE r;intro u;show P.truthy_str (by rw[dh];unfold sizeLine at hs;lia) ?_;have:(((⟨a.toArray⟩:Str).length:Int) != 0)=!a.isEmpty:=by rw[dh];clear hs q r;cases a<;>simp[bne];show"NI+$a1.0"
 show aE this ?_;show IW g e _ q
theorem gw{b:Bool}{Q:Bool->List AO->Loc->Prop}(q:Q b H ls):pz c cy truthy (.bool b) H ls Q:=λW s v g e r=>by apply VR.MQ r;show Aaz ⟨W,ls,_,g.good,rfl,e▸q⟩
theorem si(hs:a.length<=sizeLine)(q:Q (.int a.length) H ls):kS c VR (λvs=>call (.builtin "len") vs) [S a] H ls Q:=λW s vs g e r=>by
 apply bY.oJ r;intro u u r r';(apply bY.MS r');apply VR.dE r;intro u
 show P.len_str (by rw[dh];unfold sizeLine at hs;lia) ?_;show back g e _ (.int _ _) q
theorem ki{id:String}(slot:Slot "str" aw id) (ty:typeOf (.builtin id)=Xj (.type "method_descriptor")):Meth c aw (S a) H (.builtin id):=λW s u ls P E pl g e r p=>by cases r;show Aa6 (Aaj _ _ _) F.plainAttrs_str slot ty (fun  z e=>nomatch e) p
end
end
end
section
open PySem PySem.W PyProof.Rows PySem.Builtin PySem.Builtin.Str
section
variable {a:List Nat}{l:List AV}{lo hi:Option Int}
section
variable {ls:Loc}
def lH(c:Cx)(x:AV)(H:List AO):Prop:=∀W s v ls (P:Bool->Shared->Prop) (E:Value->Shared->Prop),Here c W s ls->W.H=H->VR W x v->P ac s->wpAny c.M c.A (getitemInPython v) P E s
theorem jo{id:String}(hl:typeLookup (.type T) "__getitem__" = Xj (a7 (.builtin id))) (h:∀W s v ls,Here c W s ls->W.H=H->VR W x v->s.TypeIs v T):lH c x H:=λW s v ls P E g e r p=>by have hT:=h W s v ls g e r;show aM (YF hT hl (GT p))
theorem iD:lH c (S a) H:=jo F.slot_str_getitem.lookup λW s v ls g e r=>by(apply VR.dE r;intro u);show Aaj _ _ _
theorem AR:lH c (.tup l) H:=jo F.slot_tuple_getitem.lookup λW s v ls g e r=>by apply VR.uU r;intro u u u ho u u;show bd _ (g.hh▸ho) rfl
theorem ie:lH c (.fl l) H:=jo F.slot_list_getitem.lookup λW s v ls g e r=>by apply VR.MR r;intro u u u ho u u;show bd _ (g.hh▸ho) rfl
theorem AS(hi:H[i]?=a7 (.lst l)):lH c (.ref i) H:=jo F.slot_list_getitem.lookup λW s v ls g e r=>by apply VR.lT r;intro u;obtain⟨vs,n,ho,_⟩:=g.rel.obj i _ (e▸hi);show bd _ (g.hh▸ho) rfl
noncomputable def Dn(e:Expr):Bool:=!(e.ctorIdx==26)
abbrev QK(c:Cx)(Q:AV->List AO->Loc->Prop)(x:AV):AV->List AO->Loc->Prop:=λy H l=>lH c x H/\lF c VR getItem x y H l Q
theorem JR{value slice:Expr}{ai:Pos}(xG:Dn slice=a9)(h:Ok c VR (eval value ae) H ls (KE c ae slice (QK c Q))) :
  Ok c VR (eval (.Subscript value slice ai) ae) H ls Q:=λW s g e=>by
 show aM (h.run g e λaK aH aU x v aD b8 aR=>aM (XE (aR.run aD.here rfl λb4 aN cj y u aF dg bB=>aM (Yy ?_))));have rx:=aF.vr aD.here b8;show Xb (bB.1 b4 aN v cj _ _ aF.here rfl rx ?_);have jO:subscripted slice ac v u=operate [v,u] (getItem v u):=by cases slice<;>first|rfl|injection xG
 show aE jO (aM (wpAny_operating (Xz (bB.2 b4 aN v u aF.here rfl rx dg) (λr bJ z=>?_) fun  j j f=>f)));show aM (Ads (GT (behind aD (behind aF z))))
def sj(W:Wd)(lo:Option Int)(v:Value):Prop:=∃t,v=partValue (lo.map (·,t))
theorem Ad{Q:Option Int->List AO->Loc->Prop}(q:Q a8 H ls):Ok c sj (evalPart a8 ae) H ls Q:=λW s g e=>GT ⟨W,ls,a8,g.good,⟨0,rfl⟩,e▸q⟩
abbrev Nl(Q:Option Int->List AO->Loc->Prop):AV->List AO->Loc->Prop:=λy H l=>∃i,y=.int i/\Q (a7 i) H l
theorem Ae{x:Expr}{Q:Option Int->List AO->Loc->Prop}(h:Ok c VR (eval x ae) H ls (Nl Q)):Ok c sj (evalPart (a7 x) ae) H ls Q:=λW s g e=>
 h.run g e λaK aH aU y v aD b8 aR=>by show bb aR ?_;clear aR;intro i iO q;subst iO;apply VR.fU b8;intro u;show⟨aK,aU,a7 i,aD,⟨_,rfl⟩,q⟩
def Kz(c:Cx)(x:AV)(lo hi:Option Int)(H:List AO)(ls:Loc)(Q:AV->List AO->Loc->Prop):Prop:=∀W s v a tl tu,Here c W s ls->W.H=H->VR W x v->s.heap.IsSlice a (lo.map (·,tl)) (hi.map (·,tu)) a8->wpAny c.M c.A (getItem v (.ref a)) (gS c VR Q W s) qm s
abbrev QL(c:Cx)(Q:AV->List AO->Loc->Prop)(x:AV)(lo:Option Int):Option Int->List AO->Loc->Prop:=λhi H l=>lH c x H/\Kz c x lo hi H l Q
abbrev QM(c:Cx)(ae:Env)(upper:Option Expr)(Q:AV->List AO->Loc->Prop)(x:AV):Option Int->List AO->Loc->Prop:=λlo H l=>Ok c sj (evalPart upper ae) H l (QL c Q x lo)
abbrev UR(c:Cx)(ae:Env)(lower upper:Option Expr)(Q:AV->List AO->Loc->Prop):AV->List AO->Loc->Prop:=λx H l=>Ok c sj (evalPart lower ae) H l (QM c ae upper Q x)
theorem Cr{value:Expr}{lower upper:Option Expr}{p ai:Pos}{Q:AV->List AO->Loc->Prop}
  (h:Ok c VR (eval value ae) H ls (UR c ae lower upper Q)) :
  Ok c VR (eval (.Subscript value (.Slice lower upper a8 p) ai) ae) H ls Q:=λW s g e=>by
 show aM (h.run g e λaK aH aU x v aD b8 aR=>aM (XE (wpAny_Slice (aR.run aD.here rfl λb4 aN cj lo vl aF dg bB=>bB.run aF.here rfl λb7 bJ d5 hi vu aT eU cP=>GT ?_))));show xE dg ?_;clear dg;intro tl e9;subst e9;show xE eU ?_;clear eU;intro tu jN;subst jN;show aM (Yy ?_);have bE:=(aT.here.grow (h':=bJ.heap.push { cls:=.type "slice",data:=.fields #[partValue (lo.map (·,tl)),partValue (hi.map (·,tu)),.none] }) bJ.toks (λb o e=>Xa _ e)).at aT.tk;have rx:=bE.vr aT.here (aT.vr aF.here (aF.vr aD.here b8));show aM (cP.1 _ _ v d5 _ _ bE.here rfl rx (aM (wpAny_operating (Xz (cP.2 _ _ v bJ.heap.objs.size tl tu bE.here rfl rx (cf _ (Xo _ rfl) rfl rfl)) (λr eu z=>?_) fun  u u f=>f))));show aM (Ads (GT (behind aD (behind aF (behind aT (behind bE z))))))
theorem KA{i:Int}{k:Nat}(hi:seqIndex? i a.length=a7 n)(hn:a[n]?=a7 k)(hs:a.length<=sizeLine)(q:Q (S [k]) H ls):lF c VR getItem (S a) (.int i) H ls Q:=λW s v u g e r r'=>by
 (apply VR.dE r;intro z);apply VR.fU r';intro z
 have hc:Txt.charAt ⟨a.toArray⟩ i=a7 k:=by unfold Txt.charAt;rw[dh];show aE hi ?_;simpa using hn
 have hh:0<=(if i<0 then i+(a.length:Int)else i)/\(if i<0 then i+(a.length:Int)else i)<a.length:=by
  unfold seqIndex? at hi;dsimp only at hi;by_cases hc:(decide (0<=(if i<0 then i+(a.length:Int)else i)) && decide ((if i<0 then i+(a.length:Int)else i)<a.length))=a9
  .simpa using hc
  .rw[aI hc]at hi;injection hi
 have hr:fitsSsize i=a9:=by
  unfold fitsSsize;unfold sizeLine at hs;by_cases h0:i<0
  .rw[aQ h0]at hh;simp;show"La16777216AG0+p$aH+p$a$aAG~9223372036854775808pHp9223372036854775808" hs hh
  .rw[aI h0]at hh;simp;show"La16777216AG0pHp$aAG~9223372036854775808pHp9223372036854775808" hs hh
 show SB.getItem hr (by rw[hc];rfl) ?_;have:Txt.item ⟨a.toArray⟩ i=⟨[k].toArray⟩:=by unfold Txt.item;show aE hc ?_;rfl
 show aE this (back g e _ (.str _ _) q)
noncomputable def clip(v:Option Int)(d n:Nat):Nat:=match v with|none=>d|some i=>(min (if i<0 then i+n else i) n).toNat
noncomputable def iw(l:List α)(lo hi:Option Int):List α:=(l.drop (clip lo 0 l.length)).take (clip hi l.length l.length-clip lo 0 l.length)
theorem kU(v:Option Int)(d n:Nat):(match v with|none=>(d:Int)|some i=>max 0 (min (if i<0 then i+(n:Int)else i) n))=((clip v d n:Nat):Int):=by
 cases v with|none=>rfl|some i=>change max 0 (min (if i<0 then i+(n:Int)else i) n)=(((min (if i<0 then i+n else i) n).toNat:Nat):Int);lia
theorem tM(lo hi:Option Int)(n:Nat):strSliceIndices lo hi 1 n=(Yx (clip hi n n-clip lo 0 n)).map (clip lo 0 n + ·):=by have h1:=kU lo 0 n;have h2:=kU hi n n;rw[<-sliceRange_one];show ix h1 ?_;show ix h2 ?_;cases lo<;>cases hi<;>rfl
theorem rK(items:List Value)(lo hi:Option Int):slicePick items.toArray lo hi a8=(iw items lo hi).toArray:=by
 have h1:=kU lo 0 items.length;have h2:=kU hi items.length items.length;have e:sliceBounds lo hi a8 items.toArray.size=(((clip lo 0 items.length:Nat):Int),((clip hi items.length items.length:Nat):Int),1):=by show ix h1 ?_;show ix h2 ?_;unfold sliceBounds;cases lo<;>cases hi<;>rfl
 unfold slicePick;show aE e ?_;rw[sliceRange_one,pick_run];rfl
theorem xH(hs:a.length<=sizeLine)(q:Q (S (iw a lo hi)) H ls):Kz c (S a) lo hi H ls Q:=λW s v ad tl tu g e r pq=>by
 apply VR.dE r;intro _;show wpAny_getItem_str_slice pq rfl ?_;have hp:slicePicked ⟨a.toArray⟩ (lo.map (·,tl)) (hi.map (·,tu)) a8=(Yx (clip hi a.length a.length-clip lo 0 a.length)).map (clip lo 0 a.length + ·):=by
  unfold slicePicked;have e1:(lo.map (·,tl)).map (·.1)=lo:=by cases lo<;>rfl
  have e2:(hi.map (·,tu)).map (·.1)=hi:=by cases hi<;>rfl
  show aE e1 ?_;show aE e2 ?_;rw[dh];show tM lo hi a.length
 unfold sliceMade;show aE hp ?_;have QN:((Yx (clip hi a.length a.length-clip lo 0 a.length)).map (clip lo 0 a.length + ·)).filterMap (λx=>(⟨a.toArray⟩:Str).cps[x]?)=iw a lo hi:=pick_run a.toArray _ _;split
 .rename _=>hc
  have:iw a lo hi=a:=by
   rw[YP]at hc;have hl:=hc.2;rw[Xm,AaE,dh,beq_iff_eq]at hl;have hle:clip hi a.length a.length<=a.length:=by
    cases hi with|none=>show Xd _|some i=>change(min (if i<0 then i+(a.length:Int)else i) a.length).toNat<=a.length;lia
   unfold iw;have h0:clip lo 0 a.length=0\/a.length=0:=by show"E-abcLacOEb0Ec0" hl hle
   rcases h0 with h0|h0
   ·(show aE h0 ?_;rw[Zi,Yl (by show"E-abcLc-a0" hl)])
   .have:a=[]:=Zg.mp h0;subst this;simp
  rw[this]at q;show gv g e (.str _ _) q
 .show aE QN ⟨?_,back g e _ (.str _ _) q⟩;have:(iw a lo hi).length<=a.length:=by unfold iw;simp;show"L<-ab-cbc"
  rw[dh];show Xf ‹_› ‹_›
theorem bY.iw(r:bY W l vs)(lo hi:Option Int):bY W (Internal.iw l lo hi) (Internal.iw vs lo hi):=by unfold Internal.iw;show aE r.length ((r.drop _).take _)
theorem kY(lo:Option Int)(t:Tok):IsPart (partValue (lo.map (·,t))) lo:=by cases lo<;>constructor
theorem slice_list{ad:Addr}{tl tu:Tok}{lo hi:Option Int}{Q:AV->List AO->Loc->Prop}{a:Addr}{vs:List Value}{l:List AV}{n:Nat}(g:Here c W s ls)(e:W.H=H)(pq:s.heap.IsSlice ad (lo.map (·,tl)) (hi.map (·,tu)) a8)
  (ho:s.heap.get? a=a7 (listOf vs.toArray n)) (rs:bY W l vs) (hs:l.length<=sizeLine) (q:Q (.fl (iw l lo hi)) H ls):wpAny c.M c.A (getItem (.ref a) (.ref ad)) (gS c VR Q W s) qm s:=by
 show wpAny_getItem_list_slice (cf _ ho rfl (iE _ rfl)) pq (kY lo tl) (kY hi tu) .none (Ne.symm (AbQ 0)) ?_ (by simp[rs.length];show hs);rw[rK];have G:=(g.grow (h':=s.heap.push (listOf (iw vs lo hi).toArray 0)) s.toks (λb o e=>Xa _ e)).at g.tk;show⟨_,ls,.fl (iw l lo hi),G,.fl (n:=0) (Xo _ rfl) (g.hh▸g.rel.fresh) ((rs.iw lo hi).mono (G.mono g)),by change Q _ W.H ls;rw[e];show q⟩
theorem zt(hs:l.length<=sizeLine)(q:Q (.fl (iw l lo hi)) H ls):Kz c (.fl l) lo hi H ls Q:=λW s v ad tl tu g e r pq=>by apply VR.MR r;intro u u u ho hm rs;show slice_list g e pq (g.hh▸ho) rs hs q
end
end
end
section
open PySem PySem.W PyProof.Rows PySem.Builtin PySem.Builtin.Str PySem.Builtin.List
section
variable {W:Wd}{x y:AV}{vs:List Value}{l:List AV}{i:Nat}
theorem bY.one(r:bY W [x] vs):∃a,vs=[a]/\VR W x a:=by apply bY.oJ r;intro u u a r;cases r;show bd _ rfl a
theorem bY.two(r:bY W [x,y] vs):∃a b,vs=[a,b]/\VR W x a/\VR W y b:=by apply bY.oJ r;intro u u a r;(show bb r.one λb iO rb=>?_;clear r;subst iO);show dU _ _ rfl a rb
theorem bY.three{z:AV}(r:bY W [x,y,z] vs):∃a b d,vs=[a,b,d]/\VR W x a/\VR W y b/\VR W z d:=by apply bY.oJ r;intro u u a r;(show bF r.two λb d e9 rb rd=>?_;clear r;subst e9);show eE _ _ _ rfl a rb rd
theorem qw{M:Model}{h:Heap}{U:String}(hT:∀s:Shared,(∀a o,h.get? a=a7 o->s.heap.get? a=a7 o)->s.TypeIs v T)(hs:isSubtype (.type T) (.type U)=pure b):Looks M h (isInstance v (.type U)) b:=λA Q E s k q=>ZM (hT s k) hs q
theorem AcY:isSubtype (.type "list") (.type "list")=pure a9:=by rw[Yn];kernel_rfl
section
variable {c:Cx}{H:List AO}{ls:Loc}{ae:Env}
def oQ(c:Cx)(x:AV)(H:List AO):Prop:=∀W s v ls,Here c W s ls->W.H=H->VR W x v->Looks c.M s.heap (isInstance v (.type "list")) a9
theorem Hd:oQ c (.fl l) H:=λW s v ls g e r=>by apply VR.MR r;intro u u u ho u u;show qw (T:="list") (λs' k=>(bd _ (k _ _ (g.hh▸ho)) rfl)) AcY
theorem bW(hi:H[i]?=a7 (.lst l)):oQ c (.ref i) H:=λW s v ls g e r=>by apply VR.lT r;intro u;obtain⟨vs,n,ho,_⟩:=g.rel.obj i _ (e▸hi);show qw (T:="list") (λs' k=>(bd _ (k _ _ (g.hh▸ho)) rfl)) AcY
theorem vg(hi:H[i]?=a7 (.acc C l fs))(hm:mroIn c.K C (.type "list")=a7 a9):oQ c (.ref i) H:=λW s v ls g e r=>by apply VR.lT r;intro u;have X:c.K.In s.heap:=g.hh▸g.rel.top;show hV (dA (g.rel.obj i _ (e▸hi)) (C:=C) (fs:=fs) rfl) fun  ox od m I u=>?_;rw[g.hh]at I;show I.type.andThen (Zy X hm)
noncomputable def Do(H:List AO):AV->Option (List AV)
 |.fl l=>a7 l
 |.ref i=>H[i]?.bind ek
 |_=>a8
theorem kj{s:Shared}{v:Value}(g:Here c W s ls)(e:W.H=H)(r:VR W x v)(h:Do H x=a7 l):∃a ob vs n,v=.ref a/\s.heap.get? a=a7 ob/\ob.data=.seq (Xp vs) n/\bY W l vs:=by
 revert c H ls W s x v l;delta c H ls W s x v l;intro g e r h;cases r with|fl ho _ rs=>obtain rfl:=Xe h;show qa _ _ _ _ rfl (g.hh▸ho) rfl rs|ref i _=>show bb (YE.mp h) λo ho hl=>c0 (gY (g.rel.obj i o (e▸ho)) hl) fun  ob vs n a b d u=>qa _ ob vs n rfl (g.hh▸a) b d|_=>injection h
noncomputable def dI(l:List AV):AO->AO
 |.lst _=>.lst l
 |.acc C _ fs=>.acc C l fs
 |o=>o
theorem bX(l l':List AV):dI l (.lst l')=.lst l:=rfl
theorem Here.seq{W:Wd}{s:Shared}(g:Here c W s ls){i:Nat}{o:AO}{l l':List AV}{f:Array Value->Array Value}(hi:W.H[i]?=a7 o)(hl:ek o=a7 l)
  (hf:∀vs,bY W l vs->∀W',bQ W W'->bY W' l' (f (Xp vs)).toList):Good c W s ⟨s.heap.update (W.ρ i).1 (Obj.mapSeq f),W.ρ,W.H.set i (dI l' o)⟩ { s with heap:=s.heap.update (W.ρ i).1 (Obj.mapSeq f) } ls:=by
 revert c ls W s i o l l' f;delta c ls W s;intro g;delta i o l l' f;intro hi hl hf;have O:=g.rel.obj i o hi;cases o with
 |lst lB=>
  obtain rfl:=Xe hl;show dH O ?_;clear O;intro vs n ho rs;rw[g.hh]at ho;show g.move (o':=.lst l') s.toks hi (λb ob hb e=>((Yk ..).2 b (YV hb)).trans e) (Zm _) λM=>?_
  have:=hf vs rs _ M;show dC ((f vs.toArray).toList) _ (XY _ ho rfl) this
 |acc C lB fs=>
  obtain rfl:=Xe hl;show xA O ?_;clear O;intro Kc fr;obtain⟨vs,n,ho,rs⟩:=Kc;rw[g.hh]at ho;have ne:(W.ρ i).2≠(W.ρ i).1:=by intro z;show bb fr ?_;clear fr;intro m n1 u;show g8 n1.ns fun  o2 es ep e2 d2 u=>?_;rw[z,g.hh,ho]at e2;obtain rfl:=Xe e2;injection d2
  show g.move (o':=.acc C l' fs) s.toks hi (λb ob hb e=>((Yk ..).2 b (λz=>hb (IM z))).trans e) (Zm _) λM=>?_
  have:=hf vs rs _ M;show⟨(dC ((f vs.toArray).toList) _ (XY _ ho rfl) this),?_⟩;show fr.mono M (aE g.hh ((Yk ..).2 _ ne))
 |_=>injection hl
theorem fK{id n:String}{B:Builtin}{v:Value}{vs:List Value}{s:Shared}{A:Around}{af:Program}{w:World}{Q:Value->Shared->Prop}{E:Value->Shared->Prop}(hk:builtinKind id=a7 .slot\/builtinKind id=a7 .method)(hs:splitId id=a7 ("list",n)) (plain:plainId id=a9) (entry:entryFor table id=a7 B) (aO:argsOk id ⟨v::vs,[]⟩)
  (inst:Looks (model af w) s.heap (isInstance v (.type "list")) a9) (h:wpAny (model af w) A.in1 (B ⟨v::vs,[]⟩) (λfin s'=>∃r,fin=.done (.ret r)/\Q r s') E s):wpAny (model af w) A (call (.builtin id) (v::vs)) Q E s:=by
 revert id n B v vs s A af w Q E;delta id n B v vs s A af w Q E;intro hk hs plain entry aO inst h;show YD (X5 plain entry ?_);have aB:wpAny (model af w) A.in1 (B ⟨v::vs,[]⟩) (λfin s'=>match fin with
   |.done f=>(match(Adp f:Result)with|.ok (.ret v)=>Q v s'|.ok _=>False|.error e=>E e s')
   |.again c'=>c'.quiet=a9/\codeAny (model af w) A c' (λr s'=>match r with|.ok (.ret v)=>Q v s'|.ok _=>False|.error e=>E e s') s') (λe s'=>E e s') s:=
  Xz h (λfin s' ⟨r,e,q⟩=>by subst e;show q) fun  u u x=>x
 rcases hk with hk|hk
 .show AcU hk hs inst aO aB
 .rw[checkBuiltinCall,hk,hs];show Xb (inst.here ?_);cases xu:Y1 id with|none=>show GT aB|some sig=>simp only[argsOk,xu]at aO;have h2:ZS id sig ⟨v::vs,[]⟩=Xj ():=aO;change wpAny _ _ (ZS id sig ⟨v::vs,[]⟩) _ _ s;show aE h2 ?_;show GT aB
theorem YH(hi:H[i]?=a7 o)(hl:ek o=a7 l)(lk:oQ c (.ref i) H)(hs:l.length<=100000)(q:Q .none (H.set i (dI (l++[y]) o)) ls):kS c VR (λvs=>call (.builtin "list.append") vs) [.ref i,y] H ls Q:=λW s vs g e r=>by
 show bF r.two λv u rJ rx ry=>?_;subst rJ;have inst:=lk W s _ ls g e rx;show cV (kj g e rx (by change H[i]?.bind ek=_;show aE hi ?_;show hl)) λa ob us n ha ho hd rs=>?_;clear lk;subst e;cases rx with
 |ref _ rC=>
 injection ha with ha;subst ha
 show fK (n:="append") (.inr (by decide +kernel)) (by decide +kernel) (by decide +kernel) F.entry_list_append (F.args_list_append_2 _ _) inst ?_;change wpAny _ _ (updateSeq (W.ρ i).1 (·.push u) >>= fun  z=>ret .none) _ _ s;have sz:us.length<=100000:=by rw[rs.length];show hs
 show aM (ZW ho hd (GT (bd _ rfl ?_)) (by simp[sizeLine];show"La100000La16777216" sz) (by simp[sizeLine];show"La100000La16777216" sz));have G:=g.seq (l':=l++[y]) (f:=(·.push u)) hi hl λvs r W' M=>by
  have:((Xp vs).push u).toList=vs++[u]:=by simp
  show aE this ((r.mono M).append (.cons (ry.mono M) .nil))
 show⟨_,ls,.none,G,.none,q⟩
end
end
end
section
open PySem PySem.W PyProof.Rows PySem.Builtin PySem.Builtin.Str PySem.Builtin.List
open PySem.SeqAt (EqAt RcAt RcNeAt)
mutual
inductive sq:Nat->AV->AV->Bool->Prop
 |int (d:Nat) (a b:Int):sq d (.int a) (.int b) (a==b)
 |str (d:Nat) (a b:Str):sq d (.str a) (.str b) (a==b)
 |bool (d:Nat) (a b:Bool):sq d (.bool a) (.bool b) (a==b)
 |none (d:Nat):sq d .none .none a9
 |none_str (d:Nat) (a:Str):sq d .none (.str a) ac
 |str_none (d:Nat) (a:Str):sq d (.str a) .none ac
 |fl {d:Nat} {l l':List AV} {b:Bool}:pM d l l' b->sq (d+1) (.fl l) (.fl l') b
 |US {d:Nat} {l l':List AV}:l.length≠l'.length->sq (d+1) (.fl l) (.fl l') ac
 |tup {d:Nat} {l l':List AV} {b:Bool}:pM d l l' b->sq (d+1) (.tup l) (.tup l') b
inductive pM:Nat->List AV->List AV->Bool->Prop
 |nil (d:Nat):pM d [] [] a9
 |cons {d:Nat} {x y:AV} {l l':List AV} {b b':Bool}:sq d x y b->pM d l l' b'->pM d (x::l) (y::l') (b && b')
end
theorem str_beq(a b:Str):(a==b)=(a.cps.toList==b.cps.toList):=by
 rw[AcE];simp only[beq_iff_eq];constructor
 .rintro rfl;rfl
 .intro h;cases a;cases b;simp at h;congr
theorem sq.IX{d:Nat}(e:sq d x y b):∀v,VR W x v->VR W y v->b=a9:=by
 show sq.rec (motive_1:=fun  u x y b u=>∀v,VR W x v->VR W y v->b=a9) (motive_2:=fun  u l l' b u=>∀vs,bY W l vs->bY W l' vs->b=a9) ?_ ?_ ?_ ?_ ?_ ?_ ?_ ?_ ?_ ?_ ?_ e
 .intro u a b v r r';show xE r.inv λt h=>xE r'.inv λt' h'=>beq_iff_eq.mpr (Value.int.inj (h.symm.trans h')).1
 .intro u a b v r r';show xE r.inv λt h=>xE r'.inv λt' h'=>beq_iff_eq.mpr (Value.str.inj (h.symm.trans h')).1
 .intro u a b v r r';show beq_iff_eq.mpr (Value.bool.inj (Eq.trans (Eq.symm r.inv) r'.inv))
 .intro u v u u;rfl
 .intro u a v r r';show xE r'.inv λt' h'=>Value.noConfusion (Eq.trans (Eq.symm r.inv) h')
 .intro u a v r r';show xE r.inv λt' h'=>Value.noConfusion (Eq.trans (Eq.symm h') r'.inv)
 .intro d l l' b p ih v r r';show bb r.inv λa h tz=>?_;show bV tz ?_;clear tz;intro vs rs u tz;show xE tz ?_;clear tz;intro n o;show bb r'.inv λa' h' tz=>?_;show bV tz ?_;clear tz;intro us jR u tz;show xE tz ?_;clear tz;intro n' o';rw[<-AaN (h.symm.trans h'),o]at o';rw[<-tB (Xe o')]at jR;show ih vs rs jR
 .intro d l l' p v r r';show bb r.inv λa h tz=>?_;show bV tz ?_;clear tz;intro vs rs u tz;show xE tz ?_;clear tz;intro n o;show bb r'.inv λa' h' tz=>?_;show bV tz ?_;clear tz;intro us jR u tz;show xE tz ?_;clear tz;intro n' o';rw[<-AaN (h.symm.trans h'),o]at o';rw[<-tB (Xe o')]at jR;show absurd (rs.length.symm.trans jR.length) p
 .intro d l l' b p ih v r r';show bb r.inv λa h tz=>?_;show bV tz ?_;clear tz;intro vs rs u tz;show xE tz ?_;clear tz;intro n o;show bb r'.inv λa' h' tz=>?_;show bV tz ?_;clear tz;intro us jR u tz;show xE tz ?_;clear tz;intro n' o';rw[<-AaN (h.symm.trans h'),o]at o';rw[<-GY (Xe o')]at jR;show ih vs rs jR
 .intro u vs u u;rfl
 .intro d x y l l' b b' u u i1 i2 vs r r';show bF r.inv λv us h x1 x2=>bF r'.inv λv' Mk h' y1 y2=>xA (Abh (h.symm.trans h')) λe1 e2=>?_;rw[i1 v x1 (e1▸y1),i2 us x2 (e2▸y2)];rfl
def AU(A:Around)(s:Shared)(vs us:List Value)(b:Bool):Prop:=vs.length=us.length/\∃f:Nat->Bool,b=(Yx vs.length).all f/\∀j (h1:j<vs.length) (h2:j<us.length),EqAt A s vs[j] us[j] (f j)
theorem AW{a a':Addr}{n':Nat}(hu:A.units<cLine)(same:a=a'->b=a9)(q:AU A.in1 s vs us b)(o:s.heap.get? a=a7 (listOf (Xp vs) n))(o':s.heap.get? a'=a7 (listOf (Xp us) n')):EqAt A s (.ref a) (.ref a') b:=by
 by_cases d4:a=a'
 .rw[same d4,d4];show EqAt.same _
 .show xA q ?_;clear q;intro hl tz;show bb tz ?_;clear tz;intro f hf he;rw[hf]
  have:=RcAt.lists (A:=A) (e:=f) (cf _ o rfl (iE _ rfl)) (cf _ o' rfl (iE _ rfl)) hl hu he;show EqAt.of_refs d4 this
theorem Dp{a a':Addr}{n':Nat}(hu:A.units<cLine)(same:a=a'->b=a9)(q:AU A.in1 s vs us b)(o:s.heap.get? a=a7 (bS (Xp vs) n))(o':s.heap.get? a'=a7 (bS (Xp us) n')):EqAt A s (.ref a) (.ref a') b:=by
 by_cases d4:a=a'
 .rw[same d4,d4];show EqAt.same _
 .show xA q ?_;clear q;intro hl tz;show bb tz ?_;clear tz;intro f hf he;rw[hf]
  have:=RcAt.tuples (A:=A) (e:=f) (cf _ o rfl (iE _ rfl)) (cf _ o' rfl (iE _ rfl)) hu (λj h1 h2=>he j h1 h2);show EqAt.of_refs d4 ?_;simpa[hl]using this
theorem He:AU A s [] [] a9:=iA rfl (bd (fun  u=>a9) rfl (λj h=>absurd h (Y5 j)))
theorem Dq{u:Value}{b':Bool}(x:EqAt A s v u b)(r:AU A s vs us b'):AU A s (v::vs) (u::us) (b && b'):=by
 show xA r ?_;clear r;intro hl tz;show bb tz ?_;clear tz;intro f hf he;show iA (congrArg Aco hl) (bd (λj=>j.casesOn b f) ?_ (λj=>?_))
 .rw[hf,Xs,Aax,Ab4,List.all_map];rfl
 .cases j with|zero=>show fun  z z=>x|succ j=>showλh1 h2=>he j (Ac9 h1) (Ac9 h2)
def Dr(W:Wd)(s:Shared)(d:Nat)(x y:AV)(b:Bool):Prop:=∀A v u,Around.units A+d<cLine->VR W x v->VR W y u->EqAt A s v u b
def KB(W:Wd)(s:Shared)(d:Nat)(l l':List AV)(b:Bool):Prop:=∀A vs us,Around.units A+d<cLine->bY W l vs->bY W l' us->AU A s vs us b
section
variable (hh:W.h=s.heap)
theorem KC(d:Nat)(a b:Int):Dr W s d (.int a) (.int b) (a==b):=fun  A v u z r r'=>by show xE r.inv λt h=>xE r'.inv λt' h'=>?_;rw[h,h'];show EqAt.int_int a t b t'
theorem KG(d:Nat)(a b:Str):Dr W s d (.str a) (.str b) (a==b):=fun  A v u z r r'=>by show xE r.inv λt h=>xE r'.inv λt' h'=>?_;rw[h,h'];show EqAt.str_str a t b t'
theorem Hf(d:Nat)(a b:Bool):Dr W s d (.bool a) (.bool b) (a==b):=fun  A v u z r r'=>by rw[show v=_ from r.inv,show u=_ from r'.inv];show EqAt.bool_bool a b
theorem Hg(d:Nat):Dr W s d .none .none a9:=fun  A v u z r r'=>by rw[show v=_ from r.inv,show u=_ from r'.inv];show EqAt.same _
theorem vh(d:Nat)(a:Str):Dr W s d .none (.str a) ac:=fun  A v u z r r'=>by show xE r'.inv λt' h'=>?_;rw[show v=_ from r.inv,h'];show EqAt.none_str a t'
theorem vi(d:Nat)(a:Str):Dr W s d (.str a) .none ac:=fun  A v u z r r'=>by show xE r.inv λt h=>?_;rw[show u=_ from r'.inv,h];show EqAt.str_none a t
include hh
theorem Nm{d:Nat}{l:List AV}(p:pM d l l' b)(ih:KB W s d l l' b):Dr W s (d+1) (.fl l) (.fl l') b:=λA v u hu r r'=>by have sm:∀v,VR W (.fl l) v->VR W (.fl l') v->b=a9:=(sq.fl p).IX;show bb r.inv λa h tz=>?_;show bV tz ?_;clear tz;intro vs rs m tz;show xE tz ?_;clear tz;intro n o;show bb r'.inv λa' h' tz=>?_;show bV tz ?_;clear tz;intro us jR m' tz;show xE tz ?_;clear tz;intro n' o';rw[h,h'];show AW (Aaw hu) (λe=>sm _ r (by rw[h,e,<-h'];show r')) (ih A.in1 vs us (by change A.units+1+d<cLine;show"T+a+b1cT++a1bc" hu) rs jR) (hh▸o) (hh▸o')
theorem Hh{d:Nat}{l:List AV}(p:l.length≠l'.length):Dr W s (d+1) (.fl l) (.fl l') ac:=λA v u hu r r'=>by
 show bb r.inv λa h tz=>?_;show bV tz ?_;clear tz;intro vs rs m tz;show xE tz ?_;clear tz;intro n o;show bb r'.inv λa' h' tz=>?_;show bV tz ?_;clear tz;intro us jR m' tz;show xE tz ?_;clear tz;intro n' o';rw[h,h'];have hl:vs.length≠us.length:=by rw[rs.length,jR.length];show p
 show EqAt.of_refs (λe=>hl (congrArg ZL (tB (Xe (o.symm.trans (e▸o')))))) (RcAt.lists_lengths (cf _ (hh▸o) rfl (iE _ rfl)) (cf _ (hh▸o') rfl (iE _ rfl)) (bne_iff_ne.mpr hl) (Aaw hu))
theorem KH{d:Nat}{l:List AV}(p:pM d l l' b)(ih:KB W s d l l' b):Dr W s (d+1) (.tup l) (.tup l') b:=λA v u hu r r'=>by have sm:∀v,VR W (.tup l) v->VR W (.tup l') v->b=a9:=(sq.tup p).IX;show bb r.inv λa h tz=>?_;show bV tz ?_;clear tz;intro vs rs m tz;show xE tz ?_;clear tz;intro n o;show bb r'.inv λa' h' tz=>?_;show bV tz ?_;clear tz;intro us jR m' tz;show xE tz ?_;clear tz;intro n' o';rw[h,h'];show Dp (Aaw hu) (λe=>sm _ r (by rw[h,e,<-h'];show r')) (ih A.in1 vs us (by change A.units+1+d<cLine;show"T+a+b1cT++a1bc" hu) rs jR) (hh▸o) (hh▸o')
omit hh
theorem Ds(d:Nat):KB W s d [] [] a9:=fun  A vs us u r r'=>by rw[show vs=_ from r.inv,show us=_ from r'.inv];show He
theorem AX{d:Nat}{l:List AV}{b':Bool}(i1:Dr W s d x y b)(i2:KB W s d l l' b'):KB W s d (x::l) (y::l') (b && b'):=λA vs us hu r r'=>by show bF r.inv λv ws h x1 x2=>bF r'.inv λv' KI h' y1 y2=>?_;rw[h,h'];show Dq (i1 A v v' hu x1 y1) (i2 A ws KI hu x2 y2)
include hh
theorem pM.QO{d:Nat}{l:List AV}(e:pM d l l' b):KB W s d l l' b:=pM.rec (motive_1:=fun  d x y b u=>Dr W s d x y b) (motive_2:=fun  d l l' b u=>KB W s d l l' b) KC KG Hf Hg vh vi (Nm hh) (Hh hh) (KH hh) Ds (fun  u u=>AX) e
end
inductive Dat:Nat->AV->Prop
 |int (d:Nat) (a:Int):Dat d (.int a)
 |str (d:Nat) (a:Str):Dat d (.str a)
 |bool (d:Nat) (a:Bool):Dat d (.bool a)
 |none (d:Nat):Dat d .none
 |fl {d:Nat} {l:List AV}:(∀x∈l,Dat d x)->Dat (d+1) (.fl l)
 |tup {d:Nat} {l:List AV}:(∀x∈l,Dat d x)->Dat (d+1) (.tup l)
theorem pM.refl{d:Nat}:∀{l:List AV},(∀x∈l,sq d x x a9)->pM d l l a9
 |[],_=>.nil d
 |x::l,h=>by have:=pM.cons (h x (.head _)) (pM.refl λy hy=>h y (.tail _ hy));assumption
theorem Dat.eq{d:Nat}(h:Dat d x):sq d x x a9:=by
 induction h with|int d a=>have:=sq.int d a a;simpa using this|str d a=>have:=sq.str d a a;simpa using this|bool d a=>have:=sq.bool d a a;simpa using this|none d=>show .none d|fl _ ih=>show .fl (pM.refl ih)|tup _ ih=>show .tup (pM.refl ih)
section
variable {ls:Loc}
theorem nW{d:Nat}(hA:cM A n)(hd:d<=50):A.in1.units+d<cLine:=by have:=hA.units;change A.units+1+d<cLine;unfold cLine;show"La50L+b*10c9000T++b1a9900" hd this
theorem KJ{d:Nat}{l:List AV}(hA:cM c.A n)(hd:d<=50)(h:pM d l l' b)(q:Q (.bool (!b)) H ls):lF c VR (compareOp .NotEq) (.tup l) (.tup l') H ls Q:=λW s v u g e r r'=>by
 cases r with
 |tup e1 m1 r1=>
 cases r' with
 |tup e2 m2 r2=>
 show xA (pM.QO g.hh h c.A.in1 _ _ (nW hA hd) r1 r2) λhl tz=>?_;show bb tz ?_;clear tz;intro f hf he;clear h;subst hf;show RcNeAt.tuples (e:=f) (cf _ (g.hh▸e1) rfl (iE _ rfl)) (cf _ (g.hh▸e2) rfl (iE _ rfl)) (by have:=hA.units;unfold cLine;show"L+a*10b9000Ta9900" this) (λj h1 h2=>by simpa using he j (by simpa using h1) (by simpa using h2)) _ _ _ _ ?_;simp only[Ab8,hl,Nat.min_self,BEq.rfl,Bool.and_true];rw[hl]at q;show gv g e (.bool _) q
inductive Hi(d:Nat)(l l':List AV):Bool->Prop
 |pairs {b:Bool}:pM d l l' b->Hi d l l' b
 |len:l.length≠l'.length->Hi d l l' false
def di(H:List AO)(x:AV)(l:List AV):Prop:=x=.fl l\/∃i,x=.ref i/\H[i]?=a7 (.lst l)
theorem cp{l:List AV}(g:Here c W s ls)(e:W.H=H)(r:VR W x v)(h:di H x l):∃a vs,v=.ref a/\s.heap.IsList a (Xp vs)/\bY W l vs:=by
 rcases h with rfl|⟨i,rfl,hi⟩
 .apply VR.MR r;intro u u u ho u rs;show dU _ _ rfl ⟨_,g.hh▸ho,rfl,_,rfl⟩ rs
 .apply VR.lT r;intro u;obtain⟨vs,n,ho,rs⟩:=g.rel.obj i _ (e▸hi);show dU _ vs rfl ⟨_,g.hh▸ho,rfl,_,rfl⟩ rs
theorem eq_list{d:Nat}{l:List AV}(hA:cM c.A n)(hd:d<=50)(hx:di H x l)(hy:di H y l')(h:Hi d l l' b)(q:Q (.bool b) H ls):lF c VR (compareOp .Eq) x y H ls Q:=λW s v u g e r r'=>by
 show bF (cp g e r hx) λa vs iO i1 r1=>?_;clear r;subst iO;show bF (cp g e r' hy) λa' us e9 i2 r2=>?_;clear r';subst e9;have hu:=hA.units;cases h with|pairs h=>show xA (pM.QO g.hh h c.A.in1 _ _ (nW hA hd) r1 r2) λhl tz=>?_;show bb tz ?_;clear tz;intro f hf he;clear h;subst hf;show PySem.SeqAt.eq_listAt (e:=f) i1 i2 (by assumption) (by unfold cLine;show"L+a*10b9000Ta9900" hu) (λj h1 h2=>by simpa using he j (by simpa using h1) (by simpa using h2)) ?_;show gv g e (.bool _) q|len h=>show PySem.SeqAt.eq_list_lengthsAt i1 i2 (by simp[r1.length,r2.length];show h) (by unfold cLine;show"L+a*10b9000Ta9900" hu) (gv g e (.bool _) q)
theorem zu{d:Nat}{l:List AV}(hA:cM c.A n)(hd:d<=50)(hx:di H x l)(hy:di H y l')(h:Hi d l l' b)(q:Q (.bool (!b)) H ls):lF c VR (compareOp .NotEq) x y H ls Q:=λW s v u g e r r'=>by
 show bF (cp g e r hx) λa vs jN i1 r1=>?_;clear r;subst jN;show bF (cp g e r' hy) λa' us rJ i2 r2=>?_;clear r';subst rJ;have hu:=hA.units;cases h with|pairs h=>show xA (pM.QO g.hh h c.A.in1 _ _ (nW hA hd) r1 r2) λhl tz=>?_;show bb tz ?_;clear tz;intro f hf he;clear h;subst hf;show RcNeAt.lists (e:=f) i1 i2 (by assumption) (by unfold cLine;show"L+a*10b9000Ta9900" hu) (λj h1 h2=>by simpa using he j (by simpa using h1) (by simpa using h2)) _ _ _ _ ?_;show gv g e (.bool _) q|len h=>show RcNeAt.lists_lengths i1 i2 (by simp[r1.length,r2.length];show h) (by unfold cLine;show"L+a*10b9000Ta9900" hu) _ _ _ _ (gv g e (.bool _) q)
theorem is_none(hb:x=.none/\b=a9\/(∃t,x=.str t)/\b=ac\/(∃l,x=.fl l)/\b=ac\/(∃i,x=.ref i)/\b=ac)(q:Q (.bool b) H ls):lF c VR (compareOp .Is) x .none H ls Q:=λW s v u g e r r'=>by apply VR.zb r';rcases hb with⟨rfl,rfl⟩|⟨⟨t,rfl⟩,rfl⟩|⟨⟨t,rfl⟩,rfl⟩|⟨⟨t,rfl⟩,rfl⟩<;>cases r<;>show wpAny_is_plain rfl (gv g e (.bool _) q)
theorem Ab5(hb:x=.none/\b=ac\/(∃t,x=.str t)/\b=a9\/(∃l,x=.fl l)/\b=a9\/(∃i,x=.ref i)/\b=a9)(q:Q (.bool b) H ls):lF c VR (compareOp .IsNot) x .none H ls Q:=λW s v u g e r r'=>by apply VR.zb r';rcases hb with⟨rfl,rfl⟩|⟨⟨t,rfl⟩,rfl⟩|⟨⟨t,rfl⟩,rfl⟩|⟨⟨t,rfl⟩,rfl⟩<;>cases r<;>show wpAny_isNot_plain rfl (gv g e (.bool _) q)
end
end
section
open PySem PySem.W PyProof.Rows PySem.Builtin PySem.Builtin.Str PySem.Builtin.List
section
variable {c:Cx}{H:List AO}{ls:Loc}{Q:AV->List AO->Loc->Prop}
def Py(c:Cx)(x:AV)(H:List AO)(aw:Str)(id:String):Prop:=∀W s v ls aV (P:Option Value->Shared->Prop) (E:Value->Shared->Prop),Here c W s ls->W.H=H->VR W x v->wpAny c.M c.A (call (.builtin id) (v::aV)) (λr s'=>P (a7 r) s') E s->wpAny c.M c.A (callSpecial? v aw aV) P E s
def KK(c:Cx)(x:AV)(H:List AO):Prop:=∀W s v k ls aw (P:Value->Shared->Prop) (E:Value->Shared->Prop),Here c W s ls->W.H=H->VR W x v->P k s->wpAny c.M c.A (sequenceKey v k aw) P E s
theorem jq{l:List AV}(h:di H x l){ls:Loc}(g:Here c W s ls)(e:W.H=H)(r:VR W x v):s.TypeIs v "list":=by show bF (cp g e r h) fun  a vs iO i u=>?_;clear r;subst iO;show i.typeIs
theorem sr{l:List AV}{id:String}(h:di H x l)(slot:Slot "list" aw id):Py c x H aw id:=λW s v ls aV P E g e r q=>XS (jq h g e r) slot q
theorem xI{l:List AV}(h:di H x l):KK c x H:=λW s v k ls aw P E g e r q=>wpAny_sequenceKey (jq h g e r) (by rfl) q
theorem lW{l:List AV}(h:di H x l):oQ c x H:=by
 rcases h with rfl|⟨i,rfl,hi⟩
 .show Hd
 .show bW hi
theorem vj{l:List AV}(h:di H x l):Do H x=a7 l:=by
 rcases h with rfl|⟨i,rfl,hi⟩
 .rfl
 .change H[i]?.bind ek=_;show aE hi ?_;rfl
theorem iF{l:List AV}(h:di H x l):lH c x H:=by
 rcases h with rfl|⟨i,rfl,hi⟩
 .show ie
 .show AS hi
structure Hj(K:Frag)(C:Addr):Prop where
 mro:mroIn K C (.type "list")=a7 a9
 deque:mroIn K C (.type "collections.deque")=a7 ac
 getitem:findIn K (.ref C) "__getitem__" = a7 (a7 (.builtin "list.__getitem__"))
 setitem:findIn K (.ref C) "__setitem__" = a7 (a7 (.builtin "list.__setitem__"))
theorem oR{C:Addr}{l:List AV}{fs:List (Str×AV)}{id:String}(hi:H[i]?=a7 (.acc C l fs))(hf:findIn c.K (.ref C) aw=a7 (a7 (.builtin id))){ls:Loc}{P:Option Value->Shared->Prop}{E:Value->Shared->Prop}(g:Here c W s ls)(e:W.H=H)(q:P (a7 (.builtin id)) s){A:Around} :
  wpAny c.M A (specialOf (.ref (W.ρ i).1) aw) P E s:=by
 have X:c.K.In s.heap:=g.hh▸g.rel.top;show hV (dA (g.rel.obj i _ (e▸hi)) (C:=C) (fs:=fs) rfl) fun  ox od m I u=>?_;rw[g.hh]at I;show aM (I.type.here ((Zh X hf).here q))
theorem zv{l:List AV}{id:String}(hi:H[i]?=a7 (.acc C l fs))(hf:findIn c.K (.ref C) aw=a7 (a7 (.builtin id)))(hb:∀self,bindSpecial (.builtin id) self=Xj (.builtin id,[self])):Py c (.ref i) H aw id:=λW s v ls aV P E g e r q=>by
 cases r with
 |ref _ _=>
 show Xb (oR hi hf g e ?_);dsimp only;rewrite[hb];show XE (aM (GT (aM (Xz q (λv s' h'=>GT h') fun  u u h'=>h'))))
theorem Dt{l:List AV}(hi:H[i]?=a7 (.acc C l fs))(K:Hj c.K C):KK c (.ref i) H:=λW s v k ls aw P E g e r q=>by apply VR.lT r;intro u;have X:c.K.In s.heap:=g.hh▸g.rel.top;show hV (dA (g.rel.obj i _ (e▸hi)) (C:=C) (fs:=fs) rfl) fun  ox od m I u=>?_;rw[g.hh]at I;show aM (I.type.here ?_);change wpAny _ _ ((seqItemTypes.anyM λn=>isSubtype (.ref C) (.type n)) >>= _) _ _ _;show aM (aM ((Zy X K.deque).here (GT (GT q))))
theorem AY{l:List AV}(hi:H[i]?=a7 (.acc C l fs))(K:Hj c.K C):lH c (.ref i) H:=λW s v ls P E g e r p=>by apply VR.lT r;intro u;show aM (oR hi K.getitem g e (GT p))
structure Lk(c:Cx)(x:AV)(H:List AO)(l:List AV):Prop where
 seq:Do H x=a7 l
 KL:oQ c x H
 key:KK c x H
 get:Py c x H "__getitem__" "list.__getitem__"
 put:Py c x H "__setitem__" "list.__setitem__"
 blt:lH c x H
theorem gy{l:List AV}(h:di H x l):Lk c x H l:=⟨vj h,lW h,xI h,sr h F.slot_list_getitem,sr h F.slot_list_setitem,iF h⟩
theorem KM{l:List AV}(hi:H[i]?=a7 (.acc C l fs))(K:Hj c.K C):Lk c (.ref i) H l:=⟨by change H[i]?.bind ek=_;show aE hi ?_;rfl,vg hi K.mro,Dt hi K,zv hi K.getitem F.slot_list_getitem.bind,zv hi K.setitem F.slot_list_setitem.bind,AY hi K⟩
theorem jr{i:Int}{n m:Nat}(h:seqIndex? i n=a7 m):(0<=i/\i<n/\m=i.toNat)\/(i<0/\-(n:Int)<=i/\m=(i+n).toNat):=by
 revert i n m;delta i n m;intro h;unfold seqIndex? at h;dsimp only at h;by_cases hc:(decide (0<=(if i<0 then i+(n:Int)else i)) && decide ((if i<0 then i+(n:Int)else i)<n))=a9
 .rw[aQ hc]at h;obtain rfl:=Xe h;simp at hc;by_cases h0:i<0
  .simp only[h0,if_true]at hc ⊢;show .inr ⟨trivial,by show"AG0+p$aH+p$a$aG~$ap" hc,trivial⟩
  .simp only[h0,if_false]at hc ⊢;show .inl ⟨by show(λ{a b}=>Int.not_lt.mp) h0,by show"AG0pHp$aHp$a" hc,trivial⟩
 .rw[aI hc]at h;trivial
theorem iZ{l:List AV}{i:Int}(L:Lk c x H l)(hi:seqIndex? i l.length=a7 n)(hn:l[n]?=a7 y)(hs:l.length<=sizeLine)(q:Q y H ls):lF c VR getItem x (.int i) H ls Q:=λW s v u g e r r'=>by
 apply VR.fU r';intro t;have inst:=L.KL W s v ls g e r;show cV (kj g e r L.seq) λa ob vs k e9 ho hd rs=>?_;subst e9;show bb (rs.get hn) λz hz rz=>?_;have cY:=rs.length;show XE (aM (L.key W s _ _ ls _ _ _ g e r (aM (L.get W s _ ls _ _ _ g e r (fK (n:="__getitem__") (.inr (by decide +kernel)) (by decide +kernel) (by decide +kernel) F.entry_list_getitem (F.args_list_getitem_2 _ _) inst ?_)))));change wpAny _ _ (listSubscript? (.int i t) >>= _) _ _ s;have fin:=gv (Q:=Q) g e rz q;unfold sizeLine at hs;rcases jr hi with⟨h0,h1,hm⟩|⟨h0,h1,hm⟩
 .show aM (Aan (fitsIndex_of h0 (by show"La16777216Hp$aHp9223372036854775808" hs h1)) ?_);show xE (Ac5 h0) λj jN=>?_;subst jN;have hj:n=j:=by simpa using hm
  clear h0 h1 hi hm r';subst hj;show aM (aM (wpAny_seqItemAt ho hd (GT ?_)));have AZ:(Xp vs)[n]?=a7 z:=by simpa using hz
  show aE AZ ?_;first
   |show aM (GT (GT ⟨z,rfl,GT fin⟩))
   |show GT ⟨z,rfl,GT fin⟩
 .show aM (Aan (fitsIndex_neg h0 (by show"La16777216G~$apG~9223372036854775808p" hs h1)) ?_);obtain⟨j,rfl⟩:∃j:Nat,i=AcA j:=by show Int.eq_negSucc_of_lt_zero h0
  show aM (aM (aM (X1 ho hd (GT (GT ?_)))));have oS:seqIndex? (AcA j) (Xp vs).size=a7 n:=by simpa[cY]using hi
  have AZ:(Xp vs)[n]?=a7 z:=by simpa using hz
  show aE oS ?_;rw[Zr,AZ,Abz];first
   |show aM (GT (GT ⟨z,rfl,GT fin⟩))
   |show GT ⟨z,rfl,GT fin⟩
theorem vm{M:Model}{A:Around}{E:Value->Shared->Prop}{ad:Addr}{lo hi:Option Int}{tl tu:Tok}{P:Value×Value×Value->Shared->Prop}(pq:s.heap.IsSlice ad (lo.map (·,tl)) (hi.map (·,tu)) a8)(q:P (rawPart lo,rawPart hi,rawPart a8) s) :
  wpAny M A (listSliceParts (.ref ad)) P E s:=by
 show bV pq λos KN IY Nn=>?_;rw[listSliceParts_eq];show Xb (XR KN Nn (x:=.none) rfl (Xb (AcH .none (aM (XR KN Nn (x:=partValue (lo.map (·,tl))) rfl (aM (AcH (kY lo tl) (aM (XR KN Nn (x:=partValue (hi.map (·,tu))) rfl (aM (AcH (kY hi tu) (GT q))))))))))))
theorem rL{M:Model}{ad:Addr}{l u st:Option (Int×Tok)}{P:Option Int->Shared->Prop}(pq:s.heap.IsSlice ad l u st)(q:P a8 s):wpAny M A (listSubscript? (.ref ad)) P E s:=by show bV pq λos KN IY Nn=>aM (YF (T:="slice") (bd os KN IY) slice_no_index (GT q))
theorem vn(lo hi:Option Int)(n:Nat):sliceBounds lo hi a8 n=(((clip lo 0 n:Nat):Int),((clip hi n n:Nat):Int),1):=by revert lo hi n;delta lo hi n;have h1:=kU lo 0 n;have h2:=kU hi n n;show ix h1 ?_;show ix h2 ?_;unfold sliceBounds;rfl
noncomputable def putL(l:List α)(lo hi:Option Int)(new:List α):List α:=l.take (clip lo 0 l.length)++new++l.drop (max (clip lo 0 l.length) (clip hi l.length l.length))
def IZ(c:Cx)(x:AV)(lo hi:Option Int)(y:AV)(H:List AO)(ls:Loc)(Q:List AO->Loc->Prop):Prop:=∀W s v u a tl tu,Here c W s ls->W.H=H->VR W x v->VR W y u->s.heap.IsSlice a (lo.map (·,tl)) (hi.map (·,tu)) a8->wpAny c.M c.A (setItem v (.ref a) u) (fun  z s'=>∃W' dq,Good c W s W' s' dq/\Q W'.H dq) (fun  z z=>False) s
theorem B0{i:Nat}{o:AO}{l new:List AV}{y:AV}{lo hi:Option Int}{Q:List AO->Loc->Prop}(oS:H[i]?=a7 o)(ho:ek o=a7 l)(L:Lk c (.ref i) H l)(hy:di H y new)(d4:y≠.ref i)(hs:l.length+new.length<=100000)(q:Q (H.set i (dI (putL l lo hi new) o)) ls):IZ c (.ref i) lo hi y H ls Q:=λW s v u ad tl tu g e r r' pq=>by
 revert c H ls i o l new y lo hi Q W s v u ad tl tu;delta c H ls i o l new y lo hi Q;intro oS ho L hy d4 hs q;delta W s v u ad tl tu;intro g e r r' pq;have inst:=L.KL W s v ls g e r;show cV (kj g e r L.seq) λa ob vs k AJ v8 hd rs=>?_;injections a ob vs k;subst AJ;show bF (cp g e r' hy) λb us Dg ib T0=>?_;injections b us;subst Dg;subst e;have Ml:b≠a:=by
  rintro rfl
  cases r with
  |ref _ rC=>
  rcases hy with rfl|⟨j,rfl,hj⟩
  .cases r' with|fl _ m _=>have O:=g.rel.obj i o oS;show c0 (gY O ho) fun  w w w w w w B1=>m (Wd.gu oS B1)
  .show c0 (gY (g.rel.obj i o oS) ho) fun  w w w w w w B1=>?_;have UT:i≠j:=by clear hj r';rintro rfl;show d4 rfl
   have T1:(W.ρ j).1∈own (W.ρ j) (.lst new):=.head _;have nd:(live W.ρ 0 W.H).Nodup:=g.rel.nodup;have No:=AbW nd oS hj UT (W.ρ i).1 (by rwa[XI]);generalize nO:(W.ρ i).1=z at r' No B1;cases r' with|ref _ _=>show No (by rwa[XI])
 cases r with
 |ref _ rC=>
 show XE (aM (L.key W s _ _ ls _ _ _ g rfl (.ref i rC) (aM (L.put W s _ ls _ _ _ g rfl (.ref i rC) (fK (n:="__setitem__") (.inl (by decide +kernel)) (by decide +kernel) (by decide +kernel) F.entry_list_setitem (F.args_list_setitem_3 _ _ _) inst ?_)))));change wpAny _ _ (listSubscript? (.ref ad) >>= _) _ _ s;show aM (rL pq (bV (id pq) λos KN IY Nn=>?_));injections os;show Xb (ZX (T:="slice") (bd os KN IY) (aM (vm pq ?_)));have Pz:listSameRef (.ref (W.ρ i).1) (.ref b)=ac:=by change((W.ρ i).1==b)=ac;show beq_false_of_ne (_root_.id (Ne.symm Ml))
 show aE Pz ?_;show bV (id ib) λolb QP UU tz=>?_;show xE tz ?_;clear tz;intro nb QQ;injections nb;show aM (m:=listAllItems (.ref b) _) (Xb (ZX ib.typeIs (aM (X1 QP QQ (GT (aM (aM (X1 v8 hd (GT (Xb (XX (sliceIndices_raw lo hi a8 _ (Ne.symm (AbQ 0))) ?_)))))))))));rw[vn];show aM (Zj ?_);have l1:=rs.length;have l2:=T0.length;rw[aI (by simp[listTooLong,sizeLine];show"L+ab100000EcaEdbL+cd16777216" hs l1 l2)];have f_eq:∀ws:List Value,ws.length=vs.length->((Xp ws).extract 0 ((clip lo 0 (Xp vs).size:Nat):Int).toNat++Xp us++(Xp ws).extract (max ((clip lo 0 (Xp vs).size:Nat):Int) ((clip hi (Xp vs).size (Xp vs).size:Nat):Int)).toNat (Xp ws).size).toList=putL ws lo hi us:=by
  intro ws hw;injections ws;unfold putL;have:(max ((clip lo 0 vs.length:Nat):Int) ((clip hi vs.length vs.length:Nat):Int)).toNat=max (clip lo 0 vs.length) (clip hi vs.length vs.length):=by lia
  simp[hw,this];rw[Yl (by simp[hw])]
 show aM (ZW v8 hd (aM (AaA (GT (bd _ rfl (GT ?_))))) (by simp[sizeLine];show"L+ab100000EcaLc16777216" hs l1) ?_)
 .have G:=g.seq (l':=putL l lo hi new) (f:=λxs=>xs.extract 0 ((clip lo 0 (Xp vs).size:Nat):Int).toNat++Xp us++xs.extract (max ((clip lo 0 (Xp vs).size:Nat):Int) ((clip hi (Xp vs).size (Xp vs).size:Nat):Int)).toNat xs.size) oS ho λws Mm W' M=>by show aE (f_eq ws (by rw[Mm.length,l1])) ?_;unfold putL;show aE Mm.length ((((Mm.mono M).take _).append (T0.mono M)).append ((Mm.mono M).drop _))
  show dC _ ls G q
 .have:=congrArg ZL (f_eq vs rfl);unfold putL at this;simp at this ⊢;unfold sizeLine;show"L+ab100000EcaEdbL+<ec+d-cf+16777216.1" hs l1 l2
end
section
variable {x y:AV}{l l':List AV}{i:Nat}{o:AO}{b:Int}
section
variable {c:Cx}{H:List AO}{ls:Loc}{Q:AV->List AO->Loc->Prop}
theorem nX(h:di H x l)(hs:l.length<=sizeLine)(q:Q (.int l.length) H ls):kS c VR (λvs=>call (.builtin "len") vs) [x] H ls Q:=λW s vs g e r=>by show bb r.one λv iO rx=>?_;subst iO;show bF (cp g e rx h) λa us e9 i rs=>?_;clear r rx;subst e9;have hl:=rs.length;show len_list i (by simp;unfold sizeLine at hs;show"La16777216EbaH$b9223372036854775808" hs hl) ?_;rw[Ab8,hl];show back g e _ (.int _ _) q
theorem gT{Q:Bool->List AO->Loc->Prop}(h:di H x l)(hs:l.length<=sizeLine)(q:Q (!l.isEmpty) H ls):pz c cy truthy x H ls Q:=λW s v g e r=>by
 show bF (cp g e r h) λa us jN i rs=>?_;clear r;subst jN;have hl:=rs.length;show wpAny_truthy_list i (by simp;unfold sizeLine at hs;show"La16777216EbaH$b9223372036854775808" hs hl) ?_;have:(Xp us).isEmpty=l.isEmpty:=by cases us<;>cases l<;>simp_all
 show aE this (IW g e _ q)
theorem nY(h:di H x l)(h':di H y l')(hs:l.length+l'.length<=sizeLine)(q:Q (.fl (l++l')) H ls):lF c VR (binaryOp .Add) x y H ls Q:=λW s v u g e r r'=>by have hT:=jq h g e r;have Du:=jq h' g e r';have inst:=lW h W s v ls g e r;have Np:=lW h' W s u ls g e r';show bF (cp g e r h) λa us rJ MT rs=>?_;clear r;subst rJ;obtain⟨oa,UV,hca,na,UW⟩:=MT;show bF (cp g e r' h') λb ws Dg Ke jR=>?_;clear r';subst Dg;obtain⟨ob,v8,hcb,nb,UX⟩:=Ke;have l1:=rs.length;have l2:=jR.length;show binaryOp_concat hT Du noFill_list_add seq_list_add (fK (n:="__add__") (.inl (by decide +kernel)) (by decide +kernel) (by decide +kernel) F.entry_list_add (F.args_list_add_2 _ _) inst ?_);change wpAny _ _ (isInstance (.ref b) (.type "list") >>= _) _ _ s;show aM (Np.here (aM (m:=listItems (.ref a)) (aM (X1 UV UW (GT (aM (aM (X1 v8 UX (GT (aM (YB (GT (bd _ rfl ?_)) (by change(Xp us++Xp ws).size<=sizeLine;simp;lia))))))))))));have G:=g.grow (h':=s.heap.push (listOf (us++ws).toArray 0)) s.toks (λb o e=>Xa _ e);have:(Xp us++Xp ws)=(us++ws).toArray:=List.append_toArray us ws;show aE this ⟨_,ls,.fl (l++l'),G,.fl (n:=0) (Xo _ rfl) (g.hh▸g.rel.fresh) ((rs.append jR).mono (G.mono g)),by change Q _ W.H ls;rw[e];show q⟩
theorem Dv{i:Nat}{o:AO}{l:List AV}{y:AV}(hi:H[i]?=a7 o)(hl:ek o=a7 l)(lk:oQ c (.ref i) H)(hs:l.length<=100000)(hy:l.getLast?=a7 y)(q:Q y (H.set i (dI l.dropLast o)) ls):kS c VR (λvs=>call (.builtin "list.pop") vs) [.ref i] H ls Q:=λW s vs g e r=>by
 revert c H ls Q i o l y W s vs;delta c H ls Q i o l y;intro hi hl lk hs hy q;delta W s vs;intro g e r;show bb r.one λv MU rx=>?_;subst MU;have inst:=lk W s _ ls g e rx;show cV (kj g e rx (by change H[i]?.bind ek=_;show aE hi ?_;show hl)) λa ob us n ha ho hd rs=>?_;clear lk;subst e;cases rx with
 |ref _ rC=>
 cases ha;have sz:=rs.length;have d4:l≠[]:=by clear hl hs q rs sz;rintro rfl;trivial
 have fO:0<l.length:=Ye.mpr d4;have QR:l[l.length-1]?=a7 y:=by(show ix hy ?_;show Eq.symm ZD)
 show bb (rs.get QR) λz hz rz=>fK (n:="pop") (.inr (by decide +kernel)) (by decide +kernel) (by decide +kernel) F.entry_list_pop (F.args_list_pop_1 _) inst ?_;change wpAny _ _ (listItems (.ref (W.ρ i).1) >>= _) _ _ s;show Xb (Xb (X1 ho hd (GT ?_)));rw[aI (by simp;rintro rfl;simp at sz;trivial)];have Dw:seqIndex? (-1) (Xp us).size=a7 (l.length-1):=by unfold seqIndex?;simp[sz];lia
 show aE Dw ?_;have AZ:(Xp us)[l.length-1]?=a7 z:=by simpa using hz
 simp only[Zr,AZ,Abz];have fe:∀ws:List Value,ws.length=l.length->((Xp ws).eraseIdxIfInBounds (l.length-1)).toList=ws.dropLast:=by intro ws hw;simp;rw[Y9];show aE hw ?_;rw[Acb];show aE (ZU (by show"EabLa+-b1.1" hw)) ?_;show Xv _
 show aM (ZW ho hd (GT (bd _ rfl ?_)) (by simp[sizeLine];show"La100000EbaLb16777216" hs sz) ?_)
 .have G:=g.seq (l':=l.dropLast) (f:=(·.eraseIdxIfInBounds (l.length-1))) hi hl λvs r W' M=>by show aE (fe vs r.length) ?_;rw[Y9,Y9];show aE r.length ?_;show(r.mono M).take _
  show⟨_,ls,y,G,G.vr g rz,q⟩
 .have:=congrArg ZL (fe us sz);simp at this ⊢;unfold sizeLine;show"La100000EbaEc-b1Lc+16777216.1" hs sz this
theorem vo{i:Nat}{o:AO}{l:List AV}{y:AV}(hi:H[i]?=a7 o)(hl:ek o=a7 (y::l))(lk:oQ c (.ref i) H)(hs:l.length<=100000)(q:Q y (H.set i (dI l o)) ls):kS c VR (λvs=>call (.builtin "list.pop") vs) [.ref i,.int 0] H ls Q:=λW s vs g e r=>by
 revert c H ls Q i o l y W s vs;delta c H ls Q i o l y;intro hi hl lk hs q;delta W s vs;intro g e r;show bF r.two λv u UY rx ru=>?_;injections v u;subst UY;have inst:=lk W s _ ls g e rx;show cV (kj g e rx (by change H[i]?.bind ek=_;show aE hi ?_;show hl)) λa ob us n ha ho hd rs=>?_;clear lk;subst e;cases rx with
 |ref _ rC=>
 cases ha;apply VR.fU ru;intro t;injections t;have sz:=rs.length;show bb (rs.get (i:=0) (x:=y) rfl) λz hz rz=>?_;injections z;show fK (n:="pop") (.inr (by decide +kernel)) (by decide +kernel) (by decide +kernel) F.entry_list_pop (F.args_list_pop_2 _ _) inst ?_;change wpAny _ _ (listItems (.ref (W.ρ i).1) >>= _) _ _ s;show Xb (Xb (X1 ho hd (GT ?_)));rw[aI (by simp;clear hd hz rs;rintro rfl;simp at sz)];have Dw:seqIndex? 0 (Xp us).size=a7 0:=by unfold seqIndex?;simp[sz]
 show aE Dw ?_;have AZ:(Xp us)[0]?=a7 z:=by simpa using hz
 simp only[Zr,AZ,Abz];have fe:∀ws:List Value,ws.length=l.length+1->((Xp ws).eraseIdxIfInBounds 0).toList=ws.drop 1:=by intro ws hw;injections ws;have:0<(Xp ws).size:=Nat.lt_of_sub_eq_succ hw;clear hw this;cases ws<;>simp
 show aM (ZW ho hd (GT (bd _ rfl ?_)) (by simp[sizeLine];simp at sz;show"La100000Eb+a1Lb16777216" hs sz) ?_)
 .have G:=g.seq (l':=l) (f:=(·.eraseIdxIfInBounds 0)) hi hl λvs r W' M=>by have:=(r.mono M).drop 1;simpa using this
  show⟨_,ls,y,G,G.vr g rz,q⟩
 .have:=congrArg ZL (fe us (by simpa using sz));simp at this ⊢;unfold sizeLine;simp at sz;show"La100000Eb+a1Lb++16777216.1.1" hs sz
theorem item_tup{i:Int}(hi:seqIndex? i l.length=a7 n)(hn:l[n]?=a7 y)(hs:l.length<=sizeLine)(q:Q y H ls):lF c VR getItem (.tup l) (.int i) H ls Q:=λW s v u g e r r'=>by
 cases r' with
 |int _ t=>
 apply VR.uU r;intro j j j ho hm rs;show bb (rs.get hn) λz hz rz=>?_;have hl:=rs.length;unfold sizeLine at hs;have hb:=jr hi;show getItem_tuple (cf _ (g.hh▸ho) rfl (iE _ rfl)) (by show"La16777216OAG0pAHp$aEbcAHp0AG~$apEbdG~9223372036854775808p" hs hb) (by show"La16777216OAG0pAHp$aEbcAHp0AG~$apEbdHp9223372036854775808" hs hb) (by simpa[hl]using hi) (by simpa using hz) (gv g e rz q)
theorem zw(q:Q (.rI 0 b 1) H ls):kS c VR (λvs=>call (.type "range") vs) [.int b] H ls Q:=λW s vs g e r=>by show bb r.one λv QS rx=>?_;clear r;subst QS;apply VR.fU rx;intro t;show call_range_1 ?_;have G:=g.grow (h':=s.heap.push { cls:=.type "range",data:=.fields #[.int 0 s.toks,.int b t,.int 1 (s.toks+1)] }) (s.toks+1+1) (λb o e=>Xa _ e);show⟨_,ls,.rI 0 b 1,G,.rI (Xo _ rfl) (g.hh▸g.rel.fresh),by change Q _ W.H ls;rw[e];show q⟩
theorem lC(h:di H x l)(q:Q (.bool ac) H ls):kS c VR (λvs=>call (.builtin "isinstance") vs) [x,.val (.type "str")] H ls Q:=λW s vs g e r=>by show bF r.two λv u QT rx ry=>?_;subst QT;apply VR.xo ry;show bF (cp g e rx h) λa us QU QV rs=>?_;clear r rx;subst QU;obtain⟨o,ho,hc,_⟩:=QV;show IsiPair.list_str ho hc (back g e _ (.bool _) q)
end
end
section
variable {c:Cx}{H:List AO}{ls:Loc}{Q:AV->List AO->Loc->Prop}
theorem B2(z:Pi)(t u:Tok)(hz:z.length<=1000000):Meets («str.__mod__» ⟨[.str ⟨#[34,37,115,34]⟩ t,.str z u],[]⟩) (fun  j R s=>∀t' k,R (.ok (.ret (.str (Zc "\""++z++Zc "\"") t'))) { s with toks:=k }):=by
 revert z t u;delta z t u;intro hz
 kpc_run_s
end
section
variable {a y:List Nat}
noncomputable def glue(sep:List Nat):List (List Nat)->List Nat
 |[]=>[]
 |[x]=>x
 |x::y::r=>x++sep++glue sep (y::r)
theorem tN(sep:List Nat):∀ts:List (List Nat),glued ⟨sep.toArray⟩ (ts.map λt=>⟨t.toArray⟩)=⟨(glue sep ts).toArray⟩:=by
 have key:∀(r:List (List Nat)) (x acc:List Nat),((r.map λt=>(⟨t.toArray⟩:Pi)).foldl (λacc p=>acc++sep.toArray++p.cps) (acc++x).toArray)=(acc++glue sep (x::r)).toArray:=by
  intro r;induction r with
  |nil=>intro x acc;rfl
  |cons y r ih=>
   intro x acc;simp only[Xu,Aas]
   have:=ih y (acc++x++sep);change _=(acc++(x++sep++glue sep (y::r))).toArray;have e1:(acc++x).toArray++sep.toArray++y.toArray=(acc++x++sep++y).toArray:=by simp
   show aE e1 ?_;show aE this ?_;simp
 intro ts;cases ts with
 |nil=>rfl
 |cons x r=>
  unfold glued
  have:=key r x [];simp only[YU]at this;show aE this rfl
theorem mJ(g:Nat->Bool)(l:List Nat):l.drop (l.takeWhile g).length=l.dropWhile g:=by
 induction l with
 |nil=>rfl
 |cons a l ih=>
  by_cases h:g a=a9
  .simp[Y2,Aai,h,ih]
  .simp[Y2,Aai,h]
noncomputable def iG(g:Nat->Bool)(l:List Nat):List Nat:=(l.reverse.dropWhile g).reverse
theorem vp(g:Nat->Bool)(l:List Nat):l.take (l.length-(l.reverse.takeWhile g).length)=iG g l:=by unfold iG;rw[<-mJ,List.drop_reverse];show Eq.symm (AbE (AbA (l.length-(List.takeWhile g l.reverse).length) l))
theorem Dx(l:List Nat):Txt.lstrip ⟨l.toArray⟩=⟨(l.dropWhile XD).toArray⟩:=by
 unfold Txt.lstrip;rw[Abd];unfold stripLo stripHi strSub;simp[dh,mJ];rw[Yl];have:(l.takeWhile XD).length+(l.dropWhile XD).length=l.length:=by rw[<-Xg,Ab7]
 show"E+abcLb-ca" this
theorem Dy(l:List Nat):Txt.rstrip ⟨l.toArray⟩=⟨(iG XD l).toArray⟩:=by unfold Txt.rstrip;rw[Abd];unfold stripLo stripHi strSub;simp[dh];show vp _ _
theorem tO(l y:List Nat):Txt.stripChars ⟨l.toArray⟩ ⟨y.toArray⟩=⟨(iG y.contains (l.dropWhile y.contains)).toArray⟩:=by
 unfold Txt.stripChars;rw[Abd];have hg:(⟨y.toArray⟩:Pi).cps.contains=y.contains:=by funext n;show List.contains_toArray
 show aE hg ?_;unfold stripLo stripHi strSub;have e:((l.toArray).extract (l.takeWhile y.contains).length (l.length-((l.drop (l.takeWhile y.contains).length).reverse.takeWhile y.contains).length)).toList=iG y.contains (l.dropWhile y.contains):=by
  rw[Adw,List.extract_eq_drop_take,mJ];show ix (vp y.contains (l.dropWhile y.contains)) ?_;congr 1;have:(l.takeWhile y.contains).length+(l.dropWhile y.contains).length=l.length:=by rw[<-Xg,Ab7]
  show"E+abcE--cda-bd" this
 congr 1;show ix e rfl
section
variable {ls:Loc}
theorem lX(hs:a.length<=sizeLine)(q:Q (S (a.dropWhile XD)) H ls):kS c VR (λvs=>call (.builtin "str.lstrip") vs) [S a] H ls Q:=λW s vs g e r=>by show bb r.one λv iO rx=>?_;clear r;subst iO;apply VR.dE rx;intro u;show SC.lstrip (λt' k=>?_) (by rw[dh];show hs);rw[Dx];show back g e k (.str _ _) q
theorem xJ(hs:a.length<=sizeLine)(q:Q (S (iG XD a)) H ls):kS c VR (λvs=>call (.builtin "str.rstrip") vs) [S a] H ls Q:=λW s vs g e r=>by show bb r.one λv e9 rx=>?_;clear r;subst e9;apply VR.dE rx;intro u;show SC.rstrip (λt' k=>?_) (by rw[dh];show hs);rw[Dy];show back g e k (.str _ _) q
theorem B3(hs:a.length<=sizeLine)(q:Q (S (iG y.contains (a.dropWhile y.contains))) H ls):kS c VR (λvs=>call (.builtin "str.strip") vs) [S a,S y] H ls Q:=λW s vs g e r=>by
 show bF r.two λv u jN rx ry=>?_;clear r;subst jN;(apply VR.dE rx;intro z);apply VR.dE ry;intro z
 show SC.stripChars (λt' k=>?_) (by rw[dh];show hs);rw[tO];show back g e k (.str _ _) q
theorem vq(q:Q (.bool (!a.isEmpty && a.all XD)) H ls):kS c VR (λvs=>call (.builtin "str.isspace") vs) [S a] H ls Q:=λW s vs g e r=>by
 show bb r.one λv rJ rx=>?_;subst rJ;apply VR.dE rx;intro u;show SC.isspace ?_;have:Txt.isspace ⟨a.toArray⟩=(!a.isEmpty && a.all XD):=by unfold Txt.isspace;rw[dh];clear q r rx;cases a<;>simp
 rw[this];show gv g e (.bool _) q
theorem kl(q:Q (.bool (y.isPrefixOf a)) H ls):kS c VR (λvs=>call (.builtin "str.startswith") vs) [S a,S y] H ls Q:=λW s vs g e r=>by
 show bF r.two λv u AJ rx ry=>?_;clear r;subst AJ;(apply VR.dE rx;intro z);apply VR.dE ry;intro z
 show SC.startswith ?_;have:Txt.startswith ⟨a.toArray⟩ ⟨y.toArray⟩=y.isPrefixOf a:=by
  unfold Txt.startswith;rw[StrLaws.subAt_eq,dh,dh];rw[Zi,XI];rw[AcE];rw[YP,decide_eq_true_eq,beq_iff_eq,List.isPrefixOf_iff_prefix];constructor
  .rintro⟨_,h⟩
   have h':a.take y.length=y:=h;show h'▸List.take_prefix _ _
  .rintro h
   show⟨h.length_le,?_⟩;change a.take y.length=y;show(List.prefix_iff_eq_take.mp h).symm
 rw[this];show gv g e (.bool _) q
theorem mK(sep:Nat):∀(ts:List (List Nat)) (k:Nat),(ts.map λt=>(⟨t.toArray⟩:Pi)).foldl (λa (p:Pi)=>a+p.length+sep) k=k+(ts.map λt=>t.length+sep).sum:=by
 intro zz;induction zz with
 |nil=>showλk=>by simp
 |cons t ts ih=>
  showλk=>by simp only[Xu,Aas,Y4];rw[ih];rw[dh];show"E+++abcd+a++bcd"
theorem Dz(r:bY W (ts.map S) vs):∃l:List (Pi×Tok),vs=strValues l/\l.map (·.1)=ts.map λt=>⟨t.toArray⟩:=by
 induction ts generalizing vs with|nil=>show bd ([]) r.inv rfl|cons t ts ih=>apply bY.oJ r;intro v us r1 r2;apply VR.dE r1;intro u;show bb (ih r2) λl h1 h2=>bd ((⟨t.toArray⟩,u)::l) (congrArg (AbX _ u::·) h1) (congrArg (_::·) h2)
theorem gA{sep:List Nat}(h:di H x (ts.map S))(hs:(ts.map λt=>t.length+sep.length).sum<=sizeLine)(q:Q (S (glue sep ts)) H ls):kS c VR (λvs=>call (.builtin "str.join") vs) [S sep,x] H ls Q:=λW s vs g e r=>by
 show bF r.two λv u Dg rx ry=>?_;subst Dg;apply VR.dE rx;intro z;show bF (cp g e ry h) λa us Nq i rs=>?_;clear r ry;subst Nq;show bb (Dz rs) λl h1 h2=>?_;clear rs;subst h1;show SC.join (l:=l) i h2 ?_ λt' k=>?_
 .unfold JoinOk;simp only[Z7,List.foldl_toArray',dh]
  have:=mK sep.length ts 0;simp only[tooLong];have e2:Array.foldl (λ(x:Nat) (UZ:Pi)=>x+UZ.length+sep.length) 0 (List.map (λt=>(⟨t.toArray⟩:Pi)) ts).toArray=(ts.map λt=>t.length+sep.length).sum:=by rw[List.foldl_toArray];show aE this ?_;rw[XI]
  show aE this ?_;simpa using hs
 .change gS _ _ _ _ _ _ _;have:Txt.join ⟨sep.toArray⟩ (ts.map λt=>⟨t.toArray⟩)=⟨(glue sep ts).toArray⟩:=tN sep ts;show aE this (back g e k (.str _ _) q)
theorem DA(hs:a.length<=1000000)(q:Q (S ([34]++a++[34])) H ls):lF c VR (binaryOp .Mod) (S [34,37,115,34]) (S a) H ls Q:=λW s v u g e r r'=>by
 (apply VR.dE r;intro z);apply VR.dE r';intro z
 show binaryOp_meets (T:="str") (op:=.Mod) (Aaj s _ _) (Aaj s _ _) F.fills_str_mod F.slot_str_mod F.entry_str_mod (F.args_str_mod_2 _ _) (B2 ⟨a.toArray⟩ _ _ (by rw[dh];show hs)) λt' k=>⟨(λe=>nomatch e),?_⟩;have:(Zc "\""++⟨a.toArray⟩++Zc "\"")=⟨([34]++a++[34]).toArray⟩:=by
  have h:Zc "\"" = ⟨[34].toArray⟩:=by decide
  show aE h ?_;rw[se,se]
 show aE this (back g e k (.str _ _) q)
end
end
end
section
open PySem PySem.W PyProof.Rows PySem.Builtin PySem.Builtin.Str PySem.Builtin.List
open PySem.SeqAt (EqAt)
section
variable {W:Wd}{l:List (List Nat)}{y:AV}{us:List Value}
section
variable {c:Cx}{H:List AO}{ls:Loc}{ae:Env}
def xK(c:Cx)(x:AV)(i:Int)(y:AV)(H:List AO)(ls:Loc)(Q:List AO->Loc->Prop):Prop:=∀W s v u t,Here c W s ls->W.H=H->VR W x v->VR W y u->wpAny c.M c.A (setItem v (.int i t) u) (fun  z s'=>∃W' dq,Good c W s W' s' dq/\Q W'.H dq) (fun  z z=>False) s
theorem bY.QW{l:List AV}(r:bY W l vs)(n:Nat){u:Value}(q:VR W y u):bY W (l.set n y) (vs.set n u):=by
 induction l generalizing vs n with
 |nil=>rw[show vs=[]from r.inv];show .nil
 |cons x l ih=>
  show bF r.inv λv us h a b=>?_;rw[h];cases n with|zero=>show .cons q b|succ n=>show .cons a (ih b n)
theorem vt{k:Nat}{o:AO}{l:List AV}{y:AV}{i:Int}{n:Nat}{Q:List AO->Loc->Prop}(hk:H[k]?=a7 o)(ho:ek o=a7 l)(L:Lk c (.ref k) H l)(hi:seqIndex? i l.length=a7 n)(hs:l.length<=sizeLine)(q:Q (H.set k (dI (l.set n y) o)) ls):xK c (.ref k) i y H ls Q:=λW s v u t g e r r'=>by
 revert c H ls k o l y i n Q W s v u t;delta c H ls k o l y i n Q;intro hk ho L hi hs q;delta W s v u t;intro g e r r';have inst:=L.KL W s v ls g e r;show cV (kj g e r L.seq) λa ob vs m iO v8 hd rs=>?_;injections a ob vs m;subst iO;have cY:=rs.length;subst e;cases r with
 |ref _ rC=>
 have KO:n<l.length:=by rcases jr hi with⟨_,_,_⟩|⟨_,_,_⟩<;>show lt_of_seqIndex hi
 have hn:n<vs.length:=Nat.lt_of_lt_of_eq KO (_root_.id (Eq.symm cY));show XE (aM (L.key W s _ _ ls _ _ _ g rfl (.ref k rC) (aM (L.put W s _ ls _ _ _ g rfl (.ref k rC) (fK (n:="__setitem__") (.inl (by decide +kernel)) (by decide +kernel) (by decide +kernel) F.entry_list_setitem (F.args_list_setitem_3 _ _ _) inst ?_)))));change wpAny _ _ (listSubscript? (.int i t) >>= _) _ _ s;have G:=g.seq (l':=l.set n y) (f:=(·.setIfInBounds n u)) hk ho λws Mm W' M=>by
  have:((Xp ws).setIfInBounds n u).toList=ws.set n u:=by simp
  rw[this];show(Mm.mono M).QW n (r'.mono M)
 have fin:wpAny c.M c.A.in1 (setSeqItemAt (W.ρ k).1 n u >>= fun  z=>ret .none) (λfin s'=>∃r,fin=.done (.ret r)/\wpAny c.M c.A (Xj ()) (fun  z s'=>∃W' dq,Good c W s W' s' dq/\Q W'.H dq) (fun  z z=>False) s') (fun  z z=>False) s:=aM (wpAny_setSeqItemAt v8 hd (GT (bd _ rfl (GT ⟨_,ls,G,q⟩))))
 unfold sizeLine at hs;rcases jr hi with⟨h0,h1,hm⟩|⟨h0,h1,hm⟩
 .show aM (Aan (fitsIndex_of h0 (by lia)) ?_);show xE (Ac5 h0) λj e9=>?_;injections j;subst e9;have hj:n=j:=by simpa using hm
  clear h0 h1 hi hm;subst hj;show aM (aM (wpAny_seqItemAt v8 hd (GT ?_)));have AZ:(Xp vs)[n]?=a7 vs[n]:=by simp[hn]
  show aE AZ fin
 .show aM (Aan (fitsIndex_neg h0 (by lia)) ?_);obtain⟨j,rfl⟩:∃j:Nat,i=AcA j:=by
   cases i with|ofNat n=>show absurd h0 (Int.not_lt.mpr (Int.ofNat_nonneg n))|negSucc n=>show⟨n,rfl⟩
  show aM (aM (aM (X1 v8 hd (GT (GT ?_)))));have oS:seqIndex? (AcA j) (Xp vs).size=a7 n:=by simpa[cY]using hi
  have AZ:(Xp vs)[n]?=a7 vs[n]:=by simp[hn]
  show aE oS ?_;rw[Zr];show aE AZ fin
theorem B4{o i:Expr}{p ai:Pos}{op:Operator}{value:Expr}{Q:AF->List AO->Loc->Prop}
  (h:Ok c VR (eval o ae) H ls λx bu aU=>Ok c VR (eval i ae) bu aU λk d7 cj=>∃n,k=.int n/\lF c VR getItem x k d7 cj λold kb d5=>Ok c VR (eval value ae) kb d5 λy KP lV=>lF c VR (inplaceOp op) old y KP lV λnew QX nS=>xK c x n new QX nS (Q .next))
  (ha:∀ov iv new,augStore i ov iv new=(do holding [new,ov,iv] (setItem ov iv new);release [new,ov,iv] [];Xj .next)) :
  Ok c aY (exec (.AugAssign (.Subscript o i p) op value ai) ae) H ls Q:=λW s g e=>by
 show wpAny_AugAssign_Subscript_any (h.run g e λaK aH aU x v aD b8 aR=>aR.run aD.here rfl λb4 aN cj k u aF dg bB=>?_) ha;show bb bB ?_;clear bB;intro n jN bB;subst jN;apply VR.fU dg;intro t;have J0:=aF.vr aD.here b8;show cA aF.tk (bB b4 aN v _ aF.here rfl J0 (.int n t)) (λold bJ qt zz=>?_) fun  z z f=>f;obtain⟨b7,d5,ox,aT,eU,cP⟩:=zz;replace aT:=aT.at qt;show cP.run aT.here rfl λg9 fP lV y b bE B5 dT=>cA bE.tk (dT g9 fP old b bE.here rfl (bE.vr aT.here eU) B5) (λnew eu pA zz=>?_) fun  z z f=>f;obtain⟨eX,nS,nx,cU,DB,gb⟩:=zz;replace cU:=cU.at pA;have Nr:=cU.vr bE.here (bE.vr aT.here (aT.vr aF.here J0));show Xz (gb eX eu v new t cU.here rfl Nr DB) (fun  z vw zz=>?_) fun  z z f=>f;obtain⟨DC,KQ,nV,q⟩:=zz;show⟨DC,KQ,.next,aD.trans (aF.trans (aT.trans (bE.trans (cU.trans nV)))),.next,q⟩
theorem uz{o:Expr}{lower upper:Option Expr}{p p' ai:Pos}{value:Expr}{Q:AF->List AO->Loc->Prop}
  (h:Ok c VR (eval value ae) H ls λy bu aU=>Ok c VR (eval o ae) bu aU λx d7 cj=>Ok c sj (evalPart lower ae) d7 cj λlo kb d5=>Ok c sj (evalPart upper ae) kb d5 λhi KP lV=>IZ c x lo hi y KP lV (Q .next))
  (hs:swapsWith value (a7 (.Subscript o (.Slice lower upper a8 p') p)) ai.line ae=Xj ac) :
  Ok c aY (exec (.Assign [.Subscript o (.Slice lower upper a8 p') p] value ai) ae) H ls Q:=λW s g e=>by
 show Ac7 (h.run g e λaK aH aU y u aD b8 aR=>aR.run aD.here rfl λb4 aN cj x v aF dg bB=>wpAny_Slice ?_) hs;show bB.run aF.here rfl λb7 bJ d5 lo vl aT eU cP=>cP.run aT.here rfl λg9 fP lV hi vu bE B5 dT=>GT ?_;show xE eU ?_;clear eU;intro tl rJ;subst rJ;show xE B5 ?_;clear B5;intro tu AJ;subst AJ;have cU:=(bE.here.grow (h':=fP.heap.push { cls:=.type "slice",data:=.fields #[partValue (lo.map (·,tl)),partValue (hi.map (·,tu)),.none] }) fP.toks (λb o e=>Xa _ e)).at bE.tk;have rx:=cU.vr bE.here (bE.vr aT.here (aT.vr aF.here dg));have ry:=cU.vr bE.here (bE.vr aT.here (aT.vr aF.here (aF.vr aD.here b8)));show Xz (dT _ _ v u fP.heap.objs.size tl tu cU.here rfl rx ry (cf _ (Xo _ rfl) rfl rfl)) (λ_ vw ⟨DC,KQ,nV,q⟩=>?_) fun  z z f=>f;show⟨DC,KQ,.next,aD.trans (aF.trans (aT.trans (bE.trans (cU.trans nV)))),.next,q⟩
theorem DD{a b:List Nat}(hs:a.length+b.length<=sizeLine)(q:Q (S (a++b)) H ls):lF c VR (inplaceOp .Add) (S a) (S b) H ls Q:=λW s v u g e r r'=>by
 (apply VR.dE r;intro z);apply VR.dE r';intro z
 show SB.iadd (λt' k=>?_) (by assumption);rw[se];show back g e k (.str _ _) q
theorem tP(l:List Nat)(k:Nat):Adg ⟨l.toArray⟩ ⟨[k].toArray⟩=l.contains k:=by
 unfold Adg;rw[AcE,StrLaws.found_iff];simp only[dh,StrLaws.subAt_eq,Xs,XU,List.contains_iff_mem,beq_iff_eq];constructor
 .rintro⟨i,hi,h⟩
  have h':(l.drop i).take 1=[k]:=h;have:k∈(l.drop i).take 1:=by rw[h'];show .head _
  show Aab (YY this)
 .intro h;obtain⟨i,hi,hk⟩:=Zo h;show bd i (by assumption) ?_;rw[Yw hi];show aE hk ?_;rfl
end
end
end
section
open PySem PySem.W PyProof.Rows PySem.Builtin PySem.Builtin.Str PySem.Builtin.List
section
variable {Q:AF->List AO->Loc->Prop}{l:List AV}
section
variable {ls:Loc}
theorem Cn{x:Expr}(h:Ok c VR (eval x ae) H ls (zd Q))(hi:interactive ae=ac)(hs:swapsWith x a8 ai.line ae=Xj ac):Ok c aY (exec (.Expr x ai) ae) H ls Q:=λW s g e=>wpAny_Expr_any (h.run g e λaK aH aU y v aD b8 aR=>⟨aK,aU,_,aD,.next,aR⟩) hi hs
theorem Gy(q:Q .next H ls):Ok c aY (exec (.Pass ai) ae) H ls Q:=λW s g e=>aM (Yy (GT ⟨W,ls,_,g.good,.next,e▸q⟩))
theorem wQ{gM:List Expr}{k:Nat}{ai:Pos}{value:Expr}{Q:AF->List AO->Loc->Prop}(h:Ok c VR (eval value ae) H ls (K1 c jF (assign (.Tuple gM k p) ae) (zd Q)))
  (hs:swapsWithSole [.Tuple gM k p] value ai.line ae=Xj ac) (hw:swappedStores [.Tuple gM k p] value ae=Xj a8):Ok c aY (exec (.Assign [.Tuple gM k p] value ai) ae) H ls Q:=λW s g e=>
 Assign_Tuple (h.run g e λaK aH aU y v aD b8 aR=>Xz (aR aK aH v aD.here rfl b8) (λ_ aN ⟨b4,cj,_,aF,_,q⟩=>⟨b4,cj,_,aD.trans aF,.next,q⟩) fun  u u f=>f) hs hw
def J1(c:Cx)(x:AV)(H:List AO)(xs:List AV):Prop:=∀W s v ls (P:List Value->Shared->Prop) (E:Value->Shared->Prop),Here c W s ls->W.H=H->VR W x v->(∀W' h' vs,bN c W s W' { s with heap:=h' } ls->W'.H=H->bY W' xs vs->P vs { s with heap:=h' })->StarOf c.M c.A E v P s
theorem DE{a:Addr}{o:Obj}{P:List Value->Shared->Prop}{E:Value->Shared->Prop}(g:Here c W s ls)(e:W.H=H)(ho:s.heap.get? a=a7 o)(hc:o.cls=.type T)(hd:o.data=.seq (Xp vs) n)(hT:T = "list"\/T = "tuple") (hs:xs.length<=sizeLine) (r:bY W xs vs)
  (k:∀W' h' vs,bN c W s W' { s with heap:=h' } ls->W'.H=H->bY W' xs vs->P vs { s with heap:=h' }):StarOf c.M c.A E (.ref a) P s:=by
 have Du:s.TypeIs (.ref a) T:=bd o ho hc;have z:wpAny c.M c.A (collect (.ref a)) P E s:=by show wpAny_collect_seq a hT ho hc hd (λh' hk=>?_) (by simp[r.length];show hs);have G:=(g.grow (h':=h') s.toks hk).at g.tk;show k _ h' vs G e (G.Kf g r)
 clear hc;rcases hT with rfl|rfl
 .show aM (YF Du PySem.F.slot_list_iter.lookup (GT ⟨rfl,z⟩))
 .show aM (YF Du PySem.F.slot_tuple_iter.lookup (GT ⟨rfl,z⟩))
theorem B6(hs:l.length<=sizeLine):J1 c (.tup l) H l:=λW s v ls P E g e r k=>by apply VR.uU r;intro u u u ho u rs;show DE (T:="tuple") g e (g.hh▸ho) rfl rfl (.inr rfl) hs rs k
theorem mL{o:Option α}{f:α->Option β}{a:α}{r:Option β}(h:o=a7 a)(k:f a=r):o.bind f=r:=by rw[h];show k
theorem DF{f:Addr}{cd:ClassData}{aw:Str}{s:Shared}{P:Value->Shared->Prop}{E:Value->Shared->Prop}(g:Here c W s ls)(hi:W.H[i]?=a7 o)(ho:eN o=a7 (C,fs))(hg:iX c.K C)(hh:hasDictIn c.K C=a9)(hc:clsIn c.K C=a7 cd)
  (hf:findIn c.K (.ref C) aw=a7 (a7 (.ref f))) (ht:isFn c.K (.ref f)=a9) (rM:specialIn c.K (.ref f) "__get__" = a7 (a7 (.builtin "function.__get__"))) (B7:takesIn c.K (.ref f)=a7 ac) (QY:copiedNames.contains aw=ac)
  (hl:fs.lookup aw=a8) (k:∀h',bN c W s ⟨h',W.ρ,W.H⟩ { s with heap:=h',toks:=s.toks+1 } ls->h'.get? s.heap.objs.size=a7 (methodObj (.ref f) (.ref (W.ρ i).1))->P (.ref s.heap.objs.size) { s with heap:=h',toks:=s.toks+1 }) :
  wpAny c.M c.A (getAttr (.ref (W.ρ i).1) aw a9) P E s:=by
 have X:c.K.In s.heap:=g.hh▸g.rel.top;show fQ (dA (g.rel.obj i o hi) ho) fun  ox od m I u u lk q=>?_;rw[g.hh]at I;have qn:=q aw;rw[hl]at qn;show bb (any_some hh) λV0 PA hd=>?_;have fo:findObj c.K C (a7 od) aw=a7 (.bind (.builtin "function.__get__") (.ref f)):=by
  have how:PySem.W.ownOf V0 (a7 od) aw=a7 a8:=by unfold PySem.W.ownOf;rw[aQ hd];change lookIn aw od=a7 a8;rw[lk,qn]
  show mL PA (mL hf (mL rM (mL B7 (mL how (aI (by rw[QY];show YX))))))
 show hg.bind X I fo λA=>YD (fn_get (s:={ s with toks:=s.toks+1 }) X (beq_iff_eq.mp ht) λA=>?_);have G:=(g.grow (h':=s.heap.push (methodObj (.ref f) (.ref (W.ρ i).1))) (s.toks+1) (λb o e=>Xa _ e)).at (XQ _);show handed_on rfl (k _ G (Xo _ rfl))
theorem DG{o e:Expr}{aw:Str}{eY p ai:Pos}{i:Nat}{ob:AO}{C f:Addr}{cd:ClassData}{fs:List (Str×AV)}{Q:AV->List AO->Loc->Prop}
  (hg:iX c.K C) (hh:hasDictIn c.K C=a9) (hc:clsIn c.K C=a7 cd) (hf:findIn c.K (.ref C) aw=a7 (a7 (.ref f))) (ht:isFn c.K (.ref f)=a9) (V1:fnIn c.K f=a9) (rM:specialIn c.K (.ref f) "__get__" = a7 (a7 (.builtin "function.__get__"))) (B7:takesIn c.K (.ref f)=a7 ac) (QY:copiedNames.contains aw=ac)
  (km:attributeBase o aw ae (eval o ae)=eval o ae)
  (h:Ok c VR (eval o ae) H ls λx bu aU=>x=.ref i/\bu[i]?=a7 ob/\eN ob=a7 (C,fs)/\fs.lookup aw=a8/\Ok c VR (eval e ae) bu aU λy d7 cj=>∃xs,J1 c y d7 xs/\bk c (.ref f) (.ref i::xs) d7 λx H'=>Q x H' cj) :
  Ok c VR (eval (.Call (.Attribute o aw eY) [.Starred e p] [] ai) ae) H ls Q:=λW s g ee=>by
 have qx:methodCallForm (([Expr.Starred e p]:List Expr).length+([]:List Keyword).length) (backTo ai (starEach [.Starred e p] ae)) (backToKw ai (keywordEach [] ae))=ac:=rfl;have fO:methodCallPos ac o ae eY ai=Xj ai:=by unfold methodCallPos;rfl
 rw[AaM];show aE km ?_;show aM (h.run g ee λaK aH aU x u aD b8 aR=>aM (Yy ?_));show mr aR ?_;clear aR;intro e9 hi ho hl aR;subst e9;apply VR.lT b8;intro rC;show aE qx (aM (XE (aM (DF aD.here hi ho hg hh hc hf ht rM B7 QY hl λh' aF hm=>GT (aM (XX fO (ks_call (P:=MethP c.K aH.heap.objs.size f (.ref (aK.ρ i).1)) rfl (keeps_M V1) (ks_lone (aR.run aF.here rfl λb7 bJ d5 y u aT eU cP=>?_)))))))));show bb cP ?_;clear cP;intro xs st hc;have hq:aH.heap.objs.size ∉ aK.bf:=by have:=aD.rel.fresh;rwa[aD.hh]at this
 have Hk:=(aT.mono aF.here).keep _ _ hm hq rfl;show st b7 bJ u d5 _ _ aT.here rfl eU λg9 dT vs bE jP rs=>⟨⟨?_,?_⟩,?_⟩
 .have DH:=(bE.mono aT.here).keep _ _ Hk.1 Hk.2 rfl;rw[bE.hh]at DH;show DH.1
 .have:=bE.rel.top;rw[bE.hh]at this;show this
 .have DH:=(bE.mono aT.here).keep _ _ Hk.1 Hk.2 rfl;rw[bE.hh]at DH;have rx:VR g9 (.ref i) (.ref (aK.ρ i).1):=by have r1:VR aK (.ref i) (.ref (aK.ρ i).1):=.ref i rC;show bE.vr aT.here (aT.vr aF.here (aF.vr aD.here r1))
  show YD (ks_codeAny_call_bound DH.1 (Yr (hc g9 _ (.ref (aK.ρ i).1::vs) bE.tk bE.hh bE.rel jP (.cons rx rs)) λr s' z=>c0 (Ends.good bE.here z) λv W' x hr G vr q=>?_));clear z;subst hr;show⟨W',d5,x,aD.trans (aF.trans (aT.trans (bE.trans G))),vr,q⟩
end
end
section
variable {i a j b:Nat}{ft:List Nat}{xs r:List AV}{H H':List AO}{p:Nat->Prop}{o:AO}{x:AV}
noncomputable def tQ(us vs:List AV):List AV:=(us.zip vs).map λp=>.tup [p.1,p.2]
noncomputable def nZ:List AV->List AV
 |x::y::r=>.tup [x,y]::nZ r
 |_=>[]
inductive SrcAt(i:Nat):List Nat->List AV->List AO->Prop
 |it {xs:List AV} {H:List AO}:H[i]?=a7 (.it xs)->SrcAt i [i] xs H
 |of {j k:Nat} {l:List AV} {H:List AO}:H[i]?=a7 (.eI j k)->H[j]?=a7 (.lst l)->SrcAt i [i,j] (l.drop k) H
 |zip {a b:Nat} {us vs:List AV} {H:List AO}:H[i]?=a7 (.zip .none a b)->H[a]?=a7 (.it us)->H[b]?=a7 (.it vs)->a≠b->SrcAt i [i,a,b] (tQ us vs) H
 |pair {a j k:Nat} {l:List AV} {H:List AO}:H[i]?=a7 (.zip .none a a)->H[a]?=a7 (.eI j k)->H[j]?=a7 (.lst l)->SrcAt i [i,a,j] (nZ (l.drop k)) H
theorem SrcAt.congr(h:SrcAt i ft xs H):(∀j∈ft,H'[j]?=H[j]?)->SrcAt i ft xs H':=
 h.casesOn (motive:=fun  ft xs H u=>(∀j∈ft,H'[j]?=H[j]?)->SrcAt i ft xs H') (λa e=>.it ((e _ (.head _)).trans a))
  (λa b e=>.of ((e _ (.head _)).trans a) ((e _ (.tail _ (.head _))).trans b))
  (λa b d ne e=>.zip ((e _ (.head _)).trans a) ((e _ (.tail _ (.head _))).trans b) ((e _ (.tail _ (.tail _ (.head _)))).trans d) ne)
  (λa b d e=>.pair ((e _ (.head _)).trans a) ((e _ (.tail _ (.head _))).trans b) ((e _ (.tail _ (.tail _ (.head _)))).trans d))
theorem zx:∀j∈([]:List Nat),p j:=fun  u=>nofun
theorem mM{l:List Nat}(h:p a)(k:∀j∈l,p j):∀j∈a::l,p j:=fun  u m=>XO.mpr ⟨h,k⟩ _ m
theorem jt(e:H[j]?=a7 o):j<H.length:=(Xc.mp e).1
theorem SrcAt.foot(h:SrcAt i ft xs H):i∈ft/\∀j∈ft,j<H.length:=
 h.casesOn (motive:=fun  ft u H u=>i∈ft/\∀j∈ft,j<H.length) (λa=>⟨.head _,mM (jt a) zx⟩) (λa b=>⟨.head _,mM (jt a) (mM (jt b) zx)⟩)
  (fun  a b d u=>⟨.head _,mM (jt a) (mM (jt b) (mM (jt d) zx))⟩)
  (λa b d=>⟨.head _,mM (jt a) (mM (jt b) (mM (jt d) zx))⟩)
structure cQ(ft:List Nat)(H H':List AO):Prop where
 len:H'.length=H.length
 off:∀j,j ∉ ft->H'[j]?=H[j]?
theorem cQ.refl(ft:List Nat)(H:List AO):cQ ft H H:=⟨rfl,fun  u u=>rfl⟩
theorem cQ.trans{J2:List AO}(x:cQ ft H H')(y:cQ ft H' J2):cQ ft H J2:=⟨y.len.trans x.len,λj h=>(y.off j h).trans (x.off j h)⟩
theorem cQ.set(hi:i∈ft)(o:AO):cQ ft H (H.set i o):=⟨by show Yg,λj hj=>by rw[XC];rintro rfl;show hj hi⟩
theorem get_set{o':AO}(d4:i≠j)(h:H[j]?=a7 o'):(H.set i o)[j]?=a7 o':=by rw[XC d4];show h
theorem ig{o':AO}(a:H[i]?=a7 o)(b:H[j]?=a7 o')(h:o≠o'):i≠j:=by rintro rfl;replace b:=a▸b;cases b;show h rfl
section
variable {c:Cx}
abbrev tR(t:Expr):Prop:=∃a b d,t=.Tuple a b d
theorem uU{a b d}{p:Prop}:tR (.Tuple a b d)\/p:=.inl ⟨_,_,_,rfl⟩
theorem DI{us vs:List AV}:x::r=tQ us vs->∃u Mk v Ay,us=u::Mk/\vs=v::Ay/\x=.tup [u,v]/\r=tQ Mk Ay:=by
 cases us with
 |nil=>show nofun
 |cons u us=>
 cases vs with|nil=>show nofun|cons v vs=>showλe=>⟨u,us,v,vs,rfl,rfl,(Abh e).1,(Abh e).2⟩
theorem xM{q:List AV}:x::r=nZ q->∃u v q',q=u::v::q'/\x=.tup [u,v]/\r=nZ q':=by
 cases q with
 |nil=>show nofun
 |cons u q=>
 cases q with|nil=>show nofun|cons v q=>showλe=>⟨u,v,q,rfl,(Abh e).1,(Abh e).2⟩
theorem Nt(o o1 o2 o3:AO):cQ [i,a,b] H ((((H.set i o).set a o1).set b o2).set i o3):=(((cQ.set (.head _) _).trans (.set (.tail _ (.head _)) _)).trans (.set (.tail _ (.tail _ (.head _))) _)).trans (.set (.head _) _)
theorem Nu(o o1 o2 o3:AO):cQ [i,a,b] H ((((H.set i o).set a o1).set a o2).set i o3):=(((cQ.set (.head _) _).trans (.set (.tail _ (.head _)) _)).trans (.set (.tail _ (.head _)) _)).trans (.set (.head _) _)
theorem Nv(o o1 o3:AO):cQ [i,a,b] H (((H.set i o).set a o1).set i o3):=((cQ.set (.head _) _).trans (.set (.tail _ (.head _)) _)).trans (.set (.head _) _)
def qA(c:Cx)(t:Expr)(i:Nat)(ft:List Nat)(xs:List AV)(H:List AO):Prop:=∀x r,x::r=xs->(tR t\/ft.length≠3)->∃H',Turn c t i H x H'/\SrcAt i ft r H'/\cQ ft H H'
section
variable {t:Expr}{i a j k:Nat}{l us vs xs:List AV}{H:List AO}
theorem Hl(h:H[i]?=a7 (.it xs)):qA c t i [i] xs H:=fun  x r e u=>by subst e;show⟨_,H5 h,.it (bn h),.set (.head _) _⟩
theorem Hm(h:H[i]?=a7 (.eI j k))(h1:H[j]?=a7 (.lst l)):qA c t i [i,j] (l.drop k) H:=fun  x r e u=>
 have e:=fI e.symm
 ⟨_,AK h h1 rfl e.1,ix (m:=λr=>SrcAt i _ r _) e.2 (.of (bn h) (get_set (ig h h1 nofun) h1)),.set (.head _) _⟩
theorem Hn{b:Nat}:H[i]?=a7 (.zip .none a b)->H[a]?=a7 (.it us)->H[b]?=a7 (.it vs)->a≠b->qA c t i [i,a,b] (tQ us vs) H:=by revert c t i a us vs H b;delta c t i a us vs H b;intro h h1 h2 ne x r e ht;obtain⟨gM,k,ai,et⟩:=ht.resolve_right (not_not_intro rfl);obtain⟨u,Mk,v,Ay,e1,e2,e3,e4⟩:=DI e;rw[e1]at h1;rw[e2]at h2;rw[e3,e4,et];clear e ht e1 e2 e3 e4 et;have vx:=ig h h1 nofun;have IU:=ig h h2 nofun;have s0:=get_set (o:=.zip .ellipsis a b) vx h1;have s1:=get_set (o:=.it Mk) vx.symm (bn (o':=.zip .ellipsis a b) h);have s2:=get_set (o:=.it Mk) ne (get_set (o:=.zip .ellipsis a b) IU h2);have s3:=get_set (o:=.it Ay) IU.symm s1;show⟨_,vf h (tH s0) s1 (tH s2) s3,.zip (bn s3) (get_set vx (get_set ne.symm (bn s0))) (get_set IU (bn s2)) ne,Nt _ _ _ _⟩
theorem Ho:H[i]?=a7 (.zip .none a a)->H[a]?=a7 (.eI j k)->H[j]?=a7 (.lst l)->qA c t i [i,a,j] (nZ (l.drop k)) H:=by revert c t i a j k l H;delta c t i a j k l H;intro h h1 h2 x r e ht;obtain⟨gM,kk,ai,et⟩:=ht.resolve_right (not_not_intro rfl);obtain⟨u,v,q,e1,e3,e4⟩:=xM e;have e1:=fI e1;have e2:=fI e1.2;rw[e3,e4,et,<-e2.2];clear e ht e3 e4 et;have vx:=ig h h1 nofun;have T2:=ig h h2 nofun;have QZ:=ig h1 h2 nofun;have s0:=get_set (o:=.zip .ellipsis a a) vx h1;have t0:=get_set (o:=.zip .ellipsis a a) T2 h2;have s1:=get_set (o:=.eI j (k+1)) vx.symm (bn (o':=.zip .ellipsis a a) h);have s3:=get_set (o:=.eI j (k+1+1)) vx.symm s1;have w0:=bn (o':=.eI j (k+1)) s0;show⟨_,vf h (mF s0 t0 rfl e1.1) s1 (mF w0 (get_set QZ t0) rfl e2.1) s3,.pair (bn s3) (get_set vx (bn w0)) (get_set T2 (get_set QZ (get_set QZ t0))),Nu _ _ _ _⟩
end
theorem SrcAt.turn{target:Expr}(h:SrcAt i ft (x::r) H)(ht:tR target\/ft.length≠3):∃H',Turn c target i H x H'/\SrcAt i ft r H'/\cQ ft H H':=h.casesOn (motive:=fun  ft xs H u=>qA c target i ft xs H) Hl Hm Hn Ho x r rfl ht
def mN(c:Cx)(i:Nat)(ft:List Nat)(xs:List AV)(H:List AO):Prop:=[]=xs->∃H',Stop c i H H'/\cQ ft H H'
section
variable {i a j k:Nat}{l us vs xs:List AV}{H:List AO}(hA:c.A.handled=a8)
include hA
theorem DJ(h:H[i]?=a7 (.it xs)):mN c i [i] xs H:=λe=>by subst e;show⟨_,H6 hA h,.set (.head _) _⟩
theorem DK(h:H[i]?=a7 (.eI j k))(h1:H[j]?=a7 (.lst l)):mN c i [i,j] (l.drop k) H:=λe=>⟨_,AL hA h h1 rfl (ia e.symm),.set (.head _) _⟩
theorem DL{b:Nat}:H[i]?=a7 (.zip .none a b)->H[a]?=a7 (.it us)->H[b]?=a7 (.it vs)->a≠b->mN c i [i,a,b] (tQ us vs) H:=by
 revert us vs hA;revert c i a H b;delta c i a H b;intro us vs hA h h1 h2 ne e;have vx:=ig h h1 nofun;have s0:=get_set (o:=.zip .ellipsis a b) vx h1;have s1:=bn (o':=.zip .ellipsis a b) h;cases us with
 |nil=>show⟨_,pL hA h (get_set vx.symm s1) (.inl (xB s0)),Nv _ _ _⟩
 |cons u us=>
 cases vs with|cons v vs=>cases e|nil=>have IU:=ig h h2 nofun;have s1:=get_set (o:=.it us) vx.symm s1;show⟨_,pL hA h (get_set IU.symm s1) (.inr ⟨u,_,tH s0,s1,xB (get_set ne (get_set IU h2))⟩),Nt _ _ _ _⟩
theorem DM:H[i]?=a7 (.zip .none a a)->H[a]?=a7 (.eI j k)->H[j]?=a7 (.lst l)->mN c i [i,a,j] (nZ (l.drop k)) H:=by
 revert hA;revert c i a j k l H;delta c i a j k l H;intro hA h h1 h2 e;have vx:=ig h h1 nofun;have s0:=get_set (o:=.zip .ellipsis a a) vx h1;have t0:=get_set (o:=.zip .ellipsis a a) (ig h h2 nofun) h2;have s1:=bn (o':=.zip .ellipsis a a) h;generalize hd:l.drop k=q at e;cases q with
 |nil=>show⟨_,pL hA h (get_set vx.symm s1) (.inl (qr s0 t0 rfl (ia hd))),Nv _ _ _⟩
 |cons u q=>
 cases q with|cons v q=>cases e|nil=>have e1:=fI hd;have s1:=get_set (o:=.eI j (k+1)) vx.symm s1;show⟨_,pL hA h (get_set vx.symm s1) (.inr ⟨u,_,mF s0 t0 rfl e1.1,s1,qr (bn s0) (get_set (ig h1 h2 nofun) t0) rfl (ia e1.2)⟩),Nu _ _ _ _⟩
end
theorem SrcAt.stop(hA:c.A.handled=a8)(h:SrcAt i ft [] H):∃H',Stop c i H H'/\cQ ft H H':=h.casesOn (motive:=fun  ft xs H u=>mN c i ft xs H) (DJ hA) (DK hA) (DL hA) (DM hA) rfl
theorem SrcAt.kind(h:SrcAt i ft xs H):∃o,H[i]?=a7 o/\H8 o:=h.casesOn (motive:=fun  u u H u=>∃o,H[i]?=a7 o/\H8 o) (λa=>⟨_,a,.inl ⟨_,rfl⟩⟩) (fun  a u=>⟨_,a,.inr (.inl ⟨_,_,rfl⟩)⟩) (fun  a u u u=>⟨_,a,.inr (.inr ⟨_,_,_,rfl⟩)⟩) (fun  a u u=>⟨_,a,.inr (.inr ⟨_,_,_,rfl⟩)⟩)
theorem SrcAt.self(h:SrcAt i ft xs H):iC c (.ref i) H i H:=bb h.kind fun  u a b=>tJ a b
theorem SrcAt.DN{ls:Loc}(h:SrcAt i ft xs H)(g:Here c W s ls)(e:W.H=H):nU (.ref (W.ρ i).1) s (W.ρ i).1 s:=bb h.kind fun  u a b=>zp g (e▸a) b
variable {target:Expr}{orelse:List Stmt}{ls:Loc}{Q:AF->List AO->Loc->Prop}
abbrev Hp(ft:List Nat)(bu:List AO)(N:List AO->Loc->Prop):List AO->Loc->Prop:=λH l=>(∀j∈ft,H[j]?=bu[j]?)/\N H l
theorem vy(hA:c.A.handled=a8)(S:SrcAt i ft xs H)(ht:tR target\/ft.length≠3)(Inv:List AV->List AO->Loc->Prop)(hI:Inv xs H ls)
  (step:∀x r dB bu l,x::r <:+ xs->Inv (x::r) dB l->cQ ft dB bu->SrcAt i ft r bu->pz c jF (assign target ae) x bu l (D4 c ae aB (Hp ft bu (Inv r)) Q))
  (fin:∀dB bu l,Inv [] dB l->cQ ft dB bu->Ok c aY (execs orelse ae) bu l Q):xC c ae target aB orelse i H ls Q:=by
 show⟨λn H l=>∃r,r <:+ xs/\n=r.length/\SrcAt i ft r H/\Inv r H l,xs.length,(gn xs (List.suffix_refl _) rfl S hI),?_⟩
 rintro n dB l ⟨r,hs,rfl,Nw,Nx⟩
 cases r with
 |nil=>show bb (Nw.stop (c:=c) hA) λH' st off=>.stop H' st (fin dB H' l Nx off)
 |cons x r=>
  show bV (Nw.turn (c:=c) (target:=target) ht) λH' tn o4 off=>.item x H' tn λW s v g e rv=>Xz (step x r dB H' l hs Nx off o4 W s v g e rv) (λ_ aH ⟨aK,aU,b,G,u,h⟩=>⟨aK,aU,b,G,u,h.mono λfl kb d5 q=>?_⟩) fun  z z f=>f;cases fl with|next=>show dC kb d5 .same (bd r.length (Xd _) (gn r ((List.suffix_cons x r).trans hs) rfl (o4.congr q.1) q.2))|cont=>show dC kb d5 .same (bd r.length (Xd _) (gn r ((List.suffix_cons x r).trans hs) rfl (o4.congr q.1) q.2))|brk=>show q|ret y=>show q
end
end
section
variable {W:Wd}{s:Shared}{cl:List (Str×Addr)}{f:Fp}{Q:Bool->List AO->Loc->Prop}{F:List AO}
noncomputable def Cx.at(c:Cx)(f:Fp):Cx:=⟨c.prog,c.w,c.K,c.A,f⟩
theorem qB{ls:Loc}(g:Here c W s ls):∀a∈c.f.ad,a ∉ bp c.K:=λa m z=>by show bb (Xr.mp z) λp hp iO=>?_;clear z;subst iO;show bV (g.rel.tab p hp) fun  ps u t u=>bb (g.fr.oK _ m) λo e q=>?_;rw[t.2]at e;obtain rfl:=Xe e;show XA q
def dj(cl:List (Str×Addr))(ls l:Loc):Prop:=∀n,(cl.lookup n).isSome=a9->l.lookup n=ls.lookup n
noncomputable def qC(cl:List (Str×Addr))(ls:Loc):Loc:=ls.filter λp=>(cl.lookup p.1).isSome
theorem ju(cl:List (Str×Addr))(x:Str)(ls:Loc):(qC cl ls).lookup x=if(cl.lookup x).isSome=a9 then ls.lookup x else a8:=by
 induction ls with
 |nil=>show(ite_self _).symm
 |cons p r ih=>
  obtain⟨y,v⟩:=p;unfold qC at ih ⊢;by_cases hx:x=y
  .rw[hx]at ih ⊢;by_cases hy:(cl.lookup y).isSome=a9
   .rw[Aat (p:=λp:Str×AV=>(cl.lookup p.1).isSome) (a:=(y,v)) hy,aQ hy,YC,YC]
   .rw[Aau (p:=λp:Str×AV=>(cl.lookup p.1).isSome) (a:=(y,v)) hy,ih,aI hy,aI hy]
  .rw[cX hx,<-ih];by_cases hy:(cl.lookup y).isSome=a9
   .rw[Aat (p:=λp:Str×AV=>(cl.lookup p.1).isSome) (a:=(y,v)) hy,cX hx]
   .rw[Aau (p:=λp:Str×AV=>(cl.lookup p.1).isSome) (a:=(y,v)) hy]
theorem oU(nd:(cl.map (·.1)).Nodup):∀{p:Str×Addr},p∈cl->cl.lookup p.1=a7 p.2:=by
 induction cl with
 |nil=>trivial
 |cons q r ih=>
  intro p h;rw[Xu,X3]at nd;obtain⟨a,b⟩:=q;rcases Xi.mp h with rfl|h'
  .show jn
  .have:(p.1==a)=ac:=by rw[beq_eq_false_iff_ne,ne_eq];intro e;show nd.1 (Xr.mpr (bd p h' e))
   simp only[YK,this];show ih nd.2 h'
structure tS(f:Fp)(cl:List (Str×Addr)):Prop where
 nd:(cl.map (·.1)).Nodup
 sub:∀p∈cl,f.cells.lookup p.1=a7 p.2
theorem tS.mem(h:tS f cl){a:Addr}(m:a∈cl.map (·.2)):a∈f.cells.map (·.2):=by show bb (Xr.mp m) λp hp e9=>?_;clear m;subst e9;show Xr.mpr (bd (p.1,p.2) (YS (h.sub p hp)) rfl)
theorem tS.nodup(h:tS f cl)(nd:(f.cells.map (·.2)).Nodup):(cl.map (·.2)).Nodup:=by
 obtain⟨n1,s1⟩:=h;induction cl with|nil=>simp|cons p r ih=>rw[Xu,X3]at n1 ⊢;show⟨λm=>?_,ih n1.2 λq hq=>s1 q (.tail _ hq)⟩;show bb (Xr.mp m) λq hq e=>?_;have e1:=s1 p (.head _);have e2:=s1 q (.tail _ hq);rw[e]at e2;have:q.1=p.1:=lU nd e2 e1;show n1.1 (Xr.mpr (bd q hq this))
section
variable {c:Cx}{W:Wd}{s:Shared}{ls:Loc}{C:Addr}{cl:List (Str×Addr)}
theorem qD(g:Here c W s ls)(gL:tS c.f cl)(tk:Nat)(B7:0<tk)(xG:h'.Ns C fun  u=>a8)(hC:s.heap.objs.size<=C)(k:∀b o,s.heap.get? b=a7 o->h'.get? b=a7 o) :
  Here (c.at ⟨C,cl⟩) ⟨h',W.ρ,W.H⟩ { s with heap:=h',toks:=tk } (qC cl ls):=by
 have kW:∀b o,W.h.get? b=a7 o->h'.get? b=a7 o:=by rw[g.hh];show k
 have J3:=g.fr.nd;unfold Fp.ad at J3;rw[X3]at J3;have lt:∀{a:Addr},a∈cl.map (·.2)->a<C:=λm=>by show xE (g.fr.there _ (.tail _ (gL.mem m))) λo e=>?_;rw[g.hh]at e;show XB (XF e) hC
 show⟨rfl,g.rel.up kW,⟨(bd _ xG (λx av e z=>?_)),λx av a e z=>?_,λa m=>?_,?_,λa m=>?_,λa m=>?_,λm=>?_⟩,B7⟩
 .rw[ju]at e;have z':cl.lookup x=a8:=z;rw[z']at e;trivial
 .rw[ju]at e;have z':cl.lookup x=a7 a:=z;rw[z']at e;simp at e;show bb (g.fr.cl x av a e (gL.sub _ (YS z'))) λv a1 b1=>bd v (a1.keeps kW) (b1.mono (bQ.up kW))
 .show xE (g.fr.cs a (gL.mem m)) λv q=>⟨v,q.keeps kW⟩
 .change(C::cl.map (·.2)).Nodup;rw[X3];show⟨λm=>XM _ (lt m),gL.nodup J3.2⟩
 .rcases Xi.mp m with q|m
  .intro z;show bb (g.rel.df (show C∈W.bf by have q':a=C:=q;rw[<-q'];show z)) fun  o e u=>?_;rw[g.hh]at e;show absurd (XF e) (Z5.mpr hC)
  .show g.fr.cH a (.tail _ (gL.mem m))
 .rcases Xi.mp m with e|m
  .rw[e];change c.K.lookup C=a8;cases q:c.K.lookup C with|none=>rfl|some o=>have:=g.rel.top _ _ q;rw[g.hh]at this;show absurd (XF this) (Z5.mpr hC)
  .show g.fr.apart a (.tail _ (gL.mem m))
 .rcases Xi.mp m with e|m
  .show bb g.rel.lim fun  mc nc u=>?_
   have:=nc.lt;rw[e,g.hh]at this;show absurd this (Z5.mpr hC)
  .show g.fr.stat (.tail _ (gL.mem m))
theorem qE(g:Here c W s ls)(gL:tS c.f cl){h' cP:Heap}{tk:Nat}{b7:Wd}{bJ:Shared}{d5:Loc}(hC:s.heap.objs.size<=C)(k:∀b o,s.heap.get? b=a7 o->h'.get? b=a7 o)
  (G:Good (c.at ⟨C,cl⟩) ⟨h',W.ρ,W.H⟩ { s with heap:=h',toks:=tk } b7 bJ d5) (hl:dj cl ls d5) (hs:XZ C bJ.heap cP) :
  Good c W s ⟨cP,b7.ρ,b7.H⟩ { bJ with heap:=cP } ls:=by
 revert c W s ls C cl h' cP tk b7 bJ d5;delta c W s ls C cl;intro g gL;delta h' cP tk b7 bJ d5;intro hC k G hl hs;have kW:∀b o,W.h.get? b=a7 o->h'.get? b=a7 o:=by rw[g.hh];show k
 have oP:XZ C b7.h cP:=by rw[G.hh];show hs
 have J3:=g.fr.nd;unfold Fp.ad at J3;rw[X3]at J3;have old:∀{a o},W.h.get? a=a7 o->a≠C:=λe z=>by rw[g.hh]at e;show absurd (XF e) (Z5.mpr (z▸hC))
 have keep:∀a o,W.h.get? a=a7 o->a ∉ W.bf->a ∉ cl.map (·.2)->a ∉ bp c.K->cP.get? a=a7 o/\a ∉ b7.bf:=λa o e m n1 n2=>by
  have z:=G.st.keep a o (kW a o e) m (by change a ∉ (C::cl.map (·.2))++bp c.K;simp only[Abq,Xi,Xl,not_or];show⟨old e,n1,n2⟩)
  show⟨(oP.2 a (old e)).trans z.1,z.2⟩
 have st:Step (c.f.ad++bp c.K) W ⟨cP,b7.ρ,b7.H⟩:=⟨G.st.len,G.st.agree,λa o e m ne=>by simp only[Xl,not_or]at ne;show keep a o e m (λz=>ne.1 (.tail _ (gL.mem z))) ne.2⟩
 have M:bQ W ⟨cP,b7.ρ,b7.H⟩:=st.mono λa m=>(Xl.mp m).elim (g.fr.dy a) (g.rel.iB a);have Cm:C∈(c.at ⟨C,cl⟩).f.ad:=.head _;have R0:bQ b7 ⟨cP,b7.ρ,b7.H⟩:=bQ.sb G.fr.dy Cm oP;have Hq:=qB g;show⟨rfl,st,G.rel.sb G.fr Cm oP,⟨?_,λx av a e z=>?_,λa m=>?_,g.fr.nd,λa m=>?_,g.fr.apart,g.fr.stat⟩,⟨G.sh.1,G.sh.2⟩⟩
 .show bb g.fr.ns λm n1 r=>?_;show hV n1 ?_;clear n1;intro o es en eo d;have z:=keep c.f.L o eo (g.fr.cH _ (.head _)) (λz=>J3.1 (gL.mem z)) (Hq _ (.head _));show bd m ⟨o,es,en,z.1,d⟩ (λx av e z=>let⟨v,a,b⟩:=r x av e z;⟨v,a,b.mono M⟩)
 .by_cases hm:a∈cl.map (·.2)
  .show bb (Xr.mp hm) λp hp jN=>?_;subst jN;have e1:=gL.sub p hp;have:p.1=x:=lU J3.2 e1 z;clear z;subst this;have lk:=oU gL.nd hp;show bb (G.fr.cl p.1 av p.2 ((hl p.1 (by rw[lk];rfl)).trans e) lk) λv a1 b1=>?_;show bd v (a1.sameBut oP ?_) (b1.mono R0);show xE (g.fr.there _ (.tail _ (gL.mem hm))) λo eo=>old eo
  .show bb (g.fr.cl x av a e z) λv Kd b1=>?_;obtain⟨o,eo,d⟩:=Kd;have hc:a∈c.f.cells.map (·.2):=Xr.mpr (bd (x,a) (YS z) rfl);have z:=keep a o eo (g.fr.cH _ (.tail _ hc)) hm (Hq _ (.tail _ hc));show bd v ⟨o,z.1,d⟩ (b1.mono M)
 .by_cases hm:a∈cl.map (·.2)
  .show xE (G.fr.cs a hm) λv q=>⟨v,q.sameBut oP ?_⟩;show xE (g.fr.there _ (.tail _ m)) λo eo=>old eo
  .show dH (g.fr.cs a m) λv o eo d=>?_;have z:=keep a o eo (g.fr.cH _ (.tail _ m)) hm (Hq _ (.tail _ m));show dC v o z.1 d
 .by_cases hm:a∈cl.map (·.2)
  .show G.fr.cH a (.tail _ hm)
  .show xE (g.fr.there a m) λo eo=>(keep a o eo (g.fr.cH _ m) hm (Hq _ m)).2
end
def pN(c:Cx)(ae:Env)(ifs:List Expr)(H:List AO)(ls:Loc)(Q:Bool->List AO->Loc->Prop):Prop:=Ok c cy (forIn ifs a9 λc r=>if r=a9 then do let ok <-isTrue c ae (eval c ae);Xj (ForInStep.yield ok)else Xj (ForInStep.yield r)) H ls Q
section
variable {c:Cx}{ae:Env}{H:List AO}{ls:Loc}
theorem hJ(q:Q a9 H ls):pN c ae [] H ls Q:=λW s g e=>wpAny_tests_nil ⟨W,ls,a9,g.good,rfl,e▸q⟩
theorem B8{x:Expr}(h:Ok c cy (isTrue x ae (eval x ae)) H ls Q):pN c ae [x] H ls Q:=λW s g e=>wpAny_tests_one (h W s g e)
structure qF(c:Cx)(ae:Env)(cl:List (Str×Addr))(H:List AO)(ls:Loc)(target:Expr)(ifs:List Expr)(elt:Expr)(x:AV)(y:Option AV):Prop where
 go:∀F l,dj cl ls l->pz c jF (assign target ae) x (H++F) l fun  u bu aU=>pN c ae ifs bu aU λb d7 cj=>match y with|none=>b=ac/\dj cl ls cj/\∃G,d7=H++F++G|some y=>b=a9/\Ok c VR (eval elt ae) d7 cj λy' kb d5=>y'=y/\dj cl ls d5/\∃G,kb=H++F++G
theorem bq(h:H[j]?=a7 o):(H++F)[j]?=a7 o:=by rw[Yv (Xc.mp h).1];show h
theorem su{elt target iter:Expr}{ifs:List Expr}{al:Scope}{ai:Pos}{i D:Nat}{ft:List Nat}{cl:List (Str×Addr)}{cD:Nat}{f:AV->Option AV}(hA:c.A.handled=a8)(ht:tR target\/ft.length≠3)(hD:D ∉ ft)(xN:∀j∈ft,cD<=j)(T3:cD<=D)
  {dB:List AO} (hH:dB.length=cD):∀(xs:List AV) (ys:List AV),(∀x∈xs,qF c ae cl dB ls target ifs elt x (f x))->ys.length+xs.length<=100000->∀(F:List AO) (l:Loc),SrcAt i ft xs (dB++F)->(dB++F)[D]?=a7 (.lst ys)->dj cl ls l->∀W s,Here c W s l->W.H=dB++F->
  codeAny c.M c.A (.compLoop (.ListComp elt [⟨target,iter,ifs,0⟩] al ai) 0 (.ref (W.ρ i).1) (.ref (W.ρ D).1) ae) (λr s'=>r=.ok .next/\∃W' l' F',Good c W s W' s' l'/\W'.H=dB++F'/\(dB++F')[D]?=a7 (.lst (ys++xs.filterMap f))/\dj cl ls l') s:=by
 revert c ae ls elt target iter ifs al ai i D ft cl cD f dB;delta c ae ls elt target iter ifs al ai i D ft cl cD f;intro hA ht hD xN T3;delta dB;intro hH;intro xs;have Ny:∀j∈ft,j≠D:=λj hj e=>hD (e▸hj)
 have reshape:∀{F:List AO} {H':List AO},cQ ft (dB++F) H'->∃F',H'=dB++F'/\F'.length=F.length:=by
  intro F H' off;show bd (H'.drop cD) ?_ (by have:=off.len;simp at this ⊢;show"EabEc+adE-cbd" hH this);have:H'.take cD=dB:=by
   apply Z6;intro j;by_cases hj:j<cD
   .rw[Aba hj,off.off j (λm=>by have:=xN j m;show"TabLba0" hj this),Yv (Nat.lt_of_lt_of_eq hj (_root_.id (Eq.symm hH)))]
   .rw[Y8 (by simp;show"NTabL<bca" hj),Y8 (by show"EabNTcbLac" hH hj)]
  rw[<-this,Y7]
 induction xs with
 |nil=>intro ys w w F l S hy K W s g e;revert ys F l W s;delta ys;intro w;delta F l;intro S hy K;delta W s;intro g e;show Aap (wpAny_noted ?_);rw[compTurn_list];show aM (Yy (aM (bb (S.stop (c:=c) hA) λH' st off=>st W s l g e _ _ λaK aH aD c8=>GT (iA rfl (MM aK l (bb (reshape off) fun  F' AJ w=>?_))))));clear st;subst AJ;show gn F' aD c8 ?_ K;(show aE (off.off D hD) ?_;show aE hy ?_);simp
 |cons x r ih=>
  revert x r;delta x r;intro ih;intro ys Gr mn F l S hy K W s g e;show Aap (wpAny_noted ?_);rw[compTurn_list];show aM (Yy (aM (bV (S.turn (c:=c) (target:=target) ht) λH' tn o4 off=>YA (n:=1) g.tk (tn W s l g e _ _ λv aH kk nR=>aM (YA (n:=1) nR (kk _ _ λaK aN aD c8 rv iQ=>?_))))));replace aD:=aD.at iQ;show bb (reshape off) λrN Dg T6=>?_;clear kk tn;subst Dg;have J4:(dB++rN)[D]?=a7 (.lst ys):=by(show aE (off.off D hD) ?_;show aE hy rfl)
  have V3:i<W.H.length:=by rw[e];show S.foot.2 i S.foot.1
  have R3:D<W.H.length:=by rw[e];show(Xc.mp hy).1
  have again:∀{W':Wd} {s':Shared} {l':Loc} {F' T7:List AO} {zs:List AV},bN c W s W' s' l'->W'.H=dB++F'->SrcAt i ft r (dB++F')->(dB++F')[D]?=a7 (.lst zs)->dj cl ls l'->zs.length+r.length<=100000->zs++r.filterMap f=ys++(x::r).filterMap f->
    codeAny c.M c.A (.compLoop (.ListComp elt [⟨target,iter,ifs,0⟩] al ai) 0 (.ref (W.ρ i).1) (.ref (W.ρ D).1) ae) (λr' s'=>r'=.ok .next/\∃W' l' F',Good c W s W' s' l'/\W'.H=dB++F'/\(dB++F')[D]?=a7 (.lst (ys++(x::r).filterMap f))/\dj cl ls l') s':=by
   intro W' s' l' F' w zs G e' S' y' K' hz V4;have h1:=ih zs (λx hx=>Gr x (.tail _ hx)) hz F' l' S' y' K' W' s' G.here e';rw[G.st.agree i V3,G.st.agree D R3]at h1;show Yr h1 λr' fF ⟨hr,xp,DO,V5,Go,V6,V7,V8⟩=>iA hr (eE xp DO V5 (G.trans Go) V6 ?_ V8);show aE V7 ?_;show aE V4 rfl
  show aM (cA aD.tk (((Gr x (.head _)).go rN l K) aK aN v aD.here c8 rv) (fun  w bJ qt zz=>?_) fun  w w q=>q.elim);obtain⟨b4,cj,_,aF,_,bB⟩:=zz;replace aF:=aF.at qt;show aM (cA aF.tk (bB b4 bJ aF.here rfl) (λok fP AM zz=>?_) fun  w w q=>q.elim);obtain⟨b7,d5,b,aT,rb,cP⟩:=zz;replace aT:=aT.at AM;subst rb;cases hf:f x with
  |none=>
   replace cP:=hf▸cP;show pJ cP ?_;clear cP;intro Nq R7 tz;show xE tz ?_;clear tz;intro Gb cE;subst Nq;show GT ⟨rfl,?_⟩;show again (T7:=[]) (zs:=ys) ((aD.toGood.trans (aF.toGood.trans aT.toGood)).at aT.tk) (F':=rN++Gb) (by rw[cE];show Xq _ _ _) ?_ ?_ R7 (by simp at mn ⊢;show YM ‹_›) (by simp[YQ,hf])
   .show o4.congr λj hj=>?_;have Gq:j<(dB++rN).length:=o4.foot.2 j hj;rw[<-Xq,Yv Gq]
   .rw[<-Xq];show bq J4
  |some y=>
   rw[hf]at cP;show xA cP ?_;clear cP;intro MU cP;subst MU;show aM (aM (cA aT.tk (cP b7 fP aT.here rfl) (λu eu pA zz=>?_) fun  w w q=>q.elim));obtain⟨g9,lV,y',bE,ry,V9,R8,Gb,jP⟩:=zz;replace bE:=bE.at pA;clear cP;subst V9;have yD:(dB++rN++Gb)[D]?=a7 (.lst ys):=bq J4;have ap:=YH (c:=c) (ls:=lV) (Q:=λz H' l'=>l'=lV/\H'=(dB++rN++Gb).set D (.lst (ys++[y']))) yD rfl (bW yD) (y:=y') (by simp at mn;show Zp mn) ⟨rfl,rfl⟩;have GG:=aD.toGood.trans (aF.toGood.trans (aT.toGood.trans bE.toGood));have rD:VR g9 (.ref D) (.ref (W.ρ D).1):=by rw[<-GG.st.agree D R3];show .ref D (XB R3 GG.st.len)
   show aM (cA bE.tk (ap g9 eu _ bE.here jP (.cons rD (.cons ry .nil))) (λ_ vw Hr ⟨eX,nS,z,cU,_,hl,mH⟩=>GT (GT ⟨rfl,?_⟩)) fun  w w q=>q.elim);clear bE ap;subst hl;have B9:(dB++rN++Gb).set D (.lst (ys++[y']))=dB++(rN++Gb).set (D-cD) (.lst (ys++[y'])):=by rw[Xq,Ys _ _ (by show"LabEcaLcb" T3 hH)];show aE hH rfl
   show again (T7:=[]) ((GG.trans cU).at Hr) (F':=(rN++Gb).set (D-cD) (.lst (ys++[y']))) (by(show aE mH ?_;show aE B9 rfl)) ?_ ?_ R8 (zs:=ys++[y']) (by simp at mn ⊢;show"L+a+b1.100000L++a1b100000" mn) (by simp[YQ,hf])
   .show ix B9 (o4.congr λj hj=>?_);have Gq:j<(dB++rN).length:=o4.foot.2 j hj;rw[XC (Ny j hj).symm,Yv Gq]
   .show ix B9 ?_;show bn yD
theorem fX(l r:List α):(l++r).take l.length=l:=by simp
theorem ci.J5{ls:Loc}(F:ci K W f ls):∀x av,ls.lookup x=a7 av->av.gX W.H.length=a9:=λx av e=>by
 cases h:f.cells.lookup x with|none=>show bb F.ns fun  m u r=>?_;show bb (r x av e h) fun  v u q=>?_;show q.gX|some a=>show bb (F.cl x av a e h) fun  v u q=>?_;show q.gX
theorem Here.tT{cO:Wd}{ls:Loc}(g:Here c cO bD ls)(lA:cO.H=H)(G:Good c cO bD W s ls)(e:W.H=H++F):Good c cO bD (W.cut H) s ls:=by
 have hz:bw H.length H:=by have:=g.rel.closed;rwa[lA]at this
 show G.sd (.cut H.length H ls (by rw[lA];show Xd _) (by rw[e];show wH) ?_ λx av q=>(bd av q (Fz.refl ?_)))
 .rw[e,fX];show lG.refl hz
 .have:=g.fr.J5 x av q
  rwa[lA]at this
theorem Hs{elt target iter:Expr}{ifs:List Expr}{al:Scope}{ai:Pos}{cl:List (Str×Addr)}{Q:AV->List AO->Loc->Prop}(hA:c.A.handled=a8)(E:ba ae c.f)(lI:closureFor al ae=Xj cl)(gL:tS c.f cl)(cr:∀y∈al.names,y.2≠.cell)
  (gP:al.kind=.function) (lY:∀x∈al.names,x.2=.local->al.names.lookup x.1=a7 .local) (hs:∀x,foldedSetIterable iter ae x=Xj x)
  (h:Ok c VR (eval iter ae) H ls λx bu aU=>aU=ls/\∃i dk ft xs f,iC c x bu i (H++dk)/\SrcAt i ft xs (H++dk)/\(tR target\/ft.length≠3)/\(∀j∈ft,H.length<=j)/\xs.length<=100000/\
   (∀C,ba (compEnvC al cl C ae) ⟨C,cl⟩->∀x∈xs,qF (c.at ⟨C,cl⟩) (compEnvC al cl C ae) cl H ls target ifs elt x (f x))/\dS H.length (xs.filterMap f)=a9/\Q (.fl (xs.filterMap f)) H ls) :
  Ok c VR (eval (.ListComp elt [⟨target,iter,ifs,0⟩] al ai) ae) H ls Q:=λW s g e=>by
 revert c ae H ls elt target iter ifs al ai cl Q W s;delta c ae H ls elt target iter ifs al ai cl Q;intro hA E lI gL cr gP lY hs h;delta W s;intro g e;show AcS rfl hs lI gP lY (h.run g e λaK aH aU x v aD b8 aR=>?_);show xA aR ?_;clear aR;intro qG tz;show dt tz ?_;clear tz;intro i dk ft xs tz;show pY tz ?_;clear tz;intro f It S ht xN tz;show nA tz ?_;clear tz;intro mn Gr hu q;clear h;subst qG;show iL (It aK aH v aU aD.here rfl b8) λb4 aN it aF cT hi=>it _ _ _ _ _ (YB (Z8 cr (by intro y hy;simp at hy) (λdT xG KR=>?_) gP));dsimp only at xG KR ⊢
 have hp:∀a∈own (aN.heap.objs.size,0) (.lst []),aN.heap.get? a=a8:=λa m=>by obtain rfl:=uT m;show fJ (Xd _)
 have aT:=aF.here.new (o:=.lst []) (p:=(aN.heap.objs.size,0)) (h':=aN.heap.push (listOf ([]:List Value).toArray 0)) aN.toks (λb o e=>Xa _ e) hp D2 λM=>by show dC ([]) 0 ?_ .nil;rw[dz];show Xo _ rfl
 replace aT:=aT.at aF.tk;generalize vz:b4.add (aN.heap.push (listOf ([]:List Value).toArray 0)) (aN.heap.objs.size,0) (.lst [])=b7 at aT;have cE:b7.H=H++(dk++[.lst []]):=by rw[<-vz];change b4.H++[_]=_;rw[cT];show Xq _ _ _
 have ρD:b7.ρ (H++dk).length=(aN.heap.objs.size,0):=by(show ix vz ?_;show ix cT ?_);show dz ..
 have ρi:b7.ρ i=b4.ρ i:=aT.st.agree i (by rw[cT];show hi);generalize hC:(aN.heap.push { cls:=.type "list",dict:=Acu,data:=.seq ([]:List Value).toArray }).objs.size=C at xG KR ⊢;have vA:(aN.heap.push (listOf ([]:List Value).toArray 0)).objs.size<=C:=Y6 hC;have kk:∀b o,(aN.heap.push (listOf ([]:List Value).toArray 0)).get? b=a7 o->dT.get? b=a7 o:=λb o e=>KR.extBut b o (YL (XB (XF e) vA)) (Xa _ e);have KS:dT.Ns C fun  u=>a8:=by
  have:(λx=>YK x ([]:List (Str×Value)).reverse)=fun  u=>Acu:=by funext x;rfl
  rw[this]at xG;show xG
 have E':ba (compEnvC al cl C ae) ⟨C,cl⟩:=⟨gP,rfl,fun  u u e=>e,E.glob,E.blt⟩
 have en:=qD aT.here gL (aN.toks+0) aF.tk KS vA kk;have DP:(H++(dk++[.lst []]))[(H++dk).length]?=a7 (.lst []):=by rw[<-Xq];show jM
 have DQ:SrcAt i ft xs (H++(dk++[.lst []])):=S.congr λj hj=>by rw[<-Xq,Yv (S.foot.2 j hj)]
 have DR:(H++dk).length ∉ ft:=λm=>XM _ (S.foot.2 _ m);have KT:dj cl aU (qC cl aU):=λn hn=>by rw[ju,aQ hn]
 have loop:=su (c:=c.at ⟨C,cl⟩) (ae:=compEnvC al cl C ae) (elt:=elt) (target:=target) (iter:=iter) (ifs:=ifs) (al:=al) (ai:=ai) (D:=(H++dk).length) (cD:=H.length) (ls:=aU) (cl:=cl) (ft:=ft) (f:=f) (i:=i) hA ht DR xN wH rfl xs []
  (λx hx=>Gr C E' x hx) (by simpa using mn) (dk++[.lst []]) (qC cl aU) DQ DP KT ⟨dT,b7.ρ,b7.H⟩ _ en cE
 change codeAny c.M c.A (.compStart (.ListComp elt [⟨target,iter,ifs,0⟩] al ai) 0 (.ref (b4.ρ i).1) (.ref aN.heap.objs.size) (compEnvC al cl C ae)) (compPost c.M c.A _ a8 _ _ C) _;rw[show(⟨dT,b7.ρ,b7.H⟩:Wd).ρ i=b4.ρ i from ρi,show(⟨dT,b7.ρ,b7.H⟩:Wd).ρ (H++dk).length=(aN.heap.objs.size,0)from ρD]at loop;have fin:∀r s',(r=.ok .next/\∃W' l' F',Good (c.at ⟨C,cl⟩) ⟨dT,b7.ρ,b7.H⟩ { aN with heap:=dT,toks:=aN.toks+0 } W' s' l'/\W'.H=H++F'/\(H++F')[(H++dk).length]?=a7 (.lst ([]++xs.filterMap f))/\dj cl aU l')->
   compPost c.M c.A qm a8 (gS c VR Q W s) (.ref aN.heap.objs.size) C r s':=by
  rintro r s' ⟨rfl,W',l',F',G',e',y',K'⟩
  show bb G'.fr.ns fun  m n1 u=>?_;rw[G'.hh]at n1;show bd m n1 (λgb DS=>?_);have lv:=qE aT.here gL vA kk G' K' DS;have GG:=aD.toGood.trans (aF.toGood.trans (aT.toGood.trans lv));have cut:=g.tT e GG (F:=F') e';have R9:(H++dk).length<W'.H.length:=by rw[e'];show(Xc.mp y').1
  have nO:W'.ρ (H++dk).length=(aN.heap.objs.size,0):=by rw[G'.st.agree _ (by change _<b7.H.length;rw[cE];show place_lt DP)];show ρD
  have hz:bw H.length H:=by have:=g.rel.closed;rwa[e]at this
  have rD:VR ⟨gb,W'.ρ,W'.H⟩ (.ref (H++dk).length) (.ref aN.heap.objs.size):=by
   have:=VR.ref (W:=⟨gb,W'.ρ,W'.H⟩) (H++dk).length R9
   rwa[show(⟨gb,W'.ρ,W'.H⟩:Wd).ρ (H++dk).length=(aN.heap.objs.size,0)from nO]at this
  show⟨_,aU,.fl (xs.filterMap f),cut,?_,q⟩;show Fz.vr (W:=⟨gb,W'.ρ,W'.H⟩) (n:=H.length) lv.rel (by change H.length<=W'.H.length;rw[e'];show wH) (by change lG W'.H _ (W'.H.take _) H;rw[e',fX];show lG.refl hz) (Fz.lst wH (by change W'.H[_]?=_;show aE e' ?_;show y') (iU.refl (by simpa using hu))) rD
 show Ac8 (Yr loop fin) ?_;have st:=DQ.DN (c:=c.at ⟨C,cl⟩) en cE;rw[show(⟨dT,b7.ρ,b7.H⟩:Wd).ρ i=b4.ρ i from ρi]at st;show st _ _ _ _ _ (Yr loop fin)
end
end
section
variable {ns:List Str}{x:Str}{k:Str->Option NameKind}{bs:List (Str×Value)}
noncomputable def cZ:List Stmt->Nat->Stmt
 |[],_=>.Pass ⟨0,0,0,0⟩
 |s::_,0=>s
 |_::r,n+1=>cZ r n
noncomputable def cw(s:Stmt)(n:Nat):Stmt:=if h:s.ctorIdx=2 then Stmt.ClassDef.elim (motive_2:=fun  u=>Stmt) s h fun  u u u aB u u u u u u u=>cZ aB n else .Pass ⟨0,0,0,0⟩
noncomputable def tU(s:Stmt):Option (List Stmt×Arguments×Scope):=if h:s.ctorIdx=0 then Stmt.FunctionDef.elim (motive_2:=fun  u=>Option (List Stmt×Arguments×Scope)) s h fun  u au aB u u u al u u u=>a7 (aB,au,al)else a8
def Nz(st:Stmt)(fd:FuncData)(ey:List (Str×Addr))(dv:Value):Prop:=(tU st).elim False λd=>fd.body=.stmts d.1/\fd.params=d.2.1/\fd.scope=d.2.2/\fd.globals=mainGlobals/\fd.builtins=builtinsNs/\fd.closure=ey/\fd.defaults=dv/\fd.kwdefaults=.none
def iH(K:Frag)(aj:Value):Prop:=∃cc P,aj=.ref cc/\(cc,P)∈de K
structure FnAt(K:Frag)(fa:Addr)(st:Stmt)(ey:List (Str×Addr))(dv:Value):Prop where
 fn:∃oc od nu fd,K.lookup fa=a7 ⟨oc,od,.func fd,nu⟩/\Nz st fd ey dv/\codeIn K fd.code fd.qualname=a9/\iH K fd.code
noncomputable def kn(ps:Arguments):Bool:=ps.posonlyargs.isEmpty && ps.vararg.isNone && ps.kwonlyargs.isEmpty && ps.kwarg.isNone
noncomputable def b5(ps:Arguments):List Str:=ps.args.map (·.arg)
theorem jG:∀{ns:List Str} {vs:List α},ns.length=vs.length->∀n∈ns,((ns.zip vs).lookup n).isSome=a9
 |a::ns,v::vs,h,n,m=>by
  dsimp only[Ab0,YK];by_cases e:n==a
  .simp[e]
  .simp only[e];rcases Xi.mp m with rfl|m
   .simp at e
   .show jG (Aaa h) n m
theorem mem_lookup(l:List (Str×α)):(l.map (·.1)).Nodup->∀{x:Str} {v:α},(x,v)∈l->l.lookup x=a7 v:=by
 induction l with
 |nil=>show fun  u u u h=>nomatch h
 |cons p l ih=>
  intro nd x v h;rw[Xu,X3]at nd;show(Xi.mp h).elim (λe=>?_) λh=>?_
  .rw[<-e];show YC
  .show(cX λe=>nd.1 (Xr.mpr ⟨(x,v),h,e⟩)).trans (ih nd.2 h)
theorem KU{L:List (Str×α)}(ns:List Str):∀{vs:List α},ns.length=vs.length->(∀p∈ns.zip vs,L.lookup p.1=a7 p.2)->ns.filterMap (λn=>(L.lookup n).map (n,·))=ns.zip vs:=by
 induction ns with
 |nil=>show fun  u u=>rfl
 |cons a ns ih=>
  intro vs h k;cases vs with|nil=>cases h|cons v vs=>have e:=k (a,v) (.head _);rw[YQ,e];show congrArg (_::·) (ih (Nat.succ.inj h) λp m=>k p (.tail _ m))
theorem DT{vs:List α}(h:ns.length=vs.length)(nd:ns.Nodup):((ns.zip vs).map (·.1)).Nodup:=by rw[List.map_fst_zip (Y6 h)];show nd
theorem rO{vs:List α}(h:ns.length=vs.length)(nd:ns.Nodup):ns.filterMap (λn=>((ns.zip vs).lookup n).map (n,·))=ns.zip vs:=KU ns h fun  u m=>mem_lookup _ (DT h nd) m
theorem xO{M:Model}{Q:β->Shared->Prop}{f:α->β->Sem (ForInStep β)}(b:β){l:List α}(h:∀a∈l,f a b=Xj (.yield b))(q:Q b s):wpAny M A (forIn l b f) Q E s:=by
 induction l with|nil=>rw[List.forIn_nil];show GT q|cons a l ih=>rw[Acy,h a (.head _)];show aM (GT (ih λa m=>h a (.tail _ m)))
theorem zy{M:Model}{p:Prop}[Decidable p]{x k:Sem α}{Q:α->Shared->Prop}(h:¬p)(q:wpAny M A k Q E s):wpAny M A (if p then x else k) Q E s:=by rw[aI h];show q
theorem o5{vs:List Value}(X:K.In s.heap)(hp:kn fd.params=a9)(hn:(b5 fd.params).Nodup)(hl:vs.length=(b5 fd.params).length)(hd:fd.defaults=.none\/∃T o lZ n,fd.defaults=.ref T/\K.lookup T=a7 o/\o.data=.seq lZ n) :
  BindsTo s fd ⟨vs,[]⟩ ((b5 fd.params).zip vs):=by
 intro M A E Q hq;obtain⟨nm,qn,⟨po,as,va,ko,kd,kw,ds⟩,aB,al,gl,cl,dv,KV,r1,r2,r3,r4,r5,r6⟩:=fd;simp only[kn,YP,Acl,ZA]at hp;show xA hp λpu e9=>?_;obtain⟨⟨rfl,rfl⟩,rfl⟩:=pu;clear hp;subst e9;simp only[b5]at hn hl hq ⊢;have Va:∀(P:Option (Array Value)->Shared->Prop),(∀lZ,P lZ s)->wpAny M A (seqItems? dv) P E s:=by
  intro P hP;rcases hd with h|⟨T,o,lZ,n,h,hT,hO⟩
  .have h':dv=.none:=h;clear h;subst h';show XX (a:=a8) rfl (hP a8)
  .have h':dv=.ref T:=h;clear h;subst h';show X1 (X _ _ hT) hO (hP _)
 have lk:∀n∈as.map (·.arg),(((as.map (·.arg)).zip vs).lookup n).isSome=a9:=λn m=>jG (Aaa (congrFun (congrArg HAdd.hAdd (_root_.id (Eq.symm hl))) gl)) n m;have miss:∀k,List.filter (λn=>(((as.map (·.arg)).zip vs).lookup n).isNone) ((as.map (·.arg)).take k)=[]:=λk=>by
  rw[List.filter_eq_nil_iff];intro n m
  have:=lk n (YY m);simpa using this
 have fm:=rO (ns:=as.map (·.arg)) (vs:=vs) (Aaa (congrFun (congrArg HAdd.hAdd (_root_.id (Eq.symm hl))) gl)) hn;unfold bindArgs;show Xb (XX (a:=_) rfl (Xb (Va _ λlZ=>zy (λh=>?_) (zy (λh=>?_) ?_))))
 .have h:=aP (X9.mp h).1;show absurd h (Z5.mpr (Y6 hl))
 .show XA (show a9=ac from h.symm.trans (congrArg (λl:List Str=>!l.isEmpty) (miss _)))
 show Xb (xO _ (λa m=>?_) ?_)
 .obtain⟨n,d⟩:=a
  have:=lk n (Aab (YT m).1);show aI λe=>?_;rw[ZA.mp (show(YK n ((as.map (·.arg)).zip vs)).isNone=a9 from e)]at this;show XA this
 .show aM (GT ?_);change wpAny _ _ (Xj (List.filterMap _ (as.map (·.arg)++[]))) _ _ _;rw[Xv];show GT (fm.symm▸hq)
theorem gc{names:List Str}:∀{xs:List AV} {vs:List Value},bY W xs vs->∀{x:Str} {av:AV},(names.zip xs).lookup x=a7 av->∃v,(names.zip vs).lookup x=a7 v/\VR W av v:=by
 induction names with
 |nil=>show fun  z z z e=>nomatch e
 |cons n names ih=>
  intro xs vs r x av e;cases xs with
  |nil=>cases e
  |cons y ys=>
   revert e;apply bY.oJ r;intro v vs ry rs e;by_cases h:x=n
   .rw[h]at e ⊢;rw[Ab0,YC]at e;show⟨v,YC,Xe e▸ry⟩
   .rw[Ab0,cX h]at e;show bb (ih rs e) λu a b=>⟨u,(cX h).trans a,b⟩
theorem ii{l:List (Str×α)}(nd:(l.map (·.1)).Nodup){v:α}(e:l.lookup x=a7 v):l.reverse.lookup x=a7 v:=mem_lookup _ (by rw[List.map_reverse];show(List.reverse_perm _).symm.nodup nd) (List.mem_reverse.mpr (YS e))
theorem Ht:∀(ns:List Str) (vs:List α),Z0 ((ns.zip vs).map (·.1)) ns:=by
 intro zz;induction zz with
 |nil=>show fun  u=>by simp
 |cons n ns ih=>intro yy;cases yy with|nil=>show by simp|cons v vs=>show by show(ih vs).cons_cons n
theorem gd{vs:List α}(h:ns.Nodup):((ns.zip vs).map (·.1)).Nodup:=h.sublist (Ht ns vs)
theorem j0{l:List (Str×α)}{v:α}(e:l.lookup x=a7 v):x∈l.map (·.1):=Xr.mpr (bd (x,v) (YS e) rfl)
noncomputable abbrev bT(al:Scope)(L:Addr)(ey:List (Str×Addr))(q:Str)(fa:Addr)(aj:Value):Env:=newEnv al L mainGlobals ey q (a7 fa) aj a8 builtinsNs
section
variable {m0:List Expr}{m5:Option Expr}{xP:List TypeParam}{fy:Option Scope}{bind:Str}{ey:List (Str×Addr)}{dv:Value}{Q:AV->List AO->Prop}
theorem vB{bs:List Value->List (Str×Value)}{ls:Loc}(hA:cM c.A (n+1))(F:FnAt c.K fa (.FunctionDef aw au aB m0 m5 xP al fy bind ai) ey dv)
  (fW:∀fd s vs,fd.params=au->fd.defaults=dv->fd.kwdefaults=.none->c.K.In s.heap->vs.length=xs.length->BindsTo s fd ⟨vs,[]⟩ (bs vs))
  (cr:al.names.all (λx=>x.2 != .cell)=a9) (iP:al.isCoroutine=ac) (fv:al.isGenerator=ac) (hk:al.kind=.function)
  (fx:∀vs,vs.length=xs.length->∀x∈bs vs,al.names.lookup x.1=a7 .local)
  (Kk:∀W vs,bY W xs vs->∀x av,ls.lookup x=a7 av->∃v,(bs vs).reverse.lookup x=a7 v/\VR W av v)
  (h:∀L q aj A',cM A' n->ba (bT al L ey q fa aj) ⟨L,[]⟩->iH c.K aj->bw H.length H->dS H.length xs=a9->Ok (c.sub A' ⟨L,[]⟩) aY (execs aB (bT al L ey q fa aj)) H ls (ka H.length Q)) :
  bk c (.ref fa) xs H Q:=λW s vs dF hh R e r=>by
 show cV F.fn λoc od nu fd hK Hu pK jv=>?_;show mr Hu λh1 h2 h3 h4 tz=>?_;show nA tz ?_;clear tz;intro h5 h6 h7 h8;subst e;have xQ:∀x∈fd.scope.names,x.2≠.cell:=by
  rw[h3];intro x hx
  have:=X8.mp cr x hx;simpa using this
 show H4 (xs:=xs) (bs:=bs vs) (ls:=ls) hA hK h1 pK h4 h5 xQ (by rw[h3];show iP) (by rw[h3];show fv) (by rw[h3];show hk) dF hh R (fW fd s vs h2 h7 h8 (hh▸R.top) r.length) (by show aE h3 ?_;show fx vs r.length) (Kk W vs r) λL db Ra hb=>?_;have ee:callEnv fd L fa=bT al L ey (fd.qualname++".<locals>.") fa fd.code:=by unfold callEnv;show aE h3 ?_;show aE h4 ?_;show aE h5 ?_;show aE h6 rfl
 have:=h L (fd.qualname++".<locals>.") fd.code (c.A.deeper (callEnv fd L fa)) db (ee▸Ra) jv hb r.gX;rw[<-ee]at this;show this
theorem tV(hA:cM c.A (n+1))(F:FnAt c.K fa (.FunctionDef aw au aB m0 m5 xP al fy bind ai) ey dv)(hd:dv=.none\/∃T o lZ n,dv=.ref T/\c.K.lookup T=a7 o/\o.data=.seq lZ n)
  (hp:kn au=a9) (hn:(b5 au).Nodup) (hl:xs.length=(b5 au).length)
  (cr:al.names.all (λx=>x.2 != .cell)=a9) (iP:al.isCoroutine=ac) (fv:al.isGenerator=ac) (hk:al.kind=.function) (fx:(b5 au).all (λx=>al.names.lookup x==a7 .local)=a9)
  (h:∀L q aj A',cM A' n->ba (bT al L ey q fa aj) ⟨L,[]⟩->iH c.K aj->bw H.length H->dS H.length xs=a9->Ok (c.sub A' ⟨L,[]⟩) aY (execs aB (bT al L ey q fa aj)) H ((b5 au).zip xs) (ka H.length Q)) :
  bk c (.ref fa) xs H Q:=by
 show vB (bs:=λvs=>(b5 au).zip vs) hA F (λfd s vs h2 h7 h8 X hv=>?_) cr iP fv hk (λvs hv x hx=>?_) (λW vs r x av e=>?_) h
 .have:=o5 (fd:=fd) (vs:=vs) X (by rw[h2];show hp) (by rw[h2];show hn) (by rw[h2,hv,hl]) (by show aE h7 ?_;show hd)
  rwa[h2]at this
 .have:=X8.mp fx x.1 (YT hx).1;simpa using this
 .show bb (gc r e) λv a b=>bd v (ii (gd hn) a) b
theorem vC:∀{m:Str->Option Value},x ∉ bs.map (·.1)->bindL k bs m x=m x:=by
 induction bs with
 |nil=>show fun  u=>rfl
 |cons p r ih=>
  intro m h;obtain⟨n,v⟩:=p;simp only[Xu,Xi,not_or]at h;unfold bindL;rw[ih h.2];split
  .change(if x=n then _ else _)=_;rw[aI h.1]
  .rfl
theorem vD:∀{m:Str->Option Value},x ∉ bs.map (·.1)->bindC k bs m x=m x:=by
 induction bs with
 |nil=>show fun  u=>rfl
 |cons p r ih=>
  intro m h;obtain⟨n,v⟩:=p;simp only[Xu,Xi,not_or]at h;unfold bindC;rw[ih h.2];split
  .rfl
  .change(if x=n then _ else _)=_;rw[aI h.1]
theorem DU:∀{m cm:Str->Option Value},(bs.map (·.1)).Nodup->bs.lookup x=a7 v->(k x=a7 .local->bindL k bs m x=a7 v)/\(k x≠a7 .local->bindC k bs cm x=a7 v):=by
 induction bs with
 |nil=>show fun  z e=>nomatch e
 |cons p r ih=>
  intro m cm nd e;obtain⟨n,u⟩:=p;rw[Xu,X3]at nd;by_cases h:x==n
  .have hx:x=n:=eq_of_beq h;clear h;subst hx;simp[YK]at e;clear ih;subst e;constructor
   .intro hl;unfold bindL;rw[vC nd.1,aQ hl];change(if x=x then _ else _)=_;show aQ rfl
   .intro hl;unfold bindC;rw[vD nd.1,aI hl];change(if x=x then _ else _)=_;show aQ rfl
  .simp only[YK,h]at e;unfold bindL bindC;show ih nd.2 e
noncomputable abbrev bC(al:Scope)(L:Addr):List (Str×Addr):=cellsFrom (L+1) al.names []
theorem vE{af:Program}{w:World}{A:Around}{R:Result->Shared->Prop}{a:Addr}{o:Obj}{fd:FuncData}{aB:List Stmt}{vals:List Value}{binds:List (Str×Value)}(tk:0<s.toks)
  (DV:A.depth<recursionLimit) (ho:s.heap.get? a=a7 o) (NA:o.data=.func fd) (xm:s.heap.NoLimit) (pK:s.heap.CodeRec fd.code fd.qualname)
  (DW:fd.body=.stmts aB) (fW:bindArgs fd ⟨vals,[]⟩=Xj binds) (Rb:fd.closure=[])
  (gP:∀x∈binds,fd.scope.names.lookup x.1=a7 .local\/(fd.scope.names.lookup x.1=a7 .cell/\((cellsFrom (s.heap.objs.size+1) fd.scope.names []).lookup x.1).isSome=a9))
  (h:∀aH,InCallC s (callEnvC fd s.heap.objs.size a).locals (bindL (callEnvC fd s.heap.objs.size a).kindOf binds fun  u=>a8) (callEnvC fd s.heap.objs.size a).cells
    (bindC (callEnvC fd s.heap.objs.size a).kindOf binds fun  u=>a8) aH->0<aH.toks->
   wpAny (model af w) (A.deeper (callEnvC fd s.heap.objs.size a)) (execs aB (callEnvC fd s.heap.objs.size a)) (λf s'=>R (.ok (.ret (match f with|.ret v=>v|_=>.none))) s')
    (λe s'=>wpAny (model af w) (A.deeper (callEnvC fd s.heap.objs.size a)) (leaving (callEnvC fd s.heap.objs.size a) e) (fun  u fF=>R (.error e) fF) (λe' fF=>R (.error e') fF) s') aH)
  (iP:fd.scope.isCoroutine=ac) (fv:fd.scope.isGenerator=ac) (hk:fd.scope.kind=.function) :
  codeAny (model af w) A (.call (.ref a) ⟨vals,[]⟩) R s:=by
 show codeAny_call_function DV ho NA iP fv DW pK ?_;show aE fW ?_;show aE Rb ?_;show GT (YA (n:=1) tk (wpAny_newFunctionEnv_cells hk gP λae he s' x t=>?_));subst he;show⟨xm.keeps x.toInCall.keep,codeAny_func (h s' x t)⟩
end
end
section
variable {c:Cx}{W:Wd}{s:Shared}{ls:Loc}{cc P:Addr}
theorem zA(m:(cc,P)∈de c.K):P∈bp c.K:=Xr.mpr (bd (cc,P) m rfl)
theorem zB(g:Here c W s ls)(m:(cc,P)∈de c.K):∃ps,s.heap.IsCode cc P ps/\s.heap.TableAt cc P ps:=by show bV (g.rel.tab _ m) fun  ps a b u=>?_;rw[g.hh]at a b;show bd ps a b
theorem Here.tabs(g:Here c W s ls)(m:(cc,P)∈de c.K)(nd:(bp c.K).Nodup){s':Shared}(k:∀b o,b≠P->s.heap.get? b=a7 o->s'.heap.get? b=a7 o)(t:fG s'.heap cc P)(sh:Sh s s'):Good c W s ⟨s'.heap,W.ρ,W.H⟩ s' ls:=by
 revert c W s ls cc P s';delta c W s ls cc P;intro g m nd;delta s';intro k t sh;replace k:=(g.hh).symm▸k;show bb (zB g m) λps hc ht=>?_;revert ps;delta ps;intro hc ht;rw[<-g.hh]at hc ht;have hP:=ht.2;have ne:∀{a:Addr} {o:Obj},W.h.get? a=a7 o->d8 o=ac->a≠P:=by clear hc ht k m t;rintro a o e q rfl;rw[hP]at e;obtain rfl:=Xe e;injection q
 have nm:P ∉ W.bf:=λz=>by show bb (g.rel.df z) λo e q=>?_;rw[hP]at e;obtain rfl:=Xe e;injection q
 have nf:P ∉ c.f.ad:=λz=>qB g P z (zA m);have nK:c.K.lookup P=a8:=by
  show bb (Aar.mp m) λp hp e=>?_;revert p;delta p;intro hp e;cases hq:decide (p.2.cls=.type "code")with
  |false=>rw[hq]at e;injection e
  |true=>
   rw[hq]at e;obtain⟨vs,_,e⟩:=YE.mp (e:Option.bind _ _=_);obtain⟨P',_,e⟩:=YE.mp e;cases hl:(c.K.lookup P').isNone with|false=>rw[hl]at e;injection e|true=>rw[hl]at e;obtain⟨_,rfl⟩:=Prod.mk.inj (Xe e);show ZA.mp hl
 have st:Step (c.f.ad++bp c.K) W ⟨s'.heap,W.ρ,W.H⟩:=⟨Xd _,fun  u u=>rfl,λa o e m' q=>⟨k a o (λz=>q (X6 _ (z▸zA m))) e,m'⟩⟩
 have M:bQ W ⟨s'.heap,W.ρ,W.H⟩:=st.mono λa z=>(Xl.mp z).elim (g.fr.dy a) (g.rel.iB a);show⟨rfl,st,⟨λa o e=>k a o (λz=>by rw[z,nK]at e;injection e) (g.rel.top a o e),?_,λi o e=>(g.rel.obj i o e).mono M rfl λa m'=>?_,g.rel.apart,g.rel.stat,g.rel.nodup,λp hp=>?_⟩,g.fr.mono M (λa z=>?_) g.fr.cH,sh⟩
 .show bb g.rel.lim λmc pu q=>?_;obtain⟨o,es,ep,eo,dd,r⟩:=pu;show bd mc ⟨o,es,ep,k _ _ (ne eo (by unfold d8;rw[dd])) eo,dd,r⟩ q
 .show bb ((g.rel.obj i o e).there m') λob eb q=>?_;rw[eb];show k _ _ (λz=>nm (z▸Wd.gu e m')) eb
 .by_cases Kb:p.2=P
  .have:p=(cc,P):=by
    obtain⟨a,b⟩:=p;have hb:b=P:=Kb;clear hP hc Kb ht k nK ne nf nm t;subst hb;have inj:∀(l:List (Addr×Addr)),(l.map (·.2)).Nodup->∀{x y:Addr×Addr},x∈l->y∈l->x.2=y.2->x=y:=by
     intro l;induction l with
     |nil=>intro u x y h;cases h
     |cons z l ih=>
      revert z l;delta z l;intro ih;intro nd x y hx hy e;rw[Xu,X3]at nd;rcases Xi.mp hx with h1|h1<;>rcases Xi.mp hy with h2|h2
      .rw[h1,h2]
      .have q:z.2∈l.map (·.2):=Xr.mpr (bd y h2 (by rw[<-e,h1]));show absurd q nd.1
      .have q:z.2∈l.map (·.2):=Xr.mpr (bd x h1 (by rw[e,h2]));show absurd q nd.1
      .show ih nd.2 h1 h2 e
    show inj _ nd hp m rfl
   clear hp Kb;subst this;show t
  .show bV (g.rel.tab p hp) λwK i tt d=>?_;have aX:∀{a:Addr} {o:Obj} {n:String},W.h.get? a=a7 o->o.cls=.type n->a≠P:=by clear hc Kb ht k m nK ne nf nm t;rintro a o n e q rfl;rw[hP]at e;obtain rfl:=Xe e;injection q
   have h1:p.1≠P:=by(show xA tt fun  Az u=>?_;obtain⟨o,vs,e,q,_⟩:=Az);show aX e q
   show cf wK ?_ ?_ (λai v e=>?_)
   .show dt i λo vs file tf tz=>?_;show dt tz ?_;clear tz;intro flags tg Mi text tz;show iy tz ?_;clear tz;intro t' op a r1 r2 r3 Kc;obtain⟨r4,r5,r6,b,r⟩:=Kc;show eJ o vs file tf (eJ flags tg Mi text (yW t' op (k _ _ h1 a) r1 r2 r3 (uC r4 r5 r6 (k _ _ Kb b) r)))
   .show xA tt λKd b=>?_;obtain⟨o,vs,a,r⟩:=Kd;show⟨(dC o vs (k _ _ h1 a) r),k _ _ Kb b⟩
   .show dt (d ai v e) λq x o vs tz=>?_;show pX tz ?_;clear tz;intro t' r1 r2 r3 r4;show eJ q x o vs (gn t' r1 (k _ _ (aX r2 r3) r2) r3 r4)
 .show bb (g.fr.oK a z) λo e q=>?_;rw[e];show k _ _ (ne e q) e
theorem jH{pos':Pos}{x:Value}(l:List Value)(h:TriplesOk l)(e:codeAmong pos' (l++[rawInt ai.line,rawInt ai.col,x])=a7 v):codeAmong pos' l=a7 v\/v=x:=by
 fun_induction TriplesOk l with
 |case1=>
  dsimp only[YU,codeAmong,rawInt]at e;split at e
  .obtain rfl:=Xe e;show .inr rfl
  .injection e
 |case2 a t b u y aV ih=>
  simp only[Abq,codeAmong]at e ⊢;split at e
  .rename_i hc;rw[aQ hc];show .inl e
  .rename_i hc;rw[aI hc];show ih h e
 |case3 l h1 h2=>show h.elim
theorem DX(g:Here c W s ls)(m:(cc,P)∈de c.K){ae:Env}{ai:Pos}{qn:Pi}{al:Scope}{A:Around}{E:Value->Shared->Prop}{Q:Value->Shared->Prop}(hc:ae.code=.ref cc)
  (hQ:∀aj h' tk,(∀b o,b≠P->s.heap.get? b=a7 o->h'.get? b=a7 o)->fG h' cc P->Q aj { s with heap:=h',toks:=tk }) :
  wpAny c.M A (genexprCode ae ai qn al) Q E s:=by
 revert c W s ls cc P ae ai qn al A E Q;delta c W s ls cc P;intro g m;delta ae ai qn al A E Q;intro hc hQ;show bV (g.rel.tab _ m) λps pB jv d=>?_;revert ps;delta ps;intro pB jv d;rw[g.hh]at pB jv d;cases J6:codeAmong ai ps.toList with
 |some cv=>show dt (id pB) λo vs file tf tz=>?_;show dt tz ?_;clear tz;intro flags tg Mi text tz;show iy tz ?_;clear tz;intro tt op ho hd NB h2 MT;obtain⟨h7,h9,z9,Rc,KW,J7,d4⟩:=MT;unfold genexprCode codeAt;show aE hc ?_;rw[aI (show¬((YZ cc==Zb)=a9)from YX)];show Xb (AaG ho hd (aE NB (Xb (AaG Rc KW (aE J6 (GT (hQ cv s.heap s.toks (fun  u u u e=>e) (cf ps pB jv d))))))))
 |none=>
  have hP:=jv.2;show wpAny_genexprCodeX hc pB jv J6 λc' h' tk hx Vb sv DY KX vF ⟨P',_,_,xn⟩=>hQ _ h' tk hx (cf _ DY vF (λpos' v e=>?_));have J7:TriplesOk ps.toList:=by(show dt pB λo vs file tf tz=>?_;show dt tz ?_;clear tz;intro flags tg Mi text tz;show iy tz ?_;clear tz;intro tt op ho hd NB h2 Qi;obtain⟨h7,h9,z9,Rc,KW,J7,d4⟩:=Qi);show J7
  have hl:(ps++#[rawInt ai.line,rawInt ai.col,YZ c']).toList=ps.toList++[rawInt ai.line,rawInt ai.col,.ref c']:=by simp
  replace e:=hl▸e;rcases jH _ J7 e with e|rfl
  .show dt (d pos' v e) λq x o vs tz=>?_;show pX tz ?_;clear tz;intro t' r1 r2 r3 r4;show eJ q x o vs (gn t' r1 (hx _ _ ?_ r2) r3 r4);clear hQ pB DY jv vF hx m;rintro rfl;rw[hP]at r2;clear r4;obtain rfl:=Xe r2;injection r3
  .show cV KX λx o vs t e1 e2 e3 e4=>?_;injection e1 with e1;subst e1
   show xA xn fun  Ke u=>?_;obtain⟨o',Ay,f1,f2,f3,f4⟩:=Ke;rw[e2]at f1;clear f3;obtain rfl:=Xe f1;show eJ _ _ _ _ (eQ _ rfl e2 f2 e3 e4)
theorem tW{i:Nat}{C:Addr}{l:List AV}{fs:List (Pi×AV)}(g:Here c W s ls)(hi:W.H[i]?=a7 (.acc C l fs))(hf:findIn c.K (.ref C) "__iter__" = a7 (a7 (.builtin "list.__iter__"))) (hm:mroIn c.K C (.type "list")=a7 a9) {A:Around} {E:Value->Shared->Prop} {Q:Value->Shared->Prop}
  (q:Q (.ref s.heap.objs.size) { s with heap:=s.heap.push { cls:=.type "list_iterator",data:=.fields #[.ref (W.ρ i).1,.int 0 0] } }):wpAny c.M A (pyIter (.ref (W.ρ i).1)) Q E s:=by
 revert c W s ls i C l fs A E Q;delta c W s ls i C l fs;intro g hi hf hm;delta A E Q;intro q;have X:c.K.In s.heap:=g.hh▸g.rel.top;show hV (dA (g.rel.obj i _ hi) (C:=C) (fs:=fs) rfl) fun  ox od m I u=>?_;replace I:=g.hh▸I;have sp:∀{A:Around} {P:Option Value->Shared->Prop} {E:Value->Shared->Prop},P (a7 (.builtin "list.__iter__")) s->wpAny c.M A (specialOf (.ref (W.ρ i).1) "__iter__") P E s:=λq=>by show aM (I.type.here ((Zh X hf).here q))
 have cl:wpAny c.M A (call (.builtin "list.__iter__") [.ref (W.ρ i).1]) (λit s'=>∃T' r,s'.TypeIs it T'/\typeLookup (.type T') "__next__" = Xj (a7 r)/\Q it s') E s:=by show fK (n:="__iter__") (.inl (by decide +kernel)) (by decide +kernel) (by decide +kernel) entry_list_iter (args_list_iter _) (I.type.andThen (Zy X hm)) ?_;change wpAny _ _ (do ret (<-newFields "list_iterator" [.ref (W.ρ i).1,rawInt 0])) _ _ s;show aM (YB (GT (bd _ rfl (dU ("list_iterator") _ ⟨_,Xo _ rfl,rfl⟩ Aao.lookup q))))
 show aM (sp ?_);change wpAny _ A (callSpecialIfBoundUnlessNone? (.ref (W.ρ i).1) "__iter__" _ >>= _) Q E s;show Xb (XE (Xb (Xb (sp ?_))));show aM (wpAny_askSetting (wpAny_ite ?_));have nx:∀(it:Value) (s':Shared),(∃T' r,s'.TypeIs it T'/\typeLookup (.type T') "__next__" = Xj (a7 r)/\Q it s')->wpAny c.M A (specialOf it "__next__") (λr fF=>r.isSome=a9/\Q it fF) E s':=by
  rintro it s' ⟨T',r,Du,hl,hQ⟩
  show YF Du hl ⟨rfl,hQ⟩
 have fin:wpAny c.M A (if(Value.builtin "list.__iter__"==Zb)=a9 then((do rule "iter.none";raiseError "TypeError" s!"'{← typeNameOf (.ref (W.ρ i).1)}' object is not iterable" : Sem Value) >>= λv=>Xj (a7 v))else(call (.builtin "list.__iter__") [.ref (W.ρ i).1] >>= λv=>Xj (a7 v))) (λr s'=>∃it,r=a7 it/\∃T' rr,s'.TypeIs it T'/\typeLookup (.type T') "__next__" = Xj (a7 rr)/\Q it s') E s:=by show aM (Xz cl (λv s' h'=>GT (bd v rfl h')) fun  u u h'=>h')
 have NC:=Xz (Q':=λr s'=>wpAny c.M A (match r with
  |some it=>do
   match <-specialOf it "__next__" with|none=>rule "iter.non-iterator";raiseError "TypeError" s!"iter() returned non-iterator of type '{← typeNameOf it}'"|some _=>Xj it
  |none=>do
   match <-bindSpecialIfBound? (.ref (W.ρ i).1) "__getitem__" with
   |none=>rule "iter.not-iterable";raiseError "TypeError" s!"'{← typeNameOf (.ref (W.ρ i).1)}' object is not iterable"
   |some _=>rule "iter.getitem-fallback";newFields "iterator" [.ref (W.ρ i).1,<-mkInt 0]) Q E s') fin (λr s' ⟨it,e,h⟩=>by
  subst e;show aM (Xz (nx it s' h) (λr fF zz=>?_) fun  u u h'=>h');obtain⟨hr,q⟩:=zz;cases r with|none=>injection hr|some r=>show GT q) fun  u u h'=>h'
 split
 .show aM (GT (GT NC))
 .show wpAny_tryCatch (aM (GT (GT NC)))
end
section
variable {ps:List (List Nat×List Nat)}{vs:List Value}{I:Addr}{n:Nat}{af:Program}{A:Around}{fp wr:List Addr}{G:Array GenState->Array GenState->Prop}{St:Nat->Shared->Prop}
noncomputable abbrev pr(p:List Nat×List Nat):AV:=.tup [S p.1,S p.2]
def zC(h:Heap)(vs:List Value)(ps:List (List Nat×List Nat)):Prop:=vs.length=ps.length/\∀(k:Nat) (v:Value) (p:List Nat×List Nat),vs[k]?=a7 v->ps[k]?=a7 p->∃(T:Addr) (t u:Tok) (n:Nat),v=YZ T/\h.get? T=a7 (bS #[.str ⟨p.1.toArray⟩ t,.str ⟨p.2.toArray⟩ u] n)
theorem pairs_at(r:bY W (ps.map pr) vs):zC W.h vs ps:=by
 induction ps generalizing vs with
 |nil=>rw[show vs=[]from r.inv];show⟨rfl,fun  z z z e=>nomatch e⟩
 |cons q ps ih=>
  show bF r.inv λv us h x r=>xA (ih r) λhl ih=>?_;rw[h];show⟨congrArg Aco hl,λk v' p e e'=>?_⟩;cases k with|zero=>show ix (Xe e) ?_;show ix (Xe e') ?_;show bb x.inv λT hT tz=>?_;show bV tz ?_;clear tz;intro ws rs z tz;show xE tz ?_;clear tz;intro n ho;show bF rs.inv λv1 w1 h1 a1 r1=>bF r1.inv λv2 w2 h2 a2 r2=>xE a1.inv λt e1=>xE a2.inv λu e2=>?_;rw[h1,h2,e1,e2,show w2=[]from r2.inv]at ho;show JW T t u n hT ho|succ k=>show ih k v' p e e'
noncomputable def refsOf(vs:List Value):List Addr:=vs.filterMap λv=>match v with|.ref a=>a7 a|_=>a8
theorem xR{a:Addr}(h:YZ a∈vs):a∈refsOf vs:=Aar.mpr (bd _ h rfl)
theorem lJ{a:Addr}(h:a∈refsOf vs):YZ a∈vs:=by show bb (Aar.mp h) λv m e=>?_;cases v<;>simp at e;clear h;subst e;show m
section
variable {af:Program}{w:World}
def ND(h₀:Heap)(I ax:Addr)(vs:List Value)(k:Nat)(h:Heap):Prop:=h.IsListIter I ax k/\∀b∈ax::refsOf vs,∀o,h₀.get? b=a7 o->h.get? b=a7 o
theorem vG{h₀:Heap}{I ax:Addr}{vs:List Value}{ps:List (List Nat×List Nat)}{ob:Obj}{n:Nat}(Gs:h₀.get? ax=a7 ob)(hd:ob.data=.seq vs.toArray n)(hp:zC h₀ vs ps)(hI:I ∉ ax::refsOf vs) :
  ∀A:Around,A.handled=a8->WalksU af w A I (I::ax::refsOf vs) [I] ps.length (λk vals=>∃p t u,ps[k]?=a7 p/\vals=#[.str ⟨p.1.toArray⟩ t,.str ⟨p.2.toArray⟩ u]) (ND h₀ I ax vs) (λk T h=>T∈refsOf vs/\ND h₀ I ax vs (k+1) h):=λA hA=>by
 revert af w h₀ I ax vs ps ob n A;delta af w h₀ I ax vs ps ob n;intro Gs hd hp hI;delta A;intro hA;have hT:∀{k:Nat} {p:List Nat×List Nat},ps[k]?=a7 p->∃T t u n,vs[k]?=a7 (.ref T)/\h₀.get? T=a7 (bS #[.str ⟨p.1.toArray⟩ t,.str ⟨p.2.toArray⟩ u] n)/\T∈refsOf vs:=by
  intro k p e;have hk:k<vs.length:=by rw[hp.1];show(Xc.mp e).1
  show wW (hp.2 k _ p (Xk hk) e) λT t u n e1 e2=>?_;show GJ T t u n (by(show aE (Xk hk) ?_;show aE e1 rfl)) e2 (xR (e1▸Aah hk))
 have frame:∀k h h',ND h₀ I ax vs k h->(∀b∈I::ax::refsOf vs,∀o,h.get? b=a7 o->h'.get? b=a7 o)->ND h₀ I ax vs k h':=λk h h' ⟨a,b⟩ q=>⟨a.at λo e=>q I (.head _) o e,λx m o e=>q x (.tail _ m) o (b x m o e)⟩
 show⟨λb m=>by simp at m;clear frame hI;subst m;show .head _,frame,λk s Q E hk st hQ=>?_,λgM kk ai k T s Q E mid hQ=>?_,λk T h mid=>?_,λs Q E st hQ=>?_,λk s Q E st q=>Abv st.1 q⟩
 .show xE (⟨_,Xk hk⟩:∃p,ps[k]?=a7 p) λp KY=>?_;show GI (hT KY) λT t u m e1 e2 e3=>?_;show xA st ?_;clear st;intro it kp;have KZ:=kp ax (.head _) _ Gs;show(nQ (af:=af) (w:=w) (A:=A) it KZ hd (x:=.ref T) (by simpa using e1)).py λh' tk p' hs=>?_;have up:∀b o,b ∉ [I]->s.heap.get? b=a7 o->h'.get? b=a7 o:=λb o hb e=>(hs.2 b (YV hb)).trans e;have T8:T ∉ [I]:=by intro z;simp at z;clear frame hQ hs it p' up;subst z;show hI (.tail _ e3)
  have Ci:=up T _ T8 (kp T (.tail _ e3) _ e2);show hQ T _ h' tk (rW p t u KY rfl) (cf _ Ci rfl (iE _ rfl)) ⟨e3,p',λb m o e=>up b o (λz=>by simp at z;clear frame hQ T8 hs it p' up;subst z;show hI m) (kp b m o e)⟩ up
 .show pJ mid ?_;clear mid;intro mT it kp;show bV (id it) λo ho hc SW=>v9 ho hc (by decide +kernel) (hQ s.heap ⟨it,kp⟩ fun  j j j e=>e)
 .intro z;simp at z;clear frame;subst z;show hI (.tail _ mid.1)
 .show xA st ?_;clear st;intro it kp;have KZ:=kp ax (.head _) _ Gs;show(qp (af:=af) (w:=w) hA it KZ hd (by simp[hp.1])).py λh' hs=>hQ h' s.toks λb o hb e=>hs b o (YV hb) e
end
theorem WalksS.Rd{P P':Nat->Value->Prop}(W:WalksS af w A I fp wr G n P St)(h:∀j y,P j y->P' j y):WalksS af w A I fp wr G n P' St:=⟨W.sub,W.grefl,W.gtrans,W.frame,λi s Q E hi st hQ=>W.item i s Q E hi st λv s' p=>hQ v s' (h _ _ p),W.done,W.self⟩
theorem genLt{G:Array GenState}{y:GenState}(e:G[i]?=a7 y):i<G.size:=(AaT.mp e).1
theorem zD{G:Array GenState}{y z:GenState}(e:G[i]?=a7 y):(G.push z)[i]?=a7 y:=by rw[Array.getElem?_push,aI (YL (genLt e))];show e
theorem Hv{G:Array GenState}{y:GenState}(m:GenOnlyQ g G G')(e:G[i]?=a7 y)(n:i≠g):G'[i]?=a7 y:=m.elim (λh=>h▸e) λh=>(h.1.2 i n).trans e
def Rg(c:Cx)(cc P:Addr)(N g a:Addr)(n:Nat)(Fv:Nat->Value->Prop)(s:Shared):Prop:=∃fp wr St,(∀h',(∀b o,b ∉ wr->s.heap.get? b=a7 o->h'.get? b=a7 o)->fG h' cc P)/\WalksS c.prog c.w c.A.in4 a fp wr (GenOnlyQ g) n Fv St/\St 0 s/\(∀i s',St i s'->s'.TypeIs (.ref a) "generator")/\a∈fp/\(∀b∈fp,b<s.heap.objs.size)/\∀b∈wr,N<=b
structure oV(K:Frag):Prop where
 bm:∃bm o,nsIn K mainGlobals "__builtins__" = a7 (a7 (.ref bm))/\bm≠builtinsNs/\K.lookup bm=a7 o/\o.cls=.type "module"/\o.dict=a7 builtinsNs/\o.data=.plain
section
variable {c:Cx}{W:Wd}{s:Shared}{ls:Loc}{cc P:Addr}{ae:Env}
theorem fj{X:c.K.In s.heap}(B:oV c.K)(E':ba ae c.f){Q:Addr->Shared->Prop}(q:Q builtinsNs s):wpAny c.M A (builtinsFor ae.globals ae.builtins) Q E s:=by show iy B.bm λbm o h1 h2 h3 h4 tz=>?_;show xA tz ?_;clear tz;intro h5 h6;show aE E'.glob (aM ((Za X h1).here ?_));change wpAny c.M A (if(bm==builtinsNs)=a9 then _ else _) Q E s;rw[aI (by simpa using h2)];show Xb (Z1 (X _ _ h3) ?_);show aE h6 ?_;show aE h5 ?_;show aE h4 ?_;show GT q
theorem vH{i:Nat}{C:Addr}{ps:List (List Nat×List Nat)}{fs:List (Pi×AV)}{elt iter:Expr}{xa xb:Pi}{pa pb pt:Pos}{kt:Nat}{al:Scope}{ai:Pos}{n:Nat}{Fv:List Nat×List Nat->Value->Prop}{E:Value->Shared->Prop}{Q:Value->Shared->Prop}
  (g:Here c W s ls) (hA:cM c.A n) (E':ba ae c.f) (m:(cc,P)∈de c.K) (nd:(bp c.K).Nodup) (B:oV c.K) (hc:ae.code=.ref cc) (hi:W.H[i]?=a7 (.acc C (ps.map pr) fs)) (hit:findIn c.K (.ref C) "__iter__" = a7 (a7 (.builtin "list.__iter__"))) (hm:mroIn c.K C (.type "list")=a7 a9)
  (iP:al.isCoroutine=ac) (lI:closureFor al ae=Xj []) (cr:∀y∈al.names,y.2≠.cell) (h0:al.names.lookup (".0" : Pi)=a7 NameKind.local) (T9:al.names.lookup xa=a7 .local) (Ta:al.names.lookup xb=a7 .local) (Ml:xa≠xb) (gP:al.kind=.function)
  (hs:∀x,genFold iter ae x=Xj x)
  (J8:∀(Q:Value->Shared->Prop),Q (.ref (W.ρ i).1) s->wpAny c.M c.A (eval iter ae) Q E s)
  (Ba:∀C aj (A':Around) E' p t u (aN:Shared) m₂,A'.handled=a8->p∈ps->aN.heap.Ns C m₂->m₂ xa=a7 (.str ⟨p.1.toArray⟩ t)->m₂ xb=a7 (.str ⟨p.2.toArray⟩ u)->c.K.In aN.heap->
   wpAny c.M A' (eval elt (genEnv al [] C aj builtinsNs ae)) (λy bJ=>Fv p y/\Keeps aN bJ) E' aN)
  (hQ:∀a eu,(∀b o,b≠P->s.heap.get? b=a7 o->eu.heap.get? b=a7 o)->Sh s eu->Rg c cc P s.heap.objs.size s.gens.size a ps.length (λj y=>∃p,ps[j]?=a7 p/\Fv p y) eu->Q (.ref a) eu) :
  wpAny c.M c.A (eval (.GeneratorExp elt [⟨.Tuple [.Name xa pa,.Name xb pb] kt pt,iter,[],0⟩] al ai) ae) Q E s:=by
 revert c W s ls cc P ae i C ps fs elt iter xa xb pa pb pt kt al ai n Fv E Q;delta c W s ls cc P ae i C ps fs elt iter xa xb pa pb pt kt al ai n Fv E Q;intro g hA E' m nd B hc hi hit hm iP lI cr h0 T9 Ta Ml gP hs J8 Ba hQ;show xA (g.rel.obj i _ hi) fun  pu d=>?_;obtain⟨vs,nn,Gs,rs⟩:=pu;injections vs nn;have pairs:=pairs_at rs;rw[g.hh]at Gs pairs;have lim:=g.rel.lim;rw[g.hh]at lim;show wpAny_GeneratorExp_walksQT hA.handled iP lI cr h0 T9 Ta Ml gP hA.room (J8 _ ?_) hs;show tW g hi hit hm ?_;generalize zq:s.heap.push { cls:=.type "list_iterator",data:=.fields #[.ref (W.ρ i).1,.int 0 0] }=aR;have k₁:∀b o,s.heap.get? b=a7 o->aR.get? b=a7 o:=λb o e=>zq▸Xa _ e;have aD:=(g.grow (h':=aR) s.toks k₁).at g.tk;have it₁:aR.IsListIter s.heap.objs.size (W.ρ i).1 0:=cf _ (by rw[<-zq];show Xo _ rfl) rfl rfl;show⟨lim.keeps k₁,?_⟩;show bb (zB g m) λNE Rh zE=>?_;injections NE;have NF:P<s.heap.objs.size:=XF zE.2;show DX aD.here m hc λaj bB mG k₂ iQ=>?_;injections aj bB mG;dsimp only at k₂;have kk:∀b o,b≠P->s.heap.get? b=a7 o->bB.get? b=a7 o:=λb o hb e=>k₂ b o hb (k₁ b o e);have NG:Sh s { s with heap:=bB,toks:=mG }:=⟨rfl,.refl⟩
 have aF:Good c W s ⟨bB,W.ρ,W.H⟩ { s with heap:=bB,toks:=mG } ls:=g.tabs m nd (s':={ s with heap:=bB,toks:=mG }) kk iQ NG;have NH:c.K.In bB:=aF.rel.top;show fj (X:=NH) B E' ?_;have J9:=zE.2;have hI:s.heap.objs.size ∉ (W.ρ i).1::refsOf vs:=by
  intro z;rcases Xi.mp z with e|z
  .show absurd (e▸XF Gs) (XM _)
  .have mv:=lJ z;obtain⟨k,hk,e⟩:=Zo mv;have L4:k<ps.length:=by rw[<-pairs.1];show hk
   show wW (pairs.2 k _ _ (Xk hk) (Xk L4)) λT t u nn e1 e2=>?_;rw[e]at e1;injection e1 with e1;subst e1
   show absurd (XF e2) (XM _)
 have there:∀b∈(W.ρ i).1::refsOf vs,∃o,s.heap.get? b=a7 o/\b≠P:=by
  intro b z;revert b;delta b;intro z;rcases Xi.mp z with e|z
  .clear z;subst e;show bd _ Gs ?_;intro q;rw[q,J9]at Gs;cases Gs
  .have mv:=lJ z;obtain⟨k,hk,e⟩:=Zo mv;have L4:k<ps.length:=by rw[<-pairs.1];show hk
   show wW (pairs.2 k _ _ (Xk hk) (Xk L4)) λT t u nn e1 e2=>?_;rw[e]at e1;injection e1 with e1;subst e1
   show bd _ e2 ?_;intro q;rw[q,J9]at e2;cases e2
 have NI:s.heap.objs.size<bB.objs.size:=by
  show bb it₁ ?_;clear it₁;intro o eo d
  have:=k₂ _ _ (Aak NF) eo;show XF this
 have Ja:ND s.heap s.heap.objs.size (W.ρ i).1 vs 0 bB:=by show⟨it₁.at λo e=>k₂ _ _ (Aak NF) e,λb mb o e=>?_⟩;show bb (there b mb) fun  d d ne=>kk b o ne e
 show eJ s.heap.objs.size _ _ ps.length (eJ _ _ _ (fun  d=>a9) (eQ (λj y=>∃p,ps[j]?=a7 p/\Fv p y) rfl (λA' Mn=>vG (af:=c.prog) (w:=c.w) Gs rfl pairs hI A' Mn) (λk vals ⟨p,t,u,_,e⟩=>⟨_,_,e⟩) Ja (uC ?_ aF.rel.lim ?_ (λAC hk=>⟨λA' pC k va vb aN m₂ Mn hp hn ha hb kp=>?_,fun  A' pC k va vb aN m₂ Mn hp d hn ha hb kp=>?_⟩) (λa gb tk gs Vc Vd L5 Jb WS eR=>?_))))
 .intro b mb;rcases Xi.mp mb with e|mb
  .show aE e ?_;show NI
  .show bb (there b mb) λo e ne=>XF (kk b o ne e)
 .intro z;simp at z;show bb lim ?_;clear lim;intro mc nc d
  have:=nc.lt;rw[z]at this;show XM _ this
 .show GT (iA rfl (dC aN.heap aN.toks rfl (fun  d d e=>e)))
 .show hV hp ?_;clear hp;intro p t u KY e;have e1:va=.str ⟨p.1.toArray⟩ t/\vb=.str ⟨p.2.toArray⟩ u:=by simpa using e
  show xA e1 ?_;clear e1;intro e9 jN;subst e9;clear e;subst jN;have X:c.K.In aN.heap:=λa o e=>by
   have h1:=NH a o e;show kp a (AcL.mpr (XF h1)) ?_ o (hk a o h1);intro z;simp at z;clear h1;subst z
   have:=g.rel.xq;rw[g.hh]at this;rw[this]at e;trivial
  show Xz (Ba bB.objs.size aj A' pC p t u aN m₂ Mn (AbF KY) hn ha hb X) (λy bJ ⟨h1,h2⟩=>⟨(bd p KY h1),h2⟩) fun  d d z=>z
 .have pass:passing (fun  d=>a9) ps.length 0=Yx ps.length:=by unfold passing;show filter_allG (Aae 0 (Yx ps.length))
  rw[pass]at WS;have Tb:=WalksS.Rd (P':=λj y=>∃p,ps[j]?=a7 p/\Fv p y) WS (by
   rintro j y ⟨k,e,p,h1,h2⟩
   have:k=j:=by
    by_cases hj:j<ps.length
    .rw[List.getElem?_range hj]at e;clear h1;obtain rfl:=Xe e;rfl
    .rw[Y8 (by simpa using hj)]at e;trivial
   clear e;subst this;show(bd p h1 h2))
  have NJ:bB.objs.size<a:=Vd;rw[AaE]at Tb;have Tc:bB.IsListIter s.heap.objs.size (W.ρ i).1 0:=Ja.1;show hQ a _ (λb o hb e=>Jb b o (kk b o hb e)) ⟨rfl,λx=>AllBare.push x Vc,λi y e=>zD e⟩ (mw (a::bB.objs.size::Yx bB.objs.size) (bB.objs.size::[s.heap.objs.size]) _ (λh' kh=>?_) Tb eR (λi s' st=>st.1.typeIs) (Gi List.mem_cons_self ?_ ?_))
  .show iQ.it (wr:=[s.heap.objs.size]) (λb o hb e=>kh b o (λz=>?_) (Jb b o e)) λb hb=>?_
   .rcases Xi.mp z with e'|z
    .have:=XF e;rw[e']at this;show XM _ this
    .show hb z
   .simp at hb;subst hb;show bV Tc ?_;clear Tc;intro o eo c1 d1;show bd o eo (by unfold chg d8 jZ d8;(show aE c1 ?_;show aE d1 ?_);rfl)
  .intro b mb;rw[L5];rcases Xi.mp mb with e|mb
   .rw[e];show Yi _
   .rcases Xi.mp mb with e|mb
    .rw[e];show Ab6 NJ
    .show Ab6 (Acf (AcL.mp mb) NJ)
  .intro b mb;simp at mb;rcases mb with e|e
   .rw[e];show YM NI
   .rw[e];show Xd _
theorem vI{eu s':Shared}{wr:List Addr}(g:Here c W s ls)(m:(cc,P)∈de c.K)(nd:(bp c.K).Nodup)(k:∀b o,b≠P->s.heap.get? b=a7 o->eu.heap.get? b=a7 o)(sh:Sh s eu)(hw:∀b∈wr,s.heap.objs.size<=b)
  (hm:Moved wr (GenOnlyQ s.gens.size) eu s') (t:∀h',(∀b o,b ∉ wr->eu.heap.get? b=a7 o->h'.get? b=a7 o)->fG h' cc P):Good c W s ⟨s'.heap,W.ρ,W.H⟩ s' ls:=
 g.tabs m nd (λb o hb e=>hm.heap b o (λz=>XM _ (XB (XF e) (hw b z))) (k b o hb e)) (t _ hm.heap) ⟨hm.os.trans sh.1,λx=>(sh.2.bare x).movedS hm,λi y e=>Hv hm.gens (sh.2.keep i y e) (YL (genLt e))⟩
theorem L6{P:Nat->Value->Prop}(W:WalksS af w A I fp wr G n P St) :
  WalksS af w A I fp wr G (n+1) (λj y=>∃i,j=i+1/\P i y) (λj s=>∃i,j=i+1/\St i s):=
 ⟨W.sub,W.grefl,W.gtrans,λj s h' tk ⟨i,e,st⟩ ht k=>(bd i e (W.frame i s h' tk st ht k)),
  λj s Q E hj ⟨i,e,st⟩ hQ=>W.item i s Q E (by show"Ta+b1Ea+c1Tcb" hj e) st λv s' p Ri hm=>hQ v s' (bd i e p) (bd (i+1) ((λ{m k n}=>Nat.add_left_inj.mpr) e) Ri) hm,
  λs Q E ⟨i,e,st⟩ hQ=>W.done s Q E ((show i=n by show Aaa (_root_.id (Eq.symm e)))▸st) hQ,
  λj s Q E ⟨i,e,st⟩ q=>W.self i s Q E st q⟩
theorem mO(val:Nat->Int)(x:Int):∀n,preSum (λj=>if j=0 then x else val (j-1)) (n+1)=x+preSum val n:=by
 intro zz;induction zz with
 |zero=>show by show Int.add_comm _ _
 |succ n ih=>
  show by have:=ih;rw[preSum,this];rw[preSum];simp;show Abj x (preSum val n) (val n)
end
end
theorem Bb(a b:Value):argsOk "sum" ⟨[a,b],[]⟩:=by unfold argsOk;kernel_rfl
section
theorem Bc{I:Addr}{fp wr:List Addr}{G:Array GenState->Array GenState->Prop}{P:Nat->Value->Prop}{St:Nat->Shared->Prop}{x:Int}{tok:Tok}{Q:Value->Shared->Prop}(W:WalksS af w A.in1 I fp wr G n P St)(wI:St 0 s)(NK:∀b∈fp,b<s.heap.objs.size)(val:Nat->Int)(Bd:∀i v,P i v->∃t,v=.int (val i) t)(hx:InLong x)(vJ:∀j,j<n->InLong (val j)/\InLong (x+preSum val (j+1)))
  (hQ:∀s' t',Moved wr G s s'->Q (.int (x+preSum val n) t') s'):wpAny (model af w) A (call (.builtin "sum") [.ref I,.int x tok]) Q E s:=by
 show call_function_tree F.kind_sum F.plain_sum F.entry_sum (Bb _ _) ?_;unfold Builtin.«sum»;show aM (XX (show Builtin.Builtins.bindParams "sum" ["start"] 0 ⟨[.int x tok],[]⟩=Xj [a7 (.int x tok)]from rfl) (aM (W.self 0 s _ _ wI ?_)));have Ve:((decide (-(2 ^ 63:Int)<=x)) && decide (x<(2:Int) ^ 63))=a9:=by unfold InLong at hx;simp;assumption
 dsimp only;split;case isFalse hn=>show absurd Ve hn
 show aM (Zj (aM (Abc (aM (GT (aM (aM (aM (ZM (T:="int") (b:=ac) (typeIs_int _ _ _) PySem.sub_int_str (GT (Xb (Xb (ZM (T:="int") (b:=ac) (typeIs_int _ _ _) PySem.sub_int_bytes (GT (Xb (Xb (ZM (T:="int") (b:=ac) (typeIs_int _ _ _) PySem.sub_int_bytearray (GT (GT (aM (YB ?_)))))))))))))))))))));have Vf:s.heap.objs.size ∉ fp:=λhm=>XM _ (NK _ hm);have e1:preSum (λj=>if j=0 then x else val (j-1)) 1=x:=by simp[preSum]
 show GT ⟨Ac0 F.plain_sum_loop _,codeAny_sum_loopS (L6 W) (λj=>if j=0 then x else val (j-1)) (λj v ⟨i,e,p⟩=>by subst e;show ItemKind.int_is (Bd (i+1-1) v p)) (λj hj=>?_) s.heap.objs.size Vf n 1 _ s.toks 0 (Nat.add_sub_self_right n 1) (XQ _)
  (bd 0 rfl (W.frame 0 s _ _ wI (by first|show Xd _|show Yb _|omega) fun  b u o e=>Xa _ e)) (by show aE e1 ?_;show Xo _ rfl) λs' t' hm=>?_⟩
 .cases j with|zero=>show⟨by assumption,by(show aE (show 0+1=1 from rfl) ?_;show aE e1 ?_);show hx⟩|succ j=>have:=vJ j (by show"T+a1+b1Tab" hj);rw[mO];assumption
 .rw[mO];show hQ s' t' (hm.drop_new (by first|show Xd _|show Yb _|omega))
end
section
variable {ls:Loc}
theorem o7{x:Pi}(g:Here c W s ls)(E':ba ae c.f)(hk:ae.kindOf x=a7 .local)(hc:c.f.cells.lookup x=a8)(hl:ls.lookup x=a7 (.ref i))(hd:(x==("__debug__" : Pi))=ac)   {Q:Value->Shared->Prop} (q:Q (.ref (W.ρ i).1) s):wpAny c.M A (eval (.Name x p) ae) Q E s:=by show bb g.fr.ns λm n r=>bb (r x _ hl hc) λv hv y=>?_;cases y;show AaP (Ze E'.kind hk (by rw[E'.loc,<-g.hh];show n) hv q) hd
theorem DZ{fs:List (Pi×AV)}{aw:Pi}{k:Int}(g:Here c W s ls)(hi:W.H[i]?=a7 o)(ho:eN o=a7 (C,fs))(hg:iX c.K C)
  (hh:hasDictIn c.K C=a9) {attr:Option Value} (ha:findIn c.K (.ref C) aw=a7 attr) (hn:noGet c.K attr=a9) (hl:fs.lookup aw=a7 (.int k)) {A:Around} {ex:Bool} {E:Value->Shared->Prop} {Q:Value->Shared->Prop} (q:∀t,Q (.int k t) { s with toks:=s.toks+1 }):wpAny c.M A (getAttr (.ref (W.ρ i).1) aw ex) Q E s:=by
 have X:c.K.In s.heap:=g.hh▸g.rel.top;show fQ (dA (g.rel.obj i o hi) ho) fun  ox od m I u u lk qq=>?_;rw[g.hh]at I;have qn:=qq aw;rw[hl]at qn;show bb qn λv hm rv=>?_;cases rv;show hg.value X I (findObj_own hh ha hn (by rw[lk,hm])) rfl (q _)
structure Jc(c:Cx)(ae:Env)(C:Addr)(al:Scope)(xa xb:Pi)(iter:Expr):Prop where
 tab:∃cc P,ae.code=.ref cc/\(cc,P)∈de c.K
 nd:(bp c.K).Nodup
 blt:oV c.K
 it:findIn c.K (.ref C) "__iter__" = a7 (a7 (.builtin "list.__iter__"))
 mro:mroIn c.K C (.type "list")=a7 a9
 co:al.isCoroutine=ac
 ey:closureFor al ae=Xj []
 cell:al.names.all (λy=>y.2 != .cell)=a9
 dot:al.names.lookup (".0" : Pi)=a7 NameKind.local
 la:al.names.lookup xa=a7 .local
 lb:al.names.lookup xb=a7 .local
 ab:xa≠xb
 kind:al.kind=.function
 fold:∀x,genFold iter ae x=Xj x
theorem oW(f:List Nat×List Nat->Int)(ps:List (List Nat×List Nat))(n:Nat):n<=ps.length->preSum (λj=>f (ps.getD j ([],[]))) n=((ps.take n).map f).sum:=by
 induction n with|zero=>show fun  u=>rfl|succ n ih=>intro h;rw[preSum,ih (YM ‹_›),List.take_add_one,Xk (by assumption),Yc,List.sum_append];simp[Zq,Xk (show n<ps.length by show"L+a1bTab" h)]
theorem Be{fn xs attr xa xb:Pi}{pf px Rj pat pa pb pt gp ai:Pos}{kt:Nat}{al:Scope}{elt:Expr}{i:Nat}{C:Addr}{ps:List (List Nat×List Nat)}{fs:List (Pi×AV)}{x:Int}{n:Nat}{val:List Nat×List Nat->Int}{Q:AV->List AO->Loc->Prop}
  (hA:cM c.A n) (E':ba ae c.f) (GO:Jc c ae C al xa xb (.Name xs px)) (Vg:ae.kindOf fn=a7 .globalImplicit) (Vh:cF c.K fn=a7 (.builtin "sum")) (Hu:(fn==("__debug__" : Pi))=ac)
  (hk:ae.kindOf xs=a7 .local) (hc:c.f.cells.lookup xs=a8) (hl:ls.lookup xs=a7 (.ref i)) (hd:(xs==("__debug__" : Pi))=ac) (hi:H[i]?=a7 (.acc C (ps.map pr) fs))
  (hg:iX c.K C) (hh:hasDictIn c.K C=a9) (ha:findIn c.K (.ref C) attr=a7 a8) (Vi:fs.lookup attr=a7 (.int x))
  (Ba:∀Ca aj (A':Around) pC p t u (aN:Shared) m₂,A'.handled=a8->p∈ps->aN.heap.Ns Ca m₂->m₂ xa=a7 (.str ⟨p.1.toArray⟩ t)->m₂ xb=a7 (.str ⟨p.2.toArray⟩ u)->c.K.In aN.heap->
   wpAny c.M A' (eval elt (genEnv al [] Ca aj builtinsNs ae)) (λy bJ=>(∃t,y=.int (val p) t)/\Keeps aN bJ) pC aN)
  (hx:0<=x/\x<=1000000) (mP:ps.length<=1000000) (Bd:∀p∈ps,0<=val p/\val p<=1000000)
  (he:∀aO,eval (.Call (.Name fn pf) aO [] ai) ae=(do callWith ai (<-eval (.Name fn pf) ae) [] (backTo ai (starEach aO ae)) (backToKw ai (keywordEach [] ae))))
  (eR:∀(o:Expr),o=.Name xs Rj->eval (.Attribute o attr pat) ae=(do
   let ov <-eval o ae
   standAt pat.atName
   let r <-holding [ov] (getAttr ov attr a9)
   letTemporaryGo o ov r
   Xj r))
  (q:Q (.int (x+(ps.map val).sum)) H ls) :
  Ok c VR (eval (.Call (.Name fn pf) [.GeneratorExp elt [⟨.Tuple [.Name xa pa,.Name xb pb] kt pt,.Name xs px,[],0⟩] al gp,.Attribute (.Name xs Rj) attr pat] [] ai) ae) H ls Q:=λW s g e=>by
 subst e;show dH GO.tab λcc P iI m=>Call_ ((jj (Q:=λy H' l'=>y=.val (.builtin "sum")/\H'=W.H/\l'=ls) E' Vg Vh ⟨rfl,rfl,rfl⟩ Hu).run g rfl λaK aH aU y v aD b8 aR=>?_) (he _);show pJ aR λiO c8 e9=>?_;subst iO;clear g aR;subst e9;apply VR.xo b8;have pl:fH [Expr.GeneratorExp elt [⟨.Tuple [.Name xa pa,.Name xb pb] kt pt,.Name xs px,[],0⟩] al gp,.Attribute (.Name xs Rj) attr pat]=a9:=rfl;have aa:=dZ (ae:=ae) (ai:=ai) pl;show cx aa.1 aa.2 (Yp (YA (n:=1) aD.tk <|vH (Fv:=λp y=>∃t,y=.int (val p) t) aD.here hA E' m GO.nd GO.blt iI (by show aE c8 ?_;show hi) GO.it GO.mro GO.co GO.ey (λy hy=>by have:=X8.mp GO.cell y hy;simpa using this) GO.dot GO.la GO.lb GO.ab GO.kind GO.fold (λQ q=>o7 aD.here E' hk hc hl hd q) Ba λa eu vK zF X pA=>?_) rfl);show fQ X λfp wr St tk WS wI hT tz=>?_;show pJ tz ?_;clear tz;intro Td NK Rk;have cU:=(aD.here.tabs m GO.nd vK (tk _ fun  z z z e=>e) zF).at pA;show Yp ?_ rfl;show Aa4 (o7 cU.here E' hk hc hl hd ?_) (eR _ rfl);show DZ cU.here (by change aK.H[i]?=_;show aE c8 ?_;show hi) rfl hg hh ha rfl Vi λt=>?_;show YR ⟨⟨.machine,Aaq rfl⟩,?_⟩;have Rl:=WS.frame 0 eu eu.heap (eu.toks+1) wI (Yb _) fun  b z o e=>e;have Vj:=WS.in4_1;have bound:∀(l:List (List Nat×List Nat)),(∀p∈l,0<=val p/\val p<=1000000)->0<=(l.map val).sum/\(l.map val).sum<=l.length*1000000:=by
  intro l;induction l with
  |nil=>intro z;show(λ{a b}=>Int.le_antisymm_iff.mp) rfl
  |cons p l ih=>
   intro h;have h1:=h p (.head _);have h2:=ih λq hq=>h q (.tail _ hq);simp only[Xu,Y4,Xs]
   push_cast
   show"AG0pGp1000000AG0qGq:$a1000000AG0+pqG+pq:+$a1.1000000" h1 h2
 show Bc (A:=c.A) (s:={ eu with toks:=eu.toks+1 }) Vj Rl NK (λj=>val (ps.getD j ([],[]))) (λj v ⟨p,h1,t,h2⟩=>⟨t,by(rw[h2,Zq];show aE h1 ?_);rfl⟩) (by unfold InLong;omega) (λj hj=>?_) λs' t' hm=>?_
 .have hm:ps.getD j ([],[])∈ps:=by(rw[Zq];show aE (Xk hj) ?_);show Aah hj
  have h1:=Bd _ hm;have h2:=bound (ps.take (j+1)) λp hp=>Bd p (YY hp);show aE (oW val ps (j+1) (by assumption)) ?_;have h3:(ps.take (j+1)).length<=1000000:=by rw[XJ];show"La1000000L<+b1a1000000" mP
  unfold InLong;constructor
  .omega
  .constructor<;>omega
 .have NL:=oW val ps ps.length (Xd _);rw[Abn]at NL;show aE NL ?_;have nV:=vI aD.here m GO.nd vK zF Rk (s':=s') (eu:=eu) (wr:=wr) ⟨hm.heap,hm.gens,hm.drawn,hm.os,Xf (Yb _) hm.toks⟩ tk;show⟨_,aU,.int (x+(ps.map val).sum),aD.trans nV,.int _ _,by change Q _ aK.H aU;show aE c8 ?_;show q⟩
theorem xS{sn xs xa xb:Pi}{Rm px pa pb pt gp eY ai:Pos}{kt:Nat}{al:Scope}{elt:Expr}{i:Nat}{C:Addr}{ps:List (List Nat×List Nat)}{fs:List (Pi×AV)}{n:Nat}{sep:List Nat}{val:List Nat×List Nat->List Nat}{Q:AV->List AO->Loc->Prop}
  (hA:cM c.A n) (E':ba ae c.f) (GO:Jc c ae C al xa xb (.Name xs px))
  (hk:ae.kindOf xs=a7 .local) (hc:c.f.cells.lookup xs=a8) (hl:ls.lookup xs=a7 (.ref i)) (hd:(xs==("__debug__" : Pi))=ac) (hi:H[i]?=a7 (.acc C (ps.map pr) fs))
  {t0:Tok} (Qb:ae.kindOf sn=a7 .globalImplicit) (Rn:cF c.K sn=a7 (.str ⟨sep.toArray⟩ t0)) (Ro:(sn==("__debug__" : Pi))=ac)
  (Ba:∀Ca aj (A':Around) pC p t u (aN:Shared) m₂,A'.handled=a8->p∈ps->aN.heap.Ns Ca m₂->m₂ xa=a7 (.str ⟨p.1.toArray⟩ t)->m₂ xb=a7 (.str ⟨p.2.toArray⟩ u)->c.K.In aN.heap->
   wpAny c.M A' (eval elt (genEnv al [] Ca aj builtinsNs ae)) (λy bJ=>(∃t,y=.str ⟨(val p).toArray⟩ t)/\Keeps aN bJ) pC aN)
  (mP:ps.length<=1000000) (mn:((ps.map val).map λt=>t.length+sep.length).sum<=sizeLine)
  (sx:(eY.endLine==ai.line)=a9) (km:∀o:Expr,o=.Name sn Rm->attributeBase o "join" ae (eval o ae)=eval o ae)
  (q:Q (S (glue sep (ps.map val))) H ls) :
  Ok c VR (eval (.Call (.Attribute (.Name sn Rm) "join" eY) [.GeneratorExp elt [⟨.Tuple [.Name xa pa,.Name xb pb] kt pt,.Name xs px,[],0⟩] al gp] [] ai) ae) H ls Q:=λW s g e=>by
 subst e;show dH GO.tab λcc P iI m=>?_;have pa:=dZ (ae:=ae) (ai:=ai) (aO:=[Expr.GeneratorExp elt [⟨.Tuple [.Name xa pa,.Name xb pb] kt pt,.Name xs px,[],0⟩] al gp]) rfl;have fO:methodCallPos a9 (.Name sn Rm) ae eY ai=Xj ai:=by unfold methodCallPos;show aQ ‹_›
 rw[AaM];show aE (km _ rfl) ?_;show aM ((jj (Q:=λy H' l'=>y=.val (.str ⟨sep.toArray⟩ t0)/\H'=W.H/\l'=ls) E' Qb Rn ⟨rfl,rfl,rfl⟩ Ro).run g rfl λaK aH aU y v aD b8 aR=>aM (Yy (pJ aR λjN c8 rJ=>?_)));subst jN;clear g aR;subst rJ;apply VR.xo b8;show aM (XE (ki (a:=sep) F.slot_str_join (by kernel_rfl) aK aH _ aU _ _ _ aD.here rfl (.str _ _) ?_));show aM (XX fO (cx pa.1 pa.2 (Yp (YA (n:=1) aD.tk <|vH (Fv:=λp y=>∃t,y=.str ⟨(val p).toArray⟩ t) aD.here hA E' m GO.nd GO.blt iI (by show aE c8 ?_;show hi) GO.it GO.mro GO.co GO.ey (λy hy=>by have:=X8.mp GO.cell y hy;simpa using this) GO.dot GO.la GO.lb GO.ab GO.kind GO.fold (λQ q=>o7 aD.here E' hk hc hl hd q) Ba λa eu vK zF X pA=>?_) rfl)));show fQ X λfp wr St tk WS wI hT tz=>?_;show pJ tz ?_;clear tz;intro Td NK Rk;show YR ⟨⟨.machine,Aaq rfl⟩,?_⟩;show SC.joinGen WS.in4_2 hT wI NK Td (λj v ⟨p,h1,t,h2⟩=>(MM _ t h2)) (λs' lt hm NM=>?_) (by unfold sizeLine;show"La1000000La16777216" mP);have NN:lt.map (·.1)=(ps.map val).map λt=>⟨t.toArray⟩:=by
  apply Z6;intro j;have mn:lt.length=ps.length:=by simpa[strValues]using NM.1
  by_cases hj:j<ps.length
  .have Ch:j<lt.length:=mn▸hj;show bb (NM.2 j (.str lt[j].1 lt[j].2) (by simp[strValues,Xk Ch])) λp h1 tz=>?_;show xE tz ?_;clear tz;intro t h2;injection h2 with h3 _
   have Vk:ps[j]=p:=by rw[Xk hj]at h1;show Xe h1
   simp[Xk Ch,hj,h3,Vk]
  ·(show aE (Y8 (by simpa[mn]using ZO hj)) ?_;show aE (Y8 (by simpa using ZO hj)) rfl)
 show aE NN ⟨?_,λt' k=>?_⟩
 .unfold JoinOk;simp only[Z7,List.foldl_toArray',dh]
  have:=mK sep.length (ps.map val) 0;simp only[tooLong];show aE this ?_;simpa using mn
 .have nV:=vI aD.here m GO.nd vK zF Rk (s':=s') (eu:=eu) (wr:=wr) hm tk;have:Txt.join ⟨sep.toArray⟩ ((ps.map val).map λt=>⟨t.toArray⟩)=⟨(glue sep (ps.map val)).toArray⟩:=tN sep (ps.map val);show aE this ⟨_,aU,S (glue sep (ps.map val)),aD.toGood.trans (nV.uW k),.str _ _,by change Q _ aK.H aU;rw[c8];show q⟩
end
section
variable {s:Shared}{Q:Unit->Shared->Prop}
theorem kr:Slot "method_descriptor" "__get__" "method_descriptor.__get__":=.of (owner:="method_descriptor") (n:="__get__") (by(rw[XT];show aE Xw ?_);kernel_rfl) (by decide +kernel) (by decide +kernel) (by decide +kernel)
 (by first|show .inl (by decide +kernel)|show .inr (by decide +kernel)) (by rw[Yn];kernel_rfl)
theorem tX:entryFor table "method_descriptor.__get__" = a7 Builtin.«method_descriptor.__get__»:=YN (by kernel_rfl)
theorem vL(a b c:Value):argsOk "method_descriptor.__get__" ⟨[a,b,c],[]⟩:=by unfold argsOk;kernel_rfl
theorem gB:Slot "wrapper_descriptor" "__get__" "wrapper_descriptor.__get__":=.of (owner:="wrapper_descriptor") (n:="__get__") (by(rw[XT];show aE Xw ?_);kernel_rfl) (by decide +kernel) (by decide +kernel) (by decide +kernel)
 (by first|show .inl (by decide +kernel)|show .inr (by decide +kernel)) (by rw[Yn];kernel_rfl)
theorem mQ:entryFor table "wrapper_descriptor.__get__" = a7 Builtin.«wrapper_descriptor.__get__»:=YN (by kernel_rfl)
theorem oX(a b c:Value):argsOk "wrapper_descriptor.__get__" ⟨[a,b,c],[]⟩:=by unfold argsOk;kernel_rfl
theorem E0:typeOf (.builtin "list.pop")=Xj (.type "method_descriptor"):=by change builtinType _=_;rw[YI];kernel_rfl
theorem E1:typeOf (.builtin "list.__len__")=Xj (.type "wrapper_descriptor"):=by change builtinType _=_;rw[YI];kernel_rfl
theorem zG:typeOf (.builtin "list.__init__")=Xj (.type "wrapper_descriptor"):=by change builtinType _=_;rw[YI];kernel_rfl
noncomputable abbrev jw(T:String)(id:String)(x:Addr):Obj:={ cls:=.type T,data:=.fields #[.builtin id,.ref x] }
section
variable {af:Program}{w:World}{A:Around}{s:Shared}{x C:Addr}{R:Result->Shared->Prop}
theorem Hw : ".".intercalate ("list.pop".cutAt '.').dropLast = "list":=by decide +kernel
theorem Hx : ".".intercalate ("list.__len__".cutAt '.').dropLast = "list":=by decide +kernel
theorem E3 : ".".intercalate ("list.__init__".cutAt '.').dropLast = "list":=by decide +kernel
theorem Hy{ox:Obj}{od:Option Obj}{K:Frag}(X:K.In s.heap)(I:InstAt s.heap x ox C od)(hm:mroIn K C (.type "list")=a7 a9)
  (h:R (.ok (.ret (.ref s.heap.objs.size))) { s with heap:=s.heap.push (jw "builtin_function_or_method" "list.pop" x) }):codeAny (model af w) A (.call (.builtin "method_descriptor.__get__") ⟨[.builtin "list.pop",.ref x,.ref C],[]⟩) R s:=by
 revert af w A s x C R ox od K;delta af w A s x C R ox od K;intro X I hm h;obtain⟨hh,g,dr,t,os⟩:=s;show X5 kr.plain tX (kr.check _ _ _ _ _ _ _ _ E0 (vL _ _ _) ?_);unfold Builtin.«method_descriptor.__get__»;have ht:Manifest.toldItsClass.contains "list.pop" = ac:=by decide +kernel
 have L0:=I.type (M:=model af w);have L1:=Zy (M:=model af w) X hm;dsimp only at L0 L1;have hc:=Hw;repeat(first|rewrite[ht]|rewrite[hc]|lk)
 show h
theorem Hz{ox:Obj}{od:Option Obj}(X:K.In s.heap)(I:InstAt s.heap x ox C od)(hm:mroIn K C (.type "list")=a7 a9)
  (h:R (.ok (.ret (.ref s.heap.objs.size))) { s with heap:=s.heap.push (jw "method-wrapper" "list.__len__" x) }):codeAny (model af w) A (.call (.builtin "wrapper_descriptor.__get__") ⟨[.builtin "list.__len__",.ref x,.ref C],[]⟩) R s:=by
 obtain⟨hh,g,dr,t,os⟩:=s;show X5 gB.plain mQ (gB.check _ _ _ _ _ _ _ _ E1 (oX _ _ _) ?_);unfold Builtin.«wrapper_descriptor.__get__»;have L0:=I.type (M:=model af w);have L1:=Zy (M:=model af w) X hm;dsimp only at L0 L1;have hc:=Hx;repeat(first|rewrite[hc]|lk)
 show h
theorem E4{ox:Obj}{od:Option Obj}(X:K.In s.heap)(I:InstAt s.heap x ox C od)(hm:mroIn K C (.type "list")=a7 a9)
  (h:R (.ok (.ret (.ref s.heap.objs.size))) { s with heap:=s.heap.push (jw "method-wrapper" "list.__init__" x) }):codeAny (model af w) A (.call (.builtin "wrapper_descriptor.__get__") ⟨[.builtin "list.__init__",.ref x,.ref C],[]⟩) R s:=by
 obtain⟨hh,g,dr,t,os⟩:=s;show X5 gB.plain mQ (gB.check _ _ _ _ _ _ _ _ zG (oX _ _ _) ?_);unfold Builtin.«wrapper_descriptor.__get__»;have L0:=I.type (M:=model af w);have L1:=Zy (M:=model af w) X hm;dsimp only at L0 L1;have hc:=E3;repeat(first|rewrite[hc]|lk)
 show h
end
section
variable {af:Program}{w:World}{A:Around}{E:Value->Shared->Prop}{h:Heap}{g:Array GenState}{d:Drawn}{t:Nat}{os:OsState}
theorem E5{so D x C:Addr}{id G T:String}{ob:Obj}{lB l:List Value}{K:Frag}{aw:Pi}{tk:Tok}{Q:Aby->Shared->Prop}
  (L7:h.get? so=a7 { cls:=.type "super",dict:=a8,data:=.fields #[.ref D,.ref x,.ref C],slots:=#[] }) (HA:Looks (model af w) h (opaqueClassAbove (.ref C)) a8)
  (hC:Looks (model af w) h (mroOf (.ref C)) lB) (hl:(lB.dropWhile (· != .ref D)).drop 1=l) (X:K.In h)
  (hf:alongIn K aw l=a7 (a7 (.builtin id))) (Jd:typeOf (.builtin id)=Xj (.type T)) (Mp:typeLookup (.type T) "__get__" = Xj (a7 (.builtin G))) (Mq:x≠C) (hn:(aw==("__class__" : Pi))=ac)
  (rM:∀(A:Around) (R:Result->Shared->Prop),R (.ok (.ret (.ref h.objs.size))) ⟨h.push ob,g,d,t,os⟩->codeAny (model af w) A (.call (.builtin G) ⟨[.builtin id,.ref x,.ref C],[]⟩) R ⟨h,g,d,t,os⟩)
  (hq:Q (.done (.ret (.ref h.objs.size))) ⟨h.push ob,g,d,t,os⟩) :
  wpAny (model af w) A (Builtin.«super.__getattribute__» ⟨[.ref so,.str aw tk],[]⟩) Q E ⟨h,g,d,t,os⟩:=by
 revert af w A E h g d t os so D x C id G T ob lB l K aw tk Q;delta af w A E h g d t os so D x C id G T ob lB l K aw tk Q;intro L7 HA hC hl X hf Jd Mp Mq hn rM hq;have d4:(YZ x==YZ C)=ac:=by simp[Mq]
 have Vl:(⟨h,g,d,t,os⟩:Shared).TypeIs (.builtin id) T:=Jd;have Rp:({ cls:=.type "super",dict:=a8,data:=.fields #[.ref D,.ref x,.ref C],slots:=#[] }:Obj).data=.fields #[.ref D,.ref x,.ref C]:=rfl;have f0:(#[.ref D,.ref x,.ref C]:Array Value)[0]?=a7 (.ref D):=rfl;have f1:(#[.ref D,.ref x,.ref C]:Array Value)[1]?=a7 (.ref x):=rfl;have f2:(#[.ref D,.ref x,.ref C]:Array Value)[2]?=a7 (.ref C):=rfl;repeat(first
  |(with_reducible show XR L7 Rp f0 ?_)|(with_reducible show XR L7 Rp f1 ?_)|(with_reducible show XR L7 Rp f2 ?_)
  |(with_reducible show ks_wpAny_notOpaque HA ?_)
  |(with_reducible show Looks.at hC ?_;show aE hl ?_)
  |(show ks_forIn_along X (fun  u u=>rfl) rfl ?_ hf)
  |(with_reducible show ZX Vl ?_)
  |(with_reducible show XX Mp ?_)
  |(with_reducible show YD (rM _ _ ?_))
  |(rewrite[hn];rewrite[d4];rewrite[aI YX])
  |wp_step
  |dsimp only)
 all_goals show hq
theorem tY{so D x C:Addr}{id G T:String}{ob:Obj}{lB l:List Value}{K:Frag}{aw:Pi}{pl:Sem Bool}{Q:Value×List Value->Shared->Prop}
  (L7:h.get? so=a7 { cls:=.type "super",dict:=a8,data:=.fields #[.ref D,.ref x,.ref C],slots:=#[] }) (HA:Looks (model af w) h (opaqueClassAbove (.ref C)) a8)
  (hC:Looks (model af w) h (mroOf (.ref C)) lB) (hl:(lB.dropWhile (· != .ref D)).drop 1=l) (X:K.In h)
  (hf:alongIn K aw l=a7 (a7 (.builtin id))) (Jd:typeOf (.builtin id)=Xj (.type T)) (Mp:typeLookup (.type T) "__get__" = Xj (a7 (.builtin G))) (Mq:x≠C) (hn:(aw==("__class__" : Pi))=ac)
  (rM:∀(t:Nat) (A:Around) (R:Result->Shared->Prop),R (.ok (.ret (.ref h.objs.size))) ⟨h.push ob,g,d,t,os⟩->codeAny (model af w) A (.call (.builtin G) ⟨[.builtin id,.ref x,.ref C],[]⟩) R ⟨h,g,d,t,os⟩)
  (hq:Q (.ref h.objs.size,[]) ⟨h.push ob,g,d,t+1,os⟩) :
  wpAny (model af w) A (getMethod (.ref so) aw pl) Q E ⟨h,g,d,t,os⟩:=by
 have NO:=F.ks_slot_super_ga.lookup;have hT:∀t',(⟨h,g,d,t',os⟩:Shared).TypeIs (.ref so) "super":=fun  u=>bd _ L7 rfl;show aM (YF (hT _) NO ?_);change wpAny _ _ (if(Manifest.canonical "super.__getattribute__" != "object.__getattribute__")=a9 then _ else _) _ _ _;show aM (aM (Abw (XE (aM (ZX (hT _) (aM (XX NO ?_)))))));change wpAny _ _ (getAttrByItsOwn (.ref so) (.str aw t) (.type "super") (.builtin "super.__getattribute__") a9 ac) _ _ _;show aM (XX (show(if onTheHeap (.type "super")then typeLookup (.type "super") "__getattr__" else Xj a8)=Xj a8 from rfl) (aM (Z2 (XE ?_))));change wpAny _ _ (bindSpecial (.builtin "super.__getattribute__") (.ref so) >>= _) _ _ _;show aM (XX (F.ks_slot_super_ga.bind _) ?_);show Xz (Q:=λv s'=>v=.ref h.objs.size/\s'=⟨h.push ob,g,d,t+1,os⟩) (E:=fun  u u=>False)
  (Yz F.ks_slot_super_ga (hT _) F.ks_entry_super_ga (E5 L7 HA hC hl X hf Jd Mp Mq hn (rM _) (cf _ rfl rfl rfl)) (F.ks_gaArgs_super _ _)) (λv s' hv=>?_) fun  u u z=>z.elim
 show xA hv λiO e9=>?_;subst iO;clear hv;subst e9;show GT (GT hq)
theorem vM{id:String}{a:Addr}{aO:List Value}{R:Result->Shared->Prop}(ho:s.heap.get? a=a7 { cls:=.type T,data:=.fields #[.builtin id,v] })(hT:T = "builtin_function_or_method"\/T = "method-wrapper")
  (PB:∀(A:Around) (E:Value->Shared->Prop) (Q:Unit->Shared->Prop),Q () s->wpAny (model af w) A (checkBoundCall id ⟨v::aO,[]⟩) Q E s) (hq:plainId id=a9) {B:Builtin} (he:entryFor table id=a7 B)
  (h:wpAny (model af w) A.in1 (B ⟨v::aO,[]⟩) (λfin s'=>match fin with
   |.done f=>R (.ok f) s'
   |.again c'=>c'.quiet=a9/\codeAny (model af w) A c' R s') (λe s'=>R (.error e) s') s):codeAny (model af w) A (.call (.ref a) ⟨aO,[]⟩) R s:=by
 show Aap ?_;change wpAny _ A.in1 (callAny (.ref a) ⟨aO,[]⟩) _ _ s;show aM (Z1 ho ?_);clear ho;rcases hT with rfl|rfl
 .show aM (PB _ _ _ (GT ⟨Ac0 hq _,ZY he ?_⟩));rw[Aac hq _];show h
 .show aM (PB _ _ _ (GT ⟨Ac0 hq _,ZY he ?_⟩));rw[Aac hq _];show h
theorem L8{M:Model}(q:Q () s):wpAny M A (checkBoundCall "list.__len__" ⟨[v],[]⟩) Q E s:=XX (a:=()) (by kernel_rfl) q
theorem HB{M:Model}(q:Q () s):wpAny M A (checkBoundCall "list.__init__" ⟨[v],[]⟩) Q E s:=XX (a:=()) (by kernel_rfl) q
end
end
section
variable {ls:Loc}{l:List AV}
theorem qH(g:Here c W s ls)(hi:W.H[i]?=a7 o)(hl:ek o=a7 l):∃ob us n,s.heap.get? (W.ρ i).1=a7 ob/\ob.data=.seq (Xp us) n/\bY W l us:=by show c0 (gY (g.rel.obj i o hi) hl) fun  ob vs n a b d u=>pZ ob vs n (g.hh▸a) b d
theorem E6(g:Here c W s ls)(hi:W.H[i]?=a7 o)(hl:ek o=a7 l)(hs:l.length<=100000)(hy:l.getLast?=a7 y)
  (k:∀W' s' r,Good c W s W' s' ls->W'.H=W.H.set i (dI l.dropLast o)->VR W' y r->P r s'):wpAny c.M A («list.pop» ⟨[.ref (W.ρ i).1],[]⟩) (λfin s'=>∃r,fin=.done (.ret r)/\P r s') E s:=by
 show g8 (qH g hi hl) λob us n ho hd rs=>?_;have sz:=rs.length;have d4:l≠[]:=by clear hl hs k rs sz;rintro rfl;injection hy
 have fO:0<l.length:=Ye.mpr d4;have QR:l[l.length-1]?=a7 y:=by(show ix hy ?_;rw[ZD])
 show bb (rs.get QR) λz hz rz=>?_;change wpAny _ _ (listItems (.ref (W.ρ i).1) >>= _) _ _ s;unfold listItems;show Xb (Xb (X1 ho hd (GT ?_)));rw[aI (by simp;rintro rfl;simp at sz;trivial)];have Dw:seqIndex? (-1) (Xp us).size=a7 (l.length-1):=by unfold seqIndex?;simp[sz];lia
 show aE Dw ?_;have AZ:(Xp us)[l.length-1]?=a7 z:=by simpa using hz
 simp only[Zr,AZ,Abz];change wpAny _ _ (updateSeq (W.ρ i).1 (·.eraseIdxIfInBounds (l.length-1)) >>= fun  u=>ret z) _ _ s;have fe:∀ws:List Value,ws.length=l.length->((Xp ws).eraseIdxIfInBounds (l.length-1)).toList=ws.dropLast:=by intro ws hw;simp;rw[Y9];show aE hw ?_;rw[Acb];show aE (ZU (by show"EabLa+-b1.1" hw)) ?_;show Xv _
 show aM (ZW ho hd (GT (bd _ rfl ?_)) (by simp[sizeLine];show"La100000EbaLb16777216" hs sz) ?_)
 .have G:=g.seq (l':=l.dropLast) (f:=(·.eraseIdxIfInBounds (l.length-1))) hi hl λvs r W' M=>by show aE (fe vs r.length) ?_;rw[Y9,Y9];show aE r.length ?_;show(r.mono M).take _
  show k _ _ z G rfl (G.vr g rz)
 .have:=congrArg ZL (fe us sz);simp at this ⊢;unfold sizeLine;show"La100000EbaEc-b1Lc+16777216.1" hs sz this
theorem E7(g:Here c W s ls)(hi:W.H[i]?=a7 o)(hl:ek o=a7 l)(k:∀t,P (.int l.length t) { s with toks:=s.toks+1 }):wpAny c.M A («list.__len__» ⟨[.ref (W.ρ i).1],[]⟩) (λfin s'=>∃r,fin=.done (.ret r)/\P r s') E s:=by
 show g8 (qH g hi hl) λob us n ho hd rs=>?_;change wpAny _ _ (seqSize (W.ρ i).1 >>= λn=>retInt n) _ _ s;unfold seqSize;show Xb (Xb (Zx ho (aE hd (GT (aM (Abc (GT (bd _ rfl ?_))))))));have NN:(((Xp us).size:Nat):Int)=l.length:=by simp[rs.length]
 show aE NN (k _)
theorem Bf(g:Here c W s ls)(hi:W.H[i]?=a7 o)(hl:ek o=a7 [])(k:∀W' s',Good c W s W' s' ls->W'.H=W.H->P .none s'):wpAny c.M A («list.__init__» ⟨[.ref (W.ρ i).1],[]⟩) (λfin s'=>∃r,fin=.done (.ret r)/\P r s') E s:=by
 show g8 (qH g hi hl) λob us n ho hd rs=>?_;cases rs;change wpAny _ _ (listItems (.ref (W.ρ i).1) >>= _) _ _ s;unfold listItems;show aM (aM (X1 ho hd (GT ?_)));change wpAny _ _ (updateSeq (W.ρ i).1 (fun  u=>#[]) >>= _) _ _ s;have G:=g.seq (l':=[]) (f:=fun  u=>#[]) hi hl λvs r W' M=>.nil;have he:W.H.set i (dI [] o)=W.H:=by
  have:dI [] o=o:=by cases o<;>first|(clear G hi;obtain rfl:=Xe hl;rfl)|rfl
  rw[this];apply Z6;intro n;by_cases hn:n=i
  .clear G ho;subst hn;(rw[bn hi];show aE hi rfl)
  .rw[XC (Ne.symm hn)]
 rw[he]at G;show aM (ZW ho hd (aM (AaA ?_)) (Xn _) (Xn _));show GT (bd _ rfl (k _ _ G rfl))
theorem L9(x:String)(hx:(x != "*")=a9) (v:Value) (sig:Manifest.Signature) (h:Y1 "list.pop" = a7 sig):ZS "list.pop" { sig with full:=x } ⟨[v],[]⟩=Xj ():=by
 have e:Y1 "list.pop" = a7 ⟨.positional, "list.pop", "pop",.self,[⟨"index",.posOnly,ac⟩]⟩:=by kernel_rfl
 rw[e]at h;obtain rfl:=Xe h;unfold ZS Bind.printed;rewrite[hx];rfl
theorem La{fs:List (Pi×AV)}{cd:ClassData}(g:Here c W s ls)(hi:W.H[i]?=a7 o)(ho:eN o=a7 (C,fs))(hm:mroIn c.K C (.type "module")=a7 ac) (hc:clsIn c.K C=a7 cd) (Vm:typeIn c.K (.ref C)=a7 (.type "type")) (PC:cd.qualname.toString = "_Accumulator") {Q:Unit->Shared->Prop} (q:Q () s):wpAny c.M A (checkBoundCall "list.pop" ⟨[.ref (W.ρ i).1],[]⟩) Q E s:=by
 have X:c.K.In s.heap:=g.hh▸g.rel.top;show hV (dA (g.rel.obj i o hi) ho) fun  ox od m I u=>?_;rw[g.hh]at I;clear g;obtain⟨hh,gg,d,t,os⟩:=s;have L0:=I.type (M:=c.M);have L1:=Zy (M:=c.M) X hm;have L2:=AbO (M:=c.M) X hc;have L3:=looks_typeIn (M:=c.M) X Vm;have hx:=I.at_;dsimp only at L0 L1 L2 L3 hx;have Je:∀c,ox.data≠.cls c:=λcc e=>by have:=I.no;unfold notCls at this;rw[e]at this;show XA this
 unfold checkBoundCall;have hk:builtinKind "list.pop" = a7 .method:=by decide +kernel
 cases xu:Y1 "list.pop" with
 |none=>show GT q
 |some sig=>
 have ca:=λx hx=>L9 x hx (.ref (W.ρ i).1) sig xu;show aE hk ?_;show Xb (m:=isInstance (.ref (W.ρ i).1) (.type "module")) ((Looks.andThen L0 L1).at ?_);show Xb (m:=isType (.ref (W.ρ i).1)) (ks_wpAny_isType_inst hx Je ?_);show aM (L0.at ?_);show Xb (L2.at (Xb (L3.at ?_)));show aE PC ?_;show XX (ca _ (by decide +kernel)) q
end
structure Lb(af:Program)(K:Frag)(C:Addr):Prop where
 sup:cF K "super" = a7 (.type "super")
 cls:∃cd,clsIn K C=a7 cd/\(cd.mro.dropWhile (· != .ref C)).drop 1=[.type "list",.type "object"]/\cd.qualname.toString = "_Accumulator"
 sub:mroIn K C (.ref C)=a7 a9
 lst:mroIn K C (.type "list")=a7 a9
 Vn:mroIn K C (.type "module")=a7 ac
 tc:typeIn K (.ref C)=a7 (.type "type")
 Vo:nsIn K cStatics "thirdparty.any" = a7 a8
 top:(af.main.scope.names.lookup ("super" : Pi)).isSome=ac
structure sy(af:Program)(K:Frag)(C fa cc:Addr)(Vp:Pi):Prop where
 fn:∃oc od nu fd ar,K.lookup fa=a7 ⟨oc,od,.func fd,nu⟩/\(fd.params.posonlyargs++fd.params.args).head?=a7 ar/\ar.arg=Vp/\
  ∃Rq o vs file tf,fd.code=.ref Rq/\K.lookup Rq=a7 o/\o.data=.fields vs/\vs[2]?=a7 (.str file tf)/\((af.main.file:Pi)==file)=a9
 cell:∃a b d,K.lookup cc=a7 ⟨a,b,.cell (a7 (.ref C)),d⟩
theorem Bg{M:Model}{h:Heap}{a:Addr}{id:String}{x:Addr}(e:h.get? a=a7 (jw T id x))(hT:T = "builtin_function_or_method"\/T = "method-wrapper"):Looks M h (keeperOf (.ref a)) .machine:=λA Q E s k q=>by
 show aM (Z1 (k _ _ e) ?_);clear e;rcases hT with rfl|rfl
 .show GT q
 .show GT q
section
variable {ls:Loc}
theorem E8{cd:ClassData}(h:clsIn K C=a7 cd):∃o,K.lookup C=a7 o/\o.data=.cls cd:=by
 unfold clsIn at h;cases e:K.lookup C with
 |none=>rw[e]at h;injection h
 |some o=>
  rw[e]at h;obtain⟨_,_,d,_⟩:=o;cases d with|cls c=>show⟨_,rfl,congrArg Data.cls (Xe h)⟩|_=>injection h
theorem m6{self nm:Pi}{p0 p1 eY ai:Pos}{aB:List Stmt}{pl:Sem Bool}{i:Nat}{C fa cc:Addr}{l:List AV}{fs:List (Pi×AV)}{id T G bt:String}{B:Builtin}{P:Value->Shared->Prop}{E:Value->Shared->Prop}
  (g:Here c W s ls) (hi:W.H[i]?=a7 (.acc C l fs)) (E':ba ae c.f) (SK:Lb c.prog c.K C) (SF:sy c.prog c.K C fa cc self) (Vq:∀oc od nu fd,c.K.lookup fa=a7 ⟨oc,od,.func fd,nu⟩->ae.code=fd.code)
  (Jf:ae.kindOf "super" = a7 .globalImplicit) (Te:ae.kindOf "__class__" = a7 .free) (Rr:ae.func=a7 fa) (PD:ae.cells.lookup ("__class__" : Pi)=a7 cc)
  (hk:ae.kindOf self=a7 .local) (hc:c.f.cells.lookup self=a8) (hl:ls.lookup self=a7 (.ref i)) (hd:(self==("__debug__" : Pi))=ac) (eR:(nm==("__class__" : Pi))=ac)
  (hf:alongIn c.K nm [.type "list",.type "object"]=a7 (a7 (.builtin id))) (Jd:typeOf (.builtin id)=Xj (.type T)) (Mp:typeLookup (.type T) "__get__" = Xj (a7 (.builtin G))) (Tf:bt = "builtin_function_or_method"\/bt = "method-wrapper")
  (rM:∀(A:Around) (R:Result->Shared->Prop) (s':Shared) (ox:Obj) (od:Option Obj),c.K.In s'.heap->InstAt s'.heap (W.ρ i).1 ox C od->R (.ok (.ret (.ref s'.heap.objs.size))) { s' with heap:=s'.heap.push (jw bt id (W.ρ i).1) }->codeAny c.M A (.call (.builtin G) ⟨[.builtin id,.ref (W.ρ i).1,.ref C],[]⟩) R s')
  (PB:∀(s':Shared),bN c W s ⟨s'.heap,W.ρ,W.H⟩ s' ls->∀(A:Around) (E:Value->Shared->Prop) (Q:Unit->Shared->Prop),Q () s'->wpAny c.M A (checkBoundCall id ⟨[.ref (W.ρ i).1],[]⟩) Q E s') (hq:plainId id=a9) (NP:entryFor table id=a7 B)
  (he:eval (.Call (.Attribute (.Call (.Name "super" p0) [] [] p1) nm eY) [] [] ai) ae=(do
   let ov <-attributeBase (.Call (.Name "super" p0) [] [] p1) nm ae (eval (.Call (.Name "super" p0) [] [] p1) ae)
   standAt eY.atName
   let(f,first) <-holding [ov] (getMethod ov nm pl)
   callWith ai f first (backTo ai (starEach [] ae)) []))
  (hB:∀(s':Shared),bN c W s ⟨s'.heap,W.ρ,W.H⟩ s' ls->wpAny c.M c.A.in1 (B ⟨[.ref (W.ρ i).1],[]⟩) (λfin fF=>∃r,fin=.done (.ret r)/\P r fF) E s') :
  _root_.PySem.wpAt c.M c.A (.func aB ae) (eval (.Call (.Attribute (.Call (.Name "super" p0) [] [] p1) nm eY) [] [] ai) ae) P E s:=by
 show dt SF.fn λoc od nu fd tz=>?_;show pX tz ?_;clear tz;intro ar hK hp iO tz;show dt tz ?_;clear tz;intro Rq ob vs file tz;show bb tz ?_;clear tz;intro tf pK Az;clear hd;subst iO;obtain⟨Vr,Vs,Lc,NQ⟩:=Az;show Q6 SF.cell λca cb cdd Rs=>bV SK.cls λcd E9 NR PC=>?_;have X:c.K.In s.heap:=g.hh▸g.rel.top;have iI:=Vq _ _ _ _ hK;show hV (dA (g.rel.obj i _ hi) (C:=C) (fs:=fs) rfl) fun  ox odx m I u=>?_;replace I:=g.hh▸I;show ks_wpAt_MethodCall ?_ he;show ks_wpAt_super_base (f:=fa) (fd:=fd) (ar:=ar) Jf Te eR Rr (X _ _ hK) rfl hp (iI.trans pK) (X _ _ Vr) Vs Lc NQ SK.top ?_
 have gl:∀{Q:Value->Shared->Prop} {E:Value->Shared->Prop},Q (.type "super") s->wpAny c.M c.A (loadName ae "super") Q E s:=λq=>by
  show ks_loadName_global E'.kind Jf ?_;unfold loadGlobal;show aE E'.glob ?_;show aE E'.blt ?_;rcases kT SK.sup with hu|⟨hu,hb⟩
  .show aM ((Za X hu).here (GT q))
  .show aM ((Za X hu).here (aM ((Za X hb).here (GT q))))
 show gl ⟨rfl,?_⟩;show wpAny_loadName_free E'.kind Te PD (bd _ (X _ _ Rs) rfl) (bb g.fr.ns λmm nn r=>bb (r _ _ hl hc) λv hv y=>?_);cases y;show Ze E'.kind hk (by rw[E'.loc,<-g.hh];show nn) hv ?_;have Tg:∃oC,s.heap.get? C=a7 oC/\oC.data=.cls cd:=by show(E8 E9).elim λo h=>⟨o,X _ _ h.1,h.2⟩
 show bb Tg λoC Th Ti=>?_;have Je:∀c,ox.data≠.cls c:=λcc e=>by have:=I.no;unfold notCls at this;rw[e]at this;show XA this
 clear gl Tg;obtain⟨hh,gg,d,t,os⟩:=s;show AbP Th Ti ⟨rfl,?_⟩;show ks_wpAny_call_super Th Ti I.at_ I.cls Je (Zy X SK.sub) λh' e k=>?_;have aD:=(g.grow (h':=h') t k).at g.tk;have HC:c.K.In h':=X.keeps k;show hV (dA (aD.rel.obj i _ hi) (C:=C) (fs:=fs) rfl) fun  Tj Rt m₁ Ru u=>?_;have Mq:(W.ρ i).1≠C:=ks_ne X I E9;show tY (K:=c.K) (ob:=jw bt id (W.ρ i).1) e (looks_opaque HC SK.Vo) (lB:=cd.mro) (λA Q E s k' q=>aM ((AbO HC E9) A _ E s k' (GT q))) NR HC hf Jd Mp Mq eR (λt' A R hR=>rM A R _ _ _ HC Ru hR) ?_;have aF:=(g.grow (h':=h'.push (jw bt id (W.ρ i).1)) (t+1) (λb o e=>Xa _ (k b o e))).at (XQ _);have v8:(h'.push (jw bt id (W.ρ i).1)).get? h'.objs.size=a7 (jw bt id (W.ρ i).1):=Xo _ rfl;show cx (aO:=[]) rfl (λx e=>nomatch e) (GT ⟨⟨.machine,Bg v8 Tf⟩,?_⟩);show YD (vM v8 Tf (λA E Q q=>?_) hq NP ?_)
 .show PB _ aF A E Q q
 .show Xz (hB _ aF) (λfin fF zz=>?_) fun  u u z=>z;obtain⟨r,e,p⟩:=zz;subst e;show p
end
section
theorem Bh{fa:Addr}{fd:FuncData}{aB:List Stmt}{oc:Value}{od:Option Addr}{nu:Array (Option Value)}{n:Nat}{W:Wd}{s:Shared}{vs:List Value}{ls:Loc}{bs:List (Pi×Value)}{Q:AV->List AO->Prop}
  (hA:cM A (n+1)) (hK:K.lookup fa=a7 ⟨oc,od,.func fd,nu⟩) (hb:fd.body=.stmts aB) (pK:codeIn K fd.code fd.qualname=a9)
  (D9:fd.globals=mainGlobals) (Kl:fd.builtins=builtinsNs) (cr:∀x∈fd.scope.names,x.2≠.cell)
  (iP:fd.scope.isCoroutine=ac) (fv:fd.scope.isGenerator=ac) (hk:fd.scope.kind=.function)
  (tk:0<s.toks) (hh:W.h=s.heap) (R:Rel K W) (fW:BindsTo s fd ⟨vs,[]⟩ bs) (fx:∀x∈bs,fd.scope.names.lookup x.1=a7 .local)
  (Kk:∀x av,ls.lookup x=a7 av->∃v,bs.reverse.lookup x=a7 v/\VR W av v)
  (h:∀L,cM (A.deeper (callEnv fd L fa)) n->ba (callEnv fd L fa) ⟨L,[]⟩->bw W.H.length W.H->∀aK aH,Here ⟨af,w,K,A.deeper (callEnv fd L fa),⟨L,[]⟩⟩ aK aH ls->aK.H=W.H->
   _root_.PySem.wpAt (model af w) (A.deeper (callEnv fd L fa)) (.func aB (callEnv fd L fa)) (execs aB (callEnv fd L fa)) (gS ⟨af,w,K,A.deeper (callEnv fd L fa),⟨L,[]⟩⟩ aY (ka W.H.length Q) aK aH) qm aH) :
  codeAny (model af w) A (.call (.ref fa) ⟨vs,[]⟩) (Ends K W s Q) s:=by
 have ho:s.heap.get? fa=a7 ⟨oc,od,.func fd,nu⟩:=hh▸R.top _ _ hK;show ks_codeAny_call_defAt (fd:=fd) (body:=aB) (binds:=bs) hA.room ho rfl (hh▸R.lim) (AcT (hh▸R.top) pK) hb fW cr fx (λh₀ cD tF=>?_) iP fv hk;have hE:ba (callEnv fd s.heap.objs.size fa) ⟨s.heap.objs.size,[]⟩:=⟨hk,rfl,fun  u u e=>by trivial,D9,Kl⟩
 have k₁:∀b o,W.h.get? b=a7 o->h₀.get? b=a7 o:=λb o e=>tF b o (hh▸e);show AaH (h s.heap.objs.size (hA.deeper _) hE R.closed _ _ (Here.enter (XB tk (Yd _ _)) hh R k₁ cD Kk) rfl) (λf aN z=>?_) fun  u u z=>z.elim;obtain⟨b4,cj,fl,G,r,q⟩:=z;show g8 q λn' H' x' Km D hq=>Ends.leave k₁ (Rel.free hh) G G.sh Km D r.val hq
end
section
variable {aw:Pi}{m0:List Expr}{m5:Option Expr}{xP:List TypeParam}{fy:Option Scope}{bind:Pi}{ey:List (Pi×Addr)}{dv:Value}{Q:AV->List AO->Prop}
theorem Bi(hA:cM c.A (n+1))(F:FnAt c.K fa (.FunctionDef aw au aB m0 m5 xP al fy bind ai) ey dv)(hd:dv=.none\/∃T o lZ n,dv=.ref T/\c.K.lookup T=a7 o/\o.data=.seq lZ n)
  (hp:kn au=a9) (hn:(b5 au).Nodup) (hl:xs.length=(b5 au).length)
  (cr:al.names.all (λx=>x.2 != .cell)=a9) (iP:al.isCoroutine=ac) (fv:al.isGenerator=ac) (hk:al.kind=.function) (fx:(b5 au).all (λx=>al.names.lookup x==a7 .local)=a9)
  (h:∀L q aj A',cM A' n->ba (bT al L ey q fa aj) ⟨L,[]⟩->iH c.K aj->(∀oc od nu fd,c.K.lookup fa=a7 ⟨oc,od,.func fd,nu⟩->aj=fd.code)->bw H.length H->dS H.length xs=a9->∀aK aH,Here (c.sub A' ⟨L,[]⟩) aK aH ((b5 au).zip xs)->aK.H=H->
   _root_.PySem.wpAt c.M A' (.func aB (bT al L ey q fa aj)) (execs aB (bT al L ey q fa aj)) (gS (c.sub A' ⟨L,[]⟩) aY (ka H.length Q) aK aH) qm aH) :
  bk c (.ref fa) xs H Q:=λW s vs dF hh R e r=>by
 show cV F.fn λoc od nu fd hK Hu pK jv=>?_;show mr Hu λh1 h2 h3 h4 tz=>?_;show nA tz ?_;clear tz;intro h5 h6 h7 h8;subst e;have xQ:∀x∈fd.scope.names,x.2≠.cell:=by
  rw[h3];intro x hx
  have:=X8.mp cr x hx;simpa using this
 have hb:BindsTo s fd ⟨vs,[]⟩ ((b5 au).zip vs):=by
  have:=o5 (fd:=fd) (vs:=vs) (hh▸R.top:c.K.In s.heap) (by rw[h2];show hp) (by rw[h2];show hn) (by rw[h2,r.length,hl]) (by show aE h7 ?_;show hd)
  rwa[h2]at this
 show Bh (bs:=(b5 au).zip vs) (ls:=(b5 au).zip xs) hA hK h1 pK h4 h5 xQ (by rw[h3];show iP) (by rw[h3];show fv) (by rw[h3];show hk) dF hh R hb (λx hx=>?_) (λx av e=>?_) λL db Ra hb aK aH pD c8=>?_
 .rw[h3]
  have:=X8.mp fx x.1 (YT hx).1;simpa using this
 .show bb (gc r e) λv a b=>bd v (ii (gd hn) a) b
 .have ee:callEnv fd L fa=bT al L ey (fd.qualname++".<locals>.") fa fd.code:=by unfold callEnv;show aE h3 ?_;show aE h4 ?_;show aE h5 ?_;show aE h6 rfl
  have:=h L (fd.qualname++".<locals>.") fd.code (c.A.deeper (callEnv fd L fa)) db (ee▸Ra) jv (λoc' od' Vt fd' e=>by replace e:=hK▸e;cases e;rfl) hb r.gX aK aH pD c8;rw[<-ee]at this;show this
end
noncomputable def Jg:Data->Option ClassData|.cls cd=>a7 cd|_=>a8
theorem Ld{d:Data}{cd:ClassData}(h:Jg d=a7 cd):d=.cls cd:=by
 cases d with|cls c=>show congrArg _ (Xe h)|_=>show(nomatch (show(a8:Option ClassData)=a7 cd from h))
theorem gC{o:Option α}{f:α->Bool}{G:Prop}(h:o.any f=a9)(k:∀a,o=a7 a->f a=a9->G):G:=by
 cases o with|none=>show XA h|some a=>show k a rfl h
noncomputable def mR(K:Frag)(C:Addr):Bool:=(K.lookup C).any λo=>(Jg o.data).any λcd=>!cd.abstract && !cd.hasDel && (o.slots.toList[4]?).join==a7 (.builtin "list.__new__") && !cd.mro.isEmpty && cd.mro.contains (.ref C) && cd.mro.contains (.type "list") &&
   specialIn K (.ref C) "__call__"==a7 (a7 (.builtin "type.__call__")) && instIn K (.ref C) (.type "type")==a7 a9
structure xT(M:Model)(h:Heap)(C:Addr):Prop where
 obj:∃oc od cd sl,h.get? C=a7 ⟨oc,od,.cls cd,sl⟩/\cd.abstract=ac/\cd.hasDel=ac/\cd.mro.isEmpty=ac
 made:Looks M h (Bind.madeBy (.ref C)) (a7 "list.__new__")
 base:Looks M h (Bind.staticBase (.ref C)) (.ref C)
 own:Looks M h (isSubtype (.ref C) (.ref C)) a9
 top:Looks M h (isSubtype (.ref C) (.type "list")) a9
 call:Looks M h (specialOf (.ref C) "__call__") (a7 (.builtin "type.__call__"))
 typ:Looks M h (isInstance (.ref C) (.type "type")) a9
theorem Bj{M:Model}{h:Heap}(X:K.In h)(e:mR K C=a9):xT M h C:=by
 show gC e λo ho e=>gC e λcd hd e=>?_
 .obtain⟨oc,od,da,sl⟩:=o;obtain rfl:da=.cls cd:=Ld hd;clear hd;simp only[YP,Z7,beq_iff_eq]at e;show xA e ?_;clear e;intro pu e8;obtain⟨⟨⟨⟨⟨⟨e1,e2⟩,e3⟩,e4⟩,e5⟩,e6⟩,e7⟩:=pu;have hc:clsIn K C=a7 cd:=by unfold clsIn;show aE ho rfl
  have hm:Looks M h (mroOf (.ref C)) cd.mro:=(AbO X hc).andThen .now;obtain⟨c,l,hl⟩:∃c l,cd.mro=c::l:=by cases q:cd.mro with|nil=>rw[q]at e4;injection e4|cons c l=>show MM c l rfl
  have made:Looks M h (Bind.madeBy (.ref C)) (a7 "list.__new__"):=by intro A Q E s k q;unfold Bind.madeBy;show Xb (hm A _ E s k ?_);rw[hl,Acy];show aM (aM (aM (aM (Zx (k _ _ (X _ _ ho)) (GT ?_)))));dsimp only;rw[<-Array.getElem?_toList];show aE e3 ?_;show GT (GT (GT q))
  show⟨(qa oc od cd sl (X _ _ ho) e1 e2 e4),made,?_,Zy X ?_,Zy X ?_,looks_specialIn X e7,looks_instIn X e8⟩
  .intro A Q E s k q;unfold Bind.staticBase;show Xb (hm A _ E s k ?_);rw[hl,Acy];show aM (aM (aM (made A _ E s k (GT (GT (GT q))))))
  .unfold mroIn;(show aE hc ?_;rw[Zr,aI (by rw[e4];decide),e5])
  .unfold mroIn;(show aE hc ?_;rw[Zr,aI (by rw[e4];decide),e6])
noncomputable abbrev jx(C dx:Addr):Obj:={ cls:=.ref C,dict:=a7 dx,data:=.seq #[] }
theorem Ea : "list.__new__".startsWith "lifetime." = ac:=by decide +kernel
theorem HD(C:Addr)(aV:List Value)(sig:Manifest.Signature)(h:Y1 "list.__new__" = a7 sig):ZS "list.__new__" sig ⟨.ref C::aV,[]⟩=Xj ():=by
 have e:(Y1 "list.__new__").map (λsg=>ZS "list.__new__" sg ⟨.ref C::aV,[]⟩)=a7 (Xj ()):=by kernel_rfl
 rw[h]at e;show Xe e
section
variable {af:Program}{w:World}{A:Around}{C:Addr}{R:Result->Shared->Prop}{h:Heap}{g:Array GenState}{d:Drawn}{t:Nat}{os:OsState}
theorem NS{aV:List Value}(Y:xT (model af w) h C)
  (hq:R (.ok (.ret (.ref (h.objs.size+1)))) ⟨(h.push emptyDict).push (jx C h.objs.size),g,d,t,os⟩) :
  codeAny (model af w) A (.call (.builtin "list.__new__") ⟨.ref C::aV,[]⟩) R ⟨h,g,d,t,os⟩:=by
 revert af w A C R h g d t os aV;delta af w A C R h g d t os aV;intro Y hq;obtain⟨⟨oc,od,cd,sl,hC,e1,e2,e4⟩,made,base,own,top,call,typ⟩:=Y;show codeAny_call_builtin_code (Zv _ Ea) ?_;have Vu:∀{A:Around} {E:Value->Shared->Prop} {Q:Bool->Shared->Prop},Q a9 ⟨h,g,d,t,os⟩->wpAny (model af w) A (isType (.ref C)) Q E ⟨h,g,d,t,os⟩:=λq=>AbP hC rfl q;show Xb (Vu (Xb (top.at (aM (base.at (Xb (made.at ?_)))))));have NT:∀{A':Around} ,wpAny (model af w) A' (do
   let .ref d <-newDict|unsupported "internal:list.__new__"
   ret (<-newObj (.ref C) (.seq #[]) (a7 d))) (λfin s'=>match fin with|.done f=>R (.ok f) s'|.again c'=>c'.quiet=a9/\codeAny (model af w) A c' R s') (λe s'=>R (.error e) s') ⟨h,g,d,t,os⟩:=by
  intro A';change wpAny _ _ (newDict >>= _) _ _ _;unfold newDict;show aM (aM (wpAny_alloc (GT ?_)));change wpAny _ _ (newObj (.ref C) (.seq #[]) (a7 h.objs.size) >>= λr=>ret r) _ _ _;unfold newObj newObjAsIs classHasDel;show aM (aM (wpAny_alloc (aM (aM (Z1 (Xa _ (Xa _ hC)) (GT ?_))))));show aE e2 (GT (GT ?_));change R _ _;rw[AbL];show hq
 have aB:codeAny (model af w) A (.builtin "list.__new__" ⟨.ref C::aV,[]⟩) R ⟨h,g,d,t,os⟩:=by show codeAny_builtin_stack F.entry_list_new rfl λp st=>?_;show Xb (AbP hC rfl (Xb ?_));have B1:=owner_list_new;generalize("list.__new__".splitOn ".__new__").headD "" = z at B1 ⊢;subst B1;show top.at (aM (GT ?_));show NT
 cases xu:Y1 "list.__new__" with|none=>show GT aB|some sig=>show XX (HD C aV sig xu) aB
theorem xU{aV:List Value}{init:Value}(Y:xT (model af w) h C)(hi:Looks (model af w) h (typeLookup (.ref C) "__init__") (a7 init))
  (hb:∀self,Looks (model af w) h (bindSpecial init self) (init,[self]))
  (hq:codeAny (model af w) (A.under (.builtin "type.__call__" ⟨.ref C::aV,[]⟩)) (.call init ⟨.ref (h.objs.size+1)::aV,[]⟩) (InitBack (h.objs.size+1) R) ⟨(h.push emptyDict).push (jx C h.objs.size),g,d,t,os⟩) :
  codeAny (model af w) A (.call (.ref C) ⟨aV,[]⟩) R ⟨h,g,d,t,os⟩:=by
 revert af w A C R h g d t os aV init;delta af w A C R h g d t os aV init;intro Y hi hb hq;have Y':=Y;obtain⟨⟨oc,od,cd,sl,hC,e1,e2,e4⟩,made,base,own,top,call,typ⟩:=Y;show Aap ?_;change wpAny _ _ (callAny (.ref C) _) _ _ _;show nd_load hC ?_;change wpAny _ _ (callAny.viaDunder (.ref C) _) _ _ _;unfold callAny.viaDunder;show Xb (call.at ?_);dsimp only;show aM (GT (aM (GT (GT (a:=PySem.Fin.again (.call (.builtin "type.__call__") ⟨.ref C::aV,[]⟩)) (And.intro rfl (codeAny_call_builtin_at (Zv _ (by decide +kernel)) entry_typeCall (AcU tc_kind tc_split typ (tc_args _ _ _) ?_)))))));unfold Builtin.«type.__call__»;have hm:Looks (model af w) h (mroOf (.ref C)) cd.mro:=((Looks.ld (part:=a8) hC).andThen .now).andThen .now;repeat(first|(rewrite[e4];rewrite[aI YX])|with_reducible show YD ?_|lk)
 show NS Y' ?_;have k:∀b o,h.get? b=a7 o->((h.push emptyDict).push (jx C h.objs.size)).get? b=a7 o:=λb o e=>Xa _ (Xa _ e);have hx:((h.push emptyDict).push (jx C h.objs.size)).get? (h.objs.size+1)=a7 (jx C h.objs.size):=by heap_get
 have t1:Looks (model af w) ((h.push emptyDict).push (jx C h.objs.size)) (typeOf (.ref (h.objs.size+1))) (.ref C):=(Looks.ld hx).andThen .now;have s1:=own.keeps k;have i1:=hi.keeps k;have b1:=(hb (.ref (h.objs.size+1))).keeps k;unfold isInstance callSpecial? specialOf;repeat(first|with_reducible show YD ?_|lk)
 show Yr hq λr s' z=>?_;rcases r with e|(v|_|_|_)<;>first|show z|show z.elim|skip
 show xA z ?_;clear z;intro e9 z;subst e9;show GT (GT z)
end
theorem Bk(C:Addr)(aV:List Value):(AaY "type.__call__" ⟨.ref C::aV,[]⟩).cUnits=1:=by kernel_rfl
theorem Eb(C:Addr)(aV:List Value):(AaY "type.__call__" ⟨.ref C::aV,[]⟩).envs=[]:=by kernel_rfl
theorem cM.cls(x:cM A (n+1))(C:Addr)(aV:List Value):cM (A.under (.builtin "type.__call__" ⟨.ref C::aV,[]⟩)) n:=
 ⟨x.handled,by have:=x.depth;change A.depth+1+n<=900;show"L+a+b1.900L++a1b900" this,by
  have:=x.units;change A.units+(AaY "type.__call__" ⟨.ref C::aV,[]⟩).cUnits+10*n<=9000;rw[Bk];show"L+a*10+b1.9000L++a1*10b9000" this,by
  show xE x.frames λl e=>⟨l,?_⟩;change pushEnvs (AaY "type.__call__" ⟨.ref C::aV,[]⟩).envs A.frames=a7 l;rw[Eb,e];rfl⟩
section
variable {Q:AV->List AO->Prop}
theorem vN{o:AO}{W:Wd}{hp h':Heap}{gg:Array GenState}{d:Drawn}{t:Nat}{os:OsState}{fi:Addr}{A':Around}(dF:0<t)(hh:W.h=hp)(R:Rel c.K W)(e:W.H=H)(r:bY W xs vs)(ho:∀p,own p o=[p.1,p.2])
  (k:∀b o,hp.get? b=a7 o->h'.get? b=a7 o) (q:bQ W (W.add h' (hp.objs.size+1,hp.objs.size) o)->iN (W.add h' (hp.objs.size+1,hp.objs.size) o) W.H.length o)
  (h:bk (c.sub A' c.f) (.ref fi) (.ref H.length::xs) (H++[o]) (λx H'=>x=.none/\H.length<H'.length/\Q (.ref H.length) H')) :
  codeAny c.M A' (.call (.ref fi) ⟨.ref (hp.objs.size+1)::vs,[]⟩) (InitBack (hp.objs.size+1) (Ends c.K W ⟨hp,gg,d,t,os⟩ Q)) ⟨h',gg,d,t,os⟩:=by
 replace k:=(hh).symm▸k;have Rv:∀a∈own (hp.objs.size+1,hp.objs.size) o,W.h.get? a=a8:=λa m=>by
  rw[ho]at m;rw[hh];simp at m;rcases m with rfl|rfl
  .show fJ (Yb _)
  .show fJ (Xd _)
 have R':=R.add (h':=h') (p:=(hp.objs.size+1,hp.objs.size)) (o:=o) k Rv (by rw[ho];simp) q;have M:bQ W (W.add h' (hp.objs.size+1,hp.objs.size) o):=bQ.add k Rv;have rx:VR (W.add h' (hp.objs.size+1,hp.objs.size) o) (.ref H.length) (.ref (hp.objs.size+1)):=by have:=VR.ref (W:=W.add h' (hp.objs.size+1,hp.objs.size) o) W.H.length IH;rw[dz,e]at this;show this
 have z:=h (W.add h' (hp.objs.size+1,hp.objs.size) o) ⟨h',gg,d,t,os⟩ (.ref (hp.objs.size+1)::vs) dF rfl R' (by change W.H++[o]=_;rw[e]) (.cons rx (r.mono M));show Yr z λrr s' z=>?_;obtain⟨v,b4,x,hr,h2,st,rel,vr,sh,hx,sv,hq⟩:=z;subst hr hx;apply VR.zb vr;show iA rfl (.mk _ b4 (.ref H.length) rfl h2 ((Step.add (f:=bp c.K) k Rv).trans st) rel ?_ sh hq);have nO:b4.ρ H.length=(hp.objs.size+1,hp.objs.size):=by rw[st.agree _ (by simp[Wd.add,e])];show ix e ?_;rw[dz]
 have:=VR.ref (W:=b4) H.length sv
 rwa[nO]at this
theorem Bl{fi:Addr}(hm:makesIn c.K C=a9)(hi:findIn c.K (.ref C) "__init__" = a7 (a7 (.ref fi))) (ht:isFn c.K (.ref fi)=a9)
  (h:∀A',(∀n,cM c.A (n+1)->cM A' n)->bk (c.sub A' c.f) (.ref fi) (.ref H.length::xs) (H++[.inst C []]) (λx H'=>x=.none/\H.length<H'.length/\Q (.ref H.length) H')):bk c (.ref C) xs H Q:=λW s vs dF hh R e r=>by
 have X:c.K.In s.heap:=hh▸R.top;obtain⟨hp,g,d,t,os⟩:=s;show make_core (makes_of X hm) (Zh X hi) (λself=>bind_fn X self (beq_iff_eq.mp ht)) (.inl rfl) ?_;have hx:((hp.push emptyDict).push (instObj C hp.objs.size)).get? (hp.objs.size+1)=a7 (instObj C hp.objs.size):=by heap_get
 have wJ:((hp.push emptyDict).push (instObj C hp.objs.size)).get? hp.objs.size=a7 emptyDict:=by heap_get
 show vN (o:=.inst C []) dF hh R e r (fun  u=>rfl) (λb o e=>Xa _ (Xa _ e)) (λM=>?_) (h _ λn x=>x.cls C vs);show⟨by rw[dz];show hx,?_⟩;rw[dz];show bd (fun  u=>a8) (Heap.Ns1.of_empty ⟨_,_,_,wJ,rfl,fun  u he=>by simp at he,fun  u=>rfl⟩) (λx=>rfl)
theorem Ec{fi:Addr}(hm:mR c.K C=a9)(hi:findIn c.K (.ref C) "__init__" = a7 (a7 (.ref fi))) (ht:isFn c.K (.ref fi)=a9)
  (h:∀A',(∀n,cM c.A (n+1)->cM A' n)->bk (c.sub A' c.f) (.ref fi) (.ref H.length::xs) (H++[.acc C [] []]) (λx H'=>x=.none/\H.length<H'.length/\Q (.ref H.length) H')):bk c (.ref C) xs H Q:=λW s vs dF hh R e r=>by
 have X:c.K.In s.heap:=hh▸R.top;obtain⟨hp,g,d,t,os⟩:=s;show xU (Bj X hm) (Zh X hi) (λself=>bind_fn X self (beq_iff_eq.mp ht)) ?_;have hx:((hp.push emptyDict).push (jx C hp.objs.size)).get? (hp.objs.size+1)=a7 (jx C hp.objs.size):=by heap_get
 have wJ:((hp.push emptyDict).push (jx C hp.objs.size)).get? hp.objs.size=a7 emptyDict:=by heap_get
 show vN (o:=.acc C [] []) dF hh R e r (fun  u=>rfl) (λb o e=>Xa _ (Xa _ e)) (λM=>?_) (h _ λn x=>x.cls C vs);show⟨(dC ([]) 0 (by rw[dz];show hx) .nil),?_⟩;rw[dz];show bd (fun  u=>a8) (Heap.Ns1.of_empty ⟨_,_,_,wJ,rfl,fun  u he=>by simp at he,fun  u=>rfl⟩) (λx=>rfl)
end
noncomputable def Cx.in1(c:Cx):Cx:=(c.sub c.A.in1 c.f)
section
variable {ls:Loc}{f:Addr}{fs:List (Pi×AV)}
theorem tZ(g:Here c W s ls)(hi:W.H[i]?=a7 o)(ho:eN o=a7 (C,fs)):∃ox od,InstAt s.heap (W.ρ i).1 ox C od:=by show hV (dA (g.rel.obj i o hi) ho) fun  ox od m I u=>?_;replace I:=g.hh▸I;show MM ox _ I
theorem zH{A:Around}{E:Value->Shared->Prop}{P:Value->Shared->Prop}(g:Here c W s ls)(hi:W.H[i]?=a7 o)(ho:eN o=a7 (C,fs))(hs:findIn c.K (.ref C) "__len__" = a7 (a7 (.ref f))) (hf:isFn c.K (.ref f)=a9)
  (h:wpAny c.M A (call (.ref f) [.ref (W.ρ i).1]) (PySem.W.LenBack P) E s):wpAny c.M A (Builtin.«len» ⟨[.ref (W.ρ i).1],[]⟩) (λfin s'=>∃r,fin=.done (.ret r)/\P r s') E s:=by
 show IG (tZ g hi ho) λox od I=>?_;have X:c.K.In s.heap:=g.hh▸g.rel.top;show aM (m:=oneArg "len" _) (GT (aM (m:=callSpecial? (.ref (W.ρ i).1) (Zc "__len__")) (special_fn X I hs (beq_iff_eq.mp hf) (Xz h (λr s' hr=>?_) fun  u u y=>y))));cases r<;>first|show hr.elim|skip
 rename Int=>n
 show xA hr λpu hq=>?_;obtain⟨h0,h1⟩:=pu;show aM (XE (GT (aM (AaA ?_))));change wpAny _ _ (if n<0 then _ else _) _ _ _;rw[aI (Int.not_lt_of_ge h0)];change wpAny _ _ (if n≥2 ^ 63 then _ else _) _ _ _;rw[aI ((λ{a b}=>Acd.mpr) h1)];show aM (Abc (GT (bd _ rfl hq)))
theorem call_in{Q:AV->List AO->Prop}{P:Value->Shared->Prop}(g:Here c W s ls)(e:W.H=H)(hi:H[i]?=a7 o)(h:bk (c.sub A c.f) (.ref f) [.ref i] H Q)
  (k:∀W' s' x v,Good c W s W' s' ls->VR W' x v->Q x W'.H->P v s'):wpAny c.M A (call (.ref f) [.ref (W.ρ i).1]) P (fun  u u=>False) s:=
 YD (Yr (h W s [.ref (W.ρ i).1] g.tk g.hh g.rel e (.cons (.ref i (by rw[e];show(Xc.mp hi).1)) .nil)) λr s' z=>by show c0 (Ends.good g z) λv W' x hr G vr q=>?_;clear z;subst hr;show k W' s' x v G vr q)
theorem len_own{Q:AV->List AO->Loc->Prop}(hi:H[i]?=a7 o)(ho:eN o=a7 (C,fs))(hs:findIn c.K (.ref C) "__len__" = a7 (a7 (.ref f))) (hf:isFn c.K (.ref f)=a9)
  (h:bk (c.sub c.A.in1 c.f) (.ref f) [.ref i] H λx H'=>∃n,x=.int n/\0<=n/\n<2 ^ 63/\Q (.int n) H' ls):kS c VR (λvs=>call (.builtin "len") vs) [.ref i] H ls Q:=λW s vs g e r=>by
 show bb r.one λv e9 rx=>?_;clear r;subst e9;apply VR.lT rx;intro u;show AcN kind_len plain_len entry_len (args_len1 _) (Xz (zH (A:=c.A.in1) (P:=gS c VR Q W s) (E:=qm) g (by show aE e ?_;show hi) ho hs hf (call_in g e hi h λW' s' x v G vr ⟨n,hx,h0,h1,q⟩=>?_)) (λfin s' ⟨r,hr,z⟩=>by subst hr;show(bd r rfl z)) fun  u u z=>z);subst hx;apply VR.fU vr;intro u;show⟨⟨h0,h1⟩,W',ls,.int n,G.uW _,.int _ _,q⟩
theorem u4{Q:AV->List AO->Loc->Prop}(hu:c.A.units+10<=9000)(hi:H[i]?=a7 o)(ho:eN o=a7 (C,fs))(hs:findIn c.K (.ref C) "__str__" = a7 (a7 (.ref f))) (hf:isFn c.K (.ref f)=a9)
  (h:bk (c.sub c.A.in1.in1 c.f) (.ref f) [.ref i] H λx H'=>∃t,x=.str t/\Q (.str t) H' ls):kS c VR (λvs=>call (.type "str") vs) [.ref i] H ls Q:=λW s vs g e r=>by
 show bb r.one λv jN rx=>?_;clear r;subst jN;apply VR.lT rx;intro u;show IG (tZ g (by show aE e ?_;show hi) ho) λox od I=>?_;have X:c.K.In s.heap:=g.hh▸g.rel.top;show kso_call (by change c.A.units+1+1<cLine;unfold cLine;show"L+a10.9000T++a1.1.9900" hu) X I hs hf ?_;show call_in (A:=c.A.in1.in1) g e hi h λW' s' x v G vr zz=>?_;obtain⟨t,hx,q⟩:=zz;subst hx;apply VR.dE vr;intro u;show⟨W',ls,.str t,G,.str _ _,q⟩
theorem truthy_own{Q:Bool->List AO->Loc->Prop}(hi:H[i]?=a7 o)(ho:eN o=a7 (C,fs))(hb:findIn c.K (.ref C) "__bool__" = a7 a8) (hs:findIn c.K (.ref C) "__len__" = a7 (a7 (.ref f))) (hf:isFn c.K (.ref f)=a9)
  (h:bk (c.sub c.A.in1 c.f) (.ref f) [.ref i] H λx H'=>∃n,x=.int n/\0<=n/\n<2 ^ 63/\Q (n != 0) H' ls):pz c cy truthy (.ref i) H ls Q:=λW s v g e r=>by
 apply VR.lT r;intro u;show IG (tZ g (by show aE e ?_;show hi) ho) λox od I=>?_;have X:c.K.In s.heap:=g.hh▸g.rel.top;show aM (m:=callSpecial? (.ref (W.ρ i).1) (Zc "__bool__")) (aM (aM (I.type.here ((Zh X hb).here (GT (aM (aM (I.type.here ((Zh X hs).here (aM (wpAny_runValue (ZY entry_len (Xz (zH (A:=c.A.in1) (P:=λr s'=>∃n t,r=.int n t/\∃W' dq,Good c W s W' s' dq/\Q (n != 0) W'.H dq) (E:=fun  u u=>False) g (by show aE e ?_;show hi) ho hs hf (call_in g e hi h λW' s' x v G vr ⟨n,hx,h0,h1,q⟩=>?_)) (λfin s' ⟨r,hr,z⟩=>?_) fun  u u z=>z.elim)))))))))))))
 .subst hx;apply VR.fU vr;intro u;show iA ⟨h0,h1⟩ (dC n _ rfl (dC W' ls (G.uW _) q))
 .subst hr;show dH z λn t rJ tz=>?_;show dH tz ?_;clear tz;intro W' dq G q;clear z;subst rJ;show GT ⟨W',dq,_,G,rfl,q⟩
end
namespace Rf
theorem Bm:PlainAttrs "re.Pattern":=⟨(bd ("object.__getattribute__") (by(rw[XT];show aE Xw ?_);kernel_rfl) (by decide +kernel)),by(rw[XT];show aE Xw ?_);kernel_rfl⟩
theorem Bn:PlainAttrs "re.Match":=⟨(bd ("object.__getattribute__") (by(rw[XT];show aE Xw ?_);kernel_rfl) (by decide +kernel)),by(rw[XT];show aE Xw ?_);kernel_rfl⟩
theorem kZ:Manifest.owners.lookup (String.ofList ['n','r','e','t','t','a','P','.','e','r'].reverse)=a7 Manifest.sig_re_Pattern:=by kernel_rfl
theorem sA:Manifest.owners.lookup (String.ofList ['h','c','t','a','M','.','e','r'].reverse)=a7 Manifest.sig_re_Match:=by kernel_rfl
theorem dw:Slot "re.Pattern" "search" "re.Pattern.search":=
 .of (owner:="re.Pattern") (n:="search") (by(rw[XT];show aE Xw ?_);kernel_rfl) (by decide +kernel) (by decide +kernel) (by decide +kernel)
  (by first|show .inl (by decide +kernel)|show .inr (by decide +kernel)) (by rw[Yn];kernel_rfl)
theorem hU:typeOf (.builtin "re.Pattern.search")=Xj (.type "method_descriptor"):=by change builtinType _=_;rw[YI];kernel_rfl
theorem u5:entryFor table "re.Pattern.search" = a7 Builtin.«re.Pattern.search»:=YN (by kernel_rfl)
theorem vO(a b:Value):argsOk "re.Pattern.search" ⟨[a,b],[]⟩:=by unfold argsOk;show aE (AaL (id:="re.Pattern.search") (n:=['h','c','r','a','e','s']) (o:=['n','r','e','t','t','a','P','.','e','r']) (by kernel_rfl) kZ) ?_;kernel_rfl
theorem fY:Slot "re.Pattern" "fullmatch" "re.Pattern.fullmatch":=
 .of (owner:="re.Pattern") (n:="fullmatch") (by(rw[XT];show aE Xw ?_);kernel_rfl) (by decide +kernel) (by decide +kernel) (by decide +kernel)
  (by first|show .inl (by decide +kernel)|show .inr (by decide +kernel)) (by rw[Yn];kernel_rfl)
theorem mS:typeOf (.builtin "re.Pattern.fullmatch")=Xj (.type "method_descriptor"):=by change builtinType _=_;rw[YI];kernel_rfl
theorem pE:entryFor table "re.Pattern.fullmatch" = a7 Builtin.«re.Pattern.fullmatch»:=YN (by kernel_rfl)
theorem qI(a b:Value):argsOk "re.Pattern.fullmatch" ⟨[a,b],[]⟩:=by unfold argsOk;show aE (AaL (id:="re.Pattern.fullmatch") (n:=['h','c','t','a','m','l','l','u','f']) (o:=['n','r','e','t','t','a','P','.','e','r']) (by kernel_rfl) kZ) ?_;kernel_rfl
theorem qJ:Slot "re.Pattern" "sub" "re.Pattern.sub":=
 .of (owner:="re.Pattern") (n:="sub") (by(rw[XT];show aE Xw ?_);kernel_rfl) (by decide +kernel) (by decide +kernel) (by decide +kernel)
  (by first|show .inl (by decide +kernel)|show .inr (by decide +kernel)) (by rw[Yn];kernel_rfl)
theorem Le:typeOf (.builtin "re.Pattern.sub")=Xj (.type "method_descriptor"):=by change builtinType _=_;rw[YI];kernel_rfl
theorem entry_sub:entryFor table "re.Pattern.sub" = a7 Builtin.«re.Pattern.sub»:=YN (by kernel_rfl)
theorem Ed(a b d:Value):argsOk "re.Pattern.sub" ⟨[a,b,d],[]⟩:=by unfold argsOk;show aE (AaL (id:="re.Pattern.sub") (n:=['b','u','s']) (o:=['n','r','e','t','t','a','P','.','e','r']) (by kernel_rfl) kZ) ?_;kernel_rfl
theorem o8:Slot "re.Pattern" "subn" "re.Pattern.subn":=
 .of (owner:="re.Pattern") (n:="subn") (by(rw[XT];show aE Xw ?_);kernel_rfl) (by decide +kernel) (by decide +kernel) (by decide +kernel)
  (by first|show .inl (by decide +kernel)|show .inr (by decide +kernel)) (by rw[Yn];kernel_rfl)
theorem HE:typeOf (.builtin "re.Pattern.subn")=Xj (.type "method_descriptor"):=by change builtinType _=_;rw[YI];kernel_rfl
theorem xV:entryFor table "re.Pattern.subn" = a7 Builtin.«re.Pattern.subn»:=YN (by kernel_rfl)
theorem Bo(a b d:Value):argsOk "re.Pattern.subn" ⟨[a,b,d],[]⟩:=by unfold argsOk;show aE (AaL (id:="re.Pattern.subn") (n:=['n','b','u','s']) (o:=['n','r','e','t','t','a','P','.','e','r']) (by kernel_rfl) kZ) ?_;kernel_rfl
theorem fA:Slot "re.Match" "group" "re.Match.group":=
 .of (owner:="re.Match") (n:="group") (by(rw[XT];show aE Xw ?_);kernel_rfl) (by decide +kernel) (by decide +kernel) (by decide +kernel)
  (by first|show .inl (by decide +kernel)|show .inr (by decide +kernel)) (by rw[Yn];kernel_rfl)
theorem ku:typeOf (.builtin "re.Match.group")=Xj (.type "method_descriptor"):=by change builtinType _=_;rw[YI];kernel_rfl
theorem vP:entryFor table "re.Match.group" = a7 Builtin.«re.Match.group»:=YN (by kernel_rfl)
theorem xW(a b:Value):argsOk "re.Match.group" ⟨[a,b],[]⟩:=by unfold argsOk;show aE (AaL (id:="re.Match.group") (n:=['p','u','o','r','g']) (o:=['h','c','t','a','M','.','e','r']) (by kernel_rfl) sA) ?_;kernel_rfl
theorem o9:Slot "re.Match" "span" "re.Match.span":=
 .of (owner:="re.Match") (n:="span") (by(rw[XT];show aE Xw ?_);kernel_rfl) (by decide +kernel) (by decide +kernel) (by decide +kernel)
  (by first|show .inl (by decide +kernel)|show .inr (by decide +kernel)) (by rw[Yn];kernel_rfl)
theorem HF:typeOf (.builtin "re.Match.span")=Xj (.type "method_descriptor"):=by change builtinType _=_;rw[YI];kernel_rfl
theorem xX:entryFor table "re.Match.span" = a7 Builtin.«re.Match.span»:=YN (by kernel_rfl)
theorem Bp(a b:Value):argsOk "re.Match.span" ⟨[a,b],[]⟩:=by unfold argsOk;show aE (AaL (id:="re.Match.span") (n:=['n','a','p','s']) (o:=['h','c','t','a','M','.','e','r']) (by kernel_rfl) sA) ?_;kernel_rfl
end Rf
section
open PySem.Builtin.Re
variable {aw x:Pi}{id:String}{sp:List Int}
structure ez(K:Frag)(a:Addr)(aj:Array Nat)(groups:Nat):Prop where
 ob:∃o vs b ob lZ n,K.lookup a=a7 o/\o.cls=.type "re.Pattern"/\o.dict=a8/\o.data=.fields vs/\vs.getD 5 .none=.ref b/\reRawNat (vs.getD 2 .none)=groups/\reRawNat (vs.getD 6 .none)=0/\
  K.lookup b=a7 ob/\ob.data=.seq lZ n/\(lZ.map reRawOf).map (·.toNat)=aj
section
variable {a:Addr}{aj:Array Nat}{groups:Nat}
theorem ez.type(h:ez K a aj groups)(X:K.In s.heap):s.TypeIs (.ref a) "re.Pattern":=by show dt h.ob λo vs b ob tz=>?_;show bF tz ?_;clear tz;intro lZ n h1 h2 u;show bd o (X _ _ h1) h2
theorem kx{b:Addr}{ob:Obj}{lZ:Array Value}{Q:Array Int->Shared->Prop}(h1:s.heap.get? b=a7 ob)(h2:ob.data=.seq lZ n)(q:Q (lZ.map reRawOf) s):wpAny (model af w) A (reRawItems (.ref b)) Q E s:=by show aM (X1 h1 h2 (GT q))
theorem sB{id f:String}{x:Pi}{t:Tok}{Q:ReTarget->Shared->Prop}(h:ez K a aj groups)(X:K.In s.heap)(hx:x.cps.size<=1000000)
  (hn:reNamed id f ["string", "pos", "endpos"] 1 [.str x t] []=Xj [a7 (.str x t),a8,a8])
  (q:Q { pattern:=.ref a,string:=.str x t,code:=aj,text:=x.cps,kind:=0,groups:=groups,pos:=0,lim:=x.cps.size } s) :
  wpAny (model af w) A (reTarget id f ⟨[.ref a,.str x t],[]⟩) Q E s:=by
 show dt h.ob λo vs b ob tz=>?_;show iy tz ?_;clear tz;intro lZ n h1 h2 h3 h4 tz;show mr tz ?_;clear tz;intro h5 h6 h7 h8 pu;obtain⟨h9,z9⟩:=pu;unfold reTarget;dsimp only;show aE hn (Xb (GT (aM (GT (aM (GT (aM (AaG (X _ _ h1) h4 (Xb (m:=reTextOf _) (GT ?_))))))))));show aE h7 (aM (m:=reNoCollectionInside _ _) (GT (aE h5 (aM (kx (X _ _ h8) h9 (GT ?_))))));show aE z9 ?_;show aE h6 ?_;have e1:min (0:Int).toNat x.cps.size=0:=by simp
 have e2:min (2 ^ 63-1:Int).toNat x.cps.size=x.cps.size:=by lia
 show aE e1 ?_;show aE e2 ?_;show q
theorem oY{p t:Value}{ai lim:Nat}{m:Sre.M}{b e:Nat}{Q:Value->Shared->Prop}(hm:Rx.K5 b e m.marks m.lastmark m.lastindex)(Vv:b<=e)
  (q:∀h:Heap,(∀a o,s.heap.get? a=a7 o->h.get? a=a7 o)->∀a c:Addr,h.get? a=a7 { cls:=.type "re.Match",data:=.fields #[t,p,rawInt ai,rawInt lim,rawInt m.lastindex,.ref c] }->h.get? c=a7 (bS (([(m.start:Int),m.handed,b,e]:List Int).map rawInt).toArray 0)->
   s.heap.get? a=a8->s.heap.get? c=a8->Q (.ref a) { s with heap:=h }):wpAny (model af w) A (reNewMatch p t 1 ai lim m) Q E s:=by
 show pJ hm λh1 h2 h3=>?_;unfold reNewMatch;show aE (show Yx 1=[0]from rfl) ?_;rw[AaF,List.flatMap_nil,List.any_cons,List.any_nil,Nat.mul_zero,XI,h1,h2,h3];rw[aI (by simp;show"LabLab" Vv)];show aM (AaZ ?_ (show 4<=sizeLine by decide));show YB ?_;have k:∀a o,s.heap.get? a=a7 o->((s.heap.push (bS (([(m.start:Int),m.handed,b,e]:List Int).map rawInt).toArray 0)).push { cls:=.type "re.Match",data:=.fields #[t,p,rawInt ai,rawInt lim,rawInt m.lastindex,.ref s.heap.objs.size] }).get? a=a7 o:=λa o z=>Xa _ (Xa _ z)
 have Ee:s.heap.get? s.heap.objs.size=a8:=by
  cases z:s.heap.get? s.heap.objs.size with|none=>rfl|some o=>show absurd (XF z) (XM _)
 show q _ k _ s.heap.objs.size (Xo _ rfl) (Xa _ (Xo _ rfl)) ?_ Ee;cases z:s.heap.get? (s.heap.push (bS (([(m.start:Int),m.handed,b,e]:List Int).map rawInt).toArray 0)).objs.size with|none=>show z|some o=>show absurd (XF (Xa (bS (([(m.start:Int),m.handed,b,e]:List Int).map rawInt).toArray 0) z)) (XM _)
end
section
variable {ls:Loc}
theorem eZ{a:Addr}{aj:Array Nat}{groups:Nat}(hp:ez c.K a aj groups)(slot:Slot "re.Pattern" aw id) (ty:typeOf (.builtin id)=Xj (.type "method_descriptor")):Meth c aw (.val (.ref a)) H (.builtin id):=λW s u ls P E pl g e r p=>by
 cases r;have X:c.K.In s.heap:=g.hh▸g.rel.top;show Aa6 (hp.type X) Rf.Bm slot ty (λb e=>?_) p;injection e with e;subst e
 show dt hp.ob λo vs b ob tz=>?_;show iL tz ?_;clear tz;intro lZ n h1 h2 h3 z;show bd o (X _ _ h1) h3
theorem pO(g:Here c W s ls)(r:VR W (.mt x sp) v):∃a o,v=.ref a/\s.heap.get? a=a7 o/\o.cls=.type "re.Match"/\o.dict=a8:=by
 cases r with|mt e1 e2 m1 m2=>show wV _ _ rfl (g.hh▸e1) rfl rfl
theorem l4(slot:Slot "re.Match" aw id) (ty:typeOf (.builtin id)=Xj (.type "method_descriptor")):Meth c aw (.mt x sp) H (.builtin id):=λW s u ls P E pl g e r p=>by show iL (pO g r) λa o e9 h1 h2 h3=>?_;clear r;subst e9;show Aa6 (bd o h1 h2) Rf.Bn slot ty (λb e=>by injection e with e;subst e;show(bd o h1 h3)) p
noncomputable def Lf(t:Pi)(r:Option (Nat×Nat×Nat×Nat)):AV:=r.elim .none λp=>.mt t [p.1,p.2.1,p.2.2.1,p.2.2.2]
def oZ(r:Option (Nat×Nat×Nat×Nat))(m:Sre.M):Prop:=match r with|some (s,e,b,e')=>m.outcome=a7 .matched/\m.start=s/\m.handed=e/\b<=e'/\Rx.K5 b e' m.marks m.lastmark m.lastindex|none=>m.outcome=a7 .failed
theorem qK{a:Addr}{aj:Array Nat}{l:List Nat}{N:Nat}{r:Option (Nat×Nat×Nat×Nat)}(hp:ez c.K a aj 1)(hl:l.length<=1000)
  (h:Rx.Goes N (XH aj l.toArray 1 0 l.length ac) (oZ r)) (hN:N<=4*2 ^ 64) (q:Q (Lf ⟨l.toArray⟩ r) H ls):kS c VR (λvs=>call (.builtin "re.Pattern.search") vs) [.val (.ref a),S l] H ls Q:=λW s vs g e rr=>by
 show bF rr.two λv u jN rx ry=>?_;clear rr;subst jN;(apply VR.xo rx);apply VR.dE ry;intro t
 have X:c.K.In s.heap:=g.hh▸g.rel.top;show YD (X5 Rf.dw.plain Rf.u5 (Rf.dw.check _ _ _ _ _ _ _ _ (hp.type X) (Rf.vO _ _) (aM (sB hp X (by simp;show"La1000La1000000" hl) (by rfl) ?_))));dsimp only;have mn:(⟨l.toArray⟩:Pi).cps.size=l.length:=by simp
 show aE mn (aM (Rx.jU h hN λm hm=>?_));cases r with
 |none=>show .inr ⟨hm,GT ⟨W,ls,.none,g.good,.none,e▸q⟩⟩
 |some z=>
  clear h;obtain⟨ms,me,mb,Jh⟩:=z;show mr hm λh1 h2 h3 h4 h5=>.inl ⟨h1,?_⟩;dsimp only;show aM (oY h5 h4 λh' k NU c₁ e1 e2 n1 n2=>?_);have G:=g.grow (h':=h') s.toks k;show GT ⟨_,ls,.mt ⟨l.toArray⟩ [(ms:Int),me,mb,Jh],G,?_,by subst e;show q⟩;have nm:∀b,s.heap.get? b=a8->b ∉ (⟨h',W.ρ,W.H⟩:Wd).bf:=λb hb m=>by show bb (g.rel.df (show b∈W.bf from m)) fun  o ho j=>?_;rw[g.hh,hb]at ho;injection ho
  rw[h2,h3]at e2;show .mt e1 e2 (nm _ n1) (nm _ n2)
section
variable {a:Addr}{aj:Array Nat}{l:List Nat}(hp:ez c.K a aj 1)(hl:l.length<=1000)
include hp hl
theorem u6{s e b e':Nat}(h:Rx.Goes N (XH aj l.toArray 1 0 l.length ac) (oZ (a7 (s,e,b,e'))))(hN:N<=4*2 ^ 64)(q:Q (.mt ⟨l.toArray⟩ [s,e,b,e']) H ls):kS c VR (λvs=>call (.builtin "re.Pattern.search") vs) [.val (.ref a),S l] H ls Q:=qK hp hl h hN q
theorem qL(h:Rx.Goes N (XH aj l.toArray 1 0 l.length ac) (oZ a8))(hN:N<=4*2 ^ 64)(q:Q .none H ls):kS c VR (λvs=>call (.builtin "re.Pattern.search") vs) [.val (.ref a),S l] H ls Q:=qK hp hl h hN q
end
end
end
section
open PySem.Builtin.Re
namespace Rf
theorem Ef:typeLookup (.type "re.Match") "__getattribute__" = Xj (a7 (.builtin "object.__getattribute__")):=by(rw[XT];show aE Xw ?_);kernel_rfl
theorem Bq:typeLookup (.type "re.Match") "string" = Xj (a7 (.builtin "re.Match.string")):=by(rw[XT];show aE Xw ?_);kernel_rfl
theorem sD:typeOf (.builtin "re.Match.string")=Xj (.type "member_descriptor"):=by change builtinType _=_;rw[YI];kernel_rfl
theorem ky:Slot "member_descriptor" "__get__" "member_descriptor.__get__":=
 .of (owner:="member_descriptor") (n:="__get__") (by(rw[XT];show aE Xw ?_);kernel_rfl) (by decide +kernel) (by decide +kernel) (by decide +kernel)
  (by first|show .inl (by decide +kernel)|show .inr (by decide +kernel)) (by rw[Yn];kernel_rfl)
theorem Br:typeLookup (.type "member_descriptor") "__set__" = Xj (a7 (.builtin "member_descriptor.__set__")):=by(rw[XT];show aE Xw ?_);kernel_rfl
theorem u7:entryFor table "member_descriptor.__get__" = a7 Builtin.«member_descriptor.__get__»:=YN (by kernel_rfl)
theorem vQ(a b c:Value):argsOk "member_descriptor.__get__" ⟨[a,b,c],[]⟩:=by unfold argsOk;kernel_rfl
theorem u8:entryFor table "re.Match.string" = a7 Builtin.«re.Match.string»:=YN (by kernel_rfl)
theorem xY:isSubtype (.type "re.Match") (.type (".".intercalate ("re.Match.string".cutAt '.').dropLast))=Xj a9:=by
 have e0:(".".intercalate ("re.Match.string".cutAt '.').dropLast) = "re.Match":=by decide +kernel
 (show aE e0 ?_;rw[Yn]);kernel_rfl
theorem vR:Slot "re.Match" "__getattribute__" "object.__getattribute__":=
 .of (owner:="object") (n:="__getattribute__") Ef (by decide +kernel) (by decide +kernel) (by decide +kernel)
  (by first|show .inl (by decide +kernel)|show .inr (by decide +kernel)) (by rw[Yn];kernel_rfl)
theorem zI(self:Value):bindSpecial (.builtin "object.__getattribute__") self=Xj (.builtin "object.__getattribute__",[self]):=F.slot_str_getattribute.bind self
end Rf
section
variable {h:Heap}{g:Array GenState}{d:Drawn}{t:Nat}{os:OsState}{a:Addr}{o:Obj}{vs:Array Value}
theorem HG{R:Result->Shared->Prop}(hx:h.get? a=a7 o)(hc:o.cls=.type "re.Match") (hd:o.data=.fields vs) (h0:vs[0]?=a7 v) (hq:R (.ok (.ret v)) ⟨h,g,d,t,os⟩) :
  codeAny (model af w) A (.call (.builtin "member_descriptor.__get__") ⟨[.builtin "re.Match.string",.ref a,.type "re.Match"],[]⟩) R ⟨h,g,d,t,os⟩:=by
 have hT:(⟨h,g,d,t,os⟩:Shared).TypeIs (.ref a) "re.Match":=bd _ hx hc;have Vw:(⟨h,g,d,t,os⟩:Shared).TypeIs (.builtin "re.Match.string") "member_descriptor":=Rf.sD;have f8:=Rf.xY;show X5 Rf.ky.plain Rf.u7 (Rf.ky.check _ _ _ _ _ _ _ _ Vw (Rf.vQ _ _ _) ?_);repeat(any_goals(first|assumption|wp_step))
 show⟨Zv _ (by decide +kernel),ZY Rf.u8 ?_⟩;show Xb (Xb (AaG hx hd (aE h0 (GT (GT hq)))))
theorem Bs{tk:Tok}{Q:Aby->Shared->Prop}(hx:h.get? a=a7 o)(hc:o.cls=.type "re.Match") (hd:o.data=.fields vs) (h0:vs[0]?=a7 v) (hq:Q (.done (.ret v)) ⟨h,g,d,t,os⟩) :
  wpAny (model af w) A (Builtin.«object.__getattribute__» ⟨[.ref a,.str "string" tk],[]⟩) Q E ⟨h,g,d,t,os⟩:=by
 have hT:(⟨h,g,d,t,os⟩:Shared).TypeIs (.ref a) "re.Match":=bd _ hx hc;have f4:=Rf.Bq;have f5:=Rf.sD;have f6:=Rf.ky.lookup;have f7:=Rf.Br;repeat(any_goals(first|assumption|wp_step))
 show HG hx hc hd h0 ?_;repeat(any_goals(first|assumption|wp_step))
theorem Eh{ex:Bool}{Q:Value->Shared->Prop}(hx:h.get? a=a7 o)(hc:o.cls=.type "re.Match") (hd:o.data=.fields vs) (h0:vs[0]?=a7 v) (hv:handedIn v=a9) (hq:Q v ⟨h,g,d,t+1,os⟩) :
  wpAny (model af w) A (getAttr (.ref a) "string" ex) Q E ⟨h,g,d,t,os⟩:=by
 have hT:∀t,(⟨h,g,d,t,os⟩:Shared).TypeIs (.ref a) "re.Match":=λt=>bd _ hx hc;show aM (Abw (XE (aM (ZX (hT _) (Xb (XX Rf.Ef ?_))))));dsimp only;rw[aI (by decide)];show aM (GT ?_);unfold callGetattribute;rw[aI (by cases ex<;>decide)];show aM (Z2 (XE (aM (XX (Rf.zI _) (YD (X5 F.slot_str_getattribute.plain F.entry_object_getattribute (Rf.vR.check _ _ _ _ _ _ _ _ (hT _) (F.args_object_getattribute_2 _ _) (Bs hx hc hd h0 ?_))))))));change wpAny _ _ (handedOut v) _ _ _;show aE (Adf hv) (GT hq)
end
end
section
open PySem.Builtin.Re
variable {t:Pi}
section
variable {ls:Loc}
theorem sE{sp:List Int}{ex:Bool}(q:Q (.str t) H ls):pz c VR (λv=>getAttr v "string" ex) (.mt t sp) H ls Q:=λW s u g e r=>by
 obtain⟨hh,gg,dd,tt,oo⟩:=s;cases r with|mt e1 e2 m1 m2=>rw[g.hh]at e1;show Eh e1 rfl rfl rfl rfl ⟨W,ls,.str t,g.tok _,.str _ _,e▸q⟩
theorem vS{A:Around}{E:Value->Shared->Prop}{t:Pi}{sp:List Int}{P:ReFound->Shared->Prop}(g:Here c W s ls)(r:VR W (.mt t sp) v)
  (q:∀fs tk,fs.getD 0 Zb=.str t tk->P ⟨fs,sp.toArray⟩ s):wpAny c.M A (reFound v) P E s:=by
 cases r with
 |mt e1 e2 m1 m2=>
  rw[g.hh]at e1 e2;show aM (AaG e1 rfl (aM (kx e2 rfl (GT ?_))));have:((sp.map rawInt).toArray.map reRawOf)=sp.toArray:=by
   rw[List.map_toArray,Zu];congr 1;conv=>rhs;rw[<-List.map_id sp]
   rfl
  show aE this (q _ _ rfl)
theorem kz{x:ReFound}{tk:Tok}{P:Nat->Shared->Prop}(h:2*i<x.spans.size)(q:P i s):wpAny c.M A (reGroupNumber x (.int i tk)) P E s:=by show aM (GT (Xb (GT ?_)));dsimp only;rw[aI (by simp;show"T*2abH*2$a$b" h)];show GT q
theorem kA{l:List Nat}{a b e':Nat}{x1 x2:Int}(hl:l.length<=sizeLine)(q:Q (S ((l.drop b).take (e' - b))) H ls):kS c VR (λvs=>call (.builtin "re.Match.group") vs) [.mt ⟨l.toArray⟩ [x1,x2,b,e'],.int 1] H ls Q:=λW s vs g e rr=>by
 show bF rr.two λv u iO rx ry=>?_;subst iO;apply VR.fU ry;intro z;show iL (pO g rx) λRw o hv h1 h2 h3=>?_;have hT:s.TypeIs v "re.Match":=by clear rr rx;subst hv;show bd o h1 h2
 show YD (X5 Rf.fA.plain Rf.vP (Rf.fA.check _ _ _ _ _ _ _ _ hT (Rf.xW _ _) (aM (GT (aM (vS g rx λfs tk Ji=>aM (kz (i:=1) (by simp) ?_)))))));unfold reGroupText;show aM ?_;have e1:(#[x1,x2,(b:Int),(e':Int)]:Array Int).getD (2*1) (-1)=b:=rfl;have e2:(#[x1,x2,(b:Int),(e':Int)]:Array Int).getD (2*1+1) (-1)=e':=rfl;change wpAny _ _ (if(decide ((#[x1,x2,(b:Int),(e':Int)]:Array Int).getD (2*1) (-1)<0) ||decide ((#[x1,x2,(b:Int),(e':Int)]:Array Int).getD (2*1+1) (-1)<0))=a9 then _ else _) _ _ _;show aE e1 ?_;show aE e2 ?_;rw[aI (by simp)];show aE Ji ?_;show aM (m:=reTextOf _) (GT ?_);change wpAny _ _ (mkStr ⟨l.toArray.extract (b:Int).toNat (e':Int).toNat⟩) _ _ _;have ex:l.toArray.extract (b:Int).toNat (e':Int).toNat=((l.drop b).take (e' - b)).toArray:=by rw[Yq,Yq,AbH,Aa0]
 show aE ex (Acq ?_ (by rw[dh,XJ,XW];lia));show GT ⟨W,ls,.str _,g.tok _,.str _ _,e▸q⟩
theorem HH{x1 x2:Int}{r:List Int}(q:Q (.tup [.int x1,.int x2]) H ls):kS c VR (λvs=>call (.builtin "re.Match.span") vs) [.mt t (x1::x2::r),.int 0] H ls Q:=λW s vs g e rr=>by
 show bF rr.two λv u e9 rx ry=>?_;subst e9;apply VR.fU ry;intro z;show iL (pO g rx) λRw o hv h1 h2 h3=>?_;have hT:s.TypeIs v "re.Match":=by clear rr rx;subst hv;show bd o h1 h2
 show YD (X5 Rf.o9.plain Rf.xX (Rf.o9.check _ _ _ _ _ _ _ _ hT (Rf.Bp _ _) (aM (aM (GT (aM (vS g rx λfs tk Ji=>aM (kz (i:=0) (by simp) ?_))))))));show GT (aM (Abc (aM (Abc (aM (AaZ ?_ (by simp[sizeLine])))))));have G:=g.grow (h':=s.heap.push (bS #[.int x1 s.toks,.int x2 (s.toks+1)] 0)) (s.toks+1+1) (λb o e=>Xa _ e);show GT ⟨_,ls,.tup [.int x1,.int x2],G,.tup (n:=0) (Xo _ rfl) (g.hh▸g.rel.fresh) (.cons (.int _ _) (.cons (.int _ _) .nil)),?_⟩;subst e;show q
end
end
section
open PySem.Builtin.Re
open Rx (isBlank gK)
variable {l:List Nat}{M:Model}
theorem Ei(p:Nat->Bool)(l:List Nat)(i:Nat):l.drop (i+Rx.cnt p l i)=(l.drop i).dropWhile p:=by rw[<-ZR];show mJ p (l.drop i)
noncomputable def f9(ch:Nat):Bool:=!isBlank ch
noncomputable def Jj:Nat->List Nat->List (List Nat)
 |0,l=>[l]
 |n+1,l=>if(l.dropWhile f9).isEmpty then[l]else l.takeWhile f9::(l.dropWhile f9).takeWhile isBlank::Jj n ((l.dropWhile f9).dropWhile isBlank)
noncomputable def uQ(l:List Nat):List (List Nat):=Jj l.length l
def qM(vs:List Value)(ts:List (List Nat)):Prop:=∃tk:List Tok,vs=(ts.zip tk).map (λp=>AbX ⟨p.1.toArray⟩ p.2)/\tk.length=ts.length
theorem qM.nil:qM [] []:=bd ([]) rfl rfl
theorem qM.snoc{k:Tok}(h:qM vs ts):qM (vs++[.str ⟨t.toArray⟩ k]) (ts++[t]):=by show bb h ?_;clear h;intro tk h1 h2;show bd (tk++[k]) (by(rw[List.zip_append h2.symm,Yc];show aE h1 ?_);rfl) (by simp[h2])
theorem qM.Kf:∀{ts:List (List Nat)} {vs:List Value},qM vs ts->bY W (ts.map S) vs
 |[],vs,⟨tk,h1,h2⟩=>by have:tk=[]:=Zg.mp (by assumption);clear h2;subst this;subst h1;show .nil
 |t::ts,vs,⟨tk,h1,h2⟩=>by
  cases tk with|nil=>trivial|cons k tk=>subst h1;show .cons (.str _ _) (qM.Kf (bd tk rfl (Aaa h2)))
section
variable {a:Addr}{aj:Array Nat}{groups:Nat}
theorem kB{x:Pi}{t:Tok}{Q:ReTarget->Shared->Prop}(h:ez K a aj groups)(X:K.In s.heap)
  (q:Q { pattern:=.ref a,string:=.str x t,code:=aj,text:=x.cps,kind:=0,groups:=groups,pos:=0,lim:=x.cps.size } s) :
  wpAny (model af w) A (reWholeTarget (.ref a) (.str x t)) Q E s:=by
 show dt h.ob λo vs b ob tz=>?_;show iy tz ?_;clear tz;intro lZ n h1 h2 h3 h4 tz;show mr tz ?_;clear tz;intro h5 h6 h7 h8 pu;obtain⟨h9,z9⟩:=pu;show aM (AaG (X _ _ h1) h4 (aM (m:=reTextOf _) (GT (aE h7 (aM (m:=reNoCollectionInside _ _) (GT (aE h5 (aM (kx (X _ _ h8) h9 ?_)))))))));show GT ?_;show aE z9 ?_;show aE h6 ?_;show q
theorem mU{Q:Value->Shared->Prop}(hl:l.length<=sizeLine)(q:∀v,v=AbX ⟨l.toArray.extract i j⟩ s.toks->Q v { s with toks:=s.toks+1 }):wpAny (model af w) A (reSlice l.toArray 0 i j) Q E s:=by show Acq (q _ rfl) ?_;change(l.toArray.extract i j).size<=_;simp;omega
noncomputable def Ry(a:Addr)(l:List Nat)(tk:Tok):ReTarget:={ pattern:=.ref a,string:=.str ⟨l.toArray⟩ tk,code:=Rx.K4,text:=l.toArray,kind:=0,groups:=1,pos:=0,lim:=l.length }
structure Lh(a:Addr)(l:List Nat)(tk:Tok)(p:Nat)(m:Sre.M):Prop where
 ahead:l.toArray.extract p m.start=((l.drop p).takeWhile f9).toArray
 grp:reMachineGroup (Ry a l tk) m (0+1) (pure .none)=reSlice l.toArray 0 m.start m.handed
 it:l.toArray.extract m.start m.handed=(((l.drop p).dropWhile f9).takeWhile isBlank).toArray
 hi:m.handed<=l.length
 lo:p<m.handed
 ne:(m.handed==m.start)=ac
 more:uQ (l.drop p)=(l.drop p).takeWhile f9::((l.drop p).dropWhile f9).takeWhile isBlank::uQ (l.drop m.handed)
noncomputable def Li(s:Shared)(t:Nat):Shared:={ s with toks:=t }
inductive PE(s:Shared)(l:List Nat):List Nat->Array Value×Nat×Nat×Bool×Int×Bool->Shared->Prop
 |go {aV out p n t outs}:qM out.toList outs->p<=l.length->outs++uQ (l.drop p)=uQ l->l.length-p+1<=aV.length->PE s l aV (out,p,p,ac,n,ac) (Li s t)
 |over {aV out i p b n t outs}:qM out.toList outs->outs++[l.drop p]=uQ l->PE s l aV (out,i,p,b,n,a9) (Li s t)
theorem PE.step{l:List Nat}{tk:Tok}{p:Nat}{m:Sre.M}{out:Array Value}{outs:List (List Nat)}{x:Nat}{aV:List Nat}{n:Int}{t t1 t2:Nat}{v1 v2:Value}(H:Lh a l tk p m)(ho:qM out.toList outs)(hg:outs++uQ (l.drop p)=uQ l)
  (hr:l.length-p+1<=(x::aV).length) (h1:v1=.str ⟨l.toArray.extract p m.start⟩ t1) (h2:v2=.str ⟨l.toArray.extract m.start m.handed⟩ t2):PE s l aV ((out.push v1).push v2,m.handed,m.handed,m.handed==m.start,n,ac) (Li s t):=by
 have h3:=H.lo;have h4:=H.hi;show aE H.ne (.go (outs:=outs++[(l.drop p).takeWhile f9]++[((l.drop p).dropWhile f9).takeWhile isBlank]) ?_ H.hi ?_ (by simp only[Xs]at hr;show"L+-ab1+c1TbdLdaL+-ad1c" hr h3 h4))
 ·(show aE h1 ?_;show aE h2 ?_;show aE H.ahead ?_;show aE H.it ?_;rw[Array.toList_push,Array.toList_push])
  show ho.snoc.snoc
 ·(show ix hg ?_;show aE H.more ?_)
  simp only[Xq,Abq,YU]
end
section
variable {ls:Loc}
theorem og{W:Wd}{t:Nat}(g:Here c W s ls)(e:W.H=H)(r:bY W xs vs)(q:Q (.ref H.length) (H++[.lst xs]) ls) :
  gS c VR Q W s (.ref s.heap.objs.size) { s with heap:=s.heap.push (listOf vs.toArray 0),toks:=t }:=by
 subst e;have k:∀b o,W.h.get? b=a7 o->(s.heap.push (listOf vs.toArray 0)).get? b=a7 o:=λb o e=>Xa _ (g.hh▸e);have hp:∀a∈own (s.heap.objs.size,0) (.lst xs),W.h.get? a=a8:=λa m=>by
  obtain rfl:=uT m;cases q:W.h.get? s.heap.objs.size with|none=>rfl|some o=>show absurd (g.hh▸XF q) (XM _)
 have M:=bQ.add (W:=W) (o:=.lst xs) k hp;show⟨W.add (s.heap.push (listOf vs.toArray 0)) (s.heap.objs.size,0) (.lst xs),ls,.ref W.H.length,⟨rfl,.add k hp,g.rel.add k hp D2 fun  u=>?_,g.fr.add k hp,⟨rfl,.refl⟩⟩,?_,q⟩
 .show dC vs 0 ?_ (r.mono M);rw[dz];show Xo _ rfl
 .have:=VR.ref (W:=W.add (s.heap.push (listOf vs.toArray 0)) (s.heap.objs.size,0) (.lst xs)) W.H.length IH
  rwa[dz]at this
end
end
def xZ(h:Heap)(aj:Value):Prop:=∃q a o vs t,aj=.ref a/\h.get? a=a7 o/\o.cls=.type "code"/\o.data=.fields vs/\vs[1]?=a7 (.str q t)
def jI(W:Wd)(f:Addr)(au:Arguments)(aB:Expr)(al:Scope):Prop:=(∃fd,W.h.get? f=a7 { cls:=.type "function",data:=.func fd }/\fd.params=au/\fd.body=.expr aB/\fd.scope=al/\fd.globals=mainGlobals/\fd.builtins=builtinsNs/\fd.closure=[]/\fd.defaults=.none/\xZ W.h fd.code)/\f ∉ W.bf
theorem xZ.mono(R:Rel K W)(M:bQ W W')(h:xZ W.h aj):xZ W'.h aj:=by
 show dt h λq a o vs tz=>?_;show pY tz ?_;clear tz;intro t h1 h2 h3 h4 h5;show eJ q a o vs (eQ t h1 ((M.keep a o h2 (λm=>?_) ?_).1) h3 h4 h5)
 .show bb (R.df m) λo' e z=>?_;rw[h2]at e;injection e with e;subst e
  unfold chg jZ d8 at z;rw[h3,h4]at z;injection z
 .unfold soft;show aE h3 ?_;show aE h4 rfl
theorem jI.mono(R:Rel K W)(M:bQ W W'){f:Addr}{aB:Expr}(h:jI W f au aB al):jI W' f au aB al:=by show xA h λpu hm=>?_;obtain⟨fd,h1,h2,h3,h4,h5,h6,h7,h8,h9⟩:=pu;have k:=M.keep f _ h1 hm rfl;show⟨(eQ fd k.1 h2 h3 h4 (uC h5 h6 h7 h8 (h9.mono R M))),k.2⟩
section
variable {ls:Loc}{cc P:Addr}
theorem qN(g:Here c W s ls)(m:(cc,P)∈de c.K){ai:Pos}{fl:Nat}{nm qn:Pi}{au:Arguments}{aB:FuncBody}{al:Scope}{A:Around}{E:Value->Shared->Prop}{Q:Value->Shared->Prop}(hc:ae.code=.ref cc)
  (hQ:∀aj h' tk,(∀b o,b≠P->s.heap.get? b=a7 o->h'.get? b=a7 o)->fG h' cc P->xZ h' aj->Q aj { s with heap:=h',toks:=tk }) :
  wpAny c.M A (functionCode ae ai fl nm qn au al aB) Q E s:=by
 show bV (g.rel.tab _ m) λps pB jv d=>?_;rw[g.hh]at pB jv d;cases J6:codeAmong ai ps.toList with
 |some cv=>show wpAny_functionCode_hit hc pB J6 (hQ cv s.heap s.toks (fun  u u u e=>e) (cf ps pB jv d) (d _ _ J6))
 |none=>
  have hP:=jv.2;show wpAny_functionCodeX hc pB jv J6 λc' h' tk hx Vb sv DY KX vF zz=>?_;obtain⟨P',_,_,xn⟩:=zz;have J7:TriplesOk ps.toList:=by(show dt pB λo vs file tf tz=>?_;show dt tz ?_;clear tz;intro flags tg Mi text tz;show iy tz ?_;clear tz;intro tt op ho hd NB h2 Az;obtain⟨h7,h9,z9,Rc,KW,J7,d4⟩:=Az);show J7
  have NV:xZ h' (.ref c'):=by
   show cV KX λx o vs t e1 e2 e3 e4=>?_;injection e1 with e1;subst e1
   show xA xn fun  Kc u=>?_;obtain⟨o',Ay,f1,f2,f3,f4⟩:=Kc;rw[e2]at f1;clear f3;obtain rfl:=Xe f1;show eJ _ _ _ _ (eQ _ rfl e2 f2 e3 e4)
  show hQ _ h' tk hx (cf _ DY vF (λpos' v e=>?_)) NV;have hl:(ps++#[rawInt ai.line,rawInt ai.col,YZ c']).toList=ps.toList++[rawInt ai.line,rawInt ai.col,.ref c']:=by simp
  replace e:=hl▸e;rcases jH _ J7 e with e|rfl
  .show dt (d pos' v e) λq x o vs tz=>?_;show pX tz ?_;clear tz;intro t' r1 r2 r3 r4;show eJ q x o vs (gn t' r1 (hx _ _ ?_ r2) r3 r4);clear hQ pB DY jv vF hx m;rintro rfl;rw[hP]at r2;clear r4;obtain rfl:=Xe r2;injection r3
  .show NV
theorem Ej{au:Arguments}{aB:Expr}{al:Scope}{ai:Pos}{nv:Value}{E:Value->Shared->Prop}{Q:Value->Shared->Prop}(g:Here c W s ls)(E':ba ae c.f)(m:(cc,P)∈de c.K)(nd:(bp c.K).Nodup)(B:oV c.K)(hc:ae.code=.ref cc)
  (gL:closureFor al ae=Xj []) (Ek:defaultsOf au ae=([],[])) (Bt:nsIn c.K mainGlobals "__name__" = a7 (a7 nv))
  (q:∀f W' s',Good c W s W' s' ls->W'.H=W.H->jI W' f au aB al->Q (.ref f) s'):wpAny c.M c.A (eval (.Lambda au aB al ai) ae) Q E s:=by
 show kla_eval Ek ?_;rw[Acr];simp only[AbZ,Ab2,Ack,if_true,pure_bind];unfold makeTail;show aE gL (aM (GT (aM (GT (aM (YA (n:=1) g.tk (qN g m hc λaj h' tk hk ht pK Lj=>?_)))))));have G:=(g.tabs m nd (s':={ s with heap:=h',toks:=tk }) hk ht ⟨rfl,.refl⟩).at Lj;have X:c.K.In h':=G.rel.top;show aM (fj (X:=X) B E' (aE E'.glob (aM ((Za X Bt).here (aM (GT (YB ?_ (by size_fits))))))));have aF:=G.here.grow (h':=h'.push { cls:=.type "function",data:=.func { name:="<lambda>",qualname:=ae.qual++"<lambda>",params:=au,body:=.expr aB,scope:=al,globals:=mainGlobals,closure:=[],closureTuple:=.none,code:=aj,builtins:=builtinsNs,defaults:=.none,kwdefaults:=.none,annotations:=a8,pyModule:=nv,doc:=.none } }) tk (λb o e=>Xa _ e);show q _ _ _ (G.toGood.trans aF) rfl ⟨(eQ _ (Xo _ rfl) rfl rfl rfl (uC rfl rfl rfl rfl ?_)),?_⟩
 .show dt pK λq a o vs tz=>?_;show bV tz ?_;clear tz;intro t h1 h2 h3;show eJ q a o vs (cf t h1 (Xa _ h2) h3)
 .show G.rel.fresh
end
section
variable {af:Program}{w:World}{K:Frag}{A:Around}
theorem El{fa:Addr}{au:Arguments}{aB:Expr}{al:Scope}{n:Nat}{W:Wd}{s:Shared}{xs:List AV}{vs:List Value}{Q:AV->List AO->Prop}(hA:cM A (n+1))(dF:0<s.toks)(hh:W.h=s.heap)(R:Rel K W)(LM:jI W fa au aB al)(r:bY W xs vs)
  (fW:∀fd vs,fd.params=au->fd.defaults=.none->vs.length=xs.length->bindArgs fd ⟨vs,[]⟩=Xj ((b5 au).zip vs)) (hn:(b5 au).Nodup) (hl:xs.length=(b5 au).length)
  (iP:al.isCoroutine=ac) (fv:al.isGenerator=ac) (hk:al.kind=.function) (fx:∀x∈b5 au,al.names.lookup x=a7 .local) (cr:∀x∈al.names,x.2≠.cell)
  (h:∀L q aj A',cM A' n->ba (bT al L [] q fa aj) ⟨L,[]⟩->bw W.H.length W.H->dS W.H.length xs=a9->Ok ⟨af,w,K,A',⟨L,[]⟩⟩ VR (eval aB (bT al L [] q fa aj)) W.H ((b5 au).zip xs) (Kj W.H.length Q)) :
  codeAny (model af w) A (.call (.ref fa) ⟨vs,[]⟩) (Ends K W s Q) s:=by
 revert af w K A fa au aB al n W s xs vs Q;delta af w K A fa au aB al n W s xs vs Q;intro hA dF hh R LM r fW hn hl iP fv hk fx cr h;show xA LM λKd hm=>?_;obtain⟨fd,h1,h2,h3,h4,h5,h6,h7,h8,h9⟩:=Kd;injections fd;show dt h9 λq a o Vx tz=>?_;show pY tz ?_;clear tz;intro t c1 c2 c3 c4 c5;have ho:s.heap.get? fa=a7 { cls:=.type "function",data:=.func fd }:=hh▸h1;show Aap (Xb (Z1 ho ?_));unfold callFunction;dsimp only;rewrite[h4,iP,fv,h3,c1];dsimp only;show Xb (m:=field (.ref a) 1) (XR (hh▸c2) c4 c5 (Xb (GT (aE (fW fd vs h2 h8 r.length) (aM (GT (aM (Z8 cr (λx hx=>fx _ (YT hx).1) (λh₀ cD sb=>?_) hk))))))));have tF:∀b o,s.heap.get? b=a7 o->h₀.get? b=a7 o:=λb o e=>sb.extBut b o (YL (XF e)) (Xa _ e);have k₁:∀b o,W.h.get? b=a7 o->h₀.get? b=a7 o:=λb o e=>tF b o (hh▸e);have y7:=R.lim.keeps k₁;show aM (wpAny_enterFrame y7 hA.room (GT (And.intro rfl ?_)));show aE h5 ?_;show aE h6 ?_;show aE h7 ?_;have Rz:dS W.H.length xs=a9:=r.gX;show kla_codeExpr ?_;show(h s.heap.objs.size _ _ _ (hA.deeper _) ⟨hk,rfl,fun  u u e=>by assumption,rfl,rfl⟩ R.closed Rz).run (Here.enter (XB dF (Yd _ _)) hh R k₁ cD λx av e=>bb (gc r e) λv a b=>⟨v,ii (gd hn) a,b⟩) rfl λb4 aN cj y v G rv q=>g8 q λn' H' x' Km D hq=>Ends.leave k₁ (Rel.free hh) G.toGood G.sh Km D rv hq
end
section
open PySem.Builtin.Re
namespace Rf
theorem m7:entryFor table "re.Pattern.sub.loop" = a7 Builtin.«re.Pattern.sub.loop»:=YN (by kernel_rfl)
theorem m8:plainId "re.Pattern.sub.loop" = a9:=by decide +kernel
theorem Em:typeLookup (.type "str") "__call__" = Xj a8:=by rfl
theorem tV:typeLookup (.type "function") "__call__" = Xj (a7 (.builtin "function.__call__")):=by rfl
end Rf
noncomputable def m9(mq:Nat->Option (Nat×Nat×Nat×Nat))(rep:List Nat->List Nat)(l:List Nat):Nat->Nat->List Nat
 |0,p=>l.drop p
 |k+1,p=>(mq p).elim (l.drop p) λr=>(l.drop p).take (r.1-p)++rep ((l.drop r.2.2.1).take (r.2.2.2-r.2.2.1))++m9 mq rep l k r.2.1
theorem u9{mq:Nat->Option (Nat×Nat×Nat×Nat)}{rep:List Nat->List Nat}{l:List Nat}{k p:Nat}:m9 mq rep l (k+1) p=(mq p).elim (l.drop p) λr=>(l.drop p).take (r.1-p)++rep ((l.drop r.2.2.1).take (r.2.2.2-r.2.2.1))++m9 mq rep l k r.2.1:=rfl
section
variable {c:Cx}{H:List AO}{ls:Loc}{Q:AV->List AO->Loc->Prop}
theorem im{A:Around}{E:Value->Shared->Prop}{P:Unit->Shared->Prop}(g:Here c W s ls)(hi:W.H[i]?=a7 (.lst (ts.map S)))(hs:ts.length<=100000)(hv:VR W (S t) v)
  (q:∀W' s',bN c W s W' s' ls->W'.H=W.H.set i (.lst ((ts++[t]).map S))->W'.ρ=W.ρ->P () s'):wpAny c.M A (updateSeq (W.ρ i).1 (·.push v)) P E s:=by
 have il:i<W.H.length:=(Xc.mp hi).1;show cV (kj g rfl (VR.ref i il) (show W.H[i]?.bind ek=a7 (ts.map S)by show aE hi ?_;rfl)) λa ob us n ha ho hd rs=>?_;injection ha with ha;subst ha
 have sz:us.length<=100000:=by rw[rs.length,Xm];show hs
 show ZW ho hd ?_ (by simp[sizeLine];show"La100000La16777216" sz) (by simp[sizeLine];show"La100000La16777216" sz);have G:=g.seq (l':=(ts++[t]).map S) (f:=(·.push v)) hi rfl λvs r W' M=>by
  have:((Xp vs).push v).toList=vs++[v]:=by simp
  show aE this ?_;rw[Yc];show(r.mono M).append (.cons (hv.mono M) .nil)
 show q _ _ (G.at g.tk) rfl rfl
theorem l6:∀ts:List (List Nat),glue [] ts=ts.flatten:=by
 intro zz;induction zz with
 |nil=>show rfl
 |cons x rr ih=>
  cases rr with
  |nil=>show(Xv x).symm
  |cons y r=>
   show by have:=ih;show(congrArg (x++[]++·) this).trans (congrArg (·++_) (Xv x))
theorem y8:∀(ts:List (List Nat)) (b:Nat),(∀t∈ts,t.length<=b)->(ts.map λt=>t.length+([]:List Nat).length).sum<=ts.length*b:=by
 intro zz;induction zz with
 |nil=>show fun  b u=>by show Xn _
 |cons t ts ih=>
  showλb h=>by have h1:=h t (.head _);have h2:=ih b λx m=>h x (.tail _ m);simp only[Xu,Y4,XU,Adi,Xs,Acw,Nat.one_mul]at h2 ⊢;show"LabLcdL+ac+db" h1 h2
theorem pP{A:Around}{E:Value->Shared->Prop}{W:Wd}{s:Shared}{ts:List (List Nat)}{l:List Nat}{jp:Value->Sem Aby}{P:Aby->Shared->Prop}(g:Here c W s ls)(e:W.H=H++[.lst (ts.map S)])(hl:l.length<=1000)(ut:ts.length<=4000)(cY:∀t∈ts,t.length<=2000)
  (q:∀v W' s',Good c W s W' s' ls->W'.H=W.H->VR W' (S ts.flatten) v->wpAny c.M A (jp v) P E s') :
  wpAny c.M A (reSlice l.toArray 0 0 0 >>= λEn=>seqItems? (.ref (W.ρ H.length).1) >>= λr=>if(r.getD #[]).isEmpty=a9 then(Xj En >>= jp)else(call (.builtin (if((0:Nat)==0)=a9 then "str.join" else "bytes.join")) [En,.ref (W.ρ H.length).1] >>= jp)) P E s:=by
 revert c H ls A E W s ts l jp P;delta c H ls A E W s ts l jp P;intro g e hl ut cY q;have hi:W.H[H.length]?=a7 (.lst (ts.map S)):=by show aE e ?_;show jM
 have il:H.length<W.H.length:=(Xc.mp hi).1;show cV (kj g rfl (VR.ref H.length il) (show W.H[H.length]?.bind ek=a7 (ts.map S)by show aE hi ?_;rfl)) λa ob us n ha ho hd rs=>?_;injection ha with ha;subst ha
 show aM (mU (iT ‹_›) λv hv=>?_);injections v;have aD:=(g.tok (s.toks+1)).at (XQ _);show Xb (X1 ho hd ?_);have Jk:v=.str ⟨([]:List Nat).toArray⟩ s.toks:=by rw[hv];congr 2;show Array.extract_zero
 by_cases hu:us=[]
 .clear hd;subst hu;have:ts=[]:=by have:=rs.length;simp at this;show Zg.mp this.symm
  clear e hi cY ut rs;subst this;show Xb (GT (q _ _ _ aD rfl ?_));rw[Jk];show .str _ _
 .have d4:((a7 (Xp us)).getD #[]).isEmpty=ac:=by
   change(Xp us).isEmpty=ac;cases us with|nil=>show absurd rfl hu|cons x r=>rfl
  show aE d4 (aM ?_);have b1:=y8 ts 2000 cY;have gg:Here (c.sub A c.f) W { s with toks:=s.toks+1 } ls:=⟨aD.here.hh,aD.here.rel,aD.here.fr,aD.tk⟩
  have J:=gA (c:=(c.sub A c.f)) (ls:=ls) (H:=W.H) (Q:=λx H' l'=>x=S ts.flatten/\H'=W.H/\l'=ls) (sep:=[]) (x:=.ref H.length) (ts:=ts) (.inr (bd _ rfl hi)) (by unfold sizeLine;show"La4000Lb:a2000Lb16777216" ut b1) ⟨by rw[l6],rfl,rfl⟩;show Xz (J W _ [v,.ref (W.ρ H.length).1] gg rfl (.cons (by rw[Jk];show .str _ _) (.cons (.ref _ il) .nil))) (λr s' zz=>?_) fun  u u z=>z.elim;obtain⟨W',dq,b,aF,dg,hb,hH,NN⟩:=zz;subst hb;clear J g gg;subst NN;have NW:Good c W { s with toks:=s.toks+1 } W' s' dq:=⟨aF.hh,aF.st,aF.rel,aF.fr,aF.sh⟩
  show q _ _ _ (aD.trans NW) hH dg
inductive rP(c:Cx)(W:Wd)(s:Shared)(ls:Loc)(H:List AO)(x:AV)(r:Result)(s':Shared):Prop
 |mk (v:Value) (W':Wd) (o:AO):r=.ok (.ret v)->Good c W s W' s' ls->VR W' x v->W'.H=H++[o]->rP c W s ls H x r s'
theorem Eo{a f:Addr}{aj:Array Nat}{au:Arguments}{aB:Expr}{al:Scope}{l:List Nat}{mq:Nat->Option (Nat×Nat×Nat×Nat)}{rep:List Nat->List Nat}(hp:ez c.K a aj 1)(hl:l.length<=1000)
  (hN:∀p,p<=l.length->∃N,N<=4*2 ^ 64/\Rx.Goes N (XH aj l.toArray 1 p l.length ac) (oZ (mq p))) (hw:∀p s e b e',mq p=a7 (s,e,b,e')->p<=s/\s<e/\e<=l.length)
  (Ep:∀W s v (x1 x2:Int) (b e':Nat),0<s.toks->W.h=s.heap->Rel c.K W->jI W f au aB al->VR W (.mt ⟨l.toArray⟩ [x1,x2,(b:Int),(e':Int)]) v->codeAny c.M c.A.in1 (.call (.ref f) ⟨[v],[]⟩) (Ends c.K W s λx H'=>x=S (rep ((l.drop b).take (e' - b)))/\H'=W.H) s)
  (y9:∀t,t.length<=1000->(rep t).length<=2000) (tk:Tok) :
  ∀k p,l.length-p<k->p<=l.length->∀W s (ts:List (List Nat)) (n:Int),Here c W s ls->W.H=H++[.lst (ts.map S)]->jI W f au aB al->ts.length+2*(l.length-p)<=3000->(∀t∈ts,t.length<=2000)->
   codeAny c.M c.A (.builtin "re.Pattern.sub.loop" ⟨[.ref a,.str ⟨l.toArray⟩ tk,.ref f,rawInt 1,rawInt 0,rawInt n,rawInt p,rawInt p,.bool ac,.ref (W.ρ H.length).1,.bool ac],[]⟩)
    (rP c W s ls H (S (ts.flatten++m9 mq rep l k p))) s:=by
 revert c H ls a f aj au aB al l mq rep tk;delta c H ls a f aj au aB al l mq rep;intro hp hl hN hw Ep y9;delta tk;intro k;induction k with
 |zero=>intro p hk;lia
 |succ k ih=>
  revert k;delta k;intro ih;intro p hk pQ W s ts n g e LM ut cY;revert p W s ts n;delta p;intro hk pQ;delta W s ts n;intro g e LM ut cY;have X:c.K.In s.heap:=g.hh▸g.rel.top;have hi:W.H[H.length]?=a7 (.lst (ts.map S)):=by show aE e ?_;show jM
  have B9:∀x:List AV,W.H.set H.length (.lst x)=H++[.lst x]:=λx=>by(show aE e ?_;rw[Ys _ _ (Xd _)]);simp
  have ext:∀i j,l.toArray.extract i j=((l.drop i).take (j-i)).toArray:=λi j=>by show AbH
  show ZY Rf.m7 ?_;rw[Aac Rf.m8];show Xb (kB hp X ?_);rw[aI (by decide)];unfold reNextFound;dsimp only;have mn:l.toArray.size=l.length:=by rfl
  show aE mn ?_;rw[Yq];show bb (hN p pQ) λN Vy Vz=>Xb (Rx.jU Vz Vy λm hm=>?_);cases hx:mq p with
  |none=>
   rw[hx]at hm;show .inr ⟨hm,?_⟩;have hT:m9 mq rep l (k+1) p=l.drop p:=by rw[u9];show aE hx rfl
   by_cases sv:p<l.length
   .rw[aQ sv];show aM (mU (iT ‹_›) λv hv=>?_);have aD:=(g.tok (s.toks+1)).at (XQ _);have Jk:v=.str ⟨(l.drop p).toArray⟩ s.toks:=by rw[hv,ext,Yl (by simp)]
    show Xb (im aD.here hi (by show"L+a*2-bc3000La100000" ut) (t:=l.drop p) (by rw[Jk];show .str _ _) λb4 aN aF cT ρ₂=>?_);rw[B9]at cT;show ix ρ₂ (pP aF.here cT hl (by simp;show"L+a*2-bc3000La3999" ut) (λt m=>?_) λj7 b7 bJ aT cE eU=>?_)
    .rcases Xl.mp m with m|m
     .show cY t m
     .simp at m;subst m;simp;show"La1000La+2000b" hl
    .show GT (.mk j7 b7 _ rfl (aD.trans (aF.trans aT)) ?_ (cE.trans cT));show aE hT ?_;simpa using eU
   .rw[aI sv];show pP g e hl (by show"L+a*2-bc3000La4000" ut) cY λj7 b7 bJ aT cE eU=>GT (.mk j7 b7 _ rfl aT ?_ (cE.trans e));show aE hT ?_;rw[ZG.mpr (ZO ‹_›),Xv];show eU
  |some z=>
   obtain⟨ms,me,mb,Jh⟩:=z;rw[hx]at hm;show mr hm λh1 h2 h3 h4 h5=>pJ (hw _ _ _ _ _ hx) λw1 w2 w3=>.inl ⟨h1,?_⟩;dsimp only;have hT:m9 mq rep l (k+1) p=(l.drop p).take (ms-p)++rep ((l.drop mb).take (Jh - mb))++m9 mq rep l k me:=by rw[u9];show aE hx rfl
   have tail:∀aK aH (iJ:List (List Nat)),bN c W s aK aH ls->aK.ρ=W.ρ->aK.H=H++[.lst (iJ.map S)]->iJ.length<=ts.length+1->(∀t∈iJ,t.length<=2000)->iJ.flatten=ts.flatten++(l.drop p).take (ms-p)->∀(jp:Value->Sem Aby) (P:Aby->Shared->Prop) (E:Value->Shared->Prop),
     (∀j7 b7 bJ,bN c W s b7 bJ ls->b7.H=H++[.lst (iJ.map S)]->VR b7 (S (rep ((l.drop mb).take (Jh - mb)))) j7->(b7.ρ H.length).1=(W.ρ H.length).1->jI b7 f au aB al->wpAny c.M c.A.in1 (jp j7) P E bJ)->
     wpAny c.M c.A.in1 (reNewMatch (.ref a) (.str ⟨l.toArray⟩ tk) 1 0 l.length m >>= λfound=>holding [found] (call (.ref f) [found]) >>= jp) P E aH:=by
    intro aK aH iJ aD ρ₁ c8 n₁ yb vT jp P E K;show aM (oY h5 h4 λh' kk NU c₁ x1 x2 n1 n2=>?_);have aF:=(aD.here.grow (h':=h') aH.toks kk).at aD.tk;have nm:∀b,aH.heap.get? b=a8->b ∉ (⟨h',aK.ρ,aK.H⟩:Wd).bf:=λb hb mm=>by show bb (aD.here.rel.df (show b∈aK.bf from mm)) fun  o ho u=>?_;rw[aD.hh,hb]at ho;trivial
    have Jl:jI (⟨h',aK.ρ,aK.H⟩:Wd) f au aB al:=LM.mono g.rel ((aD.toGood.trans aF.toGood).mono g);have rm:VR (⟨h',aK.ρ,aK.H⟩:Wd) (.mt ⟨l.toArray⟩ [(m.start:Int),(m.handed:Int),(mb:Int),(Jh:Int)]) (.ref NU):=.mt x1 x2 (nm _ n1) (nm _ n2);show aM (XE (YD (Yr (Acs aF.tk (Ep _ _ _ _ _ _ _ aF.tk aF.hh aF.rel Jl rm)) λr s' zz=>?_)));obtain⟨tz,z⟩:=zz;show fQ (Ends.good (c:=(c.sub c.A.in1 c.f)) (ls:=ls) ⟨aF.here.hh,aF.here.rel,aF.here.fr,aF.tk⟩ z) λv W' x hr aT vr NX hH=>?_;clear z;subst hr;subst NX;have vU:Good c (⟨h',aK.ρ,aK.H⟩:Wd) { aH with heap:=h' } W' s' ls:=⟨aT.hh,aT.st,aT.rel,aT.fr,aT.sh⟩
    show K v W' s' ((aD.toGood.trans (aF.toGood.trans vU)).at tz) (hH.trans c8) vr ?_ (Jl.mono aF.rel (vU.mono aF.here));rw[vU.st.agree _ (by change H.length<aK.H.length;rw[c8];show IH)];rw[ρ₁]
   have fin:∀(iJ:List (List Nat)),iJ.length<=ts.length+1->(∀t∈iJ,t.length<=2000)->iJ.flatten=ts.flatten++(l.drop p).take (ms-p)->∀j7 b7 bJ (E:Value->Shared->Prop),bN c W s b7 bJ ls->b7.H=H++[.lst (iJ.map S)]->VR b7 (S (rep ((l.drop mb).take (Jh - mb)))) j7->(b7.ρ H.length).1=(W.ρ H.length).1->jI b7 f au aB al->
     wpAny c.M c.A.in1 (if(j7 != Zb)=a9 then(updateSeq (W.ρ H.length).1 (λx=>x.push j7) >>= fun  u=>again (AaY "re.Pattern.sub.loop" ⟨[.ref a,.str ⟨l.toArray⟩ tk,.ref f,rawInt 1,rawInt 0,rawInt (n+1),rawInt m.handed,rawInt m.handed,.bool (m.handed==m.start),.ref (W.ρ H.length).1,.bool ac],[]⟩))
      else again (AaY "re.Pattern.sub.loop" ⟨[.ref a,.str ⟨l.toArray⟩ tk,.ref f,rawInt 1,rawInt 0,rawInt (n+1),rawInt m.handed,rawInt m.handed,.bool (m.handed==m.start),.ref (W.ρ H.length).1,.bool ac],[]⟩))
     (λfin s'=>match fin with
      |.done f=>rP c W s ls H (S (ts.flatten++m9 mq rep l (k+1) p)) (.ok f) s'
      |.again c'=>c'.quiet=a9/\codeAny (model c.prog c.w) c.A c' (rP c W s ls H (S (ts.flatten++m9 mq rep l (k+1) p))) s') E bJ:=by
    intro iJ n₁ yb vT j7 b7 bJ E aT cE eU ρ₃ vV;have NY:b7.H[H.length]?=a7 (.lst (iJ.map S)):=by show aE cE ?_;show jM
    have VA:(rep ((l.drop mb).take (Jh - mb))).length<=2000:=y9 _ (by simp;show"La1000L<-bc-ac1000" hl);have hv:(j7 != Zb)=a9:=by(apply VR.dE eU;intro u);rfl
    rw[aQ hv];show ix ρ₃ ?_;show aM (im aT.here NY (by show"L+a*2-bc3000Ld+a1Ld100000" ut n₁) eU λg9 fP bE jP ρ₄=>?_);show GT ⟨Zv _ (by decide +kernel),?_⟩;rw[cE,Ys _ _ (Xd _)]at jP;simp only[ZZ,Ab1]at jP;have hb:(m.handed==m.start)=ac:=by rw[h2,h3];simp;show Aak ‹_›
    show aE hb ?_;show aE h3 ?_;show ix ρ₄ ?_;show Yr (ih me (by show"T-ab+c1LbdTdeLeaT-aec" hk w1 w2 w3) w3 g9 fP (iJ++[rep ((l.drop mb).take (Jh - mb))]) (n+1) bE.here jP (vV.mono aT.rel (bE.mono aT.here)) (by simp;lia) (λt mm=>?_)) λr s' z=>?_
    .rcases Xl.mp mm with mm|mm
     .show yb t mm
     .simp at mm;subst mm;show VA
    .obtain⟨v,W',o,hr,G,vr,hH⟩:=z;show .mk v W' o hr (aT.trans (bE.trans G)) ?_ hH;(show aE hT ?_;rw[<-Xq,<-Xq];show ix vT ?_)
     simpa using vr
   by_cases sv:p<ms
   .rw[aQ (by rw[h2];show sv)];show aM (mU (iT ‹_›) λv hv=>?_);have aD:=(g.tok (s.toks+1)).at (XQ _);have Jk:v=.str ⟨((l.drop p).take (ms-p)).toArray⟩ s.toks:=by(show aE hv ?_;rw[ext];show aE h2 rfl)
    show aM (im aD.here hi (by show"L+a*2-bc3000La100000" ut) (t:=(l.drop p).take (ms-p)) (by rw[Jk];show .str _ _) λb4 aN aF cT ρ₂=>?_);rw[B9]at cT;have yb:∀t∈ts++[(l.drop p).take (ms-p)],t.length<=2000:=λt mm=>by
     rcases Xl.mp mm with mm|mm
     .show cY t mm
     .simp at mm;subst mm;simp;show"L+a*2-bc3000L<-dc-bc2000" ut
    show tail b4 aN (ts++[(l.drop p).take (ms-p)]) ((aD.toGood.trans aF.toGood).at aF.tk) ρ₂ cT SG yb List.flatten_concat _ _ _ λj7 b7 bJ aT cE eU ρ₃ vV=>fin (ts++[(l.drop p).take (ms-p)]) SG yb List.flatten_concat j7 b7 bJ _ aT cE eU ρ₃ vV
   .rw[aI (by rw[h2];show sv)];have hz:(l.drop p).take (ms-p)=[]:=by rw[show ms-p=0 by show"NTabE-ba0" sv];rfl
    show tail W s ts g.good rfl e (Yb _) cY (by(show aE hz ?_;rw[Xv])) _ _ _ λj7 b7 bJ aT cE eU ρ₃ vV=>fin ts (Yb _) cY (by(show aE hz ?_;rw[Xv])) j7 b7 bJ _ aT cE eU ρ₃ vV
end
end
section
open PySem.Builtin.Re
namespace Rf
theorem Bu:isSubtype (.type "str") (.type "bytearray")=Xj ac:=by rw[Yn];kernel_rfl
end Rf
section
variable {c:Cx}{H:List AO}{ls:Loc}{Q:AV->List AO->Loc->Prop}
theorem HI{a f:Addr}{aj:Array Nat}{au:Arguments}{aB:Expr}{al:Scope}{l:List Nat}{mq:Nat->Option (Nat×Nat×Nat×Nat)}{rep:List Nat->List Nat}{tk:Tok}{W:Wd}{s:Shared}{P:Value->Shared->Prop}{E:Value->Shared->Prop}(hp:ez c.K a aj 1)(hl:l.length<=1000)
  (hN:∀p,p<=l.length->∃N,N<=4*2 ^ 64/\Rx.Goes N (XH aj l.toArray 1 p l.length ac) (oZ (mq p))) (hw:∀p s e b e',mq p=a7 (s,e,b,e')->p<=s/\s<e/\e<=l.length)
  (Ep:∀W s v (x1 x2:Int) (b e':Nat),0<s.toks->W.h=s.heap->Rel c.K W->jI W f au aB al->VR W (.mt ⟨l.toArray⟩ [x1,x2,(b:Int),(e':Int)]) v->codeAny c.M c.A.in1 (.call (.ref f) ⟨[v],[]⟩) (Ends c.K W s λx H'=>x=S (rep ((l.drop b).take (e' - b)))/\H'=W.H) s)
  (y9:∀t,t.length<=1000->(rep t).length<=2000) (g:Here c W s ls) (LM:jI W f au aB al)
  (q:∀W' s' v,Good c W s W' s' ls->W'.H=W.H->VR W' (S (m9 mq rep l (l.length+1) 0)) v->P v s'):wpAny c.M c.A (call (.builtin "re.Pattern.sub") [.ref a,.ref f,.str ⟨l.toArray⟩ tk]) P E s:=by
 revert c ls a f aj au aB al l mq rep tk W s P E;delta c ls a f aj au aB al l mq rep tk W s P E;intro hp hl hN hw Ep y9 g LM q;have X:c.K.In s.heap:=g.hh▸g.rel.top;show YD (X5 Rf.qJ.plain Rf.entry_sub (Rf.qJ.check _ _ _ _ _ _ _ _ (hp.type X) (Rf.Ed _ _ _) (aM (m:=reNamed _ _ _ _ _ _) (GT (aM (GT ?_))))));have hf:s.TypeIs (.ref f) "function":=by show xA LM fun  pu u=>?_;obtain⟨fd,h1,_⟩:=pu;show bd _ (g.hh▸h1) rfl
 show Xb (YF hf Rf.tV ?_);dsimp only[Option.isSome_some];show Xb (GT (Xb (GT ?_)));dsimp only;show aM (XE (kB hp X (aM (Xb (ZM (Aaj s _ _) Rf.Bu (GT (aM (wpAny_newList ?_ (Xn _)))))))));obtain⟨aK,aU,yb,aD,b8,hb,c8,qG⟩:=og (H:=W.H) (xs:=[]) (vs:=[]) (t:=s.toks) (Q:=λb H' l'=>b=.ref W.H.length/\H'=W.H++[.lst []]/\l'=ls) g rfl .nil ⟨rfl,rfl,rfl⟩;replace aD:=aD.at g.tk;subst hb;subst qG;have nO:(aK.ρ W.H.length).1=s.heap.objs.size:=by
  have:∀v,VR aK (.ref W.H.length) v->v=.ref (aK.ρ W.H.length).1:=λv r=>by(apply VR.lT r;intro u);rfl
  show(AaN (this _ b8)).symm
 show GT ⟨Zv _ (by decide +kernel),?_⟩;show ix nO (Yr (Eo (H:=W.H) hp hl hN hw Ep y9 tk (l.length+1) 0 (Acv l.length 0) (Xn _) aK _ [] 0 aD.here c8 (LM.mono g.rel (aD.mono g)) (by simp;show"La1000L*2a3000" hl) (λt m=>nomatch m)) λr s' z=>?_);obtain⟨v,W',o,hr,G,vr,hH⟩:=z;subst hr;show q _ _ _ (g.tT rfl (aD.toGood.trans G) hH) rfl ?_;apply VR.dE vr;intro u;show .str _ _
theorem sF{ae:Env}{pn x:Pi}{ps eY lp ai:Pos}{au:Arguments}{aB vW:Expr}{al:Scope}{a cc T:Addr}{aj:Array Nat}{l:List Nat}{nv:Value}{n:Nat}{mq:Nat->Option (Nat×Nat×Nat×Nat)}{rep:List Nat->List Nat}
  (E':ba ae c.f) (hA:cM c.A (n+2)) (m:(cc,T)∈de c.K) (nd:(bp c.K).Nodup) (B:oV c.K) (iI:ae.code=.ref cc) (Bt:nsIn c.K mainGlobals "__name__" = a7 (a7 nv))
  (KY:ae.kindOf pn=a7 .globalImplicit) (VB:cF c.K pn=a7 (.ref a)) (KW:(pn==("__debug__" : Pi))=ac) (hp:ez c.K a aj 1)
  (gL:closureFor al ae=Xj []) (Ek:defaultsOf au ae=([],[])) (HJ:b5 au=[x]) (fW:∀fd vs,fd.params=au->fd.defaults=.none->vs.length=1->bindArgs fd ⟨vs,[]⟩=Xj ((b5 au).zip vs))
  (iP:al.isCoroutine=ac) (fv:al.isGenerator=ac) (hk:al.kind=.function) (fx:al.names.lookup x=a7 .local) (cr:∀x∈al.names,x.2≠.cell)
  (RA:∀{W s},Here c W s ls->W.H=H->∀(P:Value->Shared->Prop) (E:Value->Shared->Prop),(∀t,P (.str ⟨l.toArray⟩ t) s)->wpAny c.M c.A (eval vW ae) P E s) (xG:fH [AcD au aB al lp,vW]=a9) (wI:starEach [vW] ae=(ac,eval vW ae)::starEach [] ae)
  (hl:l.length<=1000)
  (hN:∀p,p<=l.length->∃N,N<=4*2 ^ 64/\Rx.Goes N (XH aj l.toArray 1 p l.length ac) (oZ (mq p))) (hw:∀p s e b e',mq p=a7 (s,e,b,e')->p<=s/\s<e/\e<=l.length)
  (DW:∀L q cd A' f H' (x1 x2:Int) (b e':Nat),cM A' n->ba (bT al L [] q f cd) ⟨L,[]⟩->Ok (c.sub A' ⟨L,[]⟩) VR (eval aB (bT al L [] q f cd)) H' [(x,.mt ⟨l.toArray⟩ [x1,x2,(b:Int),(e':Int)])] fun  y d7 u=>y=S (rep ((l.drop b).take (e' - b)))/\d7=H')
  (y9:∀t,t.length<=1000->(rep t).length<=2000)
  (sx:(eY.endLine==ai.line)=a9) (km:∀o:Expr,o=.Name pn ps->attributeBase o "sub" ae (eval o ae)=eval o ae)
  (q:Q (S (m9 mq rep l (l.length+1) 0)) H ls) :
  Ok c VR (eval (.Call (.Attribute (.Name pn ps) "sub" eY) [.Lambda au aB al lp,vW] [] ai) ae) H ls Q:=λW s g e=>by
 subst e;have pa:=dZ (ae:=ae) (ai:=ai) xG;have fO:methodCallPos a9 (.Name pn ps) ae eY ai=Xj ai:=by unfold methodCallPos;show aQ ‹_›
 rw[AaM];show aE (km _ rfl) ?_;show aM ((jj (Q:=λy H' l'=>y=.val (.ref a)/\H'=W.H/\l'=ls) E' KY VB ⟨rfl,rfl,rfl⟩ KW).run g rfl λaK aH aU y v aD b8 aR=>aM (Yy (pJ aR λe9 c8 jN=>?_)));subst e9;clear g aR;subst jN;apply VR.xo b8;unfold methodCall;have qx:methodCallForm ([AcD au aB al lp,vW].length+([]:List Keyword).length) (backTo ai (starEach [AcD au aB al lp,vW] ae)) (backToKw ai (keywordEach [] ae))=a9:=by
  unfold methodCallForm;have:(backTo ai (starEach [AcD au aB al lp,vW] ae)).all (λx=>!x.1)=a9:=by rw[Abi];simp only[Adq];show aE pa.1 ?_;rfl
  show aE this ?_;rfl
 show aE qx (aM (XE (eZ (H:=aK.H) hp Rf.qJ Rf.Le aK aH _ aU _ _ _ aD.here rfl (.val _) (aM (XX fO (cx pa.1 pa.2 (Yp (YA (n:=1) aD.tk <|Ej aD.here E' m nd B iI gL Ek Bt λf b4 aN aF cT LM iQ=>?_) rfl)))))));replace aF:=aF.at iQ;show Yp (RA aF.here (cT.trans c8) _ _ λt=>?_) wI;show YR ⟨⟨.machine,Aaq rfl⟩,?_⟩;show HI hp hl hN hw (λW s v x1 x2 b e' VC hh R LM r=>?_) y9 aF.here LM λb7 bJ v aT cE eU=>?_
 .show El (n:=n) hA.in1 VC hh R LM (.cons r .nil) (λfd vs h1 h2 h3=>fW fd vs h1 h2 h3) (by rw[HJ];simp) (by show aE HJ ?_;rfl) iP fv hk (by show aE HJ ?_;simpa using fx) cr λL q aj A' Mn VD hb hu=>?_;show aE HJ ((DW L q aj A' f W.H x1 x2 b e' Mn VD).mono λy d7 cj zz=>?_);obtain⟨hy,hH⟩:=zz;subst hy;subst hH;show eE W.H.length W.H _ (Xd _) ⟨Xd _,by rw[Abn];show lG.refl hb,.str _⟩ rfl rfl
 .show⟨b7,aU,_,aD.toGood.trans (aF.toGood.trans aT),eU,by(show aE cE ?_;show aE cT ?_;show aE c8 ?_);show q⟩
end
end
section
open PySem.Builtin.Re
namespace Rf
theorem Es:typeLookup (.type "re.Match") "__bool__" = Xj a8:=by(rw[XT];show aE Xw ?_);kernel_rfl
theorem HK:typeLookup (.type "re.Match") "__len__" = Xj a8:=by(rw[XT];show aE Xw ?_);kernel_rfl
end Rf
section
variable {c:Cx}{H:List AO}{ls:Loc}{Q:AV->List AO->Loc->Prop}
theorem l7{t:Pi}{sp:List Int}{Q:Bool->List AO->Loc->Prop}(q:Q a9 H ls):pz c cy truthy (.mt t sp) H ls Q:=λW s v g e r=>by show iL (pO g r) λa o iO h1 h2 h3=>?_;clear r;subst iO;have hT:s.TypeIs (.ref a) "re.Match":=bd o h1 h2;show aM (m:=callSpecial? (.ref a) (Zc "__bool__")) (aM (YF hT Rf.Es (GT (Xb (YF hT Rf.HK (GT ⟨W,ls,a9,g.good,rfl,e▸q⟩))))))
theorem lK{a:Addr}{aj:Array Nat}{l:List Nat}{N:Nat}{b:Bool}(hp:ez c.K a aj 0)(hl:l.length<=1000)
  (h:Rx.Goes N (AaU aj l.toArray 0 0 l.length a9 ac) (λm=>if b=a9 then m.outcome=a7 .matched/\m.start=0/\m.handed=l.length else m.outcome=a7 .failed)) (hN:N<=4*2 ^ 64)
  (q:Q (if b then .mt ⟨l.toArray⟩ [0,l.length]else .none) H ls):kS c VR (λvs=>call (.builtin "re.Pattern.fullmatch") vs) [.val (.ref a),S l] H ls Q:=λW s vs g e rr=>by
 revert c H ls Q a aj l N b W s vs;delta c H ls Q a aj l N b;intro hp hl h hN q;delta W s vs;intro g e rr;show bF rr.two λv u e9 rx ry=>?_;clear rr;subst e9;(apply VR.xo rx);apply VR.dE ry;intro t
 have X:c.K.In s.heap:=g.hh▸g.rel.top;show YD (X5 Rf.fY.plain Rf.pE (Rf.fY.check _ _ _ _ _ _ _ _ (hp.type X) (Rf.qI _ _) (aM (sB hp X (by simp;show"La1000La1000000" hl) (by rfl) ?_))));dsimp only;have mn:l.toArray.size=l.length:=by simp
 show aE mn (Xb (Rx.jU h hN λm hm=>?_));cases b with
 |false=>show .inr ⟨hm,GT ⟨W,ls,.none,g.good,.none,e▸q⟩⟩
 |true=>
  show pJ hm λh1 h2 h3=>.inl ⟨h1,?_⟩;dsimp only;unfold reNewMatch;show aE (show Yx 0=[]from rfl) ?_;show aE h2 ?_;show aE h3 ?_;show aM (aM (AaZ ?_ (show 2<=sizeLine by decide)));show YB ?_;have k:∀b o,s.heap.get? b=a7 o->((s.heap.push (bS (([0,(l.length:Int)]:List Int).map rawInt).toArray 0)).push { cls:=.type "re.Match",data:=.fields #[.str ⟨l.toArray⟩ t,.ref a,rawInt (0:Nat),rawInt l.length,rawInt m.lastindex,.ref s.heap.objs.size] }).get? b=a7 o:=λa o z=>Xa _ (Xa _ z)
  have Ee:s.heap.get? s.heap.objs.size=a8:=by
   cases z:s.heap.get? s.heap.objs.size with|none=>rfl|some o=>show absurd (XF z) (XM _)
  have G:=g.grow s.toks k;have nm:∀b,s.heap.get? b=a8->b ∉ W.bf:=λb hb mm=>by show bb (g.rel.df mm) fun  o ho j=>?_;rw[g.hh,hb]at ho;injection ho
  show GT ⟨_,ls,.mt ⟨l.toArray⟩ [0,(l.length:Int)],G,.mt (Xo _ rfl) (Xa _ (Xo _ rfl)) (nm _ ?_) (nm _ Ee),by subst e;show q⟩;cases z:s.heap.get? (s.heap.push (bS (([0,(l.length:Int)]:List Int).map rawInt).toArray 0)).objs.size with|none=>show z|some o=>show absurd (XF (Xa (bS (([0,(l.length:Int)]:List Int).map rawInt).toArray 0) z)) (XM _)
end
end
section
open PySem.Builtin.Re
theorem NZ:(⟨([]:List Nat).toArray⟩:Pi).cps.contains 92=ac:=by simp
section
variable {c:Cx}{H:List AO}{ls:Loc}{Q:AV->List AO->Loc->Prop}
theorem O0{a:Addr}{l:List Nat}{p:Nat}{aJ:Bool}{n:Int}{tk t0:Tok}{W:Wd}{s:Shared}{ts:List (List Nat)}(hp:ez c.K a Rx.i6 0)(hl:l.length<=1000)(pQ:p<=l.length)(HA:p≠0\/(aJ=a9/\Rx.cnt Rx.cJ l 0=0))
  (g:Here c W s ls) (e:W.H=H++[.lst (ts.map S)]) (ut:ts.length<=100) (cY:∀t∈ts,t.length<=2000) :
  codeAny c.M c.A (.builtin "re.Pattern.sub.loop" ⟨[.ref a,.str ⟨l.toArray⟩ tk,.str ⟨([]:List Nat).toArray⟩ t0,rawInt 0,rawInt 0,rawInt n,rawInt p,rawInt p,.bool aJ,.ref (W.ρ H.length).1,.bool a9],[]⟩)
   (rP c W s ls H (.tup [S (ts.flatten++l.drop p),.int n])) s:=by
 revert c H ls a l p aJ n tk t0 W s ts;delta c H ls a l p aJ n tk t0 W s ts;intro hp hl pQ HA g e ut cY;have X:c.K.In s.heap:=g.hh▸g.rel.top;have mn:l.toArray.size=l.length:=by simp
 have hi:W.H[H.length]?=a7 (.lst (ts.map S)):=by show aE e ?_;simp
 have ext:∀i j,l.toArray.extract i j=((l.drop i).take (j-i)).toArray:=λi j=>by rw[AbH,Aa0]
 show ZY Rf.m7 ?_;rw[Aac Rf.m8];show Xb (kB hp X (aM (Xb (m:=asStr? _) (GT (GT ?_)))));unfold reNextFound;dsimp only;show aE mn ?_;rw[Yq];show Xb (Rx.jU (Rx.Au hl pQ HA) (by show"L10000000*4.18446744073709551616") λm' IK=>.inr ⟨IK,?_⟩);dsimp only;have fin:∀(O1:List (List Nat)) aK aH,Good c W s aK aH ls->aK.H=H++[.lst (O1.map S)]->O1.flatten=ts.flatten++l.drop p->∀v b4 aN (E:Value->Shared->Prop) (R:Result->Shared->Prop),Good c aK aH b4 aN ls->b4.H=aK.H->VR b4 (S O1.flatten) v->
   (∀v' W' s',Good c W s W' s' ls->VR W' (.tup [S (ts.flatten++l.drop p),.int n]) v'->W'.H=H++[.lst (O1.map S)]->R (.ok (.ret v')) s')->
   wpAny c.M c.A.in1 (holding [v] (mkInt n >>= λx=>newTuple [v,x]) >>= λx=>ret x)
    (λfin s'=>match fin with|.done f=>R (.ok f) s'|.again c'=>c'.quiet=a9/\codeAny (model c.prog c.w) c.A c' R s') E aN:=by
  intro O1 aK aH aD c8 vT v b4 aN E R aF cT dg K;show aM (XE (aM (Abc (AaZ ?_ (by simp[sizeLine])))));have O2:Here c b4 { aN with toks:=1 } ls:=⟨aF.hh,aF.rel,aF.fr,Nat.one_pos⟩
  have aT:=O2.grow (h':=aN.heap.push (bS #[v,.int n aN.toks] 0)) (aN.toks+1) (λb o e=>Xa _ e);have vU:Good c b4 aN _ { aN with heap:=aN.heap.push (bS #[v,.int n aN.toks] 0),toks:=aN.toks+1 } ls:=⟨aT.hh,aT.st,aT.rel,aT.fr,aT.sh⟩
  show GT (K _ _ _ (aD.trans (aF.trans vU)) (.tup (n:=0) (Xo _ rfl) (aF.hh▸aF.rel.fresh) (.cons ?_ (.cons (.int _ _) .nil))) (cT.trans c8));show ix vT (aT.vr O2 dg)
 by_cases sv:p<l.length
 .rw[aQ sv];show aM (mU (iT ‹_›) λv hv=>?_);have aD:=(g.tok (s.toks+1)).at (XQ _);have Jk:v=.str ⟨(l.drop p).toArray⟩ s.toks:=by rw[hv,ext,Yl (by simp)]
  show aM (im aD.here hi (by show"La100La100000" ut) (t:=l.drop p) (by rw[Jk];show .str _ _) λb4 aN aF cT ρ₂=>?_);rw[e,Ys _ _ (Xd _)]at cT;simp only[ZZ,Ab1]at cT;show ix ρ₂ (pP aF.here cT hl (by simp;show"La100La3999" ut) (λt m=>?_) λj7 b7 bJ aT cE eU=>?_)
  .rcases Xl.mp m with m|m
   .show cY t m
   .simp at m;subst m;simp;show"La1000La+2000b" hl
  .show fin _ b4 aN (aD.toGood.trans aF.toGood) cT (by simp) j7 b7 bJ _ (rP c W s ls H (.tup [S (ts.flatten++l.drop p),.int n])) aT cE eU λv' W' s' G vr hH=>rP.mk v' W' _ rfl G vr hH
 .rw[aI sv];show pP g e hl (by show"La100La4000" ut) cY λj7 b7 bJ aT cE eU=>fin ts W s g.good e (by rw[ZG.mpr (by show"NTabLba" sv),Xv]) j7 b7 bJ _ (rP c W s ls H (.tup [S (ts.flatten++l.drop p),.int n])) aT cE eU λv' W' s' G vr hH=>rP.mk v' W' _ rfl G vr hH
theorem O3{a:Addr}{l:List Nat}{p:Nat}{n:Int}{tk t0:Tok}{W:Wd}{s:Shared}(RB:p=0)(hn:n=0)(hp:ez c.K a Rx.i6 0)(hl:l.length<=1000)
  (g:Here c W s ls) (e:W.H=H++[.lst (([]:List (List Nat)).map S)]) :
  codeAny c.M c.A (.builtin "re.Pattern.sub.loop" ⟨[.ref a,.str ⟨l.toArray⟩ tk,.str ⟨([]:List Nat).toArray⟩ t0,rawInt 0,rawInt 0,rawInt n,rawInt p,rawInt p,.bool ac,.ref (W.ρ H.length).1,.bool a9],[]⟩)
   (rP c W s ls H (.tup [S (l.dropWhile Rx.cJ),.int 1])) s:=by
 revert c H ls a l p n tk t0 W s;delta c H ls a l p n tk t0 W s;intro RB hn hp hl g e;have X:c.K.In s.heap:=g.hh▸g.rel.top;have mn:l.toArray.size=l.length:=by simp
 have hi:W.H[H.length]?=a7 (.lst (([]:List (List Nat)).map S)):=by show aE e ?_;simp
 have RC:=Rx.gK Rx.cJ l 0;show ZY Rf.m7 ?_;rw[Aac Rf.m8];show Xb (kB hp X (aM (Xb (m:=asStr? _) (GT (GT ?_)))));unfold reNextFound;dsimp only;show aE mn ?_;rw[Yq];show aE RB ?_;have hit:=Rx.CX hl;generalize hF:XH Rx.i6 l.toArray 0 0 l.length ac=F at hit ⊢;have RD:1000<=4*2 ^ 64:=by show"L1000*4.18446744073709551616"
 show Xb (Rx.jU hit RD ?_);intro m hm;show .inl ⟨hm.1,?_⟩;show pJ hm fun  u h2 h3=>?_;dsimp only;rw[aI (by rw[h2];show"NT0.0")];show Xb (GT ?_);rw[aQ (show(AbX ⟨([]:List Nat).toArray⟩ t0 != Zb)=a9 from rfl)];show aM (im g hi (by simp) (t:=[]) (.str _ _) λb4 aN aF cT ρ₂=>?_);show GT ⟨Zv _ (by decide +kernel),?_⟩;rw[e,Ys _ _ (Xd _)]at cT;simp only[ZZ,Ab1]at cT;show ix ρ₂ ?_;show aE h2 ?_;show aE h3 ?_;have HA:Rx.cnt Rx.cJ l 0≠0\/((Rx.cnt Rx.cJ l 0==0)=a9/\Rx.cnt Rx.cJ l 0=0):=by
  by_cases z:Rx.cnt Rx.cJ l 0=0
  .show .inr ⟨by rw[z];rfl,z⟩
  .show .inl z
 have O4:l.drop (Rx.cnt Rx.cJ l 0)=l.dropWhile Rx.cJ:=by have:=Ei Rx.cJ l 0;rw[XI,Zi]at this;show this
 show Yr (O0 (n:=n+1) (tk:=tk) (t0:=t0) (ts:=[]++[[]]) hp hl (by show"La-b0Lab" RC) HA aF.here cT (by simp) (λt m=>by simp at m;subst m;simp)) λr s' z=>?_;obtain⟨v,W',o,hr,G,vr,hH⟩:=z;show .mk v W' o hr (aF.trans G) ?_ hH;rw[O4,hn]at vr;show vr
theorem Et{a:Addr}{l:List Nat}(hp:ez c.K a Rx.i6 0)(hl:l.length<=1000)(q:Q (.tup [S (l.dropWhile Rx.cJ),.int 1]) H ls):kS c VR (λvs=>call (.builtin "re.Pattern.subn") vs) [.val (.ref a),S [],S l] H ls Q:=λW s vs g e rr=>by
 revert c H ls Q a l W s vs;delta c H ls Q a l;intro hp hl q;delta W s vs;intro g e rr;show c0 rr.three λv u0 u iO rx r0 ry=>?_;subst iO;(apply VR.xo rx);(apply VR.dE ry;intro t);clear rr;apply VR.dE r0;intro t0
 have X:c.K.In s.heap:=g.hh▸g.rel.top;show YD (X5 Rf.o8.plain Rf.xV (Rf.o8.check _ _ _ _ _ _ _ _ (hp.type X) (Rf.Bo _ _ _) ?_));unfold Builtin.«re.Pattern.subn» reSubstitute;dsimp only;show aM (m:=reNamed _ _ _ _ _ _) (GT (aM (GT (Xb (YF (Aaj s _ _) Rf.Em (Xb (m:=asStr? _) (GT (Xb (GT (aE NZ ?_))))))))));show Xb (GT ?_);dsimp only;show aM (XE (kB hp X (aM (wpAny_newList ?_ (by simp[sizeLine])))));obtain⟨aK,aU,yb,aD,b8,hb,c8,qG⟩:=og (H:=W.H) (xs:=[]) (vs:=[]) (t:=s.toks) (Q:=λb H' l'=>b=.ref W.H.length/\H'=W.H++[.lst (([]:List (List Nat)).map S)]/\l'=ls) g rfl .nil ⟨rfl,rfl,rfl⟩;replace aD:=aD.at g.tk;subst hb;subst qG;have nO:(aK.ρ W.H.length).1=s.heap.objs.size:=by
  have:∀v,VR aK (.ref W.H.length) v->v=.ref (aK.ρ W.H.length).1:=λv r=>by(apply VR.lT r;intro j);rfl
  show(AaN (this _ b8)).symm
 show GT ⟨Zv _ (by decide +kernel),?_⟩;show ix nO (Yr (O3 (H:=W.H) (p:=0) (n:=0) (tk:=t) (t0:=t0) rfl rfl hp hl aD.here c8) λr s' z=>?_);obtain⟨v,W',o,hr,G,vr,hH⟩:=z;subst hr;have hz:bw W.H.length W.H:=g.rel.closed;show⟨_,aU,.tup [S (l.dropWhile Rx.cJ),.int 1],g.tT rfl (aD.toGood.trans G) hH,?_,by subst e;show q⟩;show Fz.vr (W:=W') (n:=W.H.length) G.rel (by rw[hH];simp) (by rw[hH,fX];show lG.refl hz) (.tup (.cons (.str _) (.cons (.int _) .nil))) vr
end
end
end
section
open PySem PySem.W PyProof.Rows
section
variable {f:Nat->Bool}{l:List Nat}
noncomputable def dm(f:Nat->Bool):Nat->Nat->Option Nat
 |0,_=>a8
 |k+1,p=>if f p then a7 p else dm f k (p+1)
theorem p8(f:Nat->Bool)(k p:Nat):dm f (k+1) p=if f p then a7 p else dm f k (p+1):=rfl
theorem gf{k:Nat}:∀{p s:Nat},dm f k p=a7 s->p<=s/\s<p+k/\f s=a9/\∀t,p<=t->t<s->f t=ac:=by
 induction k with
 |zero=>showλh=>nomatch h
 |succ k ih=>
  intro p s h;replace h:=(p8 f k p).symm.trans h;cases q:f p with
  |true=>rw[q]at h;simp at h;subst h;show⟨Xd _,by show"Ta+a+b1",q,λt a b=>absurd b (by show"LabNTba" a)⟩
  |false=>
   rw[q]at h;simp at h;show nA (ih h) λa b d e=>⟨by show YM ‹_›,by show"Ta++b1cTa+b+c1" b,d,λt t1 t2=>?_⟩;by_cases z:t=p
   .clear a b e h t1;subst z;show q
   .show e t (by show"LabNEbaL+a1b" t1 z) t2
theorem jy{k:Nat}:∀{p:Nat},dm f k p=a8->∀t,p<=t->t<p+k->f t=ac:=by
 induction k with
 |zero=>show fun  u t a b=>absurd b (Z5.mpr a)
 |succ k ih=>
  intro p h t a b;replace h:=(p8 f k p).symm.trans h;cases q:f p with
  |true=>rw[q]at h;injection h
  |false=>
   replace h:=q▸h;simp at h;by_cases z:t=p
   .clear a b h;subst z;show q
   .show ih h t (by show"LabNEbaL+a1b" a z) (by show"Ta+b+c1Ta++b1c" b)
noncomputable def kC(l:List Nat)(t:Nat):Bool:=l[t]?==a7 92 && (match l[t+1]? with|some ch=>ch != 10|none=>ac)
theorem j8{t:Nat}:kC l t=a9↔Rx.s7 l t:=by
 unfold kC Rx.s7;rw[YP,beq_iff_eq];constructor
 .rintro⟨a,b⟩
  show⟨a,?_⟩;cases h:l[t+1]? with|some ch=>rw[h]at b;show bd ch rfl (by simpa using b)|none=>rw[h]at b;injection b
 .rintro⟨a,ch,h,q⟩
  show⟨a,by show aE h ?_;simpa using q⟩
noncomputable def kD(l:List Nat)(p:Nat):Option (Nat×Nat×Nat×Nat):=(dm (kC l) (l.length-p) p).map λs=>(s,s+2,s+1,s+2)
theorem Bv(hl:l.length<=1000){p:Nat}(hp:p<=l.length):∃N,N<=4*2 ^ 64/\Rx.Goes N (XH Rx.tw l.toArray 1 p l.length ac) (oZ (kD l p)):=by
 show bd 1000000 (by show"L1000000*4.18446744073709551616") ?_;unfold kD;cases h:dm (kC l) (l.length-p) p with|none=>show Rx.CW hl λt t1 z=>?_;have hz:=j8.mpr z;have:t<l.length:=(Xc.mp z.1).1;rw[jy h t t1 (by show"TabTa+c-bc" this)]at hz;injection hz|some s=>show nA (gf h) λa b d e=>?_;show pY (Rx.GV (s0:=p) (s:=s) hl a (λt t1 t2 z=>by have:=j8.mpr z;rw[e t t1 t2]at this;injection this) (j8.mp d)) λn n1 n2 m1 m2 tz=>?_;show xA tz ?_;clear tz;intro m3 m4;show eQ n n1 n2 m1 m2 (Gi m3 (Yb _) m4)
theorem Eu:∀p s e b e',kD l p=a7 (s,e,b,e')->p<=s/\s<e/\e<=l.length:=by
 intro p s e b e' h;show bb (ZT.mp h) λs' h1 h2=>?_;clear h;cases h2;show nA (gf h1) fun  a b d u=>?_;show xA (j8.mp d) fun  u tz=>?_;show bb tz ?_;clear tz;intro ch z u
 have:=(Xc.mp z).1;show"LabT+b1cALabATb+b2L+b2c" a this
noncomputable def markB(l:List Nat)(t:Nat):Bool:=match l[t]? with|some ch=>!Rx.dD ch|none=>ac
noncomputable def jz(l:List Nat)(p:Nat):Option (Nat×Nat×Nat×Nat):=(dm (markB l) (l.length-p) p).map λs=>(s,s+1,s,s+1)
theorem yc(hl:l.length<=1000){p:Nat}(hp:p<=l.length):∃N,N<=4*2 ^ 64/\Rx.Goes N (XH Rx.eK l.toArray 1 p l.length ac) (oZ (jz l p)):=by
 show bd 100 (Xx _ _) ?_;unfold jz;cases h:dm (markB l) (l.length-p) p with
 |none=>
  show Rx.Ax λt t1 ch z=>?_;have:t<l.length:=(Xc.mp z).1
  have:=jy h t t1 (by show"TabTa+c-bc" this);unfold markB at this;rw[z]at this;simpa using this
 |some s=>
  show nA (gf h) λa b d e=>?_;unfold markB at d;cases hc:l[s]? with
  |none=>rw[hc]at d;injection d
  |some ch=>
   rw[hc]at d;obtain⟨n,n1,n2,m1,m2,m3,m4⟩:=Rx.D1 (s0:=p) (s:=s) (ch:=ch) hl a (λt t1 t2 c z=>by have:=e t t1 t2;unfold markB at this;replace this:=z▸this;simpa using this) hc (by simpa using d)
   show eQ n n1 n2 m1 m2 (Gi m3 (Yb _) m4)
theorem Bw:∀p s e b e',jz l p=a7 (s,e,b,e')->p<=s/\s<e/\e<=l.length:=by intro p s e b e' h;show bb (ZT.mp h) λs' h1 h2=>?_;clear h;cases h2;show nA (gf h1) fun  a b d u=>?_;show"LabTb+a-caALabATb+b1L+b1c" a b
end
section
variable {l:List Nat}
noncomputable def aG(l:List Nat):List Nat:=l.flatMap λch=>if Rx.dD ch then[ch]else[92,ch]
theorem lM:∀{l:List Nat},(∀ch∈l,Rx.dD ch=a9)->aG l=l:=by
 intro zz;induction zz with
 |nil=>show fun  u=>rfl
 |cons a r ih=>
  showλh=>by have:=ih λch m=>h ch (.tail _ m);unfold aG at this ⊢;rw[AaF];show aE this ?_;rw[aQ (h a (.head _))];rfl
theorem qO(l r:List Nat):aG (l++r)=aG l++aG r:=by unfold aG;rw[List.flatMap_append]
theorem yd{p s ch:Nat}(hp:p<=s)(h:l[s]?=a7 ch):l.drop p=(l.drop p).take (s-p)++ch::l.drop (s+1):=by
 have hs:s<l.length:=(Xc.mp h).1;have e:l[s]=ch:=(Xc.mp h).2;have h2:(l.drop p).drop (s-p)=ch::l.drop (s+1):=by rw[ZR];show aE (show p+(s-p)=s by show ZH hp) ?_;rw[Yw hs];show aE e rfl
 show ix h2 ?_;rw[Y7]
theorem Ew{p s ch:Nat}(hm:ch∈(l.drop p).take (s-p)):∃t,p<=t/\t<s/\l[t]?=a7 ch:=by obtain⟨i,hi,e⟩:=Zo hm;rw[XJ,XW]at hi;show cf (p+i) (Yd _ _) (by show"Ta<-bc-dcT+cab" hi) ?_;rw[List.getElem_take,List.getElem_drop]at e;show aE (Xk (by show"Ta<-bc-dcT+cad" hi)) ?_;show aE e rfl
theorem Bx(k:Nat):∀p,l.length-p<k->m9 (jz l) (λt=>92::t) l k p=aG (l.drop p):=by
 induction k with
 |zero=>showλp h=>absurd h (Y5 _)
 |succ k ih=>
  intro p h;rw[u9];unfold jz;cases hx:dm (markB l) (l.length-p) p with
  |none=>
   change l.drop p=_;show(lM λch m=>?_).symm;obtain⟨i,hi,e⟩:=Zo m;rw[XW]at hi;rw[List.getElem_drop]at e
   have:=jy hx (p+i) (Yd _ _) (Nat.add_lt_add_left hi p);unfold markB at this;rw[Xk (Nat.add_lt_of_lt_sub' hi),e]at this;simpa using this
  |some s=>
   show nA (gf hx) λa b d e=>?_;unfold markB at d;cases hc:l[s]? with
   |none=>rw[hc]at d;injection d
   |some ch=>
    rw[hc]at d;have hq:Rx.dD ch=ac:=by simpa using d
    change(l.drop p).take (s-p)++(92::(l.drop s).take (s+1-s))++m9 (jz l) (λt=>92::t) l k (s+1)=_;have hs:s<l.length:=(Xc.mp hc).1;have e1:(l.drop s).take (s+1-s)=[ch]:=by(show aE (show s+1-s=1 by show Adj s 1) ?_;rw[Yw hs];show aE ((Xc.mp hc).2) ?_);rfl
    show aE e1 ?_;show aE (ih (s+1) (by show"T-ab+c1LbdTdaT-a+d1c" h a hs)) ?_;conv=>rhs;rw[yd a hc,qO]
    rw[lM (l:=(l.drop p).take (s-p)) λSS m=>by
     show bV (Ew m) λt t1 t2 t3=>?_
     have:=e t t1 t2;unfold markB at this;rw[t3]at this;simpa using this]
    have:aG (ch::l.drop (s+1))=92::ch::aG (l.drop (s+1)):=by unfold aG;rw[AaF];show aE hq ?_;rfl
    show aE this (Xq _ _ _)
end
section
variable {r l:List Nat}
noncomputable def iS:Nat->List Nat->List Nat
 |0,l=>l
 |_+1,[]=>[]
 |n+1,x::r=>if kC (x::r) 0 then(r.take 1)++iS n (r.drop 1)else x::iS n r
noncomputable def j9(l:List Nat):List Nat:=iS l.length l
theorem mV(n x:Nat)(r:List Nat):iS (n+1) (x::r)=if kC (x::r) 0 then(r.take 1)++iS n (r.drop 1)else x::iS n r:=rfl
theorem oh:∀(n m:Nat) (l:List Nat),l.length<=n->l.length<=m->iS n l=iS m l
 |0,m,l,h,_=>by have:l=[]:=Zg.mp (Abs h);clear h;subst this;cases m<;>rfl
 |n+1,0,l,_,h=>by have:l=[]:=Zg.mp (Abs h);clear h;subst this;rfl
 |n+1,m+1,[],_,_=>rfl
 |n+1,m+1,x::r,h1,h2=>by simp only[Xs]at h1 h2;rw[mV,mV];show aE (oh n m r (Aa8 h1) (Aa8 h2)) ?_;show aE (oh n m (r.drop 1) (by simp;show YM ‹_›) (by simp;show YM ‹_›)) rfl
theorem kF{x:Nat}(h:kC (x::r) 0=ac):j9 (x::r)=x::j9 r:=by rw[show j9 (x::r)=_ from mV r.length x r];show aE h ?_;rfl
theorem sG{ch:Nat}(h:ch≠10):j9 (92::ch::r)=ch::j9 r:=by change iS (r.length+1+1) (92::ch::r)=_;have:kC (92::ch::r) 0=a9:=j8.mpr (iA rfl (bd ch rfl h));rw[mV,aQ this];change ch::iS (r.length+1) r=_;show aE (oh (r.length+1) r.length r (Yb _) (Xd _)) ?_;rfl
theorem sH{p:Nat}:kC (l.drop p) i=kC l (p+i):=by unfold kC;rw[AaW,AaW];show aE (show p+(i+1)=p+i+1 by rfl) rfl
theorem ye:∀(k p:Nat),l.length-p<=k->(∀t,p<=t->t<l.length->kC l t=ac)->j9 (l.drop p)=l.drop p:=by
 intro zz;induction zz with
 |zero=>show fun  p h u=>by rw[ZG.mpr (by show"L-ab0Lab" h)];rfl
 |succ k ih=>
  showλp h hb=>by
   by_cases hp:p<l.length
   .have hd:=Yw hp;have hz:kC (l.drop p) 0=ac:=by rw[sH];show hb _ (Xd _) (by assumption)
    rw[hd]at hz ⊢;show aE (kF hz) ?_;show aE (ih (p+1) (by show"L-ab+c1L-a+b1c" h) λt a b=>hb t (YM ‹_›) b) rfl
   .rw[ZG.mpr (ZO ‹_›)];rfl
theorem Ex{s ch:Nat}(h1:l[s]?=a7 92)(h2:l[s+1]?=a7 ch)(h3:ch≠10)(k:Nat):∀(p:Nat),p+k=s->(∀t,p<=t->t<s->kC l t=ac)->j9 (l.drop p)=(l.drop p).take (s-p)++ch::j9 (l.drop (s+2)):=by
 induction k with
 |zero=>
  intro p e hb;have:p=s:=by assumption
  clear e hb;subst this;have a1:=(Xc.mp h1)
  have a2:=(Xc.mp h2)
  rw[ZZ,AbK,YU];show aE (Yw a1.1) ?_;show aE (Yw a2.1) ?_;show aE a1.2 ?_;show aE a2.2 ?_;rw[sG h3]
 |succ k ih=>
  intro p e hb;have hp:p<l.length:=by have:=(Xc.mp h1).1;show"E+a+b1cTcdTad" e this
  have hd:=Yw hp;have hz:kC (l.drop p) 0=ac:=by rw[sH];show hb _ (Xd _) (by show"E+a+b1cT+a0c" e)
  have ih:=ih (p+1) (by show"E+a+b1cE++a1bc" e) λt a b=>hb t (YM ‹_›) b;rw[hd]at hz ⊢;show aE (kF hz) ?_;show aE ih ?_;show aE (show s-p=(s-(p+1))+1 by show"E+a+b1cE-ca+-c+a1.1" e) ?_;rw[List.take_succ_cons];rfl
theorem Ey(k:Nat):∀p,l.length-p<k->m9 (kD l) (λt=>t) l k p=j9 (l.drop p):=by
 induction k with
 |zero=>showλp h=>absurd h (Y5 _)
 |succ k ih=>
  intro p h;rw[u9,show kD l p=_ from rfl];unfold kD;cases hx:dm (kC l) (l.length-p) p with
  |none=>show(ye (l.length-p) p (Xd _) λt a b=>jy hx t a (by show"TabTa+c-bc" b)).symm
  |some s=>
   show nA (gf hx) λa b d e=>?_;show xA (j8.mp d) λd1 tz=>?_;show bb tz ?_;clear tz;intro ch d2 d3;have a2:=(Xc.mp d2)
   change(l.drop p).take (s-p)++(l.drop (s+1)).take (s+2-(s+1))++m9 (kD l) (λt=>t) l k (s+2)=_;show aE (ih (s+2) (by show"T-ab+c1LbdTd+b-abT-a+d2c" h a b)) ?_;show aE (Ex d1 d2 d3 (s-p) p (ZH a) e) ?_;show aE (show s+2-(s+1)=1 by show Eq.symm (Nat.eq_sub_of_add_eq' rfl)) ?_;show aE (Yw a2.1) ?_;show aE a2.2 ?_;show CA
end
section
variable {ls:Loc}
abbrev RE(c:Cx)(ae:Env)(b:Expr)(Q:AV->List AO->Loc->Prop)(x:AV):Bool->List AO->Loc->Prop:=λt H l=>(t=a9->Q x H l)/\(t=ac->Ok c VR (eval b ae) H l Q)
abbrev VE(c:Cx)(ae:Env)(b:Expr)(Q:AV->List AO->Loc->Prop):AV->List AO->Loc->Prop:=λx H l=>pz c cy truthy x H l (RE c ae b Q x)
theorem Ez{a b:Expr}(h:Ok c VR (eval a ae) H ls (VE c ae b Q)):Ok c VR (eval (.BoolOp .Or [a,b] ai) ae) H ls Q:=λW s g e=>by
 rw[arm_eval_BoolOp];change wpAny _ _ (boolOp ai .Or [eval a ae,eval b ae]) _ _ _;change wpAny _ _ (_ >>= _) _ _ _;show aM (h.run g e λaK aH aU x v aD b8 aR=>aM (Yy (aM (XE (cA aD.tk (aR aK aH v aD.here rfl b8) (λt aN iQ zz=>?_) fun  u u z=>z)))));obtain⟨b4,cj,t',aF,ht,hq⟩:=zz;replace aF:=aF.at iQ;have xn:t=t':=ht;subst xn;cases t with|true=>show GT ⟨b4,cj,x,aD.trans aF,aF.vr aD.here b8,hq.1 rfl⟩|false=>show(hq.2 rfl).tail (aD.tr aF)
theorem mW{a b:Int}(hb:0<b)(hp:AaO a b=ac)(q:Q (.int (a / b)) H ls):lF c VR (binaryOp .FloorDiv) (.int a) (.int b) H ls Q:=λW s v u g e r r'=>by
 (apply VR.fU r;intro z);apply VR.fU r';intro z
 show AutoIntOps.floordiv_1 (by simp;show Int.ne_of_gt hb) (by rw[hp];show YX) ?_;rw[Int.fdiv_eq_ediv_of_nonneg _ (Acg hb)];show back g e _ (.int _ _) q
end
end
section
open PySem PySem.W PyProof.Rows PySem.Builtin PySem.Builtin.Str PySem.Builtin.List
section
variable {Q:AF->List AO->Loc->Prop}{H':List AO}
def ja(c:Cx)(cd:Code)(R:Wd->β->α->Prop)(t:Sem α)(H:List AO)(ls:Loc)(Q:β->List AO->Loc->Prop):Prop:=∀W s,Here c W s ls->W.H=H->_root_.PySem.wpAt c.M c.A cd t (gS c R Q W s) qm s
theorem zJ{M:Model}{cd:Code}{t:Sem α}{P Q:α->Shared->Prop}{F:Value->Shared->Prop}(hn:0<s.toks)(h:_root_.PySem.wpAt M A cd t P E s)(k:∀a s',0<s'.toks->P a s'->Q a s')(kE:∀a s',E a s'->F a s'):_root_.PySem.wpAt M A cd t Q F s:=λΓ p hc VF=>Sem.wp_mono M Γ t (fun  a u s' x=>k a s' x.1 x.2) (fun  e u s' x=>kE e s' x.2) p s (Sem.wp_toks M Γ 1 t _ _ p s hn (h Γ p hc VF))
section
variable {cd:Code}{ls:Loc}
theorem ja.of{R:Wd->β->α->Prop}{t:Sem α}{Q:β->List AO->Loc->Prop}(h:Ok c R t H ls Q):ja c cd R t H ls Q:=λW s g e=>_root_.PySem.wpAt_of_wpAny (h W s g e)
abbrev SeqAt(c:Cx)(cd:Code)(aV:List Stmt)(ae:Env)(Q:AF->List AO->Loc->Prop):AF->List AO->Loc->Prop:=λfl bu aU=>match fl with|.next=>ja c cd aY (execs aV ae) bu aU Q|fl=>Q fl bu aU
abbrev Ll(c:Cx)(cd:Code)(ae:Env)(aB orelse:List Stmt)(Q:AF->List AO->Loc->Prop):Bool->List AO->Loc->Prop:=λb H l=>(b=a9->ja c cd aY (execs aB ae) H l Q)/\(b=ac->ja c cd aY (execs orelse ae) H l Q)
theorem l8{st:Stmt}{aV:List Stmt}(h:ja c cd aY (exec st ae) H ls (SeqAt c cd aV ae Q)) :
  ja c cd aY (execs (st::aV) ae) H ls Q:=λW s g e=>
 ks_wpAt_execs_cons (zJ g.tk (h W s g e) (λf aH nR ⟨aK,aU,fl,aD,b8,aR⟩=>by
  replace aD:=aD.at nR;induction b8 with|next=>show AaH (aR aK aH aD.here rfl) (fun  u u z=>behind aD z) fun  u u z=>z|brk=>show⟨aK,aU,_,aD,.brk,aR⟩|cont=>show⟨aK,aU,_,aD,.cont,aR⟩|ret r=>show⟨aK,aU,_,aD,.ret r,aR⟩) fun  u u z=>z)
theorem O5{test:Expr}{aB orelse:List Stmt}{ai:Pos}{Q:AF->List AO->Loc->Prop}
  (h:Ok c cy (isTrue test ae (eval test ae)) H ls (Ll c cd ae aB orelse Q)) :
  ja c cd aY (exec (.If test aB orelse ai) ae) H ls Q:=λW s g e=>
 ks_wpAt_If (zJ g.tk (_root_.PySem.wpAt_of_wpAny (h W s g e)) (λa aH nR ⟨aK,aU,b,aD,b8,aR⟩=>by
  replace aD:=aD.at nR;have:a=b:=b8;subst this;cases a with|true=>show AaH (aR.1 rfl aK aH aD.here rfl) (fun  u u z=>behind aD z) fun  u u z=>z|false=>show AaH (aR.2 rfl aK aH aD.here rfl) (fun  u u z=>behind aD z) fun  u u z=>z) fun  u u z=>z)
theorem EA(q:Q .next H ls):ja c cd aY (execs [] ae) H ls Q:=.of (execs_nil q)
theorem sI{x:Expr}(h:ja c cd VR (eval x ae) H ls (MZ Q)):ja c cd aY (exec (.Return (a7 x) ai) ae) H ls Q:=λW s g e=>ks_wpAt_Return_some (AaH (h W s g e) (λv aH ⟨aK,aU,b,aD,b8,aR⟩=>⟨aK,aU,_,aD,.ret b8,aR⟩) fun  u u z=>z)
theorem EB{x:Expr}(h:ja c cd VR (eval x ae) H ls (zd Q))(hi:interactive ae=ac)(hs:swapsWith x a8 ai.line ae=Xj ac):ja c cd aY (exec (.Expr x ai) ae) H ls Q:=λW s g e=>ks_wpAt_Expr_any (AaH (h W s g e) (λv aH ⟨aK,aU,b,aD,b8,aR⟩=>⟨aK,aU,_,aD,.next,aR⟩) fun  u u z=>z) hi hs
end
theorem vX{G:List AO}{Q:AV->List AO->Prop}(hle:H.length<=H'.length)(hb:bw H'.length H')(hx:x.gX H'.length=a9)(q:Q x H'):ka H.length Q (.ret x) (H'++G) []:=(pZ H'.length H' x hle ⟨by show wH,by rw[fX];show lG.refl hb,Fz.refl hx⟩ q)
theorem c9{Q:AV->List AO->Prop}(hle:H.length<=H'.length)(hb:bw H'.length H')(hx:x.gX H'.length=a9)(q:Q x H'):ka H.length Q (.ret x) H' []:=by
 have:=vX (G:=[]) hle hb hx q
 rwa[Xv]at this
end
section
variable {ls:Loc}{self:Pi}{cc:Addr}{l:List AV}{fs:List (Pi×AV)}
structure EC(c:Cx)(ae:Env)(PG:Pi)(C fa cc:Addr):Prop where
 ev:ba ae c.f
 sk:Lb c.prog c.K C
 sf:sy c.prog c.K C fa cc PG
 code:∀oc od nu fd,c.K.lookup fa=a7 ⟨oc,od,.func fd,nu⟩->ae.code=fd.code
 ks:ae.kindOf "super" = a7 .globalImplicit
 kc:ae.kindOf "__class__" = a7 .free
 func:ae.func=a7 fa
 cell:ae.cells.lookup ("__class__" : Pi)=a7 cc
 k:ae.kindOf PG=a7 .local
 ce:c.f.cells.lookup PG=a8
 d:(PG==("__debug__" : Pi))=ac
theorem sJ:typeLookup (.type "wrapper_descriptor") "__get__" = Xj (a7 (.builtin "wrapper_descriptor.__get__")):=gB.lookup
theorem By:typeLookup (.type "method_descriptor") "__get__" = Xj (a7 (.builtin "method_descriptor.__get__")):=kr.lookup
theorem ua{pl:Sem Bool}(D:EC c ae self C fa cc)(hi:H[i]?=a7 (.acc C l fs))(hl:ls.lookup self=a7 (.ref i))(hf:alongIn c.K "__len__" [.type "list",.type "object"]=a7 (a7 (.builtin "list.__len__")))
  (he:eval (.Call (.Attribute (.Call (.Name "super" p0) [] [] p1) "__len__" eY) [] [] ai) ae=(do
   let ov <-attributeBase (.Call (.Name "super" p0) [] [] p1) "__len__" ae (eval (.Call (.Name "super" p0) [] [] p1) ae)
   standAt eY.atName
   let(f,first) <-holding [ov] (getMethod ov "__len__" pl)
   callWith ai f first (backTo ai (starEach [] ae)) []))
  (q:Q (.int l.length) H ls):ja c (.func aB ae) VR (eval (.Call (.Attribute (.Call (.Name "super" p0) [] [] p1) "__len__" eY) [] [] ai) ae) H ls Q:=λW s g e=>by
 subst e;show m6 g hi D.ev D.sk D.sf D.code D.ks D.kc D.func D.cell D.k D.ce hl D.d rfl hf E1 sJ (.inr rfl) (λA R s' ox od X I h=>Hz X I D.sk.lst h) (λs' G A E Q q=>L8 q) slot_list_len.plain F.entry_list_len he λs' G=>E7 (W:=⟨s'.heap,W.ρ,W.H⟩) G.here hi rfl λt=>⟨_,ls,.int l.length,G.uW _,.int _ _,q⟩
theorem ub{pl:Sem Bool}(D:EC c ae self C fa cc)(hi:H[i]?=a7 (.acc C l fs))(hl:ls.lookup self=a7 (.ref i))(hf:alongIn c.K "pop" [.type "list",.type "object"]=a7 (a7 (.builtin "list.pop"))) (hs:l.length<=100000) (hy:l.getLast?=a7 y)
  (he:eval (.Call (.Attribute (.Call (.Name "super" p0) [] [] p1) "pop" eY) [] [] ai) ae=(do
   let ov <-attributeBase (.Call (.Name "super" p0) [] [] p1) "pop" ae (eval (.Call (.Name "super" p0) [] [] p1) ae)
   standAt eY.atName
   let(f,first) <-holding [ov] (getMethod ov "pop" pl)
   callWith ai f first (backTo ai (starEach [] ae)) []))
  (q:Q y (H.set i (.acc C l.dropLast fs)) ls):ja c (.func aB ae) VR (eval (.Call (.Attribute (.Call (.Name "super" p0) [] [] p1) "pop" eY) [] [] ai) ae) H ls Q:=λW s g e=>by
 subst e;show bV D.sk.cls λcd E9 NR PC=>?_;show m6 g hi D.ev D.sk D.sf D.code D.ks D.kc D.func D.cell D.k D.ce hl D.d rfl hf E0 By (.inl rfl) (λA R s' ox od X I h=>Hy X I D.sk.lst h) (λs' G A E Q q=>La (W:=⟨s'.heap,W.ρ,W.H⟩) G.here hi rfl D.sk.Vn E9 D.sk.tc PC q) F.slot_list_pop.plain F.entry_list_pop he λs' G=>E6 (W:=⟨s'.heap,W.ρ,W.H⟩) G.here hi rfl hs hy λW' fF r G' e' rv=>⟨W',ls,y,G.trans G',rv,by rw[e'];show q⟩
theorem rQ{pl:Sem Bool}(D:EC c ae self C fa cc)(hi:H[i]?=a7 (.acc C [] fs))(hl:ls.lookup self=a7 (.ref i))(hf:alongIn c.K "__init__" [.type "list",.type "object"]=a7 (a7 (.builtin "list.__init__")))
  (he:eval (.Call (.Attribute (.Call (.Name "super" p0) [] [] p1) "__init__" eY) [] [] ai) ae=(do
   let ov <-attributeBase (.Call (.Name "super" p0) [] [] p1) "__init__" ae (eval (.Call (.Name "super" p0) [] [] p1) ae)
   standAt eY.atName
   let(f,first) <-holding [ov] (getMethod ov "__init__" pl)
   callWith ai f first (backTo ai (starEach [] ae)) []))
  (q:Q .none H ls):ja c (.func aB ae) VR (eval (.Call (.Attribute (.Call (.Name "super" p0) [] [] p1) "__init__" eY) [] [] ai) ae) H ls Q:=λW s g e=>by
 subst e;show m6 g hi D.ev D.sk D.sf D.code D.ks D.kc D.func D.cell D.k D.ce hl D.d rfl hf zG sJ (.inr rfl) (λA R s' ox od X I h=>E4 X I D.sk.lst h) (λs' G A E Q q=>HB q) F.slot_list_init.plain F.entry_list_init he λs' G=>Bf (W:=⟨s'.heap,W.ρ,W.H⟩) G.here hi rfl λW' fF G' e'=>⟨W',ls,.none,G.trans G',.none,by rw[e'];show q⟩
end
section
variable {l:List AV}
section
variable {ls:Loc}
theorem vY{aw:Pi}{id:String}(hi:H[i]?=a7 (.lst l))(slot:Slot "list" aw id) (ty:typeOf (.builtin id)=Xj (.type "method_descriptor")):Meth c aw (.ref i) H (.builtin id):=λW s u ls P E pl g e r p=>by subst e;cases r;show dH (g.rel.obj i _ hi) fun  vs n ho z=>?_;replace ho:=g.hh▸ho;show Aa6 (bd _ ho rfl) F.plainAttrs_list slot ty (λb e=>by injection e with e;subst e;show(bd _ ho rfl)) p
theorem bG(hi:H[i]?=a7 (.lst l)):Meth c "append" (.ref i) H (.builtin "list.append"):=vY hi F.slot_list_append F.type_list_append
theorem qP(hi:H[i]?=a7 (.lst l)):Meth c "pop" (.ref i) H (.builtin "list.pop"):=vY hi F.slot_list_pop F.type_list_pop
theorem Cq{x:Pi}{p ai:Pos}(E':ba ae c.f)(hp:fH aO=a9)(hk:ae.kindOf x=a7 .globalImplicit)(hv:cF c.K x=a7 v/\∃k,eV c.K v=a7 k)(hd:(x==("__debug__" : Pi))=ac)
  (h:Ok c bY (spliced (backTo ai (starEach aO ae))) H ls (KCall c v Q))
  (he:eval (.Call (.Name x p) aO [] ai) ae=(do callWith ai (<-eval (.Name x p) ae) [] (backTo ai (starEach aO ae)) (backToKw ai (keywordEach [] ae)))):Ok c VR (eval (.Call (.Name x p) aO [] ai) ae) H ls Q:=by
 show Uq hv λhv k L4=>H3 hp L4 (jj E' hk hv ⟨rfl,h⟩ hd) he
theorem mX{a:Int}(q:Q (.int (-a)) H ls):pz c VR (unaryOp .USub) (.int a) H ls Q:=λW s v g e r=>by apply VR.fU r;intro u;show neg_int (back g e _ (.int _ _) q)
end
end
section
variable {aw:Pi}{fs:List (Pi×AV)}
section
variable {ls:Loc}
abbrev KMeth(c:Cx)(ae:Env)(ai:Pos)(aw:Pi)(aO:List Expr)(Q:AV->List AO->Loc->Prop):AV->List AO->Loc->Prop:=λx H l=>∃v k,Meth c aw x H v/\eV c.K v=a7 k/\Ok c bY (spliced (backTo ai (starEach aO ae))) H l (tE c v x Q)
theorem Cp{Q:AV->List AO->Loc->Prop}{o:Expr}{aw:Pi}{ai:Pos}(hp:fH aO=a9)(cY:aO.length<30)(sx:(eY.endLine==ai.line)=a9)
  (km:attributeBase o aw ae (eval o ae)=eval o ae)
  (h:Ok c VR (eval o ae) H ls (KMeth c ae ai aw aO Q)) :
  Ok c VR (eval (.Call (.Attribute o aw eY) aO [] ai) ae) H ls Q:=λW s g e=>by
 have pa:=dZ (ae:=ae) (ai:=ai) hp;have qx:methodCallForm (aO.length+([]:List Keyword).length) (backTo ai (starEach aO ae)) (backToKw ai (keywordEach [] ae))=a9:=by
  unfold methodCallForm;have:(backTo ai (starEach aO ae)).all (λx=>!x.1)=a9:=by rw[Abi];simp only[Adq];rw[pa.1];rfl
  show aE this (aQ ‹_›)
 have fO:methodCallPos a9 o ae eY ai=Xj ai:=by unfold methodCallPos;show aQ ‹_›
 rw[AaM];show aE km ?_;show aM (h.run g e λaK aH aU x u aD b8 aR=>aM (Yy (bF aR λv k hm hk aR=>?_)));unfold methodCall;show aE qx (aM (XE (hm aK aH u aU _ _ _ aD.here rfl b8 (aM (XX fO (cx pa.1 pa.2 (aR.run aD.here rfl λb4 aN cj xs vs aF dg bB=>⟨⟨k,dY (aF.hh▸aF.rel.top) hk⟩,?_⟩)))))));show kS.tail (aD.tr aF) bB (.cons (aF.vr aD.here b8) dg)
structure pF(K:Frag)(C:Addr)(tab:List (Pi×Option Value)):Prop where
 fi:∀x v,tab.lookup x=a7 v->findIn K (.ref C) x=a7 v
 fn:∀x a,tab.lookup x=a7 (a7 (.ref a))->isFn K (.ref a)=a9/\eV K (.ref a)=a7 .frame
 bl:∀x id,tab.lookup x=a7 (a7 (.builtin id))->typeIn K (.builtin id)=a7 (.type "method_descriptor")\/True
 pg:iX K C
 hd:hasDictIn K C=a9
 sa:findIn K (.ref C) "__setattr__" = a7 (a7 (.builtin "object.__setattr__"))
 cd:∃cd,clsIn K C=a7 cd/\cd.hasDict=a9/\∀self,refuseLoop self "__setattr__" cd.mro=Xj ()
 ob:mroIn K C (.type "object")=a7 a9
section
variable {tab:List (Pi×Option Value)}
theorem fq{f:Addr}{fs:List (Pi×AV)}{aw:Pi}(CK:pF c.K C tab)(hi:H[i]?=a7 o)(ho:eN o=a7 (C,fs))(ht:tab.lookup aw=a7 (a7 (.ref f)))(hl:fs.lookup aw=a8)
  (h:Ok c bY (spliced (backTo ai (starEach aO ae))) H ls (tE c (.ref f) (.ref i) Q)) :
  KMeth c ae ai aw aO Q (.ref i) H ls:=
 (dU _ _ (tG hi ho CK.pg (CK.fi _ _ ht) (CK.fn _ _ ht).1 hl) ((CK.fn _ _ ht).2) h)
theorem HL{id:String}{fs:List (Pi×AV)}{aw:Pi}(CK:pF c.K C tab)(hi:H[i]?=a7 o)(ho:eN o=a7 (C,fs))(ht:tab.lookup aw=a7 (a7 (.builtin id)))(Jd:typeIn c.K (.builtin id)=a7 (.type "method_descriptor")) (hl:fs.lookup aw=a8)
  (h:Ok c bY (spliced (backTo ai (starEach aO ae))) H ls (tE c (.builtin id) (.ref i) Q)) :
  KMeth c ae ai aw aO Q (.ref i) H ls:=
 (dU _ _ (Da hi ho CK.pg (CK.fi _ _ ht) Jd hl) rfl h)
theorem bx{id:String}(m:Meth c aw x H (.builtin id))(h:Ok c bY (spliced (backTo ai (starEach aO ae))) H ls (tE c (.builtin id) x Q)) :
  KMeth c ae ai aw aO Q x H ls:=dU _ _ m rfl h
section
variable {a:List Nat}
theorem m_lstrip:Meth c "lstrip" (S a) H (.builtin "str.lstrip"):=ki F.slot_str_lstrip F.type_str_lstrip
theorem m_rstrip:Meth c "rstrip" (S a) H (.builtin "str.rstrip"):=ki F.slot_str_rstrip F.type_str_rstrip
theorem m_strip:Meth c "strip" (S a) H (.builtin "str.strip"):=ki F.slot_str_strip F.type_str_strip
theorem m_isspace:Meth c "isspace" (S a) H (.builtin "str.isspace"):=ki F.slot_str_isspace F.type_str_isspace
theorem m_startswith:Meth c "startswith" (S a) H (.builtin "str.startswith"):=ki F.slot_str_startswith F.type_str_startswith
theorem JT:Meth c "join" (S a) H (.builtin "str.join"):=ki F.slot_str_join F.type_str_join
theorem m_split:Meth c "split" (S a) H (.builtin "str.split"):=ki F.slot_str_split F.type_str_split
end
theorem bj{av:AV}{ex:Bool}(CK:pF c.K C tab)(hi:H[i]?=a7 o)(ho:eN o=a7 (C,fs))(ht:tab.lookup aw=a7 a8)(hl:fs.lookup aw=a7 av)(hv:av.handed=a9)(q:Q av H ls):pz c VR (λv=>getAttr v aw ex) (.ref i) H ls Q:=Db hi ho CK.pg CK.hd (CK.fi _ _ ht) rfl hl hv q
theorem fM{Q:Unit->List AO->Loc->Prop}(CK:pF c.K C tab)(hi:H[i]?=a7 o)(ho:eN o=a7 (C,fs))(ht:tab.lookup aw=a7 a8)(hz:fs.length<=1000)(q:Q () (H.set i (s8 (put aw y fs) o)) ls) :
  lF c jF (λv u=>setAttr v aw u) (.ref i) y H ls Q:=by
 show bV CK.cd λcd hc hh hr=>AD hi ho CK.sa hc CK.ob hr ?_ hh hz q;unfold takerIn;show aE (CK.fi _ _ ht) ?_;rfl
end
theorem bw.get(h:bw n H)(e:H[i]?=a7 o):o.gX n:=h o (AbF e)
theorem bw.take{m:Nat}(h:bw n H):bw n (H.take m):=λo ho=>h o (YY ho)
end
end
section
variable {ls:Loc}
abbrev O6(c:Cx)(ae:Env)(b:Expr)(Q:AV->List AO->Loc->Prop)(x:AV):Bool->List AO->Loc->Prop:=λt H l=>(t=ac->Q x H l)/\(t=a9->Ok c VR (eval b ae) H l Q)
abbrev RF(c:Cx)(ae:Env)(b:Expr)(Q:AV->List AO->Loc->Prop):AV->List AO->Loc->Prop:=λx H l=>pz c cy truthy x H l (O6 c ae b Q x)
theorem zK{a b:Expr}(h:Ok c VR (eval a ae) H ls (RF c ae b Q)):Ok c VR (eval (.BoolOp .And [a,b] ai) ae) H ls Q:=λW s g e=>by
 change wpAny _ _ (boolOp ai .And [eval a ae,eval b ae]) _ _ _;show aM (h.run g e λaK aH aU x v aD b8 aR=>aM (Yy (aM (XE (cA aD.tk (aR aK aH v aD.here rfl b8) (λt aN iQ zz=>?_) fun  u u z=>z)))));obtain⟨b4,cj,t',aF,ht,hq⟩:=zz;replace aF:=aF.at iQ;have xn:t=t':=ht;subst xn;cases t with|false=>show GT ⟨b4,cj,x,aD.trans aF,aF.vr aD.here b8,hq.1 rfl⟩|true=>show(hq.2 rfl).tail (aD.tr aF)
theorem Lm(h:pz c cy truthy x H ls λb bu aU=>Q (.bool (!b)) bu aU):pz c VR (unaryOp .Not) x H ls Q:=λW s v g e r=>by show XE (aM (Xz (h W s v g e r) (λt aN zz=>?_) fun  u u z=>z));obtain⟨b4,cj,t',aF,ht,hq⟩:=zz;have xn:t=t':=ht;clear ht;subst xn;show GT ⟨b4,cj,_,aF,.bool _,hq⟩
end
section
variable {aw:Pi}{m0:List Expr}{m5:Option Expr}{xP:List TypeParam}{fy:Option Scope}{bind:Pi}{ey:List (Pi×Addr)}{dv:Value}{Q:AV->List AO->Prop}
theorem ED(hA:cM c.A (n+1))(F:FnAt c.K fa (.FunctionDef aw au aB m0 m5 xP al fy bind ai) ey dv)(hd:dv=.none\/∃T o lZ n,dv=.ref T/\c.K.lookup T=a7 o/\o.data=.seq lZ n)
  (hp:kn au=a9) (hn:(b5 au).Nodup) (hl:xs.length=(b5 au).length)
  (cr:al.names.all (λx=>x.2 != .cell)=a9) (iP:al.isCoroutine=ac) (fv:al.isGenerator=ac) (hk:al.kind=.function) (fx:(b5 au).all (λx=>al.names.lookup x==a7 .local)=a9)
  (h:∀L q aj A',cM A' n->ba (bT al L ey q fa aj) ⟨L,[]⟩->iH c.K aj->(∀oc od nu fd,c.K.lookup fa=a7 ⟨oc,od,.func fd,nu⟩->aj=fd.code)->bw H.length H->dS H.length xs=a9->
   ja (c.sub A' ⟨L,[]⟩) (.func aB (bT al L ey q fa aj)) aY (execs aB (bT al L ey q fa aj)) H ((b5 au).zip xs) (ka H.length Q)) :
  bk c (.ref fa) xs H Q:=by
 show Bi hA F hd hp hn hl cr iP fv hk fx λL q aj A' db E ct hc hb hu aK aH g e=>AaH (h L q aj A' db E ct hc hb hu aK aH g e) (λf s' ⟨W',dq,b,G,r,q⟩=>⟨W',dq,b,G,r,q⟩) fun  u u z=>z
end
section
variable {f:Fp}{aw:Pi}{m0:List Expr}{m5:Option Expr}{xP:List TypeParam}{fy:Option Scope}{bind:Pi}{ey:List (Pi×Addr)}{dv:Value}{Q:AV->List AO->Prop}
theorem d0(hA:cM A (n+1))(F:FnAt K fa (.FunctionDef aw au aB m0 m5 xP al fy bind ai) ey dv)(hd:dv=.none\/∃T o lZ n,dv=.ref T/\K.lookup T=a7 o/\o.data=.seq lZ n)
  (hp:kn au=a9) (hn:(b5 au).Nodup) (hl:xs.length=(b5 au).length)
  (cr:al.names.all (λx=>x.2 != .cell)=a9) (iP:al.isCoroutine=ac) (fv:al.isGenerator=ac) (hk:al.kind=.function) (fx:(b5 au).all (λx=>al.names.lookup x==a7 .local)=a9)
  (h:∀L q aj A',cM A' n->ba (bT al L ey q fa aj) ⟨L,[]⟩->iH K aj->bw H.length H->dS H.length xs=a9->Ok ((⟨af,w,K,A',⟨L,[]⟩⟩:Cx)) aY (execs aB (bT al L ey q fa aj)) H ((b5 au).zip xs) (ka H.length Q)) :
  bk ⟨af,w,K,A,f⟩ (.ref fa) xs H Q:=tV (c:=⟨af,w,K,A,f⟩) hA F hd hp hn hl cr iP fv hk fx h
theorem om(hA:cM A (n+1))(F:FnAt K fa (.FunctionDef aw au aB m0 m5 xP al fy bind ai) ey dv)(hd:dv=.none\/∃T o lZ n,dv=.ref T/\K.lookup T=a7 o/\o.data=.seq lZ n)
  (hp:kn au=a9) (hn:(b5 au).Nodup) (hl:xs.length=(b5 au).length)
  (cr:al.names.all (λx=>x.2 != .cell)=a9) (iP:al.isCoroutine=ac) (fv:al.isGenerator=ac) (hk:al.kind=.function) (fx:(b5 au).all (λx=>al.names.lookup x==a7 .local)=a9)
  (h:∀L q aj A',cM A' n->ba (bT al L ey q fa aj) ⟨L,[]⟩->iH K aj->(∀oc od nu fd,K.lookup fa=a7 ⟨oc,od,.func fd,nu⟩->aj=fd.code)->bw H.length H->dS H.length xs=a9->
   ja ((⟨af,w,K,A',⟨L,[]⟩⟩:Cx)) (.func aB (bT al L ey q fa aj)) aY (execs aB (bT al L ey q fa aj)) H ((b5 au).zip xs) (ka H.length Q)) :
  bk ⟨af,w,K,A,f⟩ (.ref fa) xs H Q:=ED (c:=⟨af,w,K,A,f⟩) hA F hd hp hn hl cr iP fv hk fx h
end
theorem HM{ps:List (List Nat×List Nat)}:dS n (ps.map pr)=a9:=cN fun  a u=>by rfl
section
variable {x:Pi}{Q:Value->Shared->Prop}
section
structure qQ(ae:Env):Prop where
 kind:ae.scope.kind=.function
 glob:ae.globals=mainGlobals
 blt:ae.builtins=builtinsNs
theorem vZ(X:K.In s.heap)(R:qQ ae)(hk:ae.kindOf x=a7 .globalImplicit)(hv:cF K x=a7 v)(hd:(x==("__debug__" : Pi))=ac) (q:Q v s):wpAny (model af w) A (eval (.Name x ai) ae) Q E s:=by
 show AaS R.kind hk ?_ hd;unfold loadGlobal;show aE R.glob ?_;show aE R.blt ?_;rcases kT hv with hu|⟨hu,hb⟩
 .show aM ((Za X hu).here (GT q))
 .show aM ((Za X hu).here (aM ((Za X hb).here (GT q))))
theorem uc(R:qQ ae)(hk:ae.kindOf x=a7 .local)(n:s.heap.Ns ae.locals m)(hv:m x=a7 v)(hd:(x==("__debug__" : Pi))=ac) (q:Q v s):wpAny (model af w) A (eval (.Name x ai) ae) Q E s:=AaP (Ze R.kind hk n hv q) hd
theorem w4{x:Pi}{a:List Nat}{t:Tok}{p0 p1 ai:Pos}{Q:Value->Shared->Prop}(X:K.In s.heap)(R:qQ ae)(cY:ae.kindOf "len" = a7 .globalImplicit) (hv:cF K "len" = a7 (.builtin "len")) (hk:ae.kindOf x=a7 .local) (hd:(x==("__debug__" : Pi))=ac) (n:s.heap.Ns ae.locals m) (hx:m x=a7 (.str ⟨a.toArray⟩ t)) (hs:a.length<=sizeLine)
  (he:eval (.Call (.Name "len" p0) [.Name x p1] [] ai) ae=(do callWith ai (<-eval (.Name "len" p0) ae) [] (backTo ai (starEach [.Name x p1] ae)) (backToKw ai (keywordEach [] ae))))
  (q:∀t k,Q (.int a.length t) { s with toks:=k }):wpAny (model af w) A (eval (.Call (.Name "len" p0) [.Name x p1] [] ai) ae) Q E s:=by
 show Call_ (vZ X R cY hv rfl ?_) he;have pa:=dZ (ae:=ae) (ai:=ai) (aO:=[Expr.Name x p1]) rfl;show cx pa.1 pa.2 (Yp (uc R hk n hx hd (YR ⟨⟨.machine,Aaq rfl⟩,?_⟩)) rfl);show P.len_str (by rw[dh];unfold sizeLine at hs;lia) ?_;show q _ _
theorem HN{x y:Pi}{a b:List Nat}{t u:Tok}{p0 p1 p2 p3 p4 p5 p6:Pos}(X:K.In s.heap)(R:qQ ae)(cY:ae.kindOf "len" = a7 .globalImplicit) (hv:cF K "len" = a7 (.builtin "len")) (Cj:ae.kindOf x=a7 .local) (RG:ae.kindOf y=a7 .local) (wJ:(x==("__debug__" : Pi))=ac) (RH:(y==("__debug__" : Pi))=ac)
  (n:s.heap.Ns ae.locals m) (hx:m x=a7 (.str ⟨a.toArray⟩ t)) (hy:m y=a7 (.str ⟨b.toArray⟩ u)) (hs:a.length<=sizeLine) (oP:b.length<=sizeLine)
  (he:eval (.Call (.Name "len" p0) [.Name x p1] [] p2) ae=(do callWith p2 (<-eval (.Name "len" p0) ae) [] (backTo p2 (starEach [.Name x p1] ae)) (backToKw p2 (keywordEach [] ae))))
  (NP:eval (.Call (.Name "len" p3) [.Name y p4] [] p5) ae=(do callWith p5 (<-eval (.Name "len" p3) ae) [] (backTo p5 (starEach [.Name y p4] ae)) (backToKw p5 (keywordEach [] ae)))) :
  wpAny (model af w) A (eval (.BinOp (.Call (.Name "len" p0) [.Name x p1] [] p2) .Add (.Call (.Name "len" p3) [.Name y p4] [] p5) p6) ae) (λv s'=>(∃t,v=.int ((a.length:Int)+(b.length:Int)) t)/\Keeps s s') E s:=by
 show wpAny_BinOp (w4 X R cY hv Cj wJ n hx hs he λt1 k1=>w4 (s:={ s with toks:=k1 }) X R cY hv RG RH n hy oP NP λt2 k2=>P.add_int (iA ⟨_,rfl⟩ (dC _ _ rfl (λb o e=>e))))
theorem EE{sn x y:Pi}{sep a b:List Nat}{t u t0:Tok}{p0 p1 p2 p3 p4 p5:Pos}{kt:Nat}(X:K.In s.heap)(R:qQ ae)(VG:ae.kindOf sn=a7 .globalImplicit)(Rn:cF K sn=a7 (.str ⟨sep.toArray⟩ t0))(Ro:(sn==("__debug__" : Pi))=ac) (Cj:ae.kindOf x=a7 .local) (RG:ae.kindOf y=a7 .local) (wJ:(x==("__debug__" : Pi))=ac) (RH:(y==("__debug__" : Pi))=ac)
  (n:s.heap.Ns ae.locals m) (hx:m x=a7 (.str ⟨a.toArray⟩ t)) (hy:m y=a7 (.str ⟨b.toArray⟩ u)) (hs:a.length+b.length+2*sep.length<=1000000)
  (sx:(p1.endLine==p5.line)=a9) (km:attributeBase (.Name sn p0) "join" ae (eval (.Name sn p0) ae)=eval (.Name sn p0) ae) :
  wpAny (model af w) A (eval (.Call (.Attribute (.Name sn p0) "join" p1) [.Tuple [.Name x p2,.Name y p3] kt p4] [] p5) ae) (λv s'=>(∃t,v=.str ⟨(a++sep++b).toArray⟩ t)/\Keeps s s') E s:=by
 have pa:=dZ (ae:=ae) (ai:=p5) (aO:=[Expr.Tuple [.Name x p2,.Name y p3] kt p4]) rfl;have fO:methodCallPos a9 (.Name sn p0) ae p1 p5=Xj p5:=by unfold methodCallPos;show aQ ‹_›
 rw[AaM];show aE km ?_;show aM (vZ X R VG Rn Ro (aM (Yy (aM (XE (GM.join (aM (XX fO (cx pa.1 pa.2 (Yp (wpAny_Tuple (Yp (uc R Cj n hx wJ (Yp (uc R RG n hy RH (YR ⟨by change 2<=sizeLine;decide,?_⟩)) rfl)) rfl)) rfl))))))))));show YR ⟨⟨.machine,Aaq rfl⟩,?_⟩;change wpAny _ _ (call (.builtin "str.join") [.str ⟨sep.toArray⟩ t0,.ref s.heap.objs.size]) _ _ _;have pB:JoinOk ⟨sep.toArray⟩ ([(⟨a.toArray⟩:Pi),⟨b.toArray⟩])=a9:=by unfold JoinOk;simp only[Z7,tooLong];simp[Str.length];unfold sizeLine;show"L++ab*2c1000000L+++acbc16777216" hs
 unfold JoinOk at pB;rw[Z7]at pB;show AbC F.slot_str_join (Aaj _ _ _) F.entry_str_join (F.args_str_join_2 _ _) (meets_str_join_tuple ⟨sep.toArray⟩ t0 s.heap.objs.size [(⟨a.toArray⟩,t),(⟨b.toArray⟩,u)] pB) ⟨(dU _ 0 (Xo _ rfl) rfl rfl),post_join _ ⟨joinFit_length pB,λt' k=>?_⟩⟩;show iA ⟨t',?_⟩ (dC _ _ rfl (λb o e=>Xa _ e))
 have:=tN sep [a,b];show congrArg (λz=>AbX z t') this
end
end
section
variable (l:List α)
theorem w5(a d n:Nat):clip (a7 (a:Int)) d n=min a n:=by unfold clip;dsimp only;rw[aI (Int.not_ofNat_neg a)];lia
theorem jb(d n:Nat):clip a8 d n=d:=rfl
theorem jc(a:Nat):iw l (a7 (a:Int)) a8=l.drop a:=by
 unfold iw;rw[w5,jb];by_cases h:a<=l.length
 ·(show aE (Zn h) ?_;rw[Yl (by simp)])
 ·(show aE (Abm (Aag h)) ?_;rw[ZU (Xd _),ZU (Aag h)]);show List.take_nil
theorem mY(a:Nat):iw l a8 (a7 (a:Int))=l.take a:=by
 unfold iw;rw[w5,jb];rw[Zi,Ace];by_cases h:a<=l.length
 .rw[Zn h]
 .rw[Abm (Aag h),Yl (Xd _),Yl (Aag h)]
theorem EF(new:List α):putL l a8 a8 new=new:=by unfold putL;rw[jb,jb];show aE (ZU (Xd _)) ?_;show Xv _
end
section
variable {ls:Loc}
/- guards: Cg RI own VH,and nothing more -/
theorem MG{P:Prop}(h:xs.length<=1000)(q:P):xs.length<=sizeLine/\P:=⟨Xf h (by decide),q⟩
end
theorem Gv{x:Pi}{v:AV}{l:Loc}:YK x (put x v l)=a7 v:=by rw[eS,aQ (str_beq_self x)]
theorem ME{x y:Pi}{v:AV}{l:Loc}{r:Option AV}(h:(x==y)=ac)(k:YK x l=r):YK x (put y v l)=r:=by(rw[eS];show aE h ?_);show k
theorem ml(l:List Nat):l=l:=rfl
section
variable {aV:List Stmt}{Q:AF->List AO->Loc->Prop}
section
variable {ls:Loc}
theorem EG{st:Stmt}(H':List AO)(h:Ok c aY (exec st ae) H ls λfl bu aU=>fl=.next/\bu=H'/\aU=ls)(k:Ok c aY (execs aV ae) H' ls Q):Ok c aY (execs (st::aV) ae) H ls Q:=execs_cons (h.mono λfl bu aU ⟨a,b,d⟩=>by clear h;subst a b d;show k)
theorem HO{d:Nat}{a b a' b':List Nat}:pM d [S a,S b] [S a',S b'] (a==a' && (b==b' && a9)):=by
 have e:∀x y:List Nat,((⟨x.toArray⟩:Pi)==⟨y.toArray⟩)=(x==y):=λx y=>by rw[str_beq]
 show .cons (e a a'▸.str _ _ _) (.cons (e b b'▸.str _ _ _) (.nil _))
end
end
section
variable {ls:Loc}
theorem ud{test:Expr}{aB orelse:List Stmt}{ai:Pos}{Q:AF->List AO->Loc->Prop}(T:Bool)(h:Ok c cy (isTrue test ae (eval test ae)) H ls λb bu aU=>b=T/\bu=H/\aU=ls)
  (ht:T=a9->Ok c aY (execs aB ae) H ls Q) (hf:T=ac->Ok c aY (execs orelse ae) H ls Q):Ok c aY (exec (.If test aB orelse ai) ae) H ls Q:=
 IF (h.mono λb bu aU ⟨a,e,d⟩=>by clear h;subst a e d;show⟨ht,hf⟩)
theorem iK(n:Nat)(h:vs.length=n+1):∃a us,vs=a::us/\us.length=n:=by
 cases vs with|nil=>show absurd h (Acj n).symm|cons a us=>show dC a us rfl (Nat.succ.inj h)
theorem kG{l:Nat}(h:0<l):seqIndex? (-1) l=a7 (l-1):=by
 have e:(if(-1:Int)<0 then(-1:Int)+(l:Int)else -1)=((l-1:Nat):Int):=by rw[aQ (by decide)];show"T0aI+~1$a$-a1" h
 unfold seqIndex?;simp only[e];rw[aQ (by simp;show Z9 h)];simp
theorem pR{l:Nat}(h:i<l):seqIndex? (i:Int) l=a7 i:=by have e:(if(i:Int)<0 then(i:Int)+(l:Int)else(i:Int))=(i:Int):=aI (Int.not_ofNat_neg i);unfold seqIndex?;simp only[e];rw[aQ (by simp;assumption)];simp
end
abbrev bh(l:Loc)(x:Pi)(v:AV):Prop:=l.lookup x=a7 v
theorem bh.put{l:Loc}{x y:Pi}{v u:AV}(h:bh l x v)(e:(x==y)=ac):bh (Internal.put y u l) x v:=by change YK x _=_;(rw[eS];show aE e ?_);show h
theorem bh.new{l:Loc}{x:Pi}{v:AV}:bh (Internal.put x v l) x v:=by change YK x _=_;rw[eS];simp
theorem mZ{G bu:List AO}(o:cQ ft (H++G) bu)(h:∀j∈ft,H.length<=j):∃G',bu=H++G'/\G'.length=G.length:=by
 show bd (bu.drop H.length) ?_ (by rw[XW,o.len];simp);have e:bu.take H.length=H:=by
  apply Z6;intro j;by_cases hj:j<H.length
  .rw[Aba hj,o.off j (λm=>by have:=h j m;show"TabLba0" hj this),Yv hj]
  ·(show aE (Y8 (by rw[XJ];show"NTabL<bca" hj)) ?_;rw[Y8 (ZO ‹_›)])
 rw[<-e,XJ];show aE o.len ?_;have:min H.length (H++G).length=H.length:=by simp
 show aE this ?_;rw[e];conv=>lhs;rw[<-Y7 H.length bu,e]
theorem jA:SrcAt H.length [H.length] xs (H++[.it xs]):=.it jM
section
variable {target:Expr}{orelse:List Stmt}{ls:Loc}{Q:AF->List AO->Loc->Prop}
end
noncomputable def Bz(a:Nat)(n:Nat):List AV:=(Yx n).map λj=>.int ((a+j:Nat):Int)
section
theorem zL{a b:Nat}:Abl (a:Int) (b:Int) 1=((b-a:Nat):Int):=by unfold Abl;rw[aQ (by decide),Int.ediv_one];split<;>lia
theorem Jm{a b:Nat}(hb:b<=100000)(ha:a<=100000):iC c (.rI (a:Int) (b:Int) 1) H H.length (H++[.it (Bz a (b-a))]):=by
 have:=Kr (c:=c) (H:=H) (a:=a) (b:=b) (st:=1) (n:=b-a) zL (by unfold Builtin.Range.small;rw[zL,aQ (by decide)];unfold Builtin.Range.rangeFitsLong;simp only[YP,Bool.or_eq_true,decide_eq_true_eq];lia)
 have e:((Yx (b-a)).map λ(j:Nat)=>AV.int ((a:Int)+j*1))=Bz a (b-a):=by apply ZK;intro j u;simp
 rw[e]at this;show this
theorem w6{a:Nat}:Bz a (n+1)=.int (a:Int)::Bz (a+1) n:=by unfold Bz;rw[Aax,Xu,Zu];congr 1;apply ZK;intro j u;simp;show"I+$a+$b1++$a1$b"
end
section
variable {target:Expr}{orelse:List Stmt}{ls:Loc}{Q:AF->List AO->Loc->Prop}
abbrev HP(G:List AO)(N:List AO->Loc->Prop):List AO->Loc->Prop:=λH l=>∃P F,H=P++G++F/\N P l
theorem gD(hA:c.A.handled=a8)(S:SrcAt i ft xs H)(xN:∀j∈ft,N<=j)(ht:tR target\/ft.length≠3)(Inv:List AV->List AO->Loc->Prop)(hN:∀r P l,Inv r P l->P.length=N)
  (hI:∃P G,H=P++G/\Inv xs P ls)
  (step:∀x r P G l,x::r <:+ xs->Inv (x::r) P l->pz c jF (assign target ae) x (P++G) l (D4 c ae aB (HP G (Inv r)) Q))
  (fin:∀P G l,Inv [] P l->Ok c aY (execs orelse ae) (P++G) l Q):xC c ae target aB orelse i H ls Q:=by
 show vy hA S ht (λr H' l=>∃P G,H'=P++G/\Inv r P l) hI (λx r bu d7 l hs ⟨P,G,e,hi⟩ o S'=>?_) λbu d7 l ⟨P,G,e,hi⟩ o=>?_
 .subst e;have hP:=hN _ _ _ hi;show bb (mZ o (by rw[hP];show xN)) λG' e hl=>?_;clear o;subst e;have keep:∀{P' F:List AO} {l':Loc},Inv r P' l'->∀j∈ft,(P'++G'++F)[j]?=(P++G')[j]?:=λoS j hj=>by have h1:=xN j hj;have h2:=(S'.foot).2 j hj;have h3:=hN _ _ _ oS;replace h2:=Xg▸h2;rw[Yv (by rw[Xg];show"EabEcbTd+aeTd+ce" hP h3 h2),Yo (by show"LabEcaLcb" h1 h3),Yo (le_of_eq_of_le (hN (x::r) P l hi) (xN j hj))];show aE hP ?_;show aE h3 rfl
  intro W s v g e r';show Xz (step x r P G' l hs hi W s v g e r') (λa s' ⟨W',dq,b,aD,h1,h2⟩=>⟨W',dq,b,aD,h1,h2.mono λfl kb d5 q=>?_⟩) fun  u u z=>z;cases fl with|next=>show dH q λP' F e oS=>?_;clear q;subst e;show iA (keep oS) (dC P' (G'++F) (by rw[Xq]) oS)|cont=>show dH q λP' F e oS=>?_;clear q;subst e;show iA (keep oS) (dC P' (G'++F) (by rw[Xq]) oS)|brk=>show q|ret y=>show q
 .subst e;have hP:=hN _ _ _ hi;show bb (mZ o (by rw[hP];show xN)) λG' e hl=>?_;clear o;subst e;show fin P G' l hi
end
section
variable {ls:Loc}
theorem AaQ{Q:Bool->List AO->Loc->Prop}(q:Q ac H ls):pz c cy truthy .none H ls Q:=λW s v g e r=>by apply VR.zb r;show GT ⟨W,ls,ac,g.good,rfl,e▸q⟩
theorem sK{x:Pi}{l:List Nat}(E':ba ae c.f)(hk:ae.kindOf x=a7 .local)(hc:c.f.cells.lookup x=a8)(hl:ls.lookup x=a7 (S l))(hd:(x==("__debug__" : Pi))=ac)   (g:Here c W s ls) (e:W.H=H) (P:Value->Shared->Prop) (E:Value->Shared->Prop) (k:∀t,P (.str ⟨l.toArray⟩ t) s):wpAny c.M c.A (eval (.Name x ai) ae) P E s:=by show bb g.fr.ns λm n r=>bb (r x _ hl hc) λv hv y=>?_;cases y;show AaP (Ze E'.kind hk (by rw[E'.loc,<-g.hh];show n) hv (k _)) hd
end
section
variable {Q:List Nat->List AO->Loc->Prop}{r:List Expr}{G:List AO}{acc:List Nat}
section
variable {ls:Loc}
theorem JS{e:Expr}{Q:AV->List AO->Loc->Prop}(h:Ok c VR (eval e ae) H ls λx bu aU=>∃y,x=S y/\y.length<=sizeLine/\Q (S y) bu aU):Ok c VR (eval (.FormattedValue e 115 a8 ai) ae) H ls Q:=λW s g ee=>by show aM (h.run g ee λaK aH aU x v aD b8 aR=>aM (Yy (bV aR λy iO hy q=>?_)));clear aR;subst iO;apply VR.dE b8;intro t;show aM (XE (SB.convS_str (λt' k=>SB.field_str (λt2 k2=>?_) (by rw[dh];show hy)) (by rw[dh];show hy)));show⟨aK,aU,_,aD.trans (aD.here.tok k2),.str _ _,q⟩
noncomputable def Ln(c:Cx)(ae:Env):List Expr->List Nat->List AO->Loc->(List Nat->List AO->Loc->Prop)->Prop
 |[],acc,H,ls,Q=>Q acc H ls
 |e::r,acc,H,ls,Q=>Ok c VR (eval e ae) H ls λx bu aU=>∃y,x=S y/\(acc++y).length<=sizeLine/\Ln c ae r (acc++y) bu aU Q
theorem Ln.O7{es:List Expr}:∀{acc:List Nat} {H:List AO} {ls:Loc} {Q:List Nat->List AO->Loc->Prop},Ln c ae es acc H ls Q->∀{cO W:Wd} {bD s:Shared} {lB:Loc},Here c cO bD lB->bN c cO bD W s ls->W.H=H->∀{P:Pi->Shared->Prop},(∀W' s' l' y,Good c cO bD W' s' l'->Q y W'.H l'->P ⟨y.toArray⟩ s')->
  Joins c.M c.A (fun  u u=>False) (evalEach es ae) ⟨acc.toArray⟩ P s:=by
 induction es with|nil=>intro acc H ls Q h cO W bD s lB g G e P k;show k W s ls acc G (e▸h)|cons x r ih=>intro acc H ls Q h cO W bD s lB g G e P k;show h.run G.here e λaK aH aU y v aD b8 aR=>bV aR λy' e9 hz bB=>?_;clear aR;subst e9;apply VR.dE b8;intro t;show dU _ _ rfl (by rw[se,dh];show hz) ?_;rw[se];show ih bB g ((G.toGood.trans aD.toGood).at aD.tk) rfl k
theorem Ah{a b:Expr}{Q:AV->List AO->Loc->Prop}(h:Ln c ae (a::b::r) [] H ls λy bu aU=>y.length<=sizeLine/\Q (S y) bu aU):Ok c VR (eval (.JoinedStr (a::b::r) ai) ae) H ls Q:=λW s g e=>by show wpAny_JoinedStr (h.O7 g g.good e λW' s' l' y G ⟨hy,q⟩=>⟨by rw[dh];show hy,W',l',_,G.uW _,.str _ _,q⟩)
end
theorem JP{ls:Loc}{e:Expr}(h:Ok c VR (eval e ae) H ls λx bu aU=>∃y,x=S y/\(acc++y).length<=sizeLine/\Ln c ae r (acc++y) bu aU Q):Ln c ae (e::r) acc H ls Q:=h
theorem MF{ls:Loc}(h:Q acc H ls):Ln c ae [] acc H ls Q:=h
theorem set_tail{b c:AO}:(G++[b]).set G.length c=G++[c]:=by simp
theorem pS{b c:AO}:(H++[b]++G).set H.length c=H++[c]++G:=by rw[Zf _ _ IH,set_tail]
end
section
variable {i0 m:Nat}{H' H0:List AO}{js:List Nat}{ps:List (List AV)}
inductive EH(i0:Nat)(H:List AO):Nat->List Nat->List (List AV)->Prop
 |nil {m:Nat}:EH i0 H m [] []
 |snoc {m k:Nat} {js:List Nat} {ps:List (List AV)} {p:List AV}:EH i0 H k js ps->i0<k->k<m->H[k]?=a7 (.lst p)->EH i0 H m (js++[k]) (ps++[p])
theorem EH.mono{m':Nat}(x:EH i0 H m js ps)(hm:m<=m')(h:∀j o,i0<j->j<m->H[j]?=a7 o->H'[j]?=a7 o):EH i0 H' m' js ps:=by
 induction x generalizing m' with|nil=>show .nil|@snoc m k js ps p _ h1 h2 h3 ih=>show .snoc (ih (Xd _) λj o a b=>h j o a (Acf b h2)) h1 (XB ‹_› ‹_›) (h _ _ h1 h2 h3)
theorem EH.len(x:EH i0 H m js ps):js.length=ps.length:=by
 induction x with|nil=>rfl|snoc _ _ _ _ ih=>simp[ih]
theorem iU.append{a:List AV}:∀{a' b b':List AV},iU H n a a'->iU H n b b'->iU H n (a++b) (a'++b'):=by
 induction a with|nil=>intro a' b b' x y;rw[show a'=[]from x.inv];show y|cons c a ih=>intro a' b b' x y;show bF x.inv λx' r e f g=>?_;rw[e];show .cons f (ih g y)
theorem EH.fz(x:EH i0 H m js ps)(hn:n<=i0)(hu:∀p∈ps,dS n p=a9):iU H n (js.map AV.ref) (ps.map AV.fl):=by
 induction x with|nil=>show .nil|@snoc m k js ps p _ h1 h2 h3 ih=>rw[Yc,Yc];show(ih λp hp=>hu p (XN _ hp)).append (.cons (.lst (by show"LabTbcLac" hn h1) h3 (iU.refl (hu p List.mem_concat_self))) .nil)
structure wL(H0:List AO)(r i0 m:Nat)(ps:List (List AV))(H:List AO):Prop where
 pre:∃G,H=H0++G
 res:∃js,H[r]?=a7 (.lst (js.map AV.ref))/\EH i0 H m js ps
section
variable {H0:List AO}{r i0 m:Nat}{ps:List (List AV)}
theorem wL.grow(h:wL H0 r i0 m ps H){F:List AO}{m':Nat}(hm:m<=m'):wL H0 r i0 m' ps (H++F):=by obtain⟨⟨G,e⟩,js,hr,hf⟩:=h;show⟨⟨G++F,by rw[e,Xq]⟩,js,bq hr,hf.mono hm fun  u u u u q=>bq q⟩
theorem wL.HQ(h:wL H0 r i0 m ps H){k:Nat}(hk:m<=k)(h1:r<=i0)(h2:i0<k)(h0:H0.length<=r):wL H0 r i0 m ps (H.set k o):=by obtain⟨⟨G,e⟩,js,hr,hf⟩:=h;show⟨⟨G.set (k-H0.length) o,by(show aE e ?_;rw[Ys _ _ (by show"LabTbcLdaLdc" h1 h2 h0)])⟩,js,by rw[XC (by show"LabTbcDca" h1 h2)];show hr,hf.mono (Xd _) λj o' a b q=>by rw[XC (by show"LabTcaDbc" hk b)];show q⟩
theorem wL.push(h:wL H0 r i0 m ps H){k:Nat}{p:List AV}(hm:m<=k)(h1:r<=i0)(h2:i0<k)(h0:H0.length<=r)(hk:H[k]?=a7 (.lst p)):∃l,H[r]?=a7 (.lst l)/\l.length=ps.length/\∀m',k<m'->wL H0 r i0 m' (ps++[p]) (H.set r (dI (l++[.ref k]) (.lst l))):=by obtain⟨⟨G,e⟩,js,hr,hf⟩:=h;show cf _ hr (by simp[hf.len]) (λm' IK=>⟨⟨G.set (r-H0.length) _,by(show aE e ?_;rw[Ys _ _ (by assumption)])⟩,js++[k],by rw[bn hr];simp[bX],?_⟩);show .snoc (hf.mono hm λj o' a b q=>by rw[XC (by show"LabTbcDac" h1 a)];show q) h2 IK (by rw[XC (by show"LabTbcDac" h1 h2)];show hk)
theorem wL.done(h:wL H0 r i0 m ps H)(h0:H0.length<=r)(h1:r<=i0)(hb:bw H0.length H0)(hu:∀p∈ps,dS H0.length p=a9){Q:AV->List AO->Prop}(q:Q (.fl (ps.map AV.fl)) H0):∃n' H' x',H0.length<=n'/\Done n' H (.ref r) H' x'/\Q x' H':=by obtain⟨⟨G,e⟩,js,hr,hf⟩:=h;subst e;show pZ H0.length H0 _ (Xd _) ⟨by show wH,by rw[fX];show lG.refl hb,.lst h0 hr (hf.fz (Xf ‹_› ‹_›) hu)⟩ q
end
theorem wL.fz{r:Nat}(h:wL H0 r i0 m ps H)(h0:H0.length<=r)(h1:r<=i0)(hu:∀p∈ps,dS H0.length p=a9):Fz H H0.length (.ref r) (.fl (ps.map AV.fl)):=by obtain⟨_,js,hr,hf⟩:=h;show .lst h0 hr (hf.fz (Xf ‹_› ‹_›) hu)
theorem wL.off{r:Nat}(h:wL H0 r i0 H.length ps H)(o:cQ ft H H')(xN:∀j∈ft,H0.length<=j/\j≠r/\j<=i0):wL H0 r i0 H'.length ps H':=by obtain⟨⟨G,e⟩,js,hr,hf⟩:=h;subst e;show bb (mZ o (λj hj=>(xN j hj).1)) λG' e hG=>⟨⟨G',e⟩,js,by show aE (o.off _ (λm=>(xN _ m).2.1 rfl)) ?_;show hr,?_⟩;rw[o.len];show hf.mono (Xd _) λj o' h1 h2 q=>by rw[o.off _ (λm=>by have:=(xN _ m).2.2;show"TabLba0" h1 this)];show q
theorem yg{p:Nat->Bool}{l:List Nat}:l.dropWhile p=[]↔l.all p=a9:=by
 induction l with
 |nil=>show⟨fun  u=>rfl,fun  u=>rfl⟩
 |cons a l ih=>
  rw[Aai,Ab4];cases h:p a with|true=>show ih|false=>show⟨nofun,nofun⟩
theorem HR{p:Nat->Bool}{l:List Nat}{a:Nat}{r:List Nat}(h:l.dropWhile p=a::r):p a=ac:=by have:=List.head?_dropWhile_not p l;rw[h]at this;show this
theorem sM{p:Nat->Bool}(l:List Nat):(iG p (l.dropWhile p)==[])=l.all p:=by
 by_cases h:l.all p=a9
 .rw[yg.mpr h,h];rfl
 .have hf:l.all p=ac:=Eq.symm ((λ{a b}=>Bool.not_not_eq.mp) λa=>h (_root_.id (Eq.symm a)));rw[hf];cases hd:l.dropWhile p with
  |nil=>show absurd (yg.mp hd) h
  |cons a r=>
   have ha:=HR hd;have:(a::r).reverse.dropWhile p≠[]:=by
    intro e
    have:=X8.mp (yg.mp e) a (by simp);rw[ha]at this;injection this
   unfold iG;simpa using this
end
end
section
open PySem PySem.W PyProof.Rows PySem.Builtin PySem.Builtin.Str PySem.Builtin.List
open PySem.SeqAt (EqAt)
section
end
end
section
open PySem PySem.W PyProof.Rows PySem.Builtin PySem.Builtin.Str PySem.Builtin.List
section
variable {x:Int×Int}{mu:List Addr}
section
end
section
variable {ls:Loc}
end
end
section
variable {cl:List (Pi×Addr)}{x:Pi}
theorem dj.put{ls l:Loc}{v:AV}(h:dj cl ls l)(hx:cl.lookup x=a8):dj cl ls (Internal.put x v l):=λn hn=>by
 rw[eS];by_cases e:(n==x)=a9
 .have:=eq_of_beq e;clear e;subst this;rw[hx]at hn;injection hn
 .rw[aI e];show h n hn
theorem dj.has{ls l:Loc}{v:AV}(h:dj cl ls l)(hc:(cl.lookup x).isSome=a9)(hl:bh ls x v):bh l x v:=(h x hc).trans hl
theorem n4{cl:List (Pi×Addr)}{H:List AO}{ls:Loc}{x:Pi}{ai:Pos}{ifs:List Expr}{elt:Expr}{v:AV}{y:Option AV}(E:ba ae c.f)(hk:Kept ae c.f x)(hx:cl.lookup x=a8)
  (h:∀F l,dj cl ls l->bh l x v->pN c ae ifs (H++F) l λb d7 cj=>match y with|none=>b=ac/\dj cl ls cj/\∃G,d7=H++F++G|some y=>b=a9/\Ok c VR (eval elt ae) d7 cj λy' kb d5=>y'=y/\dj cl ls d5/\∃G,kb=H++F++G):qF c ae cl H ls (.Name x ai) ifs elt v y:=
 ⟨λF l hl=>ji E hk (h F _ (hl.put hx) bh.new)⟩
theorem jd{H:List AO}{ls:Loc}{elt target iter:Expr}{ifs:List Expr}{ai:Pos}{cl:List (Pi×Addr)}{Q:AV->List AO->Loc->Prop}(hA:c.A.handled=a8)(E:ba ae c.f)(lI:closureFor al ae=Xj cl)(gL:tS c.f cl)(cr:∀y∈al.names,y.2≠.cell)
  (gP:al.kind=.function) (lY:∀x∈al.names,x.2=.local->al.names.lookup x.1=a7 .local) (hs:∀x,foldedSetIterable iter ae x=Xj x)
  (h:Ok c VR (eval iter ae) H ls λx bu aU=>aU=ls/\∃i dk ft xs f,iC c x bu i (H++dk)/\SrcAt i ft xs (H++dk)/\(tR target\/ft.length≠3)/\(∀j∈ft,H.length<=j)/\xs.length<=100000/\
   (∀C,ba (compEnvC al cl C ae) ⟨C,cl⟩->∀x∈xs,qF (c.sub c.A ⟨C,cl⟩) (compEnvC al cl C ae) cl H ls target ifs elt x (f x))/\dS H.length (xs.filterMap f)=a9/\Q (.fl (xs.filterMap f)) H ls) :
  Ok c VR (eval (.ListComp elt [⟨target,iter,ifs,0⟩] al ai) ae) H ls Q:=Hs hA E lI gL cr gP lY hs h
end
theorem Good.swap{cO:Wd}{lB ls:Loc}(ue:Here c cO bD lB)(G:Good c cO bD W s ls){o:Obj}(h0:cO.h.get? C=a8)(hm:C ∉ W.bf)(ho:s.heap.get? C=a7 o)(VJ:soft o=a9)(tm:chg o=a9)(hs:XZ C s.heap h') :
  Good c cO bD ⟨h',W.ρ,W.H⟩ { s with heap:=h' } ls:=by
 have oP:XZ C W.h h':=by rw[G.hh];show hs
 have Tk:W.h.get? C=a7 o:=by rw[G.hh];show ho
 have hK:c.K.lookup C=a8:=by
  cases q:c.K.lookup C with|none=>rfl|some o=>have:=ue.rel.top _ _ q;rw[h0]at this;injection this
 have hF:C ∉ c.f.ad:=λm=>by show xE (ue.fr.there _ m) λo e=>?_;rw[h0]at e;injection e
 have wI:cStatics≠C:=λz=>by show bb ue.rel.lim fun  u pu u=>?_;obtain⟨_,_,_,e,_⟩:=pu;rw[z,h0]at e;injection e
 have M:bQ W ⟨h',W.ρ,W.H⟩:=⟨Xd _,fun  u u=>rfl,λa ob e m q=>⟨(oP.2 a λz=>by rw[z,Tk]at e;injection e with e;subst e;rw[VJ]at q;injection q).trans e,m⟩⟩
 show⟨rfl,⟨G.st.len,G.st.agree,λa ob e m ne=>?_⟩,⟨λa ob e=>?_,G.rel.lim.sameBut oP wI,λi oi e=>?_,G.rel.apart,G.rel.stat,G.rel.nodup,λp hp=>?_⟩,?_,⟨G.sh.1,G.sh.2⟩⟩
 .have z:=G.st.keep a ob e m ne;show⟨(oP.2 a λq=>by rw[q,h0]at e;injection e).trans z.1,z.2⟩
 .show(oP.2 a λq=>by rw[q,hK]at e;injection e).trans (G.rel.top a ob e)
 .show(G.rel.obj i oi e).mono M rfl λa m=>oP.2 a λq=>hm (q▸Wd.gu e m)
 .show(G.rel.tab p hp).sb oP Tk tm
 .show G.fr.mono M (λa m=>oP.2 a λq=>hF (q▸m)) λa m=>G.fr.cH a m
theorem rR{x:Pi}{p pos':Pos}{ae:Env}{c:Cx}{H:List AO}{ls:Loc}{elt target iter:Expr}{ifs:List Expr}{al:Scope}{ai:Pos}{cl:List (Str×Addr)}{Q:AF->List AO->Loc->Prop}(hx:Kept ae c.f x)(Tl:swapsWith (.ListComp elt [⟨target,iter,ifs,0⟩] al ai) (a7 (.Name x p)) pos'.line ae=Xj a9)(hA:c.A.handled=a8)(E:ba ae c.f)(lI:closureFor al ae=Xj cl)(gL:tS c.f cl)(cr:∀y∈al.names,y.2≠.cell)
  (gP:al.kind=.function) (lY:∀x∈al.names,x.2=.local->al.names.lookup x.1=a7 .local) (hs:∀x,foldedSetIterable iter ae x=Xj x)
  (h:Ok c VR (eval iter ae) H ls λxv bu aU=>aU=ls/\∃i dk ft xs f,iC c xv bu i (H++dk)/\SrcAt i ft xs (H++dk)/\(tR target\/ft.length≠3)/\(∀j∈ft,H.length<=j)/\xs.length<=100000/\
   (∀C,ba (compEnvC al cl C ae) ⟨C,cl⟩->∀x∈xs,qF (c.sub c.A ⟨C,cl⟩) (compEnvC al cl C ae) cl H ls target ifs elt x (f x))/\dS H.length (xs.filterMap f)=a9/\Q .next H (put x (.fl (xs.filterMap f)) ls)) :
  Ok c aY (exec (.Assign [.Name x p] (.ListComp elt [⟨target,iter,ifs,0⟩] al ai) pos') ae) H ls Q:=λW s g e=>by
 revert x p pos' ae c H ls elt target iter ifs al ai cl Q W s;delta x p pos' ae c H ls elt target iter ifs al ai cl Q;intro hx Tl hA E lI gL cr gP lY hs h;delta W s;intro g e;show aM (Yy (aM (XX (show swapsWithSole [.Name x p] _ _ _=Xj a9 from Tl) ?_)));change wpAny _ _ ((comprehension (.ListComp elt [⟨target,iter,ifs,0⟩] al ai) al ae (firstIterPos [⟨target,iter,ifs,0⟩] ai) (newList []) ac (eval iter ae) (a7 λv=>assign (.Name x p) ae v) >>= fun  u=>Xj ()) >>= fun  u=>Xj Flow.next) _ _ s;show aM (aM (AcS rfl hs lI gP lY (h.run g e λaK aH aU xv v aD b8 aR=>?_)));revert aK aH aU xv v;delta aK aH aU xv v;intro aD b8 aR;show xA aR λqG tz=>?_;show dt tz ?_;clear tz;intro i dk ft xs tz;show pY tz ?_;clear tz;intro f It S ht xN tz;show nA tz ?_;clear tz;intro mn Gr hu q;clear h;subst qG;show iL (It aK aH v aU aD.here rfl b8) λb4 aN it aF cT hi=>it _ _ _ _ _ (YB (Z8 cr (by intro y hy;simp at hy) (λdT xG KR=>?_) gP));dsimp only at xG KR ⊢
 have hp:∀a∈own (aN.heap.objs.size,0) (.lst []),aN.heap.get? a=a8:=λa m=>by obtain rfl:=uT m;show fJ (Xd _)
 have aT:=aF.here.new (o:=.lst []) (p:=(aN.heap.objs.size,0)) (h':=aN.heap.push (listOf ([]:List Value).toArray 0)) aN.toks (λb o e=>Xa _ e) hp D2 λM=>by show dC ([]) 0 ?_ .nil;rw[dz];show Xo _ rfl
 replace aT:=aT.at aF.tk;generalize vz:b4.add (aN.heap.push (listOf ([]:List Value).toArray 0)) (aN.heap.objs.size,0) (.lst [])=b7 at aT;have cE:b7.H=H++(dk++[.lst []]):=by rw[<-vz];change b4.H++[_]=_;rw[cT];show Xq _ _ _
 have ρD:b7.ρ (H++dk).length=(aN.heap.objs.size,0):=by(show ix vz ?_;show ix cT ?_);show dz ..
 have ρi:b7.ρ i=b4.ρ i:=aT.st.agree i (by rw[cT];show hi);generalize hC:(aN.heap.push { cls:=.type "list",dict:=Acu,data:=.seq ([]:List Value).toArray }).objs.size=C at xG KR ⊢;have vA:(aN.heap.push (listOf ([]:List Value).toArray 0)).objs.size<=C:=Y6 hC;have kk:∀b o,(aN.heap.push (listOf ([]:List Value).toArray 0)).get? b=a7 o->dT.get? b=a7 o:=λb o e=>KR.extBut b o (YL (XB (XF e) vA)) (Xa _ e);have KS:dT.Ns C fun  u=>a8:=by
  have:(λx=>YK x ([]:List (Str×Value)).reverse)=fun  u=>Acu:=by funext x;rfl
  rw[this]at xG;show xG
 have E':ba (compEnvC al cl C ae) ⟨C,cl⟩:=⟨gP,rfl,fun  u u e=>e,E.glob,E.blt⟩
 have en:=qD aT.here gL (aN.toks+0) aF.tk KS vA kk;have DP:(H++(dk++[.lst []]))[(H++dk).length]?=a7 (.lst []):=by rw[<-Xq];show jM
 have DQ:SrcAt i ft xs (H++(dk++[.lst []])):=S.congr λj hj=>by rw[<-Xq,Yv (S.foot.2 j hj)]
 have DR:(H++dk).length ∉ ft:=λm=>XM _ (S.foot.2 _ m);have KT:dj cl aU (qC cl aU):=λn hn=>by rw[ju,aQ hn]
 have loop:=su (c:=c.at ⟨C,cl⟩) (ae:=compEnvC al cl C ae) (elt:=elt) (target:=target) (iter:=iter) (ifs:=ifs) (al:=al) (ai:=ai) (D:=(H++dk).length) (cD:=H.length) (ls:=aU) (cl:=cl) (ft:=ft) (f:=f) (i:=i) hA ht DR xN wH rfl xs []
  (λx hx=>Gr C E' x hx) (by simpa using mn) (dk++[.lst []]) (qC cl aU) DQ DP KT ⟨dT,b7.ρ,b7.H⟩ _ en cE
 rw[show(⟨dT,b7.ρ,b7.H⟩:Wd).ρ i=b4.ρ i from ρi,show(⟨dT,b7.ρ,b7.H⟩:Wd).ρ (H++dk).length=(aN.heap.objs.size,0)from ρD]at loop;have fin:∀r s',(1<=s'.toks/\r=.ok .next/\∃W' l' F',Good (c.at ⟨C,cl⟩) ⟨dT,b7.ρ,b7.H⟩ { aN with heap:=dT,toks:=aN.toks+0 } W' s' l'/\W'.H=H++F'/\(H++F')[(H++dk).length]?=a7 (.lst ([]++xs.filterMap f))/\dj cl aU l')->
   compPost c.M c.A qm (a7 λv=>assign (.Name x p) ae v) (fun  u s'=>wpAny c.M c.A (Xj ()) (fun  u s'=>wpAny c.M c.A (Xj Flow.next) (gS c aY Q W s) qm s') (fun  u u=>False) s') (.ref aN.heap.objs.size) C r s':=by
  rintro r s' ⟨tz,rfl,W',l',F',G',e',y',K'⟩
  show bb G'.fr.ns fun  m n1 u=>?_;have Cm:C∈(c.at ⟨C,cl⟩).f.ad:=.head _;have VK:=G'.fr.cH C Cm;show bb (G'.fr.dy C Cm) λoC eC sC=>?_;have cC:chg oC=a9:=by
   show bb (G'.fr.oK C Cm) λo2 e2 q2=>?_;rw[eC]at e2;injection e2 with e2;subst e2
   unfold chg;rw[q2];rfl
  have lv:=qE aT.here gL vA kk G' K' (cP:=s'.heap) ⟨rfl,fun  u u=>rfl⟩;have R9:(H++dk).length<W'.H.length:=by rw[e'];show(Xc.mp y').1
  have nO:W'.ρ (H++dk).length=(aN.heap.objs.size,0):=by rw[G'.st.agree _ (by change _<b7.H.length;rw[cE];show place_lt DP)];show ρD
  have rD:VR ⟨s'.heap,W'.ρ,W'.H⟩ (.ref (H++dk).length) (.ref aN.heap.objs.size):=by
   have:=VR.ref (W:=⟨s'.heap,W'.ρ,W'.H⟩) (H++dk).length R9
   rwa[show(⟨s'.heap,W'.ρ,W'.H⟩:Wd).ρ (H++dk).length=(aN.heap.objs.size,0)from nO]at this
  show Xz (ji (ai:=p) E hx (Q:=fun  u H' l'=>H'=W'.H/\l'=put x (.ref (H++dk).length) aU) ⟨rfl,rfl⟩ ⟨s'.heap,W'.ρ,W'.H⟩ s' _ (lv.at tz).here rfl rD) (fun  u fF zz=>?_) fun  u u z=>z;obtain⟨W5,l5,_,G5,_,e5,VL⟩:=zz;subst VL;have h0:b7.h.get? C=a8:=by rw[aT.hh];show fJ vA
  have VM:(⟨s'.heap,W'.ρ,W'.H⟩:Wd).h.get? C=a7 oC:=by change s'.heap.get? C=_;rw[<-G'.hh];show eC
  have VN:C ∉ c.f.ad++bp c.K:=λm=>by
   rcases Xl.mp m with m|m
   .show xE (aT.fr.there _ m) λo e=>?_;rw[h0]at e;injection e
   .show bb (aT.rel.iB _ m) fun  o e u=>?_;rw[h0]at e;injection e
  have k5:=G5.st.keep C oC VM VK VN;have Tn:fF.heap.get? C=a7 oC:=by rw[<-G5.hh];show k5.1
  show hV (id n1) λo6 VO VP To d6=>bd m ⟨o6,VO,VP,?_,d6⟩ (λgb DS=>GT (GT ?_))
  .have PH:W'.h.get? C=a7 o6:=To;rw[eC]at PH;clear d6 To;injection PH with PH;subst PH;show Tn
  have sw:=Good.swap aT.here (lv.trans G5) h0 k5.2 Tn sC cC DS;have VQ:=aD.trans (aF.trans (aT.trans sw));have hz:bw H.length H:=by have:=g.rel.closed;rwa[e]at this
  have VS:=g.fr.J5;have cut:=VQ.sd (H':=H) (dq:=put x (.fl (xs.filterMap f)) aU) (.cut H.length H _ (by rw[e];show Xd _) (by change _<=W5.H.length;rw[e5,e'];show wH) (by change lG W5.H _ (W5.H.take _) H;rw[e5,e',fX];show lG.refl hz) λy N2 hy=>by
   rw[eS]at hy ⊢;by_cases Tp:(y==x)=a9
   .rw[aQ Tp]at hy ⊢;obtain rfl:=Xe hy;show bd _ rfl (.lst wH (by change W5.H[_]?=_;(show aE e5 ?_;show aE e' ?_);show y') (iU.refl (by simpa using hu)))
   .rw[aI Tp]at hy ⊢;show bd N2 hy (Fz.refl ?_)
    have:=VS y N2 hy;rw[e]at this;show this)
  show⟨_,_,.next,cut,.next,q⟩
 show Ac8 (Yr (Acs (n:=1) aF.tk loop) fin) ?_;have st:=DQ.DN (c:=c.at ⟨C,cl⟩) en cE;rw[show(⟨dT,b7.ρ,b7.H⟩:Wd).ρ i=b4.ρ i from ρi]at st;show st _ _ _ _ _ (Yr (Acs (n:=1) aF.tk loop) fin)
noncomputable def fB(c:Nat):List Nat->List (List Nat)
 |[]=>[[]]
 |a::r=>if a==c then[]::fB c r else(match fB c r with|h::tl=>(a::h)::tl|[]=>[[a]])
theorem w7(c a:Nat)(r:List Nat):fB c (a::r)=if a==c then[]::fB c r else(match fB c r with|h::tl=>(a::h)::tl|[]=>[[a]]):=rfl
theorem w8(c:Nat):∀(p:List Nat) (r:List Nat),c ∉ p->fB c (p++c::r)=p::fB c r:=by
 intro zz;induction zz with
 |nil=>show fun  r u=>aQ (beq_self_eq_true c)
 |cons a p ih=>
  showλr h=>by
   have ha:(a==c)=ac:=by rw[beq_eq_false_iff_ne];showλe=>h (e▸.head _)
   rw[Abq,w7,ha,ih r λm=>h (.tail _ m)];rfl
theorem yh(c:Nat):∀p:List Nat,c ∉ p->fB c p=[p]:=by
 intro zz;induction zz with
 |nil=>show fun  u=>rfl
 |cons a p ih=>
  showλh=>by
   have ha:(a==c)=ac:=by rw[beq_eq_false_iff_ne];showλe=>h (e▸.head _)
   rw[w7,ha,ih λm=>h (.tail _ m)];rfl
theorem p9(c:Nat):∀ts:List (List Nat),ts≠[]->(∀p∈ts,c ∉ p)->fB c (glue [c] ts)=ts:=by
 intro zz;induction zz with
 |nil=>show fun  h u=>absurd rfl h
 |cons p rr ih=>
  cases rr with
  |nil=>show fun  u h=>yh c p (h p (.head _))
  |cons q r=>
   show fun  u h=>by change fB c (p++[c]++glue [c] (q::r))=_;rw[Xq,List.singleton_append,w8 c p _ (h p (.head _)),ih (Yj q r) λx hx=>h x (.tail _ hx)]
theorem Lo(c:Nat):∀ts:List Pi,(AcJ ⟨#[c]⟩ ts).cps.toList=glue [c] (ts.map λt=>t.cps.toList):=by
 intro zz;induction zz with
 |nil=>show rfl
 |cons x rr ih=>
  cases rr with
  |nil=>show rfl
  |cons y r=>
   show by change(x++⟨#[c]⟩++AcJ ⟨#[c]⟩ (y::r)).cps.toList=_;simp only[Str.cps_append,Array.toList_append];show aE (ih) ?_;rfl
theorem EI(l:List Nat)(c:Nat):(Aa7 ⟨l.toArray⟩ ⟨#[c]⟩).map (λt=>t.cps.toList)=fB c l:=by
 have h1:=StrLaws.split_free ⟨l.toArray⟩ c;have h2:AcJ ⟨#[c]⟩ (Aa7 ⟨l.toArray⟩ ⟨#[c]⟩)=⟨l.toArray⟩:=by
  unfold Aa7;split
  .rfl
  .split
   .rfl
   .rw[Ac1];show xE (StrLaws.occ_chain ⟨l.toArray⟩ ⟨#[c]⟩ ((⟨l.toArray⟩:Pi).length+1)) λf hf=>?_;show aE (StrLaws.join_partsFrom _ _ _ _ _ hf) ?_;rw[StrLaws.sub_whole]
 have h3:Aa7 ⟨l.toArray⟩ ⟨#[c]⟩≠[]:=by
  unfold Aa7;split
  .simp
  .split
   .simp
   .rw[Ac1];show IG (StrLaws.partsFrom_ne ⟨l.toArray⟩ (⟨#[c]⟩:Pi).length 0 (occurrences ⟨l.toArray⟩ ⟨#[c]⟩ 0 (⟨l.toArray⟩:Pi).length ((⟨l.toArray⟩:Pi).length+1))) λp r e=>?_;show aE e ?_;show Yj p r
 have h4:=Lo c (Aa7 ⟨l.toArray⟩ ⟨#[c]⟩);rw[h2]at h4;have h5:=p9 c ((Aa7 ⟨l.toArray⟩ ⟨#[c]⟩).map λt=>t.cps.toList) (by simpa using h3) λp hp=>by show bb (Xr.mp hp) λx hx iO=>?_;clear hp;subst iO;show h1 x hx
 rw[<-h4]at h5;show h5.symm
theorem HS(l:List Nat)(c:Nat):Aa7 ⟨l.toArray⟩ ⟨#[c]⟩=(fB c l).map λt=>⟨t.toArray⟩:=by
 rw[<-EI,Zu];have:((λt=>(⟨t.toArray⟩:Pi)) ∘ λ(t:Pi)=>t.cps.toList)=_root_.id:=by funext t;rfl
 show aE this ?_;rw[List.map_id]
section
variable {ls:Loc}
end
theorem JN{l:Loc}{x:Str}{v:AV}(h:l.lookup x=a7 v):bh l x v:=h
theorem JM{l:Loc}{x:Str}{v:AV}(h:bh l x v):l.lookup x=a7 v:=h
noncomputable def top(n:Nat):Stmt:=cZ PySem.Challenge.pw_qu0058_02.main.body n
noncomputable abbrev uu:Nat:=5
noncomputable abbrev jQ:Nat:=6
noncomputable def eA:Addr:=193
noncomputable def oq:Addr:=109
noncomputable def kH:Addr:=117
noncomputable def EJ:List (Str×Value):=[("len",.builtin "len"),("str",.type "str"),("range",.type "range"),("zip",.type "zip"),("isinstance",.builtin "isinstance"),("sum",.builtin "sum"),("next",.builtin "next"),("_Accumulator",.ref eA),("_ValueFormatter",.ref oq),
 ("unmatched",.ref 209),("split_header_words",.ref 236),("join_header_words",.ref 253),("_law_coder",.ref 260),("_law_word",.ref 265),("_law_filled",.ref 270)]
noncomputable def EK:List (Str×Option Value):=[("append",a7 (.builtin "list.append")),("__init__",a7 (.ref 130)),("push",a7 (.ref 137)),("pop_from",a7 (.ref 145)),("pop",a7 (.ref 153)),("__len__",a7 (.ref 160)),("__str__",a7 (.ref 167)),("reset",a7 (.ref 175)),("is_onlyws",a7 (.ref 182)),("part_count",a7 (.ref 190)),
 ("__iter__",a7 (.builtin "list.__iter__")),("__getitem__",a7 (.builtin "list.__getitem__")),("__setitem__",a7 (.builtin "list.__setitem__")),("__bool__",a8),("_initial_size",a8)]
noncomputable def EL:List (Str×Option Value):=[("__init__",a7 (.ref 50)),("_str",a7 (.ref 57)),("newline",a7 (.ref 71)),("_ascii_split",a7 (.ref 99)),("_append_chunk",a7 (.ref 106)),("add_transition",a7 (.ref 78)),("feed",a7 (.ref 85)),("_maxlengths",a7 (.ref 92)),
 ("_maxlen",a8),("_continuation_ws",a8),("_continuation_ws_len",a8),("_splitchars",a8),("_lines",a8),("_current_line",a8)]
noncomputable def yi:List (Str×Value):=[("HEADER_TOKEN_RE",.ref 214),("HEADER_QUOTED_VALUE_RE",.ref 219),("HEADER_VALUE_RE",.ref 224),("HEADER_ESCAPE_RE",.ref 229),("_twin_re_7",.ref 202),("HEADER_JOIN_TOKEN_RE",.ref 241),("HEADER_JOIN_ESCAPE_RE",.ref 246),("_twin_re_1",.ref 36)]
structure KF(af:Program)(K:Frag):Prop where
 gl:∀x v,EJ.lookup x=a7 v->cF K x=a7 v/\∃k,eV K v=a7 k
 es:∃t,cF K "EMPTYSTRING" = a7 (.str ⟨([]:List Nat).toArray⟩ t)
 nl:∃t,cF K "NL" = a7 (.str ⟨[10].toArray⟩ t)
 nm:∃v,nsIn K mainGlobals "__name__" = a7 (a7 v)
 acc:pF K eA EK
 fmt:pF K oq EL
 EM:Hj K eA
 O8:alongIn K "__len__" [.type "list",.type "object"]=a7 (a7 (.builtin "list.__len__"))
 O9:alongIn K "pop" [.type "list",.type "object"]=a7 (a7 (.builtin "list.pop"))
 Oa:alongIn K "__init__" [.type "list",.type "object"]=a7 (a7 (.builtin "list.__init__"))
 sup:Lb af K eA
 Tq:mR K eA=a9
 Tr:makesIn K oq=a9
 tabs:(bp K).Nodup
 blt:oV K
 zM:fnIn K 137=a9/\specialIn K (.ref 137) "__get__" = a7 (a7 (.builtin "function.__get__"))/\takesIn K (.ref 137)=a7 ac
 Ob:FnAt K 209 (top 9) [] .none
 EN:FnAt K 236 (top 14) [] .none
 Jn:FnAt K 253 (top 17) [] .none
 EO:FnAt K 50 (cw (top uu) 0) [] .none
 Jo:FnAt K 57 (cw (top uu) 1) [] .none
 EP:FnAt K 71 (cw (top uu) 3) [] .none
 HT:FnAt K 99 (cw (top uu) 7) [] .none
 zN:FnAt K 106 (cw (top uu) 8) [] .none
 EQ:∃dv,FnAt K 130 (cw (top jQ) 0) [("__class__",kH)] dv/\∃T o lZ n,dv=.ref T/\K.lookup T=a7 o/\o.data=.seq lZ n
 ER:FnAt K 137 (cw (top jQ) 1) [] .none
 Lp:∃dv,FnAt K 145 (cw (top jQ) 2) [] dv/\∃T o lZ n,dv=.ref T/\K.lookup T=a7 o/\o.data=.seq lZ n
 Jp:FnAt K 153 (cw (top jQ) 3) [("__class__",kH)] .none
 Jq:FnAt K 160 (cw (top jQ) 4) [] .none
 Jr:FnAt K 167 (cw (top jQ) 5) [] .none
 Js:∃dv,FnAt K 175 (cw (top jQ) 6) [] dv/\∃T o n,dv=.ref T/\K.lookup T=a7 o/\o.cls=.type "tuple"/\o.data=.seq #[.none] n
 Oc:FnAt K 182 (cw (top jQ) 7) [] .none
 Jt:FnAt K 190 (cw (top jQ) 8) [("__class__",kH)] .none
 Ts:sy af K eA 130 kH "self"
 Tt:sy af K eA 153 kH "self"
 Tu:sy af K eA 190 kH "self"
 yj:ez K 214 Rx.ly 1
 ES:ez K 219 Rx.eG 1
 ET:ez K 224 Rx.lR 1
 Od:ez K 229 Rx.tw 1
 Lq:ez K 202 Rx.i6 0
 w9:ez K 241 Rx.gr 0
 Ju:ez K 246 Rx.eK 1
 RJ:ez K 36 Rx.K4 1
 gp:∀x v,yi.lookup x=a7 v->cF K x=a7 v
 EU:FnAt K 78 (cw (top uu) 4) [] .none
 EV:FnAt K 85 (cw (top uu) 5) [] .none
 Jv:FnAt K 92 (cw (top uu) 6) [] .none
 EW:FnAt K 260 (top 19) [] .none
 Jw:FnAt K 265 (top 20) [] .none
 zO:FnAt K 270 (top 21) [] .none
 Oe:FnAt K 275 (top 22) [] .none
 Tv:cF K "IndexError" = a7 (.type "IndexError")
theorem jB{a:Bool}{G:Prop}(h:(a && b)=a9)(k:a=a9->b=a9->G):G:=k (X9.mp h).1 (X9.mp h).2
theorem qR{G:Prop}(h:ac=a9):G:=nomatch h
theorem fZ{a:α}{G:Prop}(h:a8=a7 a):G:=nomatch h
theorem pT{d:Data}{vs:Array Value}(h:nM d=a7 vs):d=.fields vs:=by
 cases d with|fields v=>show congrArg _ (Xe h)|_=>show fZ h
noncomputable def HU:Data->Option (Array Value×Nat)|.seq vs n=>a7 (vs,n)|_=>a8
theorem EX{d:Data}{p:Array Value×Nat}(h:HU d=a7 p):d=.seq p.1 p.2:=by
 cases d with|seq v n=>show(Xe h)▸rfl|_=>show fZ h
noncomputable def fnOf:Data->Option FuncData|.func f=>a7 f|_=>a8
theorem Jx{d:Data}{f:FuncData}(h:fnOf d=a7 f):d=.func f:=by
 cases d with|func v=>show congrArg _ (Xe h)|_=>show fZ h
theorem EY{a:Addr}(h:refOf v=a7 a):v=.ref a:=by
 cases v with|ref v=>show congrArg _ (Xe h)|_=>show fZ h
noncomputable def Jy:Value->Option Pi|.str s _=>a7 s|_=>a8
theorem Lr{s:Pi}(h:Jy v=a7 s):∃t,v=.str s t:=by
 cases v with|str s t=>show⟨t,congrArg (AbX · t) (Xe h)⟩|_=>show fZ h
noncomputable def Ls(K:Frag)(a:Addr):Option ((FuncBody×Arguments×Scope)×(Addr×Addr×List (Pi×Addr))×Value×Value):=(K.lookup a).bind λo=>(fnOf o.data).map λf=>((f.body,f.params,f.scope),(f.globals,f.builtins,f.closure),f.defaults,f.kwdefaults)
noncomputable def Mr(p:Addr×Stmt×List (Pi×Addr)×Value):Option ((FuncBody×Arguments×Scope)×(Addr×Addr×List (Pi×Addr))×Value×Value):=(tU p.2.1).map λd=>((.stmts d.1,d.2.1,d.2.2),(mainGlobals,builtinsNs,p.2.2.1),p.2.2.2,.none)
noncomputable def RK(K:Frag)(a:Addr):Bool:=(K.lookup a).any λo=>(fnOf o.data).any λf=>codeIn K f.code f.qualname && (de K).any λp=>decide (f.code=.ref p.1)
noncomputable def jJ:List (Addr×Stmt×List (Pi×Addr)×Value):=[(209,top 9,[],.none),(236,top 14,[],.none),(253,top 17,[],.none),(50,cw (top uu) 0,[],.none),(57,cw (top uu) 1,[],.none),(71,cw (top uu) 3,[],.none),(99,cw (top uu) 7,[],.none),(106,cw (top uu) 8,[],.none),(130,cw (top jQ) 0,[("__class__",kH)],(.ref 122)),(137,cw (top jQ) 1,[],.none),(145,cw (top jQ) 2,[],(.ref 138)),(153,cw (top jQ) 3,[("__class__",kH)],.none),(160,cw (top jQ) 4,[],.none),(167,cw (top jQ) 5,[],.none),(175,cw (top jQ) 6,[],(.ref 168)),(182,cw (top jQ) 7,[],.none),(190,cw (top jQ) 8,[("__class__",kH)],.none),(78,cw (top uu) 4,[],.none),(85,cw (top uu) 5,[],.none),(92,cw (top uu) 6,[],.none),(260,top 19,[],.none),(265,top 20,[],.none),(270,top 21,[],.none),(275,top 22,[],.none)]
theorem Of{a:Addr}{st:Stmt}{cl:List (Pi×Addr)}{dv:Value}(h:Ls K a=Mr (a,st,cl,dv))(hb:RK K a=a9):FnAt K a st cl dv:=by
 show gC hb λo ho e=>gC e λf hf e=>jB e λe1 e2=>⟨?_⟩;unfold Ls Mr at h;rw[ho,Zr,hf]at h;cases hd:tU st with|none=>rw[hd]at h;show fZ h.symm|some d=>rw[hd]at h;obtain⟨oc,od,da,sl⟩:=o;obtain⟨p,hp,e2⟩:=List.any_eq_true.mp e2;show⟨oc,od,sl,f,ho.trans (congrArg (λd=>a7 (Obj.mk oc od d sl)) (Jx hf)),?_,e1,p.1,p.2,aP e2,hp⟩;clear e1 e2 hp hf ho;replace h:=Xe h;unfold Nz;rw[hd];show⟨congrArg (·.1.1) h,congrArg (·.1.2.1) h,congrArg (·.1.2.2) h,congrArg (·.2.1.1) h,congrArg (·.2.1.2.1) h,congrArg (·.2.1.2.2) h,congrArg (·.2.2.1) h,congrArg (·.2.2.2) h⟩
noncomputable def Og:Option Keeper->Bool
 |some .frame=>a9
 |_=>ac
theorem Lu{k:Option Keeper}(h:Og k=a9):k=a7 .frame:=by
 cases k with
 |none=>show qR h
 |some k=>cases k with|frame=>rfl|_=>show qR h
noncomputable def Oh:Option Value->Bool
 |some (.ref _)=>ac
 |_=>a9
abbrev Lv(K:Frag)(C:Addr)(tab:List (Pi×Option Value))(mro:List Value):Prop:=
 (∀p∈tab,findIn K (.ref C) p.1=a7 p.2/\(Oh p.2 ||(isFn K (p.2.getD .none) && Og (eV K (p.2.getD .none))))=a9)/\hasDictIn K C=a9/\findIn K (.ref C) "__setattr__" = a7 (a7 (.builtin "object.__setattr__"))/\
 (clsIn K C).any (λcd=>cd.hasDict && decide (cd.mro=mro))=a9/\mroIn K C (.type "object")=a7 a9
theorem Jz{tab:List (Pi×Option Value)}{mro:List Value}(h:Lv K C tab mro)(hm:∀self,refuseLoop self "__setattr__" mro=Xj ()) (g:iX K C):pF K C tab where
 fi:=λx v e=>(h.1 (x,v) (ZI e)).1
 fn:=λx a e=>(Bool.or_eq_true_iff.mp (h.1 (x,_) (ZI e)).2).elim (λq=>nomatch q) λq=>jB q λa b=>⟨a,Lu b⟩
 bl:=fun  u u u=>.inr trivial
 pg:=g
 hd:=h.2.1
 sa:=h.2.2.1
 cd:=gC h.2.2.2.1 λcd e q=>jB q λa b=>⟨cd,e,a,λself=>aP b▸hm self⟩
 ob:=h.2.2.2.2
abbrev uf(K:Frag)(a:Addr)(aj:Array Nat)(n:Nat):Prop:=(K.lookup a).any (λo=>decide (o.cls=.type "re.Pattern") && (o.dict.isNone && (nM o.data).any λvs=>decide (Builtin.Re.reRawNat (vs.getD 2 .none)=n) && (decide (Builtin.Re.reRawNat (vs.getD 6 .none)=0) &&
 (refOf (vs.getD 5 .none)).any λb=>(K.lookup b).any λo=>(HU o.data).any λp=>decide (p.1.toList.map (λv=>(Builtin.Re.reRawOf v).toNat)=aj.toList))))=a9
theorem kI{a:Addr}{aj:Array Nat}(h:uf K a aj n):ez K a aj n:=
 gC h λo h1 e=>jB e λh2 e=>jB e λh3 e=>gC e λvs h4 e=>jB e λh5 e=>jB e λh6 e=>gC e λb h7 e=>gC e λob h8 e=>gC e λp h9 z9=>⟨o,vs,b,ob,p.1,p.2,h1,aP h2,ZA.mp h3,pT h4,EY h7,aP h5,aP h6,h8,EX h9,Array.toList_inj.mp (by rw[Array.toList_map,Array.toList_map,Zu];show aP z9)⟩
abbrev HV(af:Program)(K:Frag)(fa:Addr):Prop:=(K.lookup fa).any (λo=>(fnOf o.data).any λfd=>(fd.params.posonlyargs++fd.params.args).head?.any (λar=>decide (ar.arg=("self" : Pi))) && (refOf fd.code).any λa=>(K.lookup a).any λo=>(nM o.data).any λvs=>vs[2]?.any λv=>(Jy v).any λf=>(af.main.file:Pi)==f)=a9
theorem yk(h:HV af K fa)(hc:∃a b d,K.lookup kH=a7 ⟨a,b,.cell (a7 (.ref eA)),d⟩):sy af K eA fa kH "self":=
 ⟨gC h λo h1 e=>gC e λfd h2 e=>jB e λh3 e=>gC h3 λar h4 h5=>gC e λa h6 e=>gC e λo' h7 e=>gC e λvs h8 e=>gC e λv h9 e=>gC e λf z9 NB=>(Lr z9).elim λt ht=>⟨o.cls,o.dict,o.slots,fd,ar,h1.trans (congrArg (λd=>a7 (Obj.mk o.cls o.dict d o.slots)) (Jx h2)),h4,aP h5,a,o',vs,f,t,EY h6,h7,pT h8,h9.trans (congrArg a7 ht),NB⟩,hc⟩
abbrev Lw(K:Frag)(a:Addr):Prop:=(K.lookup a).any (λo=>(HU o.data).isSome)=a9
theorem JA{a:Addr}(h:Lw K a):∃T o lZ n,YZ a=.ref T/\K.lookup T=a7 o/\o.data=.seq lZ n:=gC h λo h1 e=>(Zd.mp e).elim λp h2=>⟨a,o,p.1,p.2,rfl,h1,EX h2⟩
noncomputable def Oi:Data->Bool|.plain=>a9|_=>ac
theorem Lx{d:Data}(h:Oi d=a9):d=.plain:=by
 cases d with|plain=>rfl|_=>show qR h
noncomputable def Ly:Data->Bool|.cell v=>decide (v=a7 (.ref eA))|_=>ac
theorem Lz{d:Data}(h:Ly d=a9):d=.cell (a7 (.ref eA)):=by
 cases d with|cell v=>show congrArg _ (aP h)|_=>show qR h
theorem EZ(h:(K.lookup kH).any (λo=>Ly o.data)=a9):∃a b d,K.lookup kH=a7 ⟨a,b,.cell (a7 (.ref eA)),d⟩:=gC h λo h1 e=>⟨o.cls,o.dict,o.slots,h1.trans (congrArg (λd=>a7 (Obj.mk o.cls o.dict d o.slots)) (Lz e))⟩
def KD(af:Program)(K:Frag):Prop:=
 (∀p∈EJ,cF K p.1=a7 p.2/\(eV K p.2).isSome=a9)/\
 (∀p∈yi,cF K p.1=a7 p.2)/\
 (cF K "EMPTYSTRING" = a7 (.str ⟨([]:List Nat).toArray⟩ 314))/\
 (cF K "NL" = a7 (.str ⟨[10].toArray⟩ 312))/\
 ((nsIn K mainGlobals "__name__").any Option.isSome=a9)/\
 (Lv K eA EK [.ref eA,.type "list",.type "object"])/\
 (Lv K oq EL [.ref oq,.type "object"])/\
 (findIn K (.ref eA) "__getattribute__" = a7 (a7 (.builtin "list.__getattribute__")))/\
 (findIn K (.ref eA) "__getattr__" = a7 a8)/\
 (findIn K (.ref oq) "__getattribute__" = a7 (a7 (.builtin "object.__getattribute__")))/\
 (findIn K (.ref oq) "__getattr__" = a7 a8)/\
 (mroIn K eA (.type "list")=a7 a9)/\
 (mroIn K eA (.type "collections.deque")=a7 ac)/\
 (findIn K (.ref eA) "__getitem__" = a7 (a7 (.builtin "list.__getitem__")))/\
 (findIn K (.ref eA) "__setitem__" = a7 (a7 (.builtin "list.__setitem__")))/\
 (alongIn K "__len__" [.type "list",.type "object"]=a7 (a7 (.builtin "list.__len__")))/\
 (alongIn K "pop" [.type "list",.type "object"]=a7 (a7 (.builtin "list.pop")))/\
 (alongIn K "__init__" [.type "list",.type "object"]=a7 (a7 (.builtin "list.__init__")))/\
 (cF K "super" = a7 (.type "super"))/\
 ((clsIn K eA).any (λcd=>decide ((cd.mro.dropWhile (· != .ref eA)).drop 1=[.type "list",.type "object"]) && decide (cd.qualname.toString = "_Accumulator"))=a9)/\
 (mroIn K eA (.ref eA)=a7 a9)/\
 (mroIn K eA (.type "module")=a7 ac)/\
 (typeIn K (.ref eA)=a7 (.type "type"))/\
 (nsIn K cStatics "thirdparty.any" = a7 a8)/\
 ((af.main.scope.names.lookup ("super" : Pi)).isSome=ac)/\
 (mR K eA=a9)/\
 (makesIn K oq=a9)/\
 ((bp K).Nodup)/\
 (nsIn K mainGlobals "__builtins__" = a7 (a7 (.ref 4)))/\
 ((K.lookup 4).any (λo=>decide (o.cls=.type "module") && (decide (o.dict=a7 builtinsNs) && Oi o.data))=a9)/\
 (fnIn K 137=a9)/\
 (specialIn K (.ref 137) "__get__" = a7 (a7 (.builtin "function.__get__")))/\
 (takesIn K (.ref 137)=a7 ac)/\
 (Lw K 122/\Lw K 138)/\
 ((K.lookup 168).any (λo=>decide (o.cls=.type "tuple") && (HU o.data).any λp=>decide (p.1=#[.none]))=a9)/\
 (HV af K 130/\HV af K 153/\HV af K 190)/\
 ((K.lookup kH).any (λo=>Ly o.data)=a9)/\
 (∀p∈jJ,RK K p.1=a9)/\
 (uf K 214 Rx.ly 1)/\
 (uf K 219 Rx.eG 1)/\
 (uf K 224 Rx.lR 1)/\
 (uf K 229 Rx.tw 1)/\
 (uf K 202 Rx.i6 0)/\
 (uf K 241 Rx.gr 0)/\
 (uf K 246 Rx.eK 1)/\
 (uf K 36 Rx.K4 1)/\
 (cF K "IndexError" = a7 (.type "IndexError"))
noncomputable def Oj(af:Program)(K:Frag):Decidable (KD af K):=by unfold KD;repeat' first|show@instDecidableAnd _ _ ?_ ?_|infer_instance
theorem gU(h:jJ.map (λp=>Ls K p.1)=jJ.map Mr)(hb:∀p∈jJ,RK K p.1=a9)(i:Nat){a:Addr}{st:Stmt}{cl:List (Pi×Addr)}{dv:Value}(e:jJ[i]?=a7 (a,st,cl,dv)):FnAt K a st cl dv:=by have h2:(jJ.map λp=>Ls K p.1)[i]?=(jJ.map Mr)[i]?:=congrArg (·[i]?) h;rw[Zl,Zl,e]at h2;show Of (Xe h2) (hb _ (AbF e))
theorem Ol(h:KD af K)(hf:jJ.map (λp=>Ls K p.1)=jJ.map Mr):KF af K:=
 have j1:=h.2.2.2.2.2.2.2;have j2:=j1.2.2.2.2.2.2.2;have j3:=j2.2.2.2.2.2.2.2;have j4:=j3.2.2.2.2.2.2.2;have j5:=j4.2.2.2.2.2.2.2;have j6:=j5.2.2.2.2.2.2.2
 { gl:=λx v e=>⟨(h.1 (x,v) (ZI e)).1,Zd.mp (h.1 (x,v) (ZI e)).2⟩,es:=⟨_,h.2.2.1⟩,nl:=⟨_,h.2.2.2.1⟩,nm:=gC (h.2.2.2.2.1) λo h1 e=>(Zd.mp e).elim λv h2=>⟨v,h1.trans (congrArg a7 h2)⟩,acc:=Jz (h.2.2.2.2.2.1) (fun  u=>rfl) (.lst (j1.1) (j1.2.1) (j1.2.2.2.2.1)),fmt:=Jz (h.2.2.2.2.2.2.1) (fun  u=>rfl) (.obj (j1.2.2.1) (j1.2.2.2.1)),EM:=⟨j1.2.2.2.2.1,j1.2.2.2.2.2.1,j1.2.2.2.2.2.2.1,j2.1⟩,O8:=j2.2.1,O9:=j2.2.2.1,Oa:=j2.2.2.2.1,sup:=⟨j2.2.2.2.2.1,gC (j2.2.2.2.2.2.1) λcd h1 e=>jB e λa b=>⟨cd,h1,aP a,aP b⟩,j2.2.2.2.2.2.2.1,j1.2.2.2.2.1,j3.1,j3.2.1,j3.2.2.1,j3.2.2.2.1⟩,Tq:=j3.2.2.2.2.1,Tr:=j3.2.2.2.2.2.1,tabs:=j3.2.2.2.2.2.2.1,blt:=⟨gC (j4.2.1) λo h1 e=>jB e λa e=>jB e λb e=>⟨4,o,j4.1,by decide,h1,aP a,aP b,Lx e⟩⟩,zM:=⟨j4.2.2.1,j4.2.2.2.1,j4.2.2.2.2.1⟩,Ob:=gU hf (j5.2.2.1) 0 rfl,EN:=gU hf (j5.2.2.1) 1 rfl,Jn:=gU hf (j5.2.2.1) 2 rfl,EO:=gU hf (j5.2.2.1) 3 rfl,Jo:=gU hf (j5.2.2.1) 4 rfl,EP:=gU hf (j5.2.2.1) 5 rfl,HT:=gU hf (j5.2.2.1) 6 rfl,zN:=gU hf (j5.2.2.1) 7 rfl,ER:=gU hf (j5.2.2.1) 9 rfl,Jp:=gU hf (j5.2.2.1) 11 rfl,Jq:=gU hf (j5.2.2.1) 12 rfl,Jr:=gU hf (j5.2.2.1) 13 rfl,Oc:=gU hf (j5.2.2.1) 15 rfl,Jt:=gU hf (j5.2.2.1) 16 rfl,EU:=gU hf (j5.2.2.1) 17 rfl,EV:=gU hf (j5.2.2.1) 18 rfl,Jv:=gU hf (j5.2.2.1) 19 rfl,EW:=gU hf (j5.2.2.1) 20 rfl,Jw:=gU hf (j5.2.2.1) 21 rfl,zO:=gU hf (j5.2.2.1) 22 rfl,Oe:=gU hf (j5.2.2.1) 23 rfl,Tv:=j6.2.2.2.2,EQ:=⟨_,gU hf (j5.2.2.1) 8 rfl,JA (j4.2.2.2.2.2.1.1)⟩,Lp:=⟨_,gU hf (j5.2.2.1) 10 rfl,JA (j4.2.2.2.2.2.1.2)⟩,Js:=⟨_,gU hf (j5.2.2.1) 14 rfl,gC (j4.2.2.2.2.2.2.1) λo h1 e=>jB e λa e=>gC e λp h2 b=>⟨168,o,p.2,rfl,h1,aP a,(EX h2).trans (congrArg (Data.seq · p.2) (aP b))⟩⟩,Ts:=yk (j5.1.1) (EZ (j5.2.1)),Tt:=yk (j5.1.2.1) (EZ (j5.2.1)),Tu:=yk (j5.1.2.2) (EZ (j5.2.1)),yj:=kI (j5.2.2.2.1),ES:=kI (j5.2.2.2.2.1),ET:=kI (j5.2.2.2.2.2.1),Od:=kI (j5.2.2.2.2.2.2.1),Lq:=kI (j6.1),w9:=kI (j6.2.1),Ju:=kI (j6.2.2.1),RJ:=kI (j6.2.2.2.1),gp:=λx v e=>h.2.1 (x,v) (ZI e) }
section
variable {s:Pi}{lim b:Nat}{words:Array (Nat×Nat)}(hn:¬(words.size==lim)=a9)
include hn
end
theorem BA:∀{l:List (Pi×Tok)} {ts:List (List Nat)},l.map (·.1)=ts.map (λt=>(⟨t.toArray⟩:Pi))->bY W (ts.map S) (strValues l):=by
 intro l;induction l with
 |nil=>intro ts h;cases ts with|nil=>show .nil|cons t ts=>show nomatch h
 |cons p l ih=>intro ts h;cases ts with
  |nil=>show nomatch h
  |cons t ts=>
   injection h with h1 h2
   obtain⟨x,u⟩:=p;subst h1;show .cons (.str _ _) (ih h2)
section
variable {ls:Loc}{a:List Nat}
theorem wa(g:Here c W s ls)(e:W.H=H)(q:Q (.ref H.length) (H++[.lst (ts.map S)]) ls)(l:List (Pi×Tok))(k:Nat)(hl:l.map (·.1)=ts.map λt=>⟨t.toArray⟩):gS c VR Q W s (.ref s.heap.objs.size) { s with heap:=s.heap.push { cls:=.type "list",data:=.seq (strValues l).toArray },toks:=k }:=og g e (BA hl) q
theorem HW{x:Int}(hn:n<=1000)(hx:x.natAbs<2 ^ 64)(q:Q (.int (x ^ n)) H ls):lF c VR (binaryOp .Pow) (.int x) (.int (n:Int)) H ls Q:=λW s v u g e r r'=>by
 (apply VR.fU r;intro z);(apply VR.fU r';intro z)
 show pow_int_small (by show"G0$a") (by show"La1000G$a1000000" hn) hx ?_;rw[Yq];show back g e _ (.int _ _) q
theorem F0:∀{ns:List Int} {vs:List Value},bY W (ns.map AV.int) vs->IntsAre vs ns:=by
 intro ns;induction ns with|nil=>intro vs r;rw[r.inv];show .nil|cons n ns ih=>intro vs r;apply bY.oJ r;intro v us r1 r2;apply VR.fU r1;intro t;show .cons n t (ih r2)
theorem sum_ints{ns:List Int}(hA:c.A.handled=a8)(hy:di H y (ns.map AV.int))(q:Q (.int ns.sum) H ls):kS c VR (λvs=>call (.builtin "sum") vs) [y] H ls Q:=λW s vs g e r=>by obtain⟨v,rfl,rv⟩:=r.one;obtain⟨a,us,rfl,il,ru⟩:=cp g e rv hy;have hi:=F0 ru;obtain⟨xs,hx⟩:=hi.allInts.items;rw[hx]at il;show sum_intListG hA il λh' tk t' hk=>?_;have h1:numsOf us=ns:=hi.numsOf;have h2:=nums_intItems (xs:=xs);rw[<-hx,show us.toArray.toList=us from rfl,h1]at h2;rw[preSum_eq,Yl (by simp),<-h2];show⟨_,_,_,g.grow tk hk,.int _ _,e▸q⟩
end
section
variable {ls:Loc}
theorem Ok.freeze{R:Wd->β->α->Prop}{t:Sem α}{x:Pi}{l:List AV}{Q:β->List AO->Loc->Prop}(hi:H[i]?=a7 (.lst l))(hx:ls.lookup x=a7 (.ref i))(k:Ok c R t (H.set i .dead) (put x (.fl l) ls) Q):Ok c R t H ls Q:=λW s g e=>by
 subst e;have G:=g.move (o':=.dead) (h':=s.heap) s.toks hi (fun  b ob u e=>e) (Abo _) fun  u=>trivial;have M:bQ W ⟨s.heap,W.ρ,W.H.set i .dead⟩:=G.mono g;obtain⟨vs,n,e1,r1⟩:=g.rel.obj i _ hi;have nm:(W.ρ i).1 ∉ (⟨s.heap,W.ρ,W.H.set i .dead⟩:Wd).bf:=λm=>by
  obtain⟨j,o,e2,m2⟩:=jY.mp m;by_cases hj:j=i
  .clear G M e1 hx k m;subst hj;have:(W.H.set j AO.dead)[j]?=a7 .dead:=by rw[Y0];show(Xc.mp hi).1
   rw[this]at e2;obtain rfl:=Xe e2;cases m2
  .rw[show(⟨s.heap,W.ρ,W.H.set i .dead⟩:Wd).H[j]?=W.H[j]? from XC (λh=>hj h.symm)]at e2;show AbW g.rel.nodup hi e2 (λh=>hj h.symm) (W.ρ i).1 (by rw[XI];show .head _) m2
 have hv:∀v,VR ⟨s.heap,W.ρ,W.H.set i .dead⟩ (.ref i) v->VR ⟨s.heap,W.ρ,W.H.set i .dead⟩ (.fl l) v:=λv r=>by
  cases r with|ref _ h=>show .fl (g.hh▸e1) nm (r1.mono M)
 have fr:ci c.K ⟨s.heap,W.ρ,W.H.set i .dead⟩ c.f (put x (.fl l) ls):=by
  obtain⟨⟨m,n1,n2⟩,cl,cs,nd,cH,apart,stat⟩:=G.fr;show⟨⟨m,n1,λy av h hc=>?_⟩,λy av a h hc=>?_,cs,nd,cH,apart,stat⟩
  .rw[eS]at h;cases hy:y==x with|true=>rw[hy]at h;obtain rfl:=Xe h;obtain rfl:=eq_of_beq hy;obtain⟨v,a1,a2⟩:=n2 _ _ hx hc;show⟨v,a1,hv v a2⟩|false=>rw[hy]at h;show n2 y av h hc
  .rw[eS]at h;cases hy:y==x with|true=>rw[hy]at h;obtain rfl:=Xe h;obtain rfl:=eq_of_beq hy;obtain⟨v,a1,a2⟩:=cl _ _ _ hx hc;show⟨v,a1,hv v a2⟩|false=>rw[hy]at h;show cl y av a h hc
 show Xz (k ⟨s.heap,W.ρ,W.H.set i .dead⟩ s ⟨rfl,G.rel,fr,g.tk⟩ rfl) (λa s' h=>?_) fun  u u h=>h;obtain⟨W',dq,b,G',h1,h2⟩:=h;show⟨W',dq,b,G.trans G',h1,h2⟩
end
inductive l9(K:Frag)(W:Wd)(s:Shared)(aB:List Stmt)(al:Scope)(fa:Addr)(ls:Loc)(r:Result)(s':Shared):Prop
 |mk (ga L:Addr) (q:Pi) (aj:Value):r=.ok (.ret (.ref ga))->Step (bp K) W ⟨s'.heap,W.ρ,W.H⟩->Rel K ⟨s'.heap,W.ρ,W.H⟩->Sh s s'->
   s'.heap.IsGen ga s.gens.size->s'.gens[s.gens.size]?=a7 (.fresh (.func aB (bT al L [] q fa aj)))->W.h.get? L=a8->W.h.get? ga=a8->L≠ga->
   (∃m,s'.heap.Ns L m/\∀x av,ls.lookup x=a7 av->∃v,m x=a7 v/\VR ⟨s'.heap,W.ρ,W.H⟩ av v)->l9 K W s aB al fa ls r s'
section
theorem F3{fa:Addr}{aw:Pi}{au:Arguments}{aB:List Stmt}{m0:List Expr}{m5:Option Expr}{xP:List TypeParam}{al:Scope}{fy:Option Scope}{bind:Pi}{ai:Pos}{xs:List AV}{n:Nat}
  {W:Wd} {s:Shared} {vs:List Value} (hA:cM A (n+1)) (F:FnAt K fa (.FunctionDef aw au aB m0 m5 xP al fy bind ai) [] .none)
  (hp:kn au=a9) (hn:(b5 au).Nodup) (hl:xs.length=(b5 au).length)
  (cr:al.names.all (λx=>x.2 != .cell)=a9) (iP:al.isCoroutine=ac) (fv:al.isGenerator=a9) (hk:al.kind=.function) (fx:(b5 au).all (λx=>al.names.lookup x==a7 .local)=a9)
  (hh:W.h=s.heap) (R:Rel K W) (r:bY W xs vs) :
  codeAny (model af w) A (.call (.ref fa) ⟨vs,[]⟩) (l9 K W s aB al fa ((b5 au).zip xs)) s:=by
 show cV F.fn λoc od nu fd hK Hu pK jv=>?_;show mr Hu λh1 h2 h3 h4 tz=>?_;show nA tz ?_;clear tz;intro h5 h6 h7 h8;have ho:s.heap.get? fa=a7 ⟨oc,od,.func fd,nu⟩:=hh▸R.top _ _ hK;have hb:=o5 (s:=s) (fd:=fd) (vs:=vs) (hh▸R.top) (by rw[h2];show hp) (by rw[h2];show hn) (by rw[h2,<-hl];show r.length) (.inl h7);rw[h2]at hb;show codeAny_call_generator (o:=⟨oc,od,.func fd,nu⟩) hA.room ho rfl (by rw[h3];show iP) (by rw[h3];show fv) h1 (AcT (hh▸R.top) pK) (hb _ _ _ _ ?_);show Z8 (by rw[h3];intro x hx;have:=X8.mp cr x hx;simpa using this) (λx hx=>by rw[h3];have:=X8.mp fx x.1 (YT hx).1;simpa using this) (λh₀ cD sb=>?_) (by rw[h3];show hk);have tF:∀b o,s.heap.get? b=a7 o->h₀.get? b=a7 o:=λb o e=>sb.extBut b o (YL (XF e)) (Xa _ e);have hw:∀b o,W.h.get? b=a7 o->h₀.get? b=a7 o:=λb o e=>tF b o (hh▸e);generalize hg:Heap.push h₀ _=aR;have k₁:∀b o,W.h.get? b=a7 o->aR.get? b=a7 o:=λb o e=>hg▸Xa _ (hw b o e);have nL:=Rel.free hh s.heap.objs.size (.head _);show⟨R.lim.keeps hw,.mk _ s.heap.objs.size (fd.qualname++".<locals>.") fd.code rfl (.up k₁) (R.up k₁) ⟨rfl,⟨λx=>x.push rfl,λi y e=>zD e⟩⟩ ?_ ?_ nL ?_ ?_ ?_⟩
 .show⟨_,_,_,by rw[<-hg];show Xo _ rfl,rfl,rfl,rfl⟩
 .change(Array.push s.gens _)[s.gens.size]?=_;rw[Array.getElem?_push_size,h3,h4,h5,h6]
 .cases e:W.h.get? h₀.objs.size with|none=>rfl|some o=>show absurd (XF (hw _ _ e)) (XM _)
 .show YL cD.lt
 .show⟨_,hg▸cD.push _,λx av e=>bb (gc r e) λv a b=>⟨v,ii (gd hn) a,b.mono (bQ.up k₁)⟩⟩
end
structure ot(K:Frag)(C L x:Addr)(a b:Int)(s:Shared):Prop where
 top:K.In s.heap
 ns:∃m,s.heap.Ns L m/\m "self" = a7 (.ref x)
 at_:∃ox od,InstAt s.heap x ox C (a7 od)/\(∃t,lookIn "_maxlen" od=a7 (a7 (.int a t)))/\∃t,lookIn "_continuation_ws_len" od=a7 (a7 (.int b t))
structure Toks(s s':Shared):Prop where
 heap:s'.heap=s.heap
 gens:s'.gens=s.gens
 os:s'.os=s.os
 tk:s.toks<=s'.toks
section
variable {x:Addr}{a b:Int}{tab:List (Pi×Option Value)}{Q:Value->Shared->Prop}
theorem ot.toks{t:Nat}(R:ot K C L x a b s):ot K C L x a b { s with toks:=t }:=⟨R.top,R.ns,R.at_⟩
theorem wb(R:ot K C L x a b s)(hk:ae.kindOf "self" = a7 .local) (hL:ae.locals=L) (hf:ae.scope.kind=.function)  (q:Q (.ref x) s):wpAny (model af w) A (eval (.Name "self" ai) ae) Q E s:=bb R.ns λm n e=>AaP (Ze hf hk (hL▸n) e q) rfl
theorem sN{ox od:Obj}{aw:Pi}{ex:Bool}(X:K.In s.heap)(CK:pF K C tab)(I:InstAt s.heap x ox C (a7 od))(ht:tab.lookup aw=a7 a8)(hm:lookIn aw od=a7 (a7 v))(hv:handedIn v=a9)
  (q:Q v { s with toks:=s.toks+1 }):wpAny (model af w) A (getAttr (.ref x) aw ex) Q E s:=
 CK.pg.value X I (findObj_own CK.hd (CK.fi _ _ ht) rfl hm) hv q
theorem qS(R:ot K C L x a b s)(CK:pF K C tab)(h1:tab.lookup ("_maxlen" : Pi)=a7 a8) (h2:tab.lookup ("_continuation_ws_len" : Pi)=a7 a8) (hk:ae.kindOf "self" = a7 .local) (hL:ae.locals=L) (hf:ae.scope.kind=.function)
  {p1 p2 p3 p4 p5:Pos} (q:∀t s',Toks s s'->Q (.int (a-b) t) s') :
  wpAny (model af w) A (eval (.BinOp (.Attribute (.Name "self" p1) "_maxlen" p2) .Sub (.Attribute (.Name "self" p3) "_continuation_ws_len" p4) p5) ae) Q E s:=by
 show bF R.at_ λox od I m1 m2=>xE m1 λt1 e1=>xE m2 λt2 e2=>?_;show wpAny_BinOp (Aa4 (wb R hk hL hf (sN R.top CK I h1 e1 rfl (Aa4 (wb R.toks hk hL hf (sN (s:={ s with toks:=s.toks+1 }) R.top CK I h2 e2 rfl (sub_int (q _ _ ⟨rfl,rfl,rfl,?_⟩))))))));show Xf (Yb _) (Xf (Yb _) (Yb _))
end
theorem Toks.refl(s:Shared):Toks s s:=⟨rfl,rfl,rfl,Xd _⟩
theorem Toks.trans{fF:Shared}(x:Toks s s')(y:Toks s' fF):Toks s fF:=⟨y.heap.trans x.heap,y.gens.trans x.gens,y.os.trans x.os,Xf x.tk y.tk⟩
noncomputable abbrev wc:GenEnd:=λn bD r aH=>r=.ok (.ret .none)/\False
section
variable {x:Addr}{a b:Int}{tab:List (Pi×Option Value)}{Y:Protocol}
def F5(K:Frag)(C L x:Addr)(a b:Int)(N:Nat)(Y:Protocol):Prop:=∀m,m<N->∀bD v s' uv,(∃t,v=.int (a-b) t)->Toks bD s'->(m≠0->∀fF,ot K C L x a b fF->uv (.send .none) fF)->Y m bD v s' uv
theorem F6{p0 p1 p2 p3 p4 p5 p6 p7:Pos}{k0:Nat}{fs:List Frame}(Ji:splitAtGen fs=a8)(Tw:fs.any Frame.guarded=ac)(CK:pF K C tab)(h1:tab.lookup ("_maxlen" : Pi)=a7 a8) (h2:tab.lookup ("_continuation_ws_len" : Pi)=a7 a8)
  (hk:ae.kindOf "self" = a7 .local) (hL:ae.locals=L) (hf:ae.scope.kind=.function) (iP:ae.scope.isCoroutine=ac) (hi:interactive ae=ac) (hY:F5 K C L x a b N Y) (n:Nat):n<N->∀bD s,Toks bD s->ot K C L x a b s->
  Seg (model af w) A wc Y (n+1) bD (.whileLoop (.Constant (.bool a9) k0 p0) [.Expr (.Yield (a7 (.BinOp (.Attribute (.Name "self" p1) "_maxlen" p2) .Sub (.Attribute (.Name "self" p3) "_continuation_ws_len" p4) p5)) p6) p7] [] ae)
   ((model af w).den (.whileLoop (.Constant (.bool a9) k0 p0) [.Expr (.Yield (a7 (.BinOp (.Attribute (.Name "self" p1) "_maxlen" p2) .Sub (.Attribute (.Name "self" p3) "_continuation_ws_len" p4) p5)) p6) p7] [] ae)) fs s:=by
 induction n with|zero=>intro hn bD s T R;show seg_whileLoop (AbV (AbM (Aaz ?_)) rfl);rw[aQ rfl];show AbJ (AcI Ji rfl Tw (qS R CK h1 h2 hk hL hf λt s' T' uv HX=>hY 0 hn _ _ _ _ ⟨t,rfl⟩ (T.trans T') λh=>(h rfl).elim) iP hi)|succ n ih=>intro hn bD s T R;show seg_whileLoop (AbV (AbM (Aaz ?_)) rfl);rw[aQ rfl];show AbJ (AcI Ji rfl Tw (qS R CK h1 h2 hk hL hf λt s' T' uv HX=>hY (n+1) hn _ _ _ _ ⟨t,rfl⟩ (T.trans T') λ_ fF VT=>HX .none fF (seg_execs_nil (seg_again rfl (ih (Nat.lt_of_succ_lt hn) fF fF (.refl _) VT)))) iP hi)
theorem BB{p4 p5 p6 p7 q6 q7 q8:Pos}{k0:Nat}{e1:Expr}(hb:aB=[.Expr (.Yield (a7 e1) q6) q7,.While (.Constant (.bool a9) k0 p0) [.Expr (.Yield (a7 (.BinOp (.Attribute (.Name "self" p1) "_maxlen" p2) .Sub (.Attribute (.Name "self" p3) "_continuation_ws_len" p4) p5)) p6) p7] [] q8])
  (CK:pF K C tab) (h1:tab.lookup ("_maxlen" : Pi)=a7 a8) (h2:tab.lookup ("_continuation_ws_len" : Pi)=a7 a8)
  (hk:ae.kindOf "self" = a7 .local) (hL:ae.locals=L) (hf:ae.scope.kind=.function) (iP:ae.scope.isCoroutine=ac) (hi:interactive ae=ac) (hY:F5 K C L x a b (N+1) Y)
  {H:List AO} {ls:Loc} {r0:Int} {W:Wd} {s:Shared} (h:Ok ⟨af,w,K,A.over (.func aB ae) [],⟨L,[]⟩⟩ VR (eval e1 ae) H ls λy H' l'=>y=.int r0/\H'=H/\l'=ls)
  (g:Here ⟨af,w,K,A.over (.func aB ae) [],⟨L,[]⟩⟩ W s ls) (e:W.H=H)
  (hq:∀v s' uv W' t,bN ⟨af,w,K,A.over (.func aB ae) [],⟨L,[]⟩⟩ W s W' s' ls->W'.H=H->v=.int r0 t->(∀fF,ot K C L x a b fF->uv (.send .none) fF)->Y (N+1) s v s' uv) :
  Seg (model af w) A wc Y (N+2) s (.func aB ae) ((model af w).den (.func aB ae)) [] s:=by
 show seg_func ?_;have Ms:=hb;rw[show execs aB ae=execs _ ae from congrArg (execs · ae) Ms];show AbJ (AcI rfl rfl rfl (Xz (h.run (P:=λv s'=>∀uv:Resume->Shared->Prop,_->Y (N+1) s v s' uv) g e λW' s' l' y v G r q uv HX=>?_) (λ_ _ x=>x) λ_ _ x=>x) iP hi);clear g h;obtain⟨rfl,h3,rfl⟩:=q;cases r with
 |int _ t=>
 show hq _ _ _ W' t G h3 rfl λfF R=>HX .none fF ?_;show AbJ (seg_While λp=>F6 rfl rfl CK h1 h2 hk hL hf iP hi hY N (Yi _) fF fF (.refl _) R)
end
theorem entry_next:entryFor table "next" = a7 Builtin.«next»:=entryFor_of_fast (by kernel_rfl)
theorem args_next(v:Value):argsOk "next" ⟨[v],[]⟩:=by unfold argsOk;kernel_rfl
section
variable {Q:Value->Shared->Prop}
theorem we{ga:Addr}{n:Nat}{gs:GenState}{Y:Protocol}(hl:s.heap.NoLimit)(DV:A.depth<recursionLimit)(hg:s.heap.IsGen ga g)(Ty:s.gens[g]?=a7 gs)
  (RL:gs.Goes (model af w) A.in1.in1 wc Y (n+1) (.send .none) (s.setGen g .running))
  (hY:∀v aH wf,wf.bare=a9->Y n (s.setGen g .running) v aH (λr' fF=>wf.Goes (model af w) A.in1.in1 wc Y n r' fF)->Q v (aH.setGen g wf)) :
  wpAny (model af w) A (call (.builtin "next") [.ref ga]) Q E s:=by
 show AcN (by decide +kernel) (by decide +kernel) entry_next (args_next _) ?_;unfold Builtin.«next»;show Xb (m:=someArgs "next" 1 2 _) (XX (a:=[YZ ga]) (by first|rfl|kernel_rfl!) ?_);dsimp only;show Xb (YF (name:=YJ "__next__") hg.typeIs AcZ.lookup ?_);show wpAny_ite_split (λMl=>absurd Ml (by decide)) (λ_=>?_);show Xb (XS (name:=YJ "__next__") hg.typeIs AcZ (Yz AcZ hg.typeIs entry_gen_next ?_ (args_gen_next _)));change wpAny _ A.in1.in1 (AcP (.ref ga) (.send .none)) _ _ s;unfold AcP;show Xb (XE (wpAny_genNumber hg (Xb (wpAny_genState Ty ?_))));cases gs with|running=>show RL.elim|finished=>show RL.elim|_=>show Xb (wpAny_roomToWake hl DV ?_);change wpAny _ A.in1.in1 (.resume g (.send .none) [] _) _ _ s;show wpAny_resumeQ Ty RL (λx aH hx=>hx.2.elim) (λv aH wf hb hv=>?_);show GT ⟨v,rfl,GT ⟨_,rfl,hY v aH wf hb hv⟩⟩
end
structure GG(g:Nat)(G G':Array GenState):Prop where
 bare:AllBare G->AllBare G'
 keep:∀(i:Nat) (y:GenState),i≠g->G[i]?=a7 y->G'[i]?=a7 y
theorem GE.one{G:Array GenState}(x:GE G G'):GG g G G':=⟨x.bare,λi y _=>x.keep i y⟩
theorem GG.trans{G Go:Array GenState}(x:GG g G G')(y:GG g G' Go):GG g G Go:=⟨λh=>y.bare (x.bare h),λi z n e=>y.keep i z n (x.keep i z n e)⟩
theorem wg{x:GenState}(h:x.bare=a9)(b:AllBare s.gens):AllBare (s.setGen g x).gens:=λy hy=>by
 obtain⟨i,hi,e⟩:=Array.getElem_of_mem hy;by_cases q:i=g
 .subst q;have:(s.setGen i x).gens[i]?=a7 y:=by rw[Aa5 hi,e]
  have h2:i<s.gens.size:=by have:=hi;simp[Ac2]at this;show this
  rw[AbN (gs:=s.gens[i]) (Aa5 h2)]at this;rw[<-Xe this];show h
 .have:(s.setGen g x).gens[i]?=a7 y:=by rw[Aa5 hi,e]
  have h3:s.gens[i]?=a7 y:=by rw[<-this];simp[Ac2,Acp,Ne.symm q]
  show b y (Array.mem_of_getElem? h3)
theorem lc{x:GenState}(h:x.bare=a9):GG g s.gens (s.setGen g x).gens:=⟨wg h,λi y n e=>by rw[<-e];simp[Ac2,Acp,Ne.symm n]⟩
structure GX(c:Cx)(L:Addr)(g:Nat)(W:Wd)(s:Shared)(W':Wd)(s':Shared)(dq:Loc):Prop where
 hh:W'.h=s'.heap
 st:Step (L::(c.f.ad++bp c.K)) W W'
 rel:Rel c.K W'
 fr:ci c.K W' c.f dq
 os:s'.os=s.os
 gens:GG g s.gens s'.gens
 tk:0<s'.toks
theorem Step.more{f f':List Addr}(x:Step f W W')(h:∀a∈f,a∈f'):Step f' W W':=⟨x.len,x.agree,λa o e m n=>x.keep a o e m λz=>n (h a z)⟩
section
variable {xp:Wd}{fF:Shared}{ls dq:Loc}
theorem GX.of(h:bN c W s W' s' ls):GX c L g W s W' s' ls:=⟨h.hh,h.st.more λ_=>.tail _,h.rel,h.fr,h.sh.1,h.sh.2.one,h.tk⟩
theorem GX.trans(x:GX c L g W s W' s' ls)(y:GX c L g W' s' xp fF dq):GX c L g W s xp fF dq:=⟨y.hh,x.st.trans y.st,y.rel,y.fr,y.os.trans x.os,x.gens.trans y.gens,y.tk⟩
theorem GX.here(x:GX c L g W s W' s' ls):Here c W' s' ls:=⟨x.hh,x.rel,x.fr,x.tk⟩
structure GA(c:Cx)(ga L:Addr)(g i:Nat)(gs:GenState)(W:Wd)(s:Shared):Prop where
 gen:s.heap.IsGen ga g
 st:s.gens[g]?=a7 gs
 ns:∃m,s.heap.Ns L m/\m "self" = a7 (.ref (W.ρ i).1)
 nL:L ∉ W.bf
 ng:ga ∉ W.bf
 fL:L ∉ c.f.ad++bp c.K
 fg:ga ∉ c.f.ad++bp c.K
 kL:c.K.lookup L=a8
 sL:cStatics≠L
 ne:L≠ga
variable {ga:Addr}{gs:GenState}
theorem GA.step(x:GA c ga L g i gs W s)(hh:W.h=s.heap)(hi:i<W.H.length)(G:bN c W s W' s' ls):GA c ga L g i gs W' s':=by obtain⟨o,nm,qn,eg,r⟩:=x.gen;obtain⟨m,⟨o2,es,ep,el,r2⟩,hs⟩:=x.ns;have k1:=G.st.keep ga o (hh▸eg) x.ng x.fg;have k2:=G.st.keep L o2 (hh▸el) x.nL x.fL;show⟨⟨o,nm,qn,G.hh▸k1.1,r⟩,G.sh.2.keep _ _ x.st,⟨m,⟨o2,es,ep,G.hh▸k2.1,r2⟩,(G.st.agree i hi).symm▸hs⟩,k2.2,k1.2,x.fL,x.fg,x.kL,x.sL,x.ne⟩
theorem GA.frame(x:GA c ga L g i gs W s)(H:Here c W s ls)(A':Around)(hi:i<W.H.length)(s2:Shared)(e:s2.heap=s.heap)(t:0<s2.toks):Here ⟨c.prog,c.w,c.K,A',⟨L,[]⟩⟩ W s2 [("self",.ref i)]:=by
 obtain⟨m,n,hs⟩:=x.ns;show⟨H.hh.trans e.symm,H.rel,⟨⟨m,H.hh.symm▸n,λy av q _=>?_⟩,λ_ _ _ _ q=>(nomatch q),λ_ q=>(Xy q).elim,X3.mpr ⟨Xy,.nil⟩,λa q=>?_,λa q=>?_,λq=>x.sL (Xh.mp q)⟩,t⟩
 .by_cases hy:y = "self"
  .subst hy;rw[YC]at q;rw[<-Xe q];show⟨_,hs,.ref i hi⟩
  .rw[cX hy]at q;show nomatch q
 .rw[Xh.mp q];show x.nL
 .rw[Xh.mp q];show x.kL
end
def Later(c:Cx)(C L x:Addr)(a b:Int)(gs:GenState)(n:Nat):Prop:=∃Y:Protocol,
 (∀m,m<n->∀bD v s' uv,Y m bD v s' uv->((∃t,v=.int (a-b) t)/\Toks bD s')/\(m≠0->∀fF,ot c.K C L x a b fF->uv (.send .none) fF))/\
 ∀fF,ot c.K C L x a b fF->gs.Goes (model c.prog c.w) c.A.in1.in1 wc Y n (.send .none) fF
noncomputable abbrev qT(i:Nat):Loc:=[("self",.ref i)]
section
variable {c:Cx}{C L ga:Addr}{g i n:Nat}{gs:GenState}{W:Wd}{s:Shared}{ls:Loc}{a b:Int}{tab:List (Pi×Option Value)}
theorem Here.sO(H:Here c W s ls):∀a∈c.f.ad,a ∉ bp c.K:=λa m z=>by obtain⟨p,hp,rfl⟩:=Xr.mp z;obtain⟨ps,_,t,_⟩:=H.rel.tab p hp;obtain⟨o,e,q⟩:=H.fr.oK _ m;replace e:=t.2▸e;cases e;cases q
theorem yl{p0 p1 p2 p3 p4 p5 p6 p7 q6 q7 q8:Pos}{k0:Nat}{e1:Expr}{aB:List Stmt}{ae:Env}{r0:Int}(hA:cM c.A n)(hb:aB=[.Expr (.Yield (a7 e1) q6) q7,.While (.Constant (.bool a9) k0 p0) [.Expr (.Yield (a7 (.BinOp (.Attribute (.Name "self" p1) "_maxlen" p2) .Sub (.Attribute (.Name "self" p3) "_continuation_ws_len" p4) p5)) p6) p7] [] q8])
  (CK:pF c.K C tab) (h1:tab.lookup ("_maxlen" : Pi)=a7 a8) (h2:tab.lookup ("_continuation_ws_len" : Pi)=a7 a8)
  (hk:ae.kindOf "self" = a7 .local) (hL:ae.locals=L) (hf:ae.scope.kind=.function) (iP:ae.scope.isCoroutine=ac) (hint:interactive ae=ac)
  (x:GA c ga L g i (.fresh (.func aB ae)) W s) (H:Here c W s ls) (hi:i<W.H.length)
  (h:Ok ⟨c.prog,c.w,c.K,c.A.in1.in1.over (.func aB ae) [],⟨L,[]⟩⟩ VR (eval e1 ae) W.H (qT i) λy H' l'=>y=.int r0/\H'=W.H/\l'=qT i) (N:Nat) :
  wpAny c.M c.A (call (.builtin "next") [.ref ga]) (λv s'=>∃W' t wf,v=.int r0 t/\GX c L g W s W' s' ls/\W'.H=W.H/\GA c ga L g i wf W' s'/\Later c C L (W.ρ i).1 a b wf (N+1)) qm s:=by
 revert c C L ga g i n W s ls a b tab p0 p1 p2 p3 p4 p5 p6 p7 q6 q7 q8 k0 e1 aB ae r0 N;delta c C L ga g i n W s ls a b tab p0 p1 p2 p3 p4 p5 p6 p7 q6 q7 q8 k0 e1 aB ae r0;intro hA hb CK h1 h2 hk hL hf iP hint x H hi h;delta N;have lim:s.heap.NoLimit:=H.hh▸H.rel.lim;show we (n:=N+1) (gs:=.fresh (.func aB ae))
  (Y:=λm bD v s' uv=>(m=N+1->∃W' t,v=.int r0 t/\bN ⟨c.prog,c.w,c.K,c.A.in1.in1.over (.func aB ae) [],⟨L,[]⟩⟩ W (s.setGen g .running) W' s' (qT i)/\W'.H=W.H)/\
   (m<N+1->(∃t,v=.int (a-b) t)/\Toks bD s')/\(m≠0->∀fF,ot c.K C L (W.ρ i).1 a b fF->uv (.send .none) fF))
  lim hA.room x.gen x.st ⟨rfl,?_⟩ λv aH wf F7 hy=>?_
 .show BB (N:=N) hb CK h1 h2 hk hL hf iP hint (λm hm bD v s' uv hv ht hk=>⟨λe=>absurd e (YL hm),λ_=>⟨hv,ht⟩,hk⟩) h (x.frame H _ hi _ rfl H.tk) rfl
   λv s' uv W' t G e hv hk=>⟨λ_=>⟨W',t,hv,G,e⟩,λhm=>absurd hm (XM _),λ_=>hk⟩
 .obtain⟨hF,_,hK⟩:=hy;obtain⟨W',t,hv,G,eH⟩:=hF rfl;have kg:∀a,a ∉ W.bf->a≠L->a ∉ bp c.K->∀o,W.h.get? a=a7 o->W'.h.get? a=a7 o/\a ∉ W'.bf:=λa m n t o e=>G.st.keep a o e m λz=>(Xl.mp z).elim (λz=>n (Xh.mp z)) t;have run:(s.setGen g .running).gens[g]?=a7 .running:=AbN x.st;show⟨W',t,wf,hv,⟨G.hh,G.st.more λa m=>(Xl.mp m).elim (λz=>by rw[Xh.mp z];show .head _) λz=>.tail _ (X6 _ z),G.rel,?_,G.sh.1,((lc rfl).trans G.sh.2.one).trans (lc F7),G.tk⟩,eH,?_,
   _,λm hm bD v s' uv y=>⟨y.2.1 hm,y.2.2⟩,hK (Acj _)⟩
  .have fk:∀a∈c.f.ad,W'.h.get? a=W.h.get? a/\a ∉ W'.bf:=λa m=>by
    obtain⟨o,e,_⟩:=H.fr.dy a m
    have:=kg a (H.fr.cH a m) (λz=>x.fL (XN _ (z▸m))) (H.sO a m) o e;show⟨this.1.trans e.symm,this.2⟩
   show H.fr.mono (G.toGood.mono (x.frame H _ hi _ rfl H.tk)) (λa m=>(fk a m).1) λa m=>(fk a m).2
  .obtain⟨o,nm,qn,eg,r⟩:=x.gen;have k1:=kg ga x.ng x.ne.symm (λz=>x.fg (X6 _ z)) o (H.hh▸eg);show⟨⟨o,nm,qn,G.hh▸k1.1,r⟩,AbN (G.sh.2.keep _ _ run),?_,G.fr.cH L (.head _),k1.2,x.fL,x.fg,x.kL,x.sL,x.ne⟩;obtain⟨m,n,q⟩:=G.fr.ns;obtain⟨v,e,r⟩:=q "self" (.ref i) YC rfl;show⟨m,G.hh▸n,?_⟩;cases r;show e
theorem LA{fs:List (Pi×AV)}(H:Here c W s ls)(x:GA c ga L g i gs W s)(hi:W.H[i]?=a7 o)(ho:eN o=a7 (C,fs))(h1:fs.lookup ("_maxlen" : Pi)=a7 (.int a)) (h2:fs.lookup ("_continuation_ws_len" : Pi)=a7 (.int b)) :
  ot c.K C L (W.ρ i).1 a b s:=by
 show⟨H.hh▸H.rel.top,x.ns,?_⟩;obtain⟨ox,od,m,I,_,_,lk,q⟩:=dA (H.rel.obj i o hi) ho;have get:∀{y:Pi} {k:Int},fs.lookup y=a7 (.int k)->∃t,lookIn y od=a7 (a7 (.int k t)):=λ{y k} e=>by
  have qy:=q y;rw[e]at qy;obtain⟨v,hv,r⟩:=qy;cases r with|int _ t=>show⟨t,(lk y).trans (congrArg a7 hv)⟩
 show⟨ox,od,H.hh▸I,get h1,get h2⟩
theorem ym(hA:cM c.A n)(x:GA c ga L g i gs W s)(H:Here c W s ls)(R:ot c.K C L (W.ρ i).1 a b s)(l:Later c C L (W.ρ i).1 a b gs (N+2)) :
  wpAny c.M c.A (call (.builtin "next") [.ref ga]) (λv s'=>∃t wf,v=.int (a-b) t/\GX c L g W s W s' ls/\GA c ga L g i wf W s'/\Later c C L (W.ρ i).1 a b wf (N+1)) qm s:=by
 obtain⟨Y,hY,hG⟩:=l;show we (n:=N+1) (gs:=gs) (Y:=Y) (H.hh▸H.rel.lim) hA.room x.gen x.st (hG _ ⟨R.top,R.ns,R.at_⟩) λv aH wf F7 hy=>?_;obtain⟨⟨⟨t,hv⟩,T⟩,hk⟩:=hY (N+1) (Yi _) _ _ _ _ hy;have run:(s.setGen g .running).gens[g]?=a7 .running:=AbN x.st;have e:aH.heap=s.heap:=T.heap;show⟨t,wf,hv,⟨H.hh.trans e.symm,.refl _ _,H.rel,H.fr,T.os,(lc (x:=.running) rfl).trans (T.gens▸lc F7),XB H.tk T.tk⟩,⟨e.symm▸x.gen,AbN (T.gens.symm▸run),?_,x.nL,x.ng,x.fL,x.fg,x.kL,x.sL,x.ne⟩,Y,λm hm=>hY m (Ab6 hm),hk (Acj _)⟩;obtain⟨m,n,q⟩:=x.ns;show⟨m,e.symm▸n,q⟩
end
section
variable {aw:Pi}{m0:List Expr}{m5:Option Expr}{xP:List TypeParam}{fy:Option Scope}{bind:Pi}
theorem qU{R':Result->Shared->Prop}(dF:0<s.toks)(hh:W.h=s.heap)(R:Rel c.K W)(r:bY W xs vs)(hA:cM c.A (n+1))(F:FnAt c.K fa (.FunctionDef aw au aB m0 m5 xP al fy bind ai) [] .none)(fW:∀fd vs,fd.params=au->fd.defaults=.none->vs.length=xs.length->bindArgs fd ⟨vs,[]⟩=Xj ((b5 au).zip vs))
  (hn:(b5 au).Nodup) (hl:xs.length=(b5 au).length)
  (iP:al.isCoroutine=ac) (fv:al.isGenerator=ac) (hk:al.kind=.function)
  (fx:∀L x,x∈b5 au->(al.names.lookup x=a7 .local/\(bC al L).lookup x=a8)\/(al.names.lookup x=a7 .cell/\((bC al L).lookup x).isSome=a9))
  (Gn:∀L,((bC al L).map (·.1)).Nodup)
  (h:∀L q aj A' h₀ tk,cM A' n->ba (bT al L (bC al L) q fa aj) ⟨L,bC al L⟩->iH c.K aj->Here ⟨c.prog,c.w,c.K,A',⟨L,bC al L⟩⟩ ⟨h₀,W.ρ,W.H⟩ { s with heap:=h₀,toks:=tk } ((b5 au).zip xs)->
   (∀b o,W.h.get? b=a7 o->h₀.get? b=a7 o)->(∀a,L<=a->W.h.get? a=a8)->(∀a∈(⟨L,bC al L⟩:Fp).ad,L<=a)->A'.frames=c.A.frames.map (bT al L (bC al L) q fa aj::·)->
   wpAny c.M A' (execs aB (bT al L (bC al L) q fa aj)) (λf s'=>R' (.ok (.ret (match f with|.ret v=>v|_=>.none))) s') qm { s with heap:=h₀,toks:=tk }) :
  codeAny c.M c.A (.call (.ref fa) ⟨vs,[]⟩) R' s:=by
 show cV F.fn λoc od nu fd hK Hu pK jv=>?_;show mr Hu λh1 h2 h3 h4 tz=>?_;show nA tz ?_;clear tz;intro h5 h6 h7 h8;have ho:s.heap.get? fa=a7 ⟨oc,od,.func fd,nu⟩:=hh▸R.top _ _ hK;have VU:∀x∈(b5 au).zip vs,fd.scope.names.lookup x.1=a7 .local\/(fd.scope.names.lookup x.1=a7 .cell/\((cellsFrom (s.heap.objs.size+1) fd.scope.names []).lookup x.1).isSome=a9):=by show aE h3 ?_;intro x hx;show(fx s.heap.objs.size x.1 (YT hx).1).imp (·.1) id
 show vE dF (fd:=fd) (aB:=aB) (binds:=(b5 au).zip vs) hA.room ho rfl (hh▸R.lim) (AcT (hh▸R.top) pK) h1 (fW fd vs h2 h7 r.length) h6 VU (λaH X nR=>?_) (by rw[h3];show iP) (by rw[h3];show fv) (by rw[h3];show hk);have ee:callEnvC fd s.heap.objs.size fa=bT al s.heap.objs.size (bC al s.heap.objs.size) (fd.qualname++".<locals>.") fa fd.code:=by unfold callEnvC;show aE h3 ?_;show aE h4 ?_;show aE h5 rfl
 rw[ee]at X ⊢;show xE (⟨_,rfl⟩:∃L:Nat,L=s.heap.objs.size) λL hL=>?_;rw[<-hL]at X ⊢;have hE:ba (bT al L (bC al L) (fd.qualname++".<locals>.") fa fd.code) ⟨L,bC al L⟩:=⟨hk,rfl,fun  u u e=>e,rfl,rfl⟩
 show IG X.toInCall.same λh₀ tk jN=>?_;subst jN;have k₁:∀b o,W.h.get? b=a7 o->h₀.get? b=a7 o:=λb o e=>X.toInCall.keep b o (hh▸e);have fresh:∀a,L<=a->W.h.get? a=a8:=λa ha=>by
  cases q:W.h.get? a with
  |none=>rfl
  |some o=>
   rw[hh]at q
   have:=XF q;rw[<-hL]at this;show absurd this (Z5.mpr ha)
 have rS:∀a∈(⟨L,bC al L⟩:Fp).ad,L<=a:=λa m=>by
  rcases Xi.mp m with e|m
  .rw[e];show Xd _
  .show bb (Xr.mp m) λp hp rJ=>?_;clear m;clear m;subst rJ;show YM (X.above p.1 p.2 hp)
 have LB:∀a,L<=a->a ∉ W.bf:=λa ha z=>by show bb (R.df z) fun  o e u=>?_;rw[fresh a ha]at e;trivial
 have pD:Here ⟨c.prog,c.w,c.K,c.A.deeper (bT al L (bC al L) (fd.qualname++".<locals>.") fa fd.code),⟨L,bC al L⟩⟩ ⟨h₀,W.ρ,W.H⟩ { s with heap:=h₀,toks:=tk } ((b5 au).zip xs):=by
  show⟨rfl,R.up k₁,⟨(bd _ X.toInCall.ns (λx av e z=>?_)),λx av a e z=>?_,λa m=>?_,?_,λa m=>LB a (rS a m),λa m=>?_,λm=>?_⟩,nR⟩
  .show bb (gc r e) λv a b=>bd v ?_ (b.mono (bQ.up k₁));have hx:=j0 e;have NX:x∈b5 au:=by show bb (Xr.mp hx) λp hp AJ=>?_;clear a e hx z;subst AJ;show(YT hp).1
   have:=(fx L x NX).resolve_right (λq=>by have z':(bC al L).lookup x=a8:=z;rw[z']at q;simp at q)
   show(DU (cm:=fun  u=>a8) (gd hn) a).1 this.1
  .show bb (gc r e) λv a1 b=>?_;have z':(bC al L).lookup x=a7 a:=z;have hx:=j0 e;have NX:x∈b5 au:=by show bb (Xr.mp hx) λp hp Dg=>?_;clear a1 e hx z z';subst Dg;show(YT hp).1
   have:=(fx L x NX).resolve_left (λq=>by rw[z']at q;simp at q);have hc:=X.cell x a z';have bc:=(DU (k:=(bT al L (bC al L) (fd.qualname++".<locals>.") fa fd.code).kindOf) (m:=fun  u=>a8) (cm:=fun  u=>a8) (gd hn) a1).2 (by change al.names.lookup x≠_;rw[this.1];trivial)
   rw[bc]at hc;show bd v hc (b.mono (bQ.up k₁))
  .show bb (Xr.mp m) λp hp Nq=>?_;clear m;subst Nq;show⟨_,X.cell p.1 p.2 (oU (Gn L) hp)⟩
  .change(L::(bC al L).map (·.2)).Nodup;rw[X3];show⟨λm=>?_,?_⟩
   .show bb (Xr.mp m) λp hp e=>?_
    have:=X.above p.1 p.2 hp;rw[e]at this;show XM _ this
   .have:=X.apart;rw[List.Nodup,List.pairwise_map];show this
  .cases q:c.K.lookup a with|none=>rfl|some o=>have:=R.top _ _ q;rw[fresh a (rS a m)]at this;trivial
  .show bb R.lim fun  mc nc u=>?_
   have:=nc.lt;have h2:=rS _ m;rw[hh,<-hL]at this;show absurd this (Z5.mpr h2)
 show Xz (h L (fd.qualname++".<locals>.") fd.code (c.A.deeper _) h₀ tk (hA.deeper _) hE jv pD k₁ fresh rS rfl) (λ_ _ x=>x) λ_ _ x=>x.elim
end
namespace Ff
theorem slot_set:Slot "function" "__setattr__" "object.__setattr__":=
 .of (owner:="object") (n:="__setattr__") (by(rw[XT];show aE Xw ?_);kernel_rfl) (by decide +kernel) (by decide +kernel) (by decide +kernel)
  (by first|show .inl (by decide +kernel)|show .inr (by decide +kernel)) (by rw[Yn];kernel_rfl)
theorem plain:PlainAttrs "function":=⟨(bd ("object.__getattribute__") (by(rw[XT];show aE Xw ?_);kernel_rfl) (by decide +kernel)),by(rw[XT];show aE Xw ?_);kernel_rfl⟩
theorem wh:typeLookup (.type "function") "header_encoding" = Xj a8:=by(rw[XT];show aE Xw ?_);kernel_rfl
theorem qW:typeLookup (.type "function") "header_encode_lines" = Xj a8:=by(rw[XT];show aE Xw ?_);kernel_rfl
theorem mro:mroOf (.type "function")=Xj [.type "function",.type "object"]:=by kernel_rfl
theorem passes(self:Value):refuseLoop self "__setattr__" [.type "function",.type "object"]=Xj ():=by kernel_rfl
theorem ga:typeLookup (.type "function") "__getattribute__" = Xj (a7 (.builtin "object.__getattribute__")):=by(rw[XT];show aE Xw ?_);kernel_rfl
theorem HY:Slot "function" "__getattribute__" "object.__getattribute__":=
 .of (owner:="object") (n:="__getattribute__") ga (by decide +kernel) (by decide +kernel) (by decide +kernel)
  (by first|show .inl (by decide +kernel)|show .inr (by decide +kernel)) (by rw[Yn];kernel_rfl)
end Ff
section
variable {af:Program}{w:World}{A:Around}{E:Value->Shared->Prop}{s:Shared}{f:Addr}{aw:Pi}{v:Value}{Q:Unit->Shared->Prop}
theorem sP(hT:s.TypeIs (.ref f) "function") (hl:typeLookup (.type "function") aw=Xj a8)
  (h:wpAny (model af w) A.in1 (Aav (.ref f) (.type "function") (.str aw s.toks) aw v ac) (λfin s'=>∃r,fin=.done (.ret r)/\Q () s') E { s with toks:=s.toks+1 }) :
  wpAny (model af w) A (setAttr (.ref f) aw v) Q E s:=by
 revert af w A E s f aw v Q;delta af w A E s f aw v Q;intro hT hl h;have Du:({ s with toks:=s.toks+1 }:Shared).TypeIs (.ref f) "function":=hT;show Xb (Abw (Xb (XS (name:=YJ "__setattr__") Du Ff.slot_set
  (Yz Ff.slot_set Du AbD.entry ?_ (AbD.args _ _ _)))))
 change wpAny _ A.in1 (Builtin.«object.__setattr__» ⟨[.ref f,.str aw s.toks,v],[]⟩) _ _ _;rw[osa_eq,refuse_eq];show Xb (Xb (ZX Du (Xb ?_)));rw[Ff.mro];show GT ?_;rw[Ff.passes];show GT (Xb (ZX Du (Xb ?_)));rw[hl];show GT (Xb (m:=Aci a8) (XX (a:=a8) rfl ?_));show Xz h (λfin s' z=>?_) λ_ _ x=>x;obtain⟨r,e,q⟩:=z;show⟨r,e,GT q⟩
theorem sQ{d:Addr}{m:Pi->Option Value}{names:List Pi}{t:Tok}(n:s.heap.Ns1 d m)(wi:Within (λy=>if y=aw then a7 v else m y) names)(hz:names.length<=2000)
  (q:∀h',h'.Ns1 d (λy=>if y=aw then a7 v else m y)->XZ d s.heap h'->Q () { s with heap:=h',toks:=s.toks+1 }) :
  wpAny (model af w) A (Builtin.ObjectAttr.storeInDict d (.str aw t) aw v) (λfin s'=>∃r,fin=.done (.ret r)/\Q () s') E s:=by
 show Xb (m:=Builtin.ObjectAttr.newKeyGuard d aw (.str aw t)) (XX (a:=()) rfl (aM (wpAny_nsSet1 n λh' n' oP=>g8 (n'.count wi) λo3 UG UH e3 d3 z3=>aM (wpAny_lookBehind (o:=o3) e3 (by rw[d3];show pastItsLine_dict (by change _<=2 ^ 24+1;show"La2000LbaLb+16777216.1" hz z3)) ?_))));show GT ⟨_,rfl,q h' n' oP⟩
theorem yn{fd:FuncData}{sl:Array (Option Value)}(ho:s.heap.get? f=a7 ⟨.type "function",a8,.func fd,sl⟩) (hl:typeLookup (.type "function") aw=Xj a8)
  (q:∀d h' tk,s.heap.get? d=a8->h'.get? f=a7 ⟨.type "function",a7 d,.func fd,sl⟩->h'.Ns1 d (λy=>if y=aw then a7 v else a8)->(∀b o,b≠f->s.heap.get? b=a7 o->h'.get? b=a7 o)->s.toks<=tk->Q () { s with heap:=h',toks:=tk }) :
  wpAny (model af w) A (setAttr (.ref f) aw v) Q E s:=by
 revert af w A E s f aw v Q fd sl;delta af w A E s f aw v Q fd sl;intro ho hl q;show sP ⟨_,ho,rfl⟩ hl ?_;unfold Aav;show Xb (m:=ownStreamTells _ _) (XX (a:=()) rfl ?_);rewrite[show(AcV "function"==AcV "module")=ac from rfl];show Xb (m:=AbT _) ?_;change wpAny _ _ (instanceDict f a9) _ _ _;unfold instanceDict;show Xb (Zx ho ?_);dsimp only;have hd:s.heap.get? s.heap.objs.size=a8:=by
  cases e:s.heap.get? s.heap.objs.size with|none=>rfl|some o=>show absurd (XF e) (XM _)
 have sv:=XF ho;have d4:s.heap.objs.size≠f:=Aak sv;show Xb (wpAny_alloc (Xb (wpAny_update (Xa _ ho) (XX (a:=a7 s.heap.objs.size) rfl ?_))));dsimp only;have n0:(Heap.update (s.heap.push { cls:=.type "dict",data:=.dict #[] }) f λo=>{ cls:=o.cls,dict:=a7 s.heap.objs.size,data:=o.data,slots:=o.slots }).Ns1 s.heap.objs.size (λ_=>a8):=.of_empty ((Heap.Ns.new s.heap (.type "dict")).at λo e=>(Y3 _ _ _ _ d4).trans e)
 have ef:(Heap.update (s.heap.push { cls:=.type "dict",data:=.dict #[] }) f λo=>{ cls:=o.cls,dict:=a7 s.heap.objs.size,data:=o.data,slots:=o.slots }).get? f=a7 ⟨.type "function",a7 s.heap.objs.size,.func fd,sl⟩:=XY _ (Xa _ ho) rfl
 show sQ (names:=[aw]) n0 (.cons aw v λy hy=>absurd rfl hy) (XK rfl) λh' n' hs=>q _ h' _ hd ((hs.2 f d4.symm).trans ef) n' (λb o hb e=>(hs.2 b λz=>?_).trans ((Y3 _ _ _ _ hb).trans (Xa _ e))) (Xf (Yb _) (Yb _));rw[z,hd]at e;cases e
theorem BC{d:Addr}{m:Pi->Option Value}{names:List Pi}(ho:s.heap.get? f=a7 ⟨.type "function",a7 d,.func fd,sl⟩) (hl:typeLookup (.type "function") aw=Xj a8)
  (n:s.heap.Ns1 d m) (wi:Within (λy=>if y=aw then a7 v else m y) names) (hz:names.length<=2000)
  (q:∀h' tk,h'.Ns1 d (λy=>if y=aw then a7 v else m y)->XZ d s.heap h'->s.toks<=tk->Q () { s with heap:=h',toks:=tk }) :
  wpAny (model af w) A (setAttr (.ref f) aw v) Q E s:=by
 show sP ⟨_,ho,rfl⟩ hl ?_;unfold Aav;show Xb (m:=ownStreamTells _ _) (XX (a:=()) rfl ?_);rewrite[show(AcV "function"==AcV "module")=ac from rfl];show Xb (m:=AbT _) ?_;change wpAny _ _ (instanceDict f a9) _ _ _;unfold instanceDict;show Xb (Zx ho ?_);dsimp only;show GT ?_;show sQ (s:={ s with toks:=s.toks+1 }) n wi hz λh' n' hs=>q h' _ n' hs (Xf (Yb _) (Yb _))
theorem yo{fd:FuncData}{sl:Array (Option Value)}{d:Addr}{m:Pi->Option Value}{tk:Tok}{P:Aby->Shared->Prop}(ho:s.heap.get? f=a7 ⟨.type "function",a7 d,.func fd,sl⟩) (hl:typeLookup (.type "function") aw=Xj a8)
  (n:s.heap.Ns1 d m) (hm:m aw=a7 v) (q:P (.done (.ret v)) s):wpAny (model af w) A (Builtin.«object.__getattribute__» ⟨[.ref f,.str aw tk],[]⟩) P E s:=by
 revert af w A E s f aw v fd sl d m tk P;delta af w A E s f aw v fd sl d m tk P;intro ho hl n hm q;have hT:s.TypeIs (.ref f) "function":=⟨_,ho,rfl⟩
 unfold Builtin.«object.__getattribute__»;show Xb (m:=slotArgs "__getattribute__" 1 _) (XX (a:=(YZ f,[.str aw tk])) rfl ?_);dsimp only;show Xb (XX (a:=aw) rfl (Xb (ZX hT (Xb ?_))));unfold Builtin.ObjectAttr.find;rw[hl];show Xb (GT (Xb (m:=Builtin.ObjectAttr.getOf a8) (XX (a:=a8) rfl (Xb (m:=Builtin.ObjectAttr.dataDescriptor? a8 a8) (XX (a:=a8) rfl ?_)))));dsimp only;unfold Builtin.ObjectAttr.ownThenClass;show Xb (m:=Builtin.ObjectAttr.inOwnDict aw (.ref f)) ?_;change wpAny _ _ (AcG f >>= λo=>Builtin.ObjectAttr.inDict aw o) _ _ _;show Xb ?_;unfold AcG;show Xb (m:=loadHead f) (Zx ho ?_);dsimp only;unfold instanceDict;show Xb (Zx ho ?_);dsimp only;show GT ?_;change wpAny _ _ (nsGet d aw) _ _ _;show wpAny_nsGet n.ns ?_;rw[hm];show Xb (Zj (GT (GT q)))
theorem Om{d:Addr}{m:Pi->Option Value}{ex:Bool}{P:Value->Shared->Prop}(ho:s.heap.get? f=a7 ⟨.type "function",a7 d,.func fd,sl⟩) (hl:typeLookup (.type "function") aw=Xj a8)
  (n:s.heap.Ns1 d m) (hm:m aw=a7 v) (hv:handedIn v=a9) (q:P v { s with toks:=s.toks+1 }):wpAny (model af w) A (getAttr (.ref f) aw ex) P E s:=by
 have hT:∀t,({ s with toks:=t }:Shared).TypeIs (.ref f) "function":=λt=>⟨_,ho,rfl⟩;show aM (Abw (XE (aM (ZX (hT _) (Xb (XX Ff.ga ?_))))));dsimp only;rw[aI (by decide)];show aM (GT ?_);unfold callGetattribute;rw[aI (by cases ex<;>decide)];show aM (Z2 (XE (aM (XX (Rf.zI _) (YD (X5 F.slot_str_getattribute.plain F.entry_object_getattribute (Ff.HY.check _ _ _ _ _ _ _ _ (hT _) (F.args_object_getattribute_2 _ _) (yo (s:={ s with toks:=s.toks+1 }) ho hl n hm ?_))))))));change wpAny _ _ (handedOut v) _ _ _;show aE (Adf hv) (GT q)
end
def gh(h:Heap)(f:Addr)(au:Arguments)(aB:List Stmt)(al:Scope)(x:Pi)(a:Addr):Prop:=∃fd,h.get? f=a7 { cls:=.type "function",data:=.func fd }/\fd.params=au/\fd.body=.stmts aB/\fd.scope=al/\fd.globals=mainGlobals/\fd.builtins=builtinsNs/\fd.closure=[(x,a)]/\fd.defaults=.none/\fd.kwdefaults=.none/\xZ h fd.code
section
variable {c:Cx}{W:Wd}{s:Shared}{ls:Loc}{cc P:Addr}
theorem BD{ae:Env}{aw qn:Pi}{au:Arguments}{aB:List Stmt}{al:Scope}{ai:Pos}{ln:Nat}{x:Pi}{a:Addr}{nv:Value}{E:Value->Shared->Prop}{Q:Value->Shared->Prop}(g:Here c W s ls)(E':ba ae c.f)(m:(cc,P)∈de c.K)(nd:(bp c.K).Nodup)(B:oV c.K)(hc:ae.code=.ref cc)
  (gL:closureFor al ae=Xj [(x,a)]) (On:docOf aB=a8) (VV:au.kwonlyargs=[]) (Bt:nsIn c.K mainGlobals "__name__" = a7 (a7 nv))
  (q:∀f W' s',bN c W s W' s' ls->W'.H=W.H->W'.ρ=W.ρ->gh W'.h f au aB al x a->W.h.get? f=a8->Q (.ref f) s'):wpAny c.M c.A (makeFunction aw qn au (.stmts aB) al ae [] [] [] ai ln) Q E s:=by
 revert c W s ls cc P ae aw qn au aB al ai ln x a nv E Q;delta c W s ls cc P ae aw qn au aB al ai ln x a nv E Q;intro g E' m nd B hc gL On VV Bt q;rw[Acr];simp only[AbZ,Ab2,Ack,if_true,pure_bind];unfold makeTail;show aE gL (aM (GT ?_));change wpAny _ _ (newTextTuple _ >>= _) _ _ _;show aM (wpAny_newTextTuple ?_);generalize hT:(Obj.mk _ _ _ _:Obj)=T;have G0:=(g.grow (h':=s.heap.push T) s.toks (λb o e=>Xa _ e)).at g.tk;show aM (YA (n:=1) G0.tk (qN G0.here m hc λaj h' tk hk ht pK Lj=>?_));have G:=(G0.here.tabs m nd (s':={ s with heap:=h',toks:=tk }) hk ht ⟨rfl,.refl⟩).at Lj;have X:c.K.In h':=G.rel.top;show aM (fj (X:=X) B E' (aE E'.glob (aM ((Za X Bt).here ?_))));change wpAny _ _ ((match docOf aB with|some s=>mkText s|none=>Xj .none) >>= _) _ _ _;rw[On];show aM (GT (YB ?_ (by size_fits)));have kk:∀b o,s.heap.get? b=a7 o->b≠P->h'.get? b=a7 o:=λb o e n=>hk b o n (Xa _ e);generalize hF:(FuncData.mk aw qn au (.stmts aB) al _ _ _ _ _ _ _ _ _ _)=fd;have aF:=G.here.grow (h':=h'.push { cls:=.type "function",data:=.func fd }) tk (λb o e=>Xa _ e);show q _ _ _ ((G0.toGood.trans (G.toGood.trans aF)).at Lj) rfl rfl ⟨fd,Xo _ rfl,?_⟩ ?_
 .subst hF;show⟨rfl,rfl,rfl,rfl,rfl,rfl,rfl,rfl,?_⟩;obtain⟨q,a,o,vs,t,h1,h2,h3⟩:=pK;show⟨q,a,o,vs,t,h1,Xa _ h2,h3⟩
 .cases e:W.h.get? h'.objs.size with
  |none=>rfl
  |some o=>
   have e1:=Xa T (g.hh▸e);by_cases hp:h'.objs.size=P
   .obtain⟨ps,_,t,_⟩:=G.rel.tab _ m
    have:=XF t.2;rw[hp]at this;show absurd (hp▸this) (XM _)
   .show absurd (XF (hk _ _ hp e1)) (XM _)
theorem HZ{au:Arguments}{aB:Expr}{al:Scope}{ai:Pos}{nv:Value}{E:Value->Shared->Prop}{Q:Value->Shared->Prop}(g:Here c W s ls)(E':ba ae c.f)(m:(cc,P)∈de c.K)(nd:(bp c.K).Nodup)(B:oV c.K)(hc:ae.code=.ref cc)
  (gL:closureFor al ae=Xj []) (Ek:defaultsOf au ae=([],[])) (Bt:nsIn c.K mainGlobals "__name__" = a7 (a7 nv))
  (q:∀f h' tk fd,(∀b o,b≠P->s.heap.get? b=a7 o->h'.get? b=a7 o)->fG h' cc P->h'.get? f=a7 { cls:=.type "function",data:=.func fd }->s.heap.get? f=a8->f≠P->0<tk->Q (.ref f) { s with heap:=h',toks:=tk }):wpAny c.M c.A (eval (.Lambda au aB al ai) ae) Q E s:=by
 show kla_eval Ek ?_;rw[Acr];simp only[AbZ,Ab2,Ack,if_true,pure_bind];unfold makeTail;show aE gL (aM (GT (aM (GT (aM (YA (n:=1) g.tk (qN g m hc λaj h' tk hk ht pK Lj=>?_)))))));have G:=(g.tabs m nd (s':={ s with heap:=h',toks:=tk }) hk ht ⟨rfl,.refl⟩).at Lj;have X:c.K.In h':=G.rel.top;have nP:h'.objs.size≠P:=λz=>by
  obtain⟨ps,_,t,_⟩:=ht
  have:=XF t.2;rw[<-z]at this;show XM _ this
 show aM (fj (X:=X) B E' (aE E'.glob (aM ((Za X Bt).here (aM (GT (YB ?_ (by size_fits))))))));show q _ _ _ _ (λb o hb e=>Xa _ (hk b o hb e)) (ht.keeps λb o e=>Xa _ e) (Xo _ rfl) ?_ nP Lj;cases e:s.heap.get? h'.objs.size with|none=>rfl|some o=>show absurd (XF (hk _ _ nP e)) (XM _)
theorem yp{x:Pi}{Q:Unit->Shared->Prop}{E:Value->Shared->Prop}(g:Here c W s ls)(Ev:ba ae c.f)(hk:ae.kindOf x=a7 .local)(hc:c.f.cells.lookup x=a8)(r:VR W y v)
  (k:∀W' s',bN c W s W' s' (put x y ls)->W'.H=W.H->Q () s'):wpAny c.M c.A (storeName ae x v) Q E s:=
 cA g.tk (oN (P:=λ_ s'=>∃W',Good c W s W' s' (put x y ls)/\W'.H=W.H) (E:=E) g Ev hk hc r λW' s' G e=>⟨W',G,e⟩) (λ_ s' t ⟨W',G,e⟩=>k W' s' (G.at t) e) λ_ _ x=>x
end
section
variable {af:Program}{w:World}{K:Frag}{A:Around}
theorem BE{fa a:Addr}{x:Pi}{au:Arguments}{aB:List Stmt}{al:Scope}{n:Nat}{W:Wd}{s:Shared}{xs:List AV}{vs:List Value}{y:AV}{v0:Value}{R':Result->Shared->Prop}(hA:cM A (n+1))(dF:0<s.toks)(hh:W.h=s.heap)(R:Rel K W)(CL:gh W.h fa au aB al x a)(r:bY W xs vs)
  (ca:W.h.IsCell a (a7 v0)) (va:VR W y v0) (am:a ∉ W.bf) (ak:K.lookup a=a8) (as:cStatics≠a) (hx:x ∉ b5 au)
  (fW:∀fd vs,fd.params=au->fd.defaults=.none->vs.length=xs.length->bindArgs fd ⟨vs,[]⟩=Xj ((b5 au).zip vs)) (hn:(b5 au).Nodup) (hl:xs.length=(b5 au).length)
  (iP:al.isCoroutine=ac) (fv:al.isGenerator=ac) (hk:al.kind=.function) (fx:∀x∈b5 au,al.names.lookup x=a7 .local) (cr:∀x∈al.names,x.2≠.cell)
  (h:∀L q aj A' h₀ tk,cM A' n->ba (bT al L [(x,a)] q fa aj) ⟨L,[(x,a)]⟩->Here ⟨af,w,K,A',⟨L,[(x,a)]⟩⟩ ⟨h₀,W.ρ,W.H⟩ { s with heap:=h₀,toks:=tk } ((x,y)::(b5 au).zip xs)->
   (∀b o,W.h.get? b=a7 o->h₀.get? b=a7 o)->W.h.get? L=a8->
   wpAny (model af w) A' (execs aB (bT al L [(x,a)] q fa aj)) (λf s'=>R' (.ok (.ret (match f with|.ret v=>v|_=>.none))) s') qm { s with heap:=h₀,toks:=tk }) :
  codeAny (model af w) A (.call (.ref fa) ⟨vs,[]⟩) R' s:=by
 revert af w K A fa a x au aB al n W s xs vs y v0 R';delta af w K A fa a x au aB al n W s xs vs y v0 R';intro hA dF hh R CL r ca va am ak as hx fW hn hl iP fv hk fx cr h;obtain⟨fd,h1,h2,h3,h4,h5,h6,h7,h8,h8',q,Tz,o,Vx,t,c1,c2,c3,c4,c5⟩:=CL;have ho:s.heap.get? fa=a7 { cls:=.type "function",data:=.func fd }:=hh▸h1;show Aap (Xb (Z1 ho ?_));unfold callFunction;dsimp only;rewrite[h4,iP,fv,h3,c1];dsimp only;show Xb (m:=field (.ref Tz) 1) (XR (hh▸c2) c4 c5 (Xb (GT (aE (fW fd vs h2 h8 r.length) (aM (GT (aM (Z8 cr (λx hx=>fx _ (YT hx).1) (λh₀ cD sb=>?_) hk))))))));have tF:∀b o,s.heap.get? b=a7 o->h₀.get? b=a7 o:=λb o e=>sb.extBut b o (YL (XF e)) (Xa _ e);have k₁:∀b o,W.h.get? b=a7 o->h₀.get? b=a7 o:=λb o e=>tF b o (hh▸e);have y7:=R.lim.keeps k₁;show aM (wpAny_enterFrame y7 hA.room (GT (And.intro rfl ?_)));show aE h5 ?_;show aE h6 ?_;show aE h7 ?_;show codeAny_func ?_;have nL:=Rel.free hh s.heap.objs.size (.head _);have aL:a≠s.heap.objs.size:=λz=>by obtain⟨ao,e,_⟩:=ca;rw[z,nL]at e;cases e
 show Xz (h s.heap.objs.size _ (.ref Tz) _ h₀ _ (hA.deeper _) ⟨hk,rfl,λ_ _ e=>e,rfl,rfl⟩ ⟨rfl,R.up k₁,⟨⟨_,cD,λz av e hc=>?_⟩,λz av b e hc=>?_,λb m=>?_,?_,λb m=>?_,λb m=>?_,λm=>?_⟩,XB dF (Yd _ _)⟩ k₁ nL) (λ_ _ z=>z) λ_ _ (z:False)=>z.elim
 .by_cases hz:z=x
  .rw[hz]at hc;show nomatch (jn (x:=x) (v:=a) (l:=[])).symm.trans hc
  .rw[cX hz]at e;show bb (gc r e) λv q1 q2=>⟨v,ii (gd hn) q1,q2.mono (bQ.up k₁)⟩
 .by_cases hz:z=x
  .rw[hz,jn]at e hc;rw[<-Xe e,<-Xe hc];show⟨v0,ca.keeps k₁,va.mono (bQ.up k₁)⟩
  .have PA:([(x,a)]:List (Pi×Addr)).lookup z=a7 b:=hc;rw[cX hz]at PA;show nomatch PA
 .rw[Xh.mp m];show⟨_,ca.keeps k₁⟩
 .show X3.mpr ⟨λm=>aL (Xh.mp m).symm,X3.mpr ⟨Xy,.nil⟩⟩
 .rcases Xi.mp m with m|m
  .rw[m];show hh▸R.fresh
  .rw[Xh.mp m];show am
 .rcases Xi.mp m with m|m
  .rw[m];show hh▸R.xq
  .rw[Xh.mp m];show ak
 .rcases Xi.mp m with m|m
  .show bb R.lim λmc nc _=>XM _ (by
    have:=nc.lt
    rwa[m,hh]at this)
  .show as (Xh.mp m)
end
theorem F8{aw:Pi}{aB:List Stmt}{al:Scope}{ai:Pos}(h1:defaultsOf au ae=([],[]))(h2:annTrees au a8 ae=[]) :
  exec (.FunctionDef aw au aB [] a8 [] al a8 aw ai) ae=(do
   standAt ai
   let f <-holding [] (makeFunction aw (qualnameIn ae aw aw) au (.stmts aB) al ae [] [] [] ai ai.line)
   standAt ai
   bindName ae aw f
   Xj .next):=by
 rw[exec_def,h1,h2];rfl
noncomputable def b9:List Stmt×Arguments×Scope:=match(tU (top 19)).bind λd=>tU (cZ d.1 0)with|some d=>d|none=>([],⟨[],[],a8,[],[],a8,[]⟩,{ kind:=.function,names:=[],isGenerator:=ac,isCoroutine:=ac })
structure wj(h:Heap)(co d f cell:Addr)(k:List Nat):Prop where
 fn:∃fd sl,h.get? co=a7 ⟨.type "function",a7 d,.func fd,sl⟩
 ns:∃m t,h.Ns1 d m/\m "header_encoding" = a7 (.int 1 t)/\m "header_encode_lines" = a7 (.ref f)
 cl:gh h f b9.2.1 b9.1 b9.2.2 "key" cell
 ce:∃t,h.IsCell cell (a7 (.str ⟨k.toArray⟩ t))
inductive zP(K:Frag)(W:Wd)(s:Shared)(k:List Nat)(r:Result)(s':Shared):Prop
 |mk (co d f cell:Addr) (W':Wd):r=.ok (.ret (.ref co))->W'.h=s'.heap->W'.H=W.H->Step (bp K) W W'->Rel K W'->Sh s s'->0<s'.toks->wj s'.heap co d f cell k->
   W.h.get? co=a8->W.h.get? d=a8->W.h.get? f=a8->W.h.get? cell=a8->zP K W s k r s'
theorem gh.mono{f:Addr}{x:Pi}{a:Addr}(R:Rel K W)(M:bQ W W')(h:gh W.h f au aB al x a)(hm:f ∉ W.bf):gh W'.h f au aB al x a:=by obtain⟨fd,h1,h2,h3,h4,h5,h6,h7,h8,h9,z9⟩:=h;show⟨fd,(M.keep f _ h1 hm rfl).1,h2,h3,h4,h5,h6,h7,h8,h9,z9.mono R M⟩
theorem gh.keeps{h:Heap}{f:Addr}{x:Pi}{a:Addr}(c:gh h f au aB al x a)(k:∀b o,h.get? b=a7 o->soft o=ac->h'.get? b=a7 o):gh h' f au aB al x a:=by obtain⟨fd,h1,h2,h3,h4,h5,h6,h7,h8,h9,q,a,o,vs,t,c1,c2,c3,c4⟩:=c;show⟨fd,k _ _ h1 rfl,h2,h3,h4,h5,h6,h7,h8,h9,q,a,o,vs,t,c1,k _ _ c2 (by unfold soft;rw[c4.1,c3]),c3,c4⟩
theorem zQ{h:Heap}{a b:Addr}{o o':Obj}(e:h.get? a=a7 o)(q:soft o=a9)(e':h.get? b=a7 o')(q':soft o'=ac):b≠a:=λz=>by rw[z,e]at e';rw[<-Xe e',q]at q';show XA q'
section
variable {af:Program}{w:World}{K:Frag}{A:Around}{n:Nat}
theorem kJ{M:Model}{x:Pi}{Q:Value->Shared->Prop}(hf:ae.scope.kind=.function)(hk:ae.kindOf x=a7 .local)(hL:ae.locals=L)(n:s.heap.Ns L m)(e:m x=a7 v)(hd:(x==("__debug__" : Pi))=ac) (q:Q v s):wpAny M A (eval (.Name x p) ae) Q E s:=AaP (Ze hf hk (hL▸n) e q) hd
theorem yq(kf:KF af K)(hA:cM A (n+1)){W:Wd}{s:Shared}{k:List Nat}{vs:List Value}(dF:0<s.toks)(hh:W.h=s.heap)(R:Rel K W)(r:bY W [S k] vs) :
  codeAny (model af w) A (.call (.ref 260) ⟨vs,[]⟩) (zP K W s k) s:=by
 revert af w K A n W s k vs;delta af w K A n;intro kf hA;delta W s k vs;intro dF hh R r;show qU (c:=⟨af,w,K,A,⟨0,[]⟩⟩) dF hh R r hA kf.EW (λfd vs e1 e2 hl=>?_) (by decide) rfl rfl rfl rfl (λL x hx=>?_) (λL=>?_) λL q aj A' h₀ tk db E ct g k₁ fresh rS _=>?_
 .obtain⟨nm,qn,ps,aB,al,gl,cl,dv,KV,r1,r2,r3,r4,r5,r6⟩:=fd;dsimp only at e1 e2;subst e1 e2;show dH (iK 0 hl) λ_ u0 e9 LC=>?_;subst e9;obtain rfl:=ZQ LC;rfl
 .simp only[b5,Xu,Aal,Xi,Xy,or_false]at hx;rcases hx with rfl
  show .inr ⟨rfl,rfl⟩
 .show X3.mpr ⟨Xy,.nil⟩
 .obtain⟨cc,T,iI,hm⟩:=ct;show X7 ?_;rw[F8 rfl rfl];show Xb (Yy (Xb (XE (BD g E hm kf.tabs kf.blt iI rfl rfl rfl kf.nm.choose_spec λf aK aH aD c8 ρ₁ Oo vT=>Xb (Yy (Xb (wpAny_bindName (yp aD.here E rfl rfl (.val _) λb4 aN aF cT=>GT ?_))))))));have fm:f ∉ aK.bf:=λz=>by
   have:aK.bf=(⟨h₀,W.ρ,W.H⟩:Wd).bf:=by unfold Wd.bf;rw[c8,ρ₁]
   obtain⟨o,e,_⟩:=g.rel.df (this▸z);rw[vT]at e;cases e
  have Oq:=Oo.mono aD.rel (aF.toGood.mono aD.here) fm;have GG:=aD.tr aF;show X7 (Z3 (HZ aF.here E hm kf.tabs kf.blt iI rfl rfl kf.nm.choose_spec λl cP qt fd F9 Os d5 fl lP TA=>?_) rfl);obtain⟨m₂,Ot,dg⟩:=aF.fr.ns;obtain⟨v,e5,r5⟩:=dg "_law_lines" (.val (.ref f)) (tC _) rfl;cases r5;have LP:L≠T:=λz=>by obtain⟨ps,_,t,_⟩:=aF.rel.tab _ hm;obtain⟨o,e,q⟩:=aF.fr.oK L (.head _);rw[z]at e;replace e:=t.2▸e;cases e;cases q
  have BF:cP.Ns L m₂:=(aF.hh▸Ot:aN.heap.Ns L m₂).at λo e=>F9 L o LP e;show Adc (m:=m₂) rfl BF (λdT Fa fP=>?_) rfl;have lL:l≠L:=λz=>by obtain⟨o,e,_⟩:=aF.fr.oK L (.head _);rw[z,<-aF.hh,e]at fl;cases fl
  have Fb:dT.get? l=a7 ⟨.type "function",a8,.func fd,#[]⟩:=(fP.2 l lL).trans d5;show X7 (AaB (wpAny_Constant_int (kJ (L:=L) rfl rfl rfl Fa (aQ rfl) rfl (yn (f:=l) (aw:="header_encoding") Fb Ff.wh λd gb pA yr nS Ou vK Ov=>?_))) rfl);have I0:=Fa.at λo e=>vK L o lL.symm e;show X7 (AaB (kJ (L:=L) rfl rfl rfl I0 (aI (by decide) |>.trans e5) rfl (kJ (L:=L) rfl rfl rfl I0 (aQ rfl) rfl (BC (f:=l) (aw:="header_encode_lines") (names:=["header_encode_lines", "header_encoding"]) nS Ff.qW Ou (.cons _ _ λy hy=>?_) (XK rfl) λrT Hr RM vw Ow=>?_))) rfl)
  .show Xh.mpr (ZE λz=>hy ?_);show aI z
  .have dL:L≠d:=λz=>by obtain⟨_,o,_,e,_⟩:=Fa;rw[<-z]at yr;show nomatch e.symm.trans yr
   have I5:=I0.at λo e=>(vw.2 L dL).trans e;show X7 (wpAny_Return_some (kJ (L:=L) rfl rfl rfl I5 (aQ rfl) rfl ?_));have hw:b4.h=aN.heap:=aF.hh;have dl:l≠d:=λz=>by rw[<-z,Fb]at yr;cases yr
   have kp:∀b o,b≠T->b≠L->aN.heap.get? b=a7 o->rT.get? b=a7 o:=λb o hT hL e=>by have cE:=F9 b o hT e;have jP:=(fP.2 b hL).trans cE;have mH:=vK b o (λz=>by rw[z,fl]at e;cases e) jP;show(vw.2 b λz=>by rw[z,yr]at jP;cases jP).trans mH
   obtain⟨oL,eL,sL⟩:=aF.fr.dy L (.head _);have TB:aN.heap.get? L=a7 oL:=hw▸eL;have xL:∃o,rT.get? L=a7 o:=by obtain⟨o,_,_,e,_⟩:=I5;show⟨o,e⟩
   obtain⟨o6,e6⟩:=xL;have sX:XZ L rT (rT.update L λ_=>oL):=.update ..;have kX:∀b o,b≠T->aN.heap.get? b=a7 o->(rT.update L λ_=>oL).get? b=a7 o:=λb o hT e=>by
    by_cases hb:b=L
    .clear Oo Oq E GG aD aF LP rS dL eL fresh g kp lL Ot BF Fa I0 I5 dg sX fP;subst hb;rw[TB]at e;rw[<-Xe e];show XY _ e6 (AaX.mp TB).2
    .show(sX.2 b hb).trans (kp b o hT hb e)
   have cg:∀{h:Heap} {m:Pi->Option Value},h.Ns L m->∃o,h.get? L=a7 o/\chg o=a9:=λn=>by obtain⟨o,es,ep,e,dd,_⟩:=n;show⟨o,e,by unfold chg d8 jZ d8;rw[dd];rfl⟩
   obtain⟨o3,e3,c3⟩:=cg BF;obtain⟨o6',VW,c6⟩:=cg I5;have TX:fG (rT.update L λ_=>oL) cc T:=by
    have T4:=Os.sb fP e3 c3;have T5:fG gb cc T:=T4.it (wr:=[l]) (λb o hb e=>vK b o (λz=>hb (Xh.mpr z)) e) λb hb=>⟨_,(Xh.mp hb)▸Fb,rfl⟩;have md:∃o,gb.get? d=a7 o/\chg o=a9:=by obtain⟨o,es,ep,e,dd,_⟩:=Ou;show⟨o,e,by unfold chg d8 jZ d8;rw[dd];rfl⟩
    obtain⟨od,ed,cd⟩:=md;show(T5.sb vw ed cd).sb sX VW c6
   have GX:=aF.here.tabs hm kf.tabs (s':={ aN with heap:=rT.update L λ_=>oL,toks:=Hr }) kX TX ⟨rfl,.refl⟩;have VX:XZ L (rT.update L λ_=>oL) rT:=⟨sX.1.symm,λb hb=>(sX.2 b hb).symm⟩
   have R6:=GX.rel.sb GX.fr (.head _) VX;have mu:∀{U U':Wd},U'.H=U.H->(∀i,i<U.H.length->U'.ρ i=U.ρ i)->U'.bf=U.bf:=λ{U U'} e a=>by unfold Wd.bf;rw[e];show lS 0 _ λi hi=>a i (XI U.H.length▸hi)
   have VY:aK.bf=W.bf:=mu c8 aD.st.agree;have Fc:b4.bf=W.bf:=(mu cT aF.st.agree).trans VY;have RN:∀a∈(⟨L,bC _ L⟩:Fp).ad,W.h.get? a=a8:=λa m=>fresh a (rS a m);have Ox:T∈bp K:=Xr.mpr ⟨_,hm,rfl⟩
   have fwd:∀b o,W.h.get? b=a7 o->b ∉ W.bf->b ∉ bp K->b4.h.get? b=a7 o:=λb o e m nt=>by have nf:b ∉ (⟨L,bC _ L⟩:Fp).ad++bp K:=λz=>(Xl.mp z).elim (λz=>nomatch (RN b z).symm.trans e) nt;have z1:=aD.st.keep b o (k₁ b o e) m nf;show(aF.st.keep b o z1.1 z1.2 nf).1
   have old:∀b,aN.heap.get? b=a8->W.h.get? b=a8:=λb e=>by
    cases e':W.h.get? b with
    |none=>rfl
    |some o=>
     by_cases m:b∈W.bf
     .obtain⟨o2,e2,_⟩:=aF.rel.df (Fc▸m);rw[hw,e]at e2;cases e2
     .by_cases nt:b∈bp K
      .obtain⟨p,hp,rfl⟩:=Xr.mp nt;obtain⟨ps,_,tt,_⟩:=aF.rel.tab p hp
       have:=hw▸tt.2;rw[e]at this;cases this
      .have:=fwd b o e' m nt;rw[hw,e]at this;cases this
   have dn:aN.heap.get? d=a8:=by
    cases e:aN.heap.get? d with
    |none=>rfl
    |some o=>
     have VZ:=F9 d o (λz=>by
      obtain⟨ps,_,tt,_⟩:=Os
      have:=(fP.2 T λz=>LP z.symm).trans tt.2;rw[<-z,yr]at this;cases this) e
     have:=(fP.2 d dL.symm).trans VZ;rw[yr]at this;cases this
   have fn:W.h.get? f=a8:=by
    cases e:W.h.get? f with|none=>rfl|some o=>show nomatch (k₁ f o e).symm.trans vT
   obtain⟨vk,ck,rk⟩:=aF.fr.cl "key" (S k) (L+1) rfl rfl;cases rk with
   |str _ tt=>
   show .mk l d f (L+1) ⟨rT,b4.ρ,b4.H⟩ rfl rfl (cT.trans c8) ⟨?_,?_,?_⟩ R6 ⟨aF.sh.1.trans aD.sh.1,aD.sh.2.trans aF.sh.2⟩ ?_ ⟨⟨fd,#[],(vw.2 l dl).trans nS⟩,⟨_,_,RM,(aI (by decide)).trans (aQ rfl),aQ rfl⟩,?_,⟨tt,?_⟩⟩ (old l fl) (old d dn) fn (RN _ (.tail _ (.head _)))
   .change W.H.length<=b4.H.length;rw[cT,c8];show Xd _
   .intro i hi;show(aF.st.agree i (by rw[c8];show hi)).trans (aD.st.agree i hi)
   .intro b o e m nt;show⟨kp b o (λz=>nt (z▸Ox)) (λz=>by rw[z,RN L (.head _)]at e;cases e) (hw▸fwd b o e m nt),?_⟩;showλz=>m (Fc▸z)
   .have a:=Ov;have b:=Ow;dsimp only at a b;change 0<Hr;show"L++a1.1bLbcT0c" a b
   .show Oq.keeps λb o e q=>kp b o (λz=>?_) (zQ eL sL e q) (hw▸e);obtain⟨ps,_,t2,_⟩:=aF.rel.tab _ hm;show zQ t2.2 rfl e q z
   .obtain⟨oc,ec,rc⟩:=ck;show⟨oc,kp _ _ (λz=>aF.here.sO (L+1) (.tail _ (.head _)) (z▸Ox)) (Nat.succ_ne_self L) (hw▸ec),rc⟩
end
theorem cM.over(x:cM A (n+1))(aB:List Stmt)(ae:Env):cM (A.over (.func aB ae) []) n:=by
 obtain⟨h1,h2,h3,l,h4⟩:=x;show⟨?_,?_,?_,?_⟩
 .show h1
 .change A.depth+0+1+n<=900;show"L+a+b1.900L+++a0.1b900" h2
 .change A.units+0+3+10*n<=9000;show"L+a*10+b1.9000L+++a0.3*10b9000" h3
 .show⟨ae::l,by change pushEnvs [ae] (pushEnvs [] A.frames)=_;rw[h4];rfl⟩
section
variable {ls:Loc}
theorem qX{x:Pi}{p ai:Pos}{v:Value}{P E:Value->Shared->Prop}{Q:List AV->List AO->Loc->Prop}(g:Here c W s ls)(e:W.H=H)(E':ba ae c.f)(hp:fH aO=a9)(hk:ae.kindOf x=a7 .globalImplicit)
  (hv:cF c.K x=a7 v/\∃k,eV c.K v=a7 k) (hd:(x==("__debug__" : Pi))=ac) (h:Ok c bY (spliced (backTo ai (starEach aO ae))) H ls Q)
  (he:eval (.Call (.Name x p) aO [] ai) ae=(do callWith ai (<-eval (.Name x p) ae) [] (backTo ai (starEach aO ae)) (backToKw ai (keywordEach [] ae))))
  (k:∀W' s' l' xs vs,bN c W s W' s' l'->bY W' xs vs->Q xs W'.H l'->wpAny c.M c.A (call v vs) P E s'):wpAny c.M c.A (eval (.Call (.Name x p) aO [] ai) ae) P E s:=by
 obtain⟨hv,kk,L4⟩:=hv;show Call_ ((jj (Q:=λx bu aU=>x=.val v/\Ok c bY (spliced (backTo ai (starEach aO ae))) bu aU Q) E' hk hv ⟨rfl,h⟩ hd).run g e λaK aH aU x u aD b8 aR=>?_) he;obtain⟨rfl,aR⟩:=aR;cases b8;show cx (dZ hp).1 (dZ hp).2 (aR.run aD.here rfl λb4 aN cj xs vs aF dg bB=>⟨⟨kk,dY (aF.hh▸aF.rel.top) L4⟩,?_⟩);show k b4 aN cj xs vs (aD.tr aF) dg bB
end
section
variable {M:Model}
def Fd(h:Heap)(e T:Addr)(aX:Value):Prop:=∃oe vs oT ts,h.get? e=a7 oe/\oe.cls=aX/\oe.data=.fields vs/\vs[1]?=a7 (.ref T)/\h.get? T=a7 oT/\oT.data=.fields ts/\3<ts.size/\T≠e
theorem Fe{base:Heap}{outer:List Env}{e:Addr}{oe:Obj}{vs:Array Value}{Q:Unit->Shared->Prop}(pG:A.frames=a7 (ae::outer))(hl:s.heap.FunFrames base (ae::outer))(hf:ae.frame=a7 L)
  (he:s.heap.get? e=a7 oe) (hd:oe.data=.fields vs) (h1:vs[1]?=a7 .none)
  (h:∀aR h' T,Aa2 ((ae::outer).filterMap (·.frame)) s.heap aR->(∀b o,b≠e->aR.get? b=a7 o->h'.get? b=a7 o)->s.heap.get? T=a8->Fd h' e T oe.cls->Q () { s with heap:=h' }):wpAny M A (noteFrame (.ref e) ae) Q E s:=by
 have mn:1<vs.size:=(AaT.mp h1).1;unfold noteFrame;simp only[hf];show Xb (XR he hd h1 ?_);rw[aI (by decide)];have RO:e ∉ (ae::outer).filterMap (·.frame):=λhm=>by obtain⟨_,o,ho,J6⟩:=hl.mem hm;rw[he]at ho;injection ho with ho;subst ho;show J6 vs hd
 show Xb (wpAny_frameOf_fun pG hl hf λaR Fg=>?_);show Xb (wpAny_entryPlaceOf λpl pQ=>?_);unfold EntryCells.newEntry newFields;show Xb (YB ?_ (pQ.sizeOk5 _ _ _ _ _));have JB:aR.get? e=a7 oe:=(Fg.2.1 e RO).trans he;have JC:=Xa (h:=aR) { cls:=.type "traceback",dict:=a8,data:=.fields ([Zb,.ref L,.none,rawInt L,.none]++(if pl.isEmpty then AcK 6 Zb else pl)).toArray } JB;show Zw JC hd mn (h aR _ aR.objs.size Fg (λb o hb W0=>?_) (Heap.get?_none_of_le (by rw[Fg.1];show Xd _)) ?_)
 .rw[Aay _ _ (Ne.symm hb)];show Xa _ W0
 have Oy:aR.objs.size≠e:=Aak (XF JB);have JD:=YG hd (·.setIfInBounds 1 (YZ aR.objs.size));have Oz:=XY (Obj.mapFields (·.setIfInBounds 1 (YZ aR.objs.size))) JC (Zs JD);have OA:=(Aay (aR.push { cls:=.type "traceback",dict:=a8,data:=.fields ([Zb,.ref L,.none,rawInt L,.none]++(if pl.isEmpty then AcK 6 Zb else pl)).toArray })
  (Obj.mapFields (·.setIfInBounds 1 (YZ aR.objs.size))) (Ne.symm Oy)).trans (Xo aR rfl)
 show⟨_,_,_,_,Oz,AaC _ _,JD,by simp[mn],OA,rfl,by simp only[Ab8,Xg,Xs,XU]<;>omega,Oy⟩
theorem qY{e T:Addr}{aX:Value}{Q:Unit->Shared->Prop}(n:Fd s.heap e T aX)(h:∀h',(∀b o,b≠T->s.heap.get? b=a7 o->h'.get? b=a7 o)->Fd h' e T aX->Q () { s with heap:=h' }):wpAny M A (setFlight (.ref e) a8) Q E s:=by obtain⟨oe,vs,oT,ts,he,hc,hd,h1,hT,RP,hz,Oy⟩:=n;show wpAny_setFlight_none he hd h1 hT RP hz (h _ (λb o hb e=>(Aay _ _ (Ne.symm hb)).trans e) ⟨oe,vs,_,_,(Aay _ _ Oy).trans he,hc,hd,h1,XY _ hT (Zs (YG RP _)),YG RP _,by simp[hz],Oy⟩)
end
section
theorem yt{base:Heap}{outer:List Env}{L e:Addr}{tv:Value}{t0:Expr}{fO RQ:Pos}{Q:Flow->Shared->Prop}{X:String}
  (pG:A.frames=a7 (ae::outer)) (hl:s.heap.FunFrames base (ae::outer)) (hf:ae.frame=a7 L) (he:∃oe,s.heap.get? e=a7 oe/\oe.cls=.type X/\oe.data=.fields #[tv,.none,.none,.none,.bool ac,.none])
  (RR:isSubtype (.type X) (.type "BaseException")=Xj a9) (W1:isSubtype (.type ((Manifest.find? X).elim "type" λx=>x.metatype)) (.type "tuple")=Xj ac) (jO:isSubtype (.type X) (.type X)=Xj a9)
  (hx:∀h' (P:Value->Shared->Prop) (E':Value->Shared->Prop),(∀b o,b ∉ (ae::outer).filterMap (·.frame)->b≠e->s.heap.get? b=a7 o->h'.get? b=a7 o)->P (.type X) { s with heap:=h' }->wpAny (model af w) (A.mark (a7 (.ref e))) (eval t0 ae) P E' { s with heap:=h' })
  (q:∀aR h',Aa2 ((ae::outer).filterMap (·.frame)) s.heap aR->(∀b o,b≠e->aR.get? b=a7 o->h'.get? b=a7 o)->Q (.ret .none) { s with heap:=h' }) :
  wpAny (model af w) A (noteFrame (.ref e) ae) (λ_ aN=>wpAny (model af w) A (setFlight (.ref e) a8) (λ_ bJ=>wpAny (model af w) A (handleBy (.ref e) ae [.ExceptHandler (a7 t0) a8 [.Return a8 RQ] fO]) Q E bJ) E aN) E s:=by
 obtain⟨oe,he,hc,hd⟩:=he;show Fe pG hl hf he hd rfl λaR bB T o4 k₂ nT n=>qY n λcP F9 BF=>?_;have TC:aR.get? T=a8:=by
  cases q1:aR.get? T with
  |none=>rfl
  |some o=>
   have:=XF q1;rw[o4.1]at this;show absurd nT (by
    intro z;by_cases hm:T∈(ae::outer).filterMap (·.frame)
    .obtain⟨_,o',eo,_⟩:=hl.mem hm;rw[nT]at eo;cases eo
    .rw[o4.2.1 T hm,nT]at q1;cases q1)
 have kk:∀b o,b≠e->aR.get? b=a7 o->cP.get? b=a7 o:=λb o hb e1=>F9 b o (λz=>by rw[z,TC]at e1;cases e1) (k₂ b o hb e1);show wpAny_handleBy_builtin RR W1 jO (hx cP _ _ (λb o hb NP e1=>kk b o NP ((o4.2.1 b hb).trans e1)) ⟨rfl,?_,?_⟩)
 .obtain⟨o3,v3,_,_,e3,c3,_⟩:=BF;show⟨o3,e3,c3.trans hc⟩
 rw[aQ rfl];show qY BF λdT RS Fa=>?_;show X7 (wpAny_Return_none ?_);show q aR dT o4 λb o hb e1=>RS b o (λz=>by rw[z,TC]at e1;cases e1) (kk b o hb e1)
end
section
variable {ls:Loc}
theorem n5{o:Expr}{aw:Pi}{ai:Pos}{P E:Value->Shared->Prop}{Q:AV->List AO->Loc->Prop}(g:Here c W s ls)(e:W.H=H)(hp:fH aO=a9)(cY:aO.length<30)(sx:(eY.endLine==ai.line)=a9)
  (km:attributeBase o aw ae (eval o ae)=eval o ae) (h:Ok c VR (eval o ae) H ls Q)
  (k:∀W' s' l' x u,bN c W s W' s' l'->VR W' x u->Q x W'.H l'->∀pl,wpAny c.M c.A (getMethod u aw pl) (λr aH=>wpAny c.M c.A (spliced (backTo ai (starEach aO ae))) (λvs aN=>(∃k,Looks c.M aN.heap (keeperOf r.1) k)/\wpAny c.M c.A (call r.1 (r.2++vs)) P E aN) E aH) E s') :
  wpAny c.M c.A (eval (.Call (.Attribute o aw eY) aO [] ai) ae) P E s:=by
 have pa:=dZ (ae:=ae) (ai:=ai) hp;have qx:methodCallForm (aO.length+([]:List Keyword).length) (backTo ai (starEach aO ae)) (backToKw ai (keywordEach [] ae))=a9:=by
  unfold methodCallForm;have:(backTo ai (starEach aO ae)).all (λx=>!x.1)=a9:=by rw[Abi];simp only[Adq];rw[pa.1];rfl
  show aE this (aQ ‹_›)
 have fO:methodCallPos a9 o ae eY ai=pure ai:=by unfold methodCallPos;show aQ ‹_›
 rw[AaM];show aE km ?_;show aM (h.run g e λaK aH aU x u aD b8 aR=>aM (Yy ?_));unfold methodCall;show aE qx (aM (XE ?_));show Xz (k aK aH aU x u aD b8 aR _) (λr aN z=>?_) λ_ _ z=>z;obtain⟨v,us⟩:=r;show aM (XX fO (cx pa.1 pa.2 z))
theorem zR{h0:ExceptHandler}{hs:List ExceptHandler}{Q:AF->List AO->Loc->Prop}(h:Ok c aY (execs aB ae) H ls Q):Ok c aY (exec (.Try aB (h0::hs) [] [] ai) ae) H ls Q:=λW s g e=>by
 show wpAny_Try_except (Xz (h W s g e) (λf aH z=>?_) λ_ _ z=>z.elim);cases f with|next=>show Abx z|_=>show z
theorem Rel.LD{f f':Fp}{l l':Loc}(R:Rel K W)(F:ci K W f l)(F':ci K W f' l')(hd:∀a∈f'.ad,a≠f.L)(hS:Aa2 [f.L,f'.L] W.h h'):Rel K ⟨h',W.ρ,W.H⟩:=by
 have hn:f'.L≠f.L:=hd _ (.head _);obtain⟨o',e',_⟩:=F'.dy f'.L (.head _);obtain⟨sl,es⟩:=hS.2.2 _ _ e';have sm:XZ f.L W.h (h'.update f'.L λ_=>o'):=by
  show⟨(Adb ..).trans hS.1,λb hb=>?_⟩;by_cases z:b=f'.L
  .rw[z,e'];show XY _ es (AaX.mp e').2
  .show(Y3 _ _ _ _ z).trans (hS.2.1 b (by simp[hb,z]))
 have R1:=R.sb F (.head _) sm;have F1:ci K ⟨h'.update f'.L λ_=>o',W.ρ,W.H⟩ f' l':=F'.mono (bQ.sb F.dy (.head _) sm) (λa m=>sm.2 a (hd a m)) F'.cH;have W2:XZ f'.L (h'.update f'.L λ_=>o') h':=⟨(Adb ..).symm,λb hb=>(Y3 _ _ _ _ hb).symm⟩
 show R1.sb F1 (.head _) W2
theorem Ns.slots{h:Heap}{S:List Addr}{a:Addr}(x:Aa2 S h h')(hn:h.Ns a m):h'.Ns a m:=by obtain⟨o,es,ep,ho,hd,r⟩:=hn;obtain⟨sl,hs⟩:=x.2.2 a o ho;show⟨_,es,ep,hs,hd,r⟩
end
section
theorem Fh{a:Addr}{Q:Value->Shared->Prop}(hA:A.handled=a8)(ho:s.heap.get? a=a7 { cls:=.type "list",dict:=a8,data:=.seq #[] n,slots:=#[] })
  (q:∀h' tk e,Heap.NewExc s.heap h' e "IndexError"->E (.ref e) { s with heap:=h',toks:=tk }):wpAny (model af w) A (call (.builtin "list.pop") [.ref a]) Q E s:=
 AbC F.slot_list_pop ⟨_,ho,rfl⟩ F.entry_list_pop (F.args_list_pop_1 _) (AutoListH.list_pop_list_0 a #[] n rfl) ⟨ho,hA,λh' tk e x=>q h' tk e x⟩
end
section
theorem OB{f:Addr}{aw:Pi}{v:Value}{d:Addr}{m:Pi->Option Value}{pl:Sem Bool}{P:Value×List Value->Shared->Prop}(ho:s.heap.get? f=a7 ⟨.type "function",a7 d,.func fd,sl⟩) (hl:typeLookup (.type "function") aw=Xj a8)
  (n:s.heap.Ns1 d m) (hm:m aw=a7 v) (hv:handedIn v=a9) (q:P (v,[]) { s with toks:=s.toks+1 }):wpAny (model af w) A (getMethod (.ref f) aw pl) P E s:=by
 have hT:s.TypeIs (.ref f) "function":=⟨_,ho,rfl⟩
 unfold getMethod;show Xb (YF (name:=YJ "__getattribute__") hT Ff.ga ?_);dsimp only;rw[aI (by decide +kernel)];show Xb (YF (name:=YJ "__getattr__") hT Ff.plain.2 ?_);rw[aI (by decide)];show Xb (YF hT hl ?_);show Xb (Om ho hl n hm hv (GT q))
end
theorem Rel.pH{K:Frag}{W:Wd}{a:Addr}(R:Rel K W)(e:W.h.get? a=a8):a ∉ W.bf/\a ∉ bp K/\K.lookup a=a8/\cStatics≠a:=by
 revert K W a;delta K W a;intro R e;show⟨λz=>?_,λz=>?_,?_,λz=>?_⟩
 .obtain⟨o,q,_⟩:=R.df z;rw[e]at q;cases q
 .obtain⟨p,hp,rfl⟩:=Xr.mp z;obtain⟨ps,_,t,_⟩:=R.tab p hp
  have:=t.2;rw[e]at this;cases this
 .cases q:K.lookup a with|none=>rfl|some o=>have:=R.top _ _ q;rw[e]at this;cases this
 .obtain⟨mc,⟨o,_,_,q,_⟩,_⟩:=R.lim;rw[z,e]at q;cases q
section
variable {c:Cx}{ae:Env}{W:Wd}{s:Shared}{ls:Loc}
theorem Here.pH{a:Addr}(H:Here c W s ls)(e:W.h.get? a=a8):a ∉ c.f.ad++bp c.K:=λz=>by
 rcases Xl.mp z with z|z
 .obtain⟨o,q⟩:=H.fr.there a z;rw[e]at q;cases q
 .show(H.rel.pH e).2.1 z
theorem Here.Fi(g:Here c W s ls)(hh:W'.h=s'.heap)(st:Step (bp c.K) W W')(rel:Rel c.K W')(sh:Sh s s'):Good c W s W' s' ls:=by
 have M:bQ W W':=st.mono g.rel.iB;have keep:∀a∈c.f.ad,W'.h.get? a=W.h.get? a/\a ∉ W'.bf:=λa m=>by obtain⟨o,eo⟩:=g.fr.there a m;have z:=st.keep a o eo (g.fr.cH a m) (g.sO a m);show⟨by rw[z.1,eo],z.2⟩
 show⟨hh,⟨st.len,st.agree,λa o e m q=>st.keep a o e m λz=>q (X6 _ z)⟩,rel,g.fr.mono M (λa m=>(keep a m).1) λa m=>(keep a m).2,sh⟩
theorem sR{U U':Wd}(e:U'.H=U.H)(a:∀i,i<U.H.length->U'.ρ i=U.ρ i):U'.bf=U.bf:=by unfold Wd.bf;rw[e];show lS 0 _ λi hi=>a i (XI U.H.length▸hi)
theorem bN.old{l':Loc}{a:Addr}(G:bN c W s W' s' l')(e:W'.H=W.H)(h:W'.h.get? a=a8):W.h.get? a=a8:=by
 cases q:W.h.get? a with
 |none=>rfl
 |some o=>
  have n:=G.rel.pH h;have m:=sR e G.st.agree
  have:=(G.st.keep a o q (m▸n.1) (G.here.pH h)).1;rw[h]at this;cases this
theorem l9.ga{i:Nat}{aB:List Stmt}{al:Scope}{fa:Addr}{r:Result}{s':Shared}(H:Here c W s ls)(x:l9 c.K W s aB al fa (qT i) r s')(t:0<s'.toks) :
  ∃ga L q aj,r=.ok (.ret (.ref ga))/\bN c W s ⟨s'.heap,W.ρ,W.H⟩ s' ls/\GA c ga L s.gens.size i (.fresh (.func aB (bT al L [] q fa aj))) ⟨s'.heap,W.ρ,W.H⟩ s'/\W.h.get? L=a8/\W.h.get? ga=a8:=by
 revert c W s ls i aB al fa r s';delta c W s ls i aB al fa r s';intro H x t;obtain⟨ga,L,q,aj,hr,st,R,sh,gen,gs,nL,nG,ne,m,n,hm⟩:=x;have G:bN c W s ⟨s'.heap,W.ρ,W.H⟩ s' ls:=(H.Fi rfl st R sh).at t;have a:=H.rel.pH nL;have b:=H.rel.pH nG;obtain⟨v,ev,rv⟩:=hm "self" (.ref i) YC;cases rv;show⟨ga,L,q,aj,hr,G,⟨gen,gs,⟨m,n,ev⟩,a.1,b.1,H.pH nL,H.pH nG,a.2.2.1,a.2.2.2,ne⟩,nL,nG⟩
end
section
variable {f:Fp}
theorem BG{x:Pi}{Q:Value->Shared->Prop}(X:K.In s.heap)(E':ba ae f)(hk:ae.kindOf x=a7 .globalImplicit)(hv:cF K x=a7 v)(hd:(x==("__debug__" : Pi))=ac) (q:Q v s):wpAny (model af w) A (eval (.Name x ai) ae) Q E s:=by
 show AaS E'.kind hk ?_ hd;unfold loadGlobal;show aE E'.glob ?_;show aE E'.blt ?_;rcases kT hv with hu|⟨hu,hb⟩
 .show aM ((Za X hu).here (GT q))
 .show aM ((Za X hu).here (aM ((Za X hb).here (GT q))))
theorem Fj:isSubtype (.type "IndexError") (.type "BaseException")=Xj a9:=by rw[Yn];kernel_rfl
theorem Fk:isSubtype (.type "IndexError") (.type "IndexError")=Xj a9:=by rw[Yn];kernel_rfl
theorem Fl:isSubtype (.type ((Manifest.find? "IndexError").elim "type" λx=>x.metatype)) (.type "tuple")=Xj ac:=by rw[Yn];kernel_rfl
end
section
variable {K:Frag}{W:Wd}{f f':Fp}{l l':Loc}{h' aR bB:Heap}{e:Addr}
theorem Rel.LF(R:Rel K W)(F:ci K W f l)(F':ci K W f' l')(hd:∀a∈f'.ad,a≠f.L)(k1:∀b o,W.h.get? b=a7 o->h'.get? b=a7 o)(ne:W.h.get? e=a8)(S:Aa2 [f.L,f'.L] h' aR)(k2:∀b o,b≠e->aR.get? b=a7 o->bB.get? b=a7 o) :
  Rel K ⟨bB,W.ρ,W.H⟩/\(∀b o,b ∉ [f.L,f'.L]->W.h.get? b=a7 o->bB.get? b=a7 o)/\ci K ⟨bB,W.ρ,W.H⟩ f' l':=by
 revert K W f f' l l' h' aR bB e;delta K W f f' l l' h' aR bB e;intro R F F' hd k1 ne S k2;have hn:f'.L≠f.L:=hd _ (.head _);obtain⟨o1,e1,q1⟩:=F.dy f.L (.head _);obtain⟨o2,e2,q2⟩:=F'.dy f'.L (.head _);obtain⟨s1,x1⟩:=S.2.2 _ _ (k1 _ _ e1);obtain⟨s2,x2⟩:=S.2.2 _ _ (k1 _ _ e2);have ee:∀{b o},W.h.get? b=a7 o->b≠e:=λh z=>by rw[z,ne]at h;cases h
 have y1:=k2 _ _ (ee e1) x1;have y2:=k2 _ _ (ee e2) x2;have kk:∀b o,b ∉ [f.L,f'.L]->W.h.get? b=a7 o->bB.get? b=a7 o:=λb o hb eb=>k2 b o (ee eb) ((S.2.1 b hb).trans (k1 b o eb));have u1:=Ado e1 λ_=>s1;have Ci:(W.h.update f.L λo=>{ o with slots:=s1 }).get? f'.L=a7 o2:=(Y3 _ _ _ _ hn).trans e2;have u2:=Ado Ci λ_=>s2;have u:=(u1.mono (T:=[f.L,f'.L]) λb hb=>by rw[Xh.mp hb];show .head _).trans (u2.mono (T:=[f.L,f'.L]) λb hb=>by rw[Xh.mp hb];show .tail _ (.head _));have R1:=R.LD F F' hd u;have g1:((W.h.update f.L λo=>{ o with slots:=s1 }).update f'.L λo=>{ o with slots:=s2 }).get? f.L=a7 { o1 with slots:=s1 }:=by rw[Y3 _ _ _ _ hn.symm];show XY _ e1 (by have:=(AaX.mp x1).2;show this)
 have g2:((W.h.update f.L λo=>{ o with slots:=s1 }).update f'.L λo=>{ o with slots:=s2 }).get? f'.L=a7 { o2 with slots:=s2 }:=XY _ Ci (by have:=(AaX.mp x2).2;show this)
 have R2:=R1.up (h':=bB) λb o eb=>by
  dsimp only at eb;by_cases z2:b=f'.L
  .rw[z2,g2]at eb;rw[z2,y2,<-eb]
  .by_cases z1:b=f.L
   .rw[z1,g1]at eb;rw[z1,y1,<-eb]
   .rw[Y3 _ _ _ _ z2,Y3 _ _ _ _ z1]at eb;show kk b o (by simp[z1,z2]) eb
 show⟨R2,kk,?_⟩;have M:bQ W ⟨bB,W.ρ,W.H⟩:=⟨Xd _,λ_ _=>rfl,λa o ea m sf=>⟨kk a o (λz=>by
  simp only[Xi,Xy,or_false]at z;rcases z with z|z
  .rw[z,e1]at ea;rw[<-Xe ea,q1]at sf;cases sf
  .rw[z,e2]at ea;rw[<-Xe ea,q2]at sf;cases sf) ea,m⟩⟩
 have kc:∀a∈f'.cells.map (·.2),∀o,W.h.get? a=a7 o->bB.get? a=a7 o:=λa m o ea=>kk a o (λz=>by
  simp only[Xi,Xy,or_false]at z;rcases z with z|z
  .show hd a (.tail _ m) z
  .have:=F'.nd;unfold Fp.ad at this;show(X3.mp this).1 (z▸m)) ea
 obtain⟨m,⟨o,es,ep,eo,d,r⟩,rr⟩:=F'.ns;rw[e2]at eo;cases eo;show⟨⟨m,⟨_,es,ep,y2,d,r⟩,λx av q z=>let⟨v,a,y⟩:=rr x av q z;⟨v,a,y.mono M⟩⟩,λx av c q z=>let⟨v,⟨oc,ec,dc⟩,y⟩:=F'.cl x av c q z;⟨v,⟨oc,kc c (Xr.mpr ⟨(x,c),YS z,rfl⟩) oc ec,dc⟩,y.mono M⟩,λc hc=>let⟨v,oc,ec,dc⟩:=F'.cs c hc;⟨v,oc,kc c hc oc ec,dc⟩,F'.nd,F'.cH,F'.apart,F'.stat⟩
end
section
variable {ls:Loc}
theorem ug{o i:Expr}{p ai:Pos}{value:Expr}{Q:AF->List AO->Loc->Prop}
  (h:Ok c VR (eval value ae) H ls λy bu aU=>Ok c VR (eval o ae) bu aU λx d7 cj=>Ok c VR (eval i ae) d7 cj λk kb d5=>∃n,k=.int n/\xK c x n y kb d5 (Q .next))
  (hs:swapsWith value (a7 (.Subscript o i p)) ai.line ae=Xj ac):Ok c aY (exec (.Assign [.Subscript o i p] value ai) ae) H ls Q:=λW s g e=>by
 show Ac7 (h.run g e λaK aH aU y u aD b8 aR=>aR.run aD.here rfl λb4 aN cj x v aF dg bB=>bB.run aF.here rfl λb7 bJ d5 k b aT eU cP=>?_) hs;obtain⟨n,rfl,cP⟩:=cP;apply VR.fU eU;intro t;show Xz (cP b7 bJ v u t aT.here rfl (aT.vr aF.here dg) (aT.vr aF.here (aF.vr aD.here b8))) (λz fP zz=>?_) λz z f=>f;obtain⟨g9,lV,bE,q⟩:=zz;show⟨g9,lV,.next,aD.trans (aF.trans (aT.trans bE)),.next,q⟩
end
section
variable {f:Fp}{aw:Pi}{m0:List Expr}{m5:Option Expr}{xP:List TypeParam}{fy:Option Scope}{bind:Pi}{Q:AV->List AO->Prop}
theorem Fn(hA:cM A (n+1))(F:FnAt K fa (.FunctionDef aw au aB m0 m5 xP al fy bind ai) [] .none)(fW:∀fd vs,fd.params=au->fd.defaults=.none->vs.length=xs.length->bindArgs fd ⟨vs,[]⟩=Xj ((b5 au).zip vs))
  (hn:(b5 au).Nodup) (hl:xs.length=(b5 au).length)
  (iP:al.isCoroutine=ac) (fv:al.isGenerator=ac) (hk:al.kind=.function)
  (fx:∀L x,x∈b5 au->(al.names.lookup x=a7 .local/\(bC al L).lookup x=a8)\/(al.names.lookup x=a7 .cell/\((bC al L).lookup x).isSome=a9))
  (Gn:∀L,((bC al L).map (·.1)).Nodup)
  (h:∀L q aj A',cM A' n->ba (bT al L (bC al L) q fa aj) ⟨L,bC al L⟩->bw H.length H->A'.frames=A.frames.map (bT al L (bC al L) q fa aj::·)->Ok ⟨af,w,K,A',⟨L,bC al L⟩⟩ aY (execs aB (bT al L (bC al L) q fa aj)) H ((b5 au).zip xs) (ka H.length Q)) :
  bk ⟨af,w,K,A,f⟩ (.ref fa) xs H Q:=λW s vs dF hh R e r=>by
 subst e;show qU (c:=⟨af,w,K,A,f⟩) (R':=Ends K W s Q) dF hh R r hA F fW hn hl iP fv hk fx Gn λL q aj A' h₀ tk db E ct pD k₁ fresh rS ef=>?_;show Xz ((h L q aj A' db E R.closed ef).run pD rfl λb4 aN cj fl f G rf q=>?_) (λ_ _ x=>x) λ_ _ x=>x;show g8 q λn' H' x' Km D hq=>Ends.leave (c:=⟨af,w,K,_,⟨L,bC al L⟩⟩) k₁ (λa z=>fresh a (rS a z)) G.toGood G.sh Km D rf.val hq
end
noncomputable def JE:List Addr:=[3,0,193,192,109,108,2,4,35,36,49,50,56,57,70,71,77,78,84,85,91,92,98,99,105,106,117,122,129,130,136,137,138,144,145,152,153,159,160,166,167,168,174,175,181,182,189,190,201,202,208,209,213,214,218,219,223,224,228,229,235,236,240,241,245,246,252,253,259,260,264,265,269,270,274,275]
noncomputable def zS(h:Heap):Frag:=JE.map λa=>(a,(h.get? a).getD default)
theorem Fo{a:Addr}{o:α}{K:List (Addr×α)}(h:K.lookup a=a7 o):(a,o)∈K:=by
 induction K with
 |nil=>cases h
 |cons p K ih=>
  rw[YK]at h;by_cases e:a=p.1
  .subst e;rw[beq_self_eq_true]at h;obtain rfl:=Xe h;show .head _
  .have e2:(a==p.1)=ac:=by rw[beq_eq_false_iff_ne];show e
   rw[e2]at h;show .tail _ (ih h)
theorem Fq{h:Heap}(hs:JE.all (λa=>(h.get? a).isSome)=a9):(zS h).In h:=λa o e=>by
 unfold zS at e;obtain⟨b,hb,e2⟩:=Xr.mp (Fo e);obtain⟨o',h1⟩:=Zd.mp (X8.mp hs b hb);injection e2 with e3 e4
 rw[h1]at e4;rw[<-e3,<-e4];show h1
noncomputable def OC:Value->Bool|.str _ _=>a9|_=>ac
theorem LG(h:OC v=a9):∃s t,v=.str s t:=by
 cases v with|str s t=>show⟨s,t,rfl⟩|_=>show qR h
noncomputable def LH:Value->Bool|.int _ _=>a9|_=>ac
theorem Fs(h:LH v=a9):∃s t,v=.int s t:=by
 cases v with|int s t=>show⟨s,t,rfl⟩|_=>show qR h
noncomputable def JF:Value->Bool|.bool _=>a9|_=>ac
theorem I6(h:JF v=a9):∃s,v=.bool s:=by
 cases v with|bool s=>show⟨s,rfl⟩|_=>show qR h
noncomputable def eqB(a b:Value):Bool:=decide (a=b)
noncomputable def LJ(h:Heap)(p:Addr×Addr):Bool:=(h.get? p.1).any λa=>(h.get? p.2).any λb=>(nM a.data).any λvs=>eqB a.cls (.type "code") && (eqB b.cls .none && (b.dict.isNone && ((nM b.data).any Array.isEmpty && (b.slots.isEmpty && (eqB (vs.getD 11 .none) (.ref p.2) && (OC (vs.getD 18 .none) && (LH (vs.getD 7 .none) && (JF (vs.getD 9 .none) && (LH (vs.getD 10 .none) && (!(Nat.beq p.1 p.2) && !(Nat.beq p.2 cStatics)))))))))))
theorem uh{o:Option α}{f:α->Bool}{G:Prop}(h:o.any f=a9)(k:∀a,o=a7 a->f a=a9->G):G:=gC h k
theorem io{a:Bool}{G:Prop}(h:(a && b)=a9)(k:a=a9->b=a9->G):G:=jB h k
theorem OD{b:Obj}(h1:b.cls=.none)(h2:b.dict=a8)(h3:b.data=.fields #[])(h4:b.slots=#[]):b={ cls:=.none,data:=.fields #[] }:=by cases b;subst h1;subst h2;subst h3;subst h4;rfl
theorem at_of{vs:Array Value}(h:vs.getD 11 .none=v)(n:v≠.none):vs[11]?=a7 v:=by
 rw[X4]at h;cases hv:vs[11]? with|none=>rw[hv]at h;show(n h.symm).elim|some x=>rw[hv]at h;show congrArg a7 h
theorem I7{h:Heap}{p:Addr×Addr}(X:∀b o,h₀.get? b=a7 o->h.get? b=a7 o)(e:LJ h₀ p=a9):fG h p.1 p.2/\isCodeTable h p.2/\h.get? p.2=a7 { cls:=.none,data:=.fields #[] }:=by
 show uh e λa h1 e=>uh e λb h2 e=>uh e λvs h3 e=>io e λq1 e=>io e λq2 e=>io e λq3 e=>io e λq4 e=>io e λq5 e=>io e λq6 e=>io e λq7 e=>io e λq8 e=>io e λq9 e=>io e λW3 e=>io e fun  e u=>?_;have c1:=aP q1;have d1:=pT h3;have a1:=X _ _ h1;have a2:h.get? p.2=a7 { cls:=.none,data:=.fields #[] }:=(X _ _ h2).trans (congrArg a7 (OD (aP q2) (ZA.mp q3) (uh q4 λps r1 r2=>(pT r1).trans (congrArg _ (Array.isEmpty_iff.mp r2))) (Array.isEmpty_iff.mp q5)));have g0:=aP q6;obtain⟨f1,f2,g2⟩:=LG q7;obtain⟨i1,i2,g3⟩:=Fs q8;obtain⟨b1,g4⟩:=I6 q9;obtain⟨t1,t2,g5⟩:=Fs W3;have d4:p.1≠p.2:=λhh=>by rw[hh,Nat.beq_refl]at e;show XA e
 have g1:=at_of g0 nofun;show Gi (cf (#[]) ⟨_,_,_,_,_,_,_,_,_,_,a1,d1,g0,g2,g3,g4,g5,a2,rfl,trivial,d4⟩ ⟨⟨_,_,a1,c1,d1,g1⟩,a2⟩ (λai v hv=>by injection hv)) (eE _ _ _ a1 c1 d1 g1) a2
theorem I8{l:OpenLaw}{aO:List WData}:l.row.claim.post aO (.bool a9) aO=a9:=by
 change(WShape.has [] (.bool a9) .bool && (WTm.eq .res (.lit (.bool a9))).holds [] { args:=aO,res:=a7 (.bool a9),after:=aO })=a9;have h1:WShape.has [] (.bool a9) .bool=a9:=by decide
 have h2:same (.bool a9) (.bool a9)=a9:=by show same_self (WData.bool a9)
 have hv:(WTm.eq .res (.lit (.bool a9))).value [] { args:=aO,res:=a7 (.bool a9),after:=aO }=a7 (.bool a9):=congrArg (λb=>a7 (WData.bool b)) h2;show X9.mpr ⟨h1,?_⟩;unfold WTm.holds;rw[hv]
theorem BH{l:OpenLaw}{w:World}{bD aH:Shared}{aO:List WData}{fa a0:Addr}{ns:List Int}{vs:List Value}{od:Nat}
  (X:∀b o,bD.heap.get? b=a7 o->aH.heap.get? b=a7 o) (hk:JE.all (λa=>(bD.heap.get? a).isSome)=a9) (ht:(de (zS bD.heap)).all (LJ bD.heap)=a9)
  (tk:0<aH.toks) (lim:aH.heap.NoLimit) (OE:aH.gens=#[])
  (hl:aH.heap.get? a0=a7 (listOf vs.toArray od)) (Lc:IntsAre vs ns)
  (ok:bk ⟨l.row.prog,w,zS bD.heap,callerA,⟨0,[]⟩⟩ (.ref fa) [.fl (ns.map AV.int)] [] fun  x u=>x=.bool a9) :
  wpAny (model l.row.prog w) callerA ((λf vs=>call f vs) (.ref fa) [.ref a0]) (λv s'=>GoodWG l.row.claim (classAt bD.heap) (ExcName.means bD.heap) aO aH (.ok (.ret v)) s')
   (λe s'=>GoodWG l.row.claim (classAt bD.heap) (ExcName.means bD.heap) aO aH (.error e) s') aH:=by
 have X2:(zS bD.heap).In aH.heap:=λa o e=>X a o (Fq hk a o e);have tabs:∀p∈de (zS bD.heap),fG aH.heap p.1 p.2/\isCodeTable aH.heap p.2/\aH.heap.get? p.2=a7 { cls:=.none,data:=.fields #[] }:=λp hp=>I7 X (X8.mp ht p hp);have rel:Rel (zS bD.heap) ⟨aH.heap,fun  u=>(0,0),[]⟩:=⟨X2,lim,(λi o e=>by trivial),(λa m=>by cases m),(λm=>by cases m),.nil,λp hp=>(tabs p hp).1⟩
 have W4:bY ⟨aH.heap,fun  u=>(0,0),[]⟩ (ns.map AV.int) vs:=by
  clear hl ok;induction Lc with|nil=>show .nil|cons z t _ ih=>show .cons (.int z t) ih
 have r:bY ⟨aH.heap,fun  u=>(0,0),[]⟩ [.fl (ns.map AV.int)] [.ref a0]:=.cons (.fl hl (λm=>by cases m) W4) .nil;show YD (Yr (ok ⟨aH.heap,fun  u=>(0,0),[]⟩ aH [.ref a0] tk rfl rel rfl r) ?_)
 rintro res s' ⟨v,W',x,rfl,hh,st,RT,vr,sh,rfl⟩
 cases vr;show⟨.inl (mw (.bool a9) (.bool a9) ([]) rfl (fun  u=>rfl) (.bool _) I8 (fun  u=>⟨.nil,λa m=>by cases m⟩)),?_,sh.1,sh.2.bare (.of_eq OE)⟩;rw[<-hh];have keep:=st.keep;have JG:∀p∈de (zS bD.heap),∃ps,W'.h.get? p.2=a7 { cls:=.none,data:=.fields ps }:=λp hp=>by show bV (RT.tab p hp) fun  ps u Az u=>?_;obtain⟨_,t⟩:=Az;show⟨ps,t⟩
 show⟨λb o e=>?_,λb o e=>?_⟩
 .by_cases hb:b∈bp (zS bD.heap)
  .show bb (Xr.mp hb) λp hp jN=>?_;clear hb;subst jN;show pJ (tabs p hp) fun  u q1 q2=>?_;show xE (JG p hp) λps q3=>?_;rw[q2]at e;obtain rfl:=Xe e;show .inr (.inl (Gi q1 rfl (dC (#[]) ps rfl ?_)));rw[q3];simp
  .show .inl (keep b o e (λm=>by cases m) hb).1
 .by_cases hb:b∈bp (zS bD.heap)
  .show bb (Xr.mp hb) λp hp rJ=>?_;clear e hb;subst rJ;show xE (JG p hp) λps q3=>?_;show⟨_,q3⟩
  .show⟨o,(keep b o e (λm=>by cases m) hb).1⟩
theorem BI:cM callerA 100:=⟨rfl,by decide,by decide,⟨_,rfl⟩⟩
noncomputable def LK(p:Program)(w:World)(cD:Nat)(ann:Option Value):Nat->SharedT->Thread->Option SharedT
 |0,_,_=>a8
 |n+1,s,t=>bif through t then a7 s else bif stepOk cD ann t then(stepT (denote treeTable) p w s t).bind λr=>LK p w cD ann n r.1 r.2 else a8
theorem I9{p:Program}{cD:Nat}{ann:Option Value}:∀{s s':SharedT} {t:Thread},LK p w cD ann n s t=a7 s'->topRun treeTable p w cD ann n s.abs t=a7 s'.abs:=by
 induction n with
 |zero=>showλh=>fZ h
 |succ n ih=>
  intro s s' t h;have e:topRun treeTable p w cD ann (n+1) s.abs t=bif through t then a7 s.abs else bif stepOk cD ann t then(match step (denote treeTable) p w s.abs t with|.go s' t'=>topRun treeTable p w cD ann n s' t'|.halt _ _=>a8)else a8:=by kernel_rfl
  replace h:(bif through t then a7 s else bif stepOk cD ann t then(stepT (denote treeTable) p w s t).bind _ else a8)=a7 s':=h;rw[e];clear e;cases ht:through t with
  |true=>rw[ht]at h;show congrArg (λx=>a7 (SharedT.abs x)) (Xe h)
  |false=>
   rw[ht]at h;cases hk:stepOk cD ann t with|false=>rw[hk]at h;show fZ h|true=>rw[hk]at h;obtain⟨r,hs,h⟩:=YE.mp (h:(stepT (denote treeTable) p w s t).bind _=_);change(match step (denote treeTable) p w s.abs t with|.go s' t'=>topRun treeTable p w cD ann n s' t'|.halt _ _=>a8)=_;rw[stepT_spec hs];show ih h
noncomputable def treeOf:List Obj->BT->Nat->Option (BT×Nat)
 |[],t,n=>a7 (t,n)
 |o::l,t,n=>bif ((t.ins n o).get n).isSome then treeOf l (t.ins n o) (n+1)else a8
theorem BJ{life:Life}{l:List Obj}:∀{t t':BT} {n n':Nat},treeOf l t n=a7 (t',n')->absHeap t' n' life=⟨(absHeap t n life).objs++l.toArray,life⟩:=by
 induction l with
 |nil=>intro t t' n n' h;injection h with h;injection h with h1 h2;subst h1 h2;show congrArg (Heap.mk · life) Array.append_empty.symm
 |cons o l ih=>
  intro t t' n n' h;replace h:(bif ((t.ins n o).get n).isSome then treeOf l (t.ins n o) (n+1)else a8)=a7 (t',n'):=h;cases e:((t.ins n o).get n).isSome with|false=>rw[e]at h;show fZ h|true=>rw[e]at h;rw[ih h,absHeap_ins e];show congrArg (Heap.mk · life) ?_;change(absHeap t n life).objs.push o++l.toArray=_;simp
noncomputable def Ft(p:Program)(w:World)(N:Nat)(F:SharedT->β)(s:Shared):Option β:=bif s.heap.isNs mainGlobals && s.gens.size==0 then
 (treeOf s.heap.objs.toList .nil 0).bind λx=>(LK p w s.heap.objs.size (s.heap.nsMap mainGlobals "__annotations__") N ⟨x.1,x.2,s.heap.life,s.gens,s.drawn,s.toks,s.os⟩ (topStub p)).bind λaH=>bif staticsOk (importedModules p.main.body) s.heap aH.abs.heap && namesBound p aH.abs.heap && gensDone aH.abs && laidKept s.heap aH.abs.heap then a7 (F aH)else a8 else a8
theorem Fu{p:Program}{F:Shared->β}{G:SharedT->β}{b:β}(hF:∀s,G s=b->F s.abs=b)(h:Ft p w N G s=a7 b):(topFrom treeTable p w N s).map F=a7 b:=by
 unfold Ft at h;unfold topFrom;cases e:(s.heap.isNs mainGlobals && s.gens.size==0)with
 |false=>rw[e]at h;show fZ h
 |true=>
  rw[e]at h;obtain⟨⟨t,n⟩,e1,h⟩:=YE.mp (h:Option.bind _ _=_);obtain⟨aH,e2,h⟩:=YE.mp h;have e3:absHeap t n s.heap.life=s.heap:=(BJ e1).trans (by change Heap.mk (#[]++_) _=_;rw[Array.empty_append]);have e4:topRun treeTable p w _ _ N ⟨absHeap t n s.heap.life,s.gens,s.drawn,s.toks,s.os⟩ _=_:=I9 e2;rw[e3]at e4;change((topRun _ _ _ _ _ _ s _).bind _).map F=_;rw[e4];change(match staticsOk (importedModules p.main.body) s.heap aH.abs.heap && namesBound p aH.abs.heap && gensDone aH.abs && laidKept s.heap aH.abs.heap with|true=>a7 aH.abs|false=>a8).map F=_;cases e5:(staticsOk (importedModules p.main.body) s.heap aH.abs.heap && namesBound p aH.abs.heap && gensDone aH.abs && laidKept s.heap aH.abs.heap)with|true=>rw[e5]at h;show congrArg a7 (hF _ (Xe h))|false=>rw[e5]at h;show fZ h
theorem Ia{p q:Program}{loose:List Pi}{Xt:Shared->Bool}{Yf:Shared->α}{Ya:World->α}{N:Nat}{Yt:SharedT->α}(hY:∀s w,Yt s=Ya w->Yf s.abs=Ya w)
  (h:∀w,(fencedOpening treeTable p w N).bind (Ft p w N λs=>(openSeen q loose (importedModules p.main.body) Xt a9 s.abs,Yt s))=a7 (openGood q loose,Ya w)):LeftO p q loose Xt Yf Ya N:=λw=>by
 obtain⟨s,e,h2⟩:=YE.mp (h w);unfold openEnds;rw[e];show Fu (λs h=>?_) h2;injection h with h1 h2
 rw[h1,hY s w h2]
noncomputable def qV:Program:={ PySem.Challenge.pw_qu0058_02 with main:={ PySem.Challenge.pw_qu0058_02.main with body:=[top 0,top 22] } }
noncomputable def TD:List Pi:=EJ.map (·.1)++yi.map (·.1)++(["NL", "EMPTYSTRING"]:List Pi)
noncomputable abbrev RU:=List (Option ((FuncBody×Arguments×Scope)×(Addr×Addr×List (Pi×Addr))×Value×Value))
noncomputable def yB(K:Frag)(h:Heap)(n:Nat):Bool:=@decide _ (Oj PySem.Challenge.pw_qu0058_02 K) && ((de K).all (LJ h) && (Nat.blt 0 n && decide (nsIn K mainGlobals "law" = a7 (a7 (.ref 275)))))
noncomputable def yf(s:Shared):Bool×RU:=(JE.all (λa=>(s.heap.get? a).isSome) && yB (zS s.heap) s.heap s.toks,jJ.map λp=>Ls (zS s.heap) p.1)
noncomputable def ya(_:World):Bool×RU:=(a9,jJ.map Mr)
noncomputable def LN(s:SharedT):Frag:=JE.map λa=>(a,((s.tree.get a).bind alive).getD default)
noncomputable def yT(s:SharedT):Bool×RU:=(JE.all (λa=>Nat.blt a s.n && ((s.tree.get a).bind alive).isSome) && yB (LN s) s.abs.heap s.toks,jJ.map λp=>Ls (LN s) p.1)
theorem OF(s:SharedT)(w:World)(h:yT s=ya w):yf s.abs=ya w:=by
 injection h with h1 h2
 show jB h1 λh3 h4=>?_;have at_:∀a∈JE,∃o,(s.tree.get a).bind alive=a7 o/\s.abs.heap.get? a=a7 o:=λa m=>jB (X8.mp h3 a m) λq1 q2=>by obtain⟨o,ho⟩:=Zd.mp q2;obtain⟨o',h5,h6⟩:=YE.mp ho;show⟨o,ho,(abs_get (XK q1) h5).trans h6⟩
 have e:LN s=zS s.abs.heap:=ZK λa m=>by obtain⟨o,h5,h6⟩:=at_ a m;rw[h5,h6]
 have e2:JE.all (λa=>(s.abs.heap.get? a).isSome)=a9:=X8.mpr λa m=>by obtain⟨o,h5,h6⟩:=at_ a m;rw[h6];rfl
 rw[e]at h4 h2;show Acn (X9.mpr ⟨e2,h4⟩) h2
set_option maxHeartbeats 0 in
theorem LO:LeftO PySem.Challenge.pw_qu0058_02 qV TD (fun  u=>a9) yf ya 2000:=Ia OF λw=>by kernel_rfl
end
section
open PySem PySem.W PyProof.Rows PySem.Builtin PySem.Builtin.Str PySem.Builtin.List
local macro_rules | `(tactic| ext) => pure (zzo "ss" [])
local macro_rules | `(tactic| left) => pure (zzo "hs" [])
noncomputable abbrev gi:Type:=List Nat×Option (List Nat)
noncomputable def eB:Option (List Nat)->AV
 |none=>.none
 |some v=>S v
noncomputable def ou(x:gi):AV:=.tup [S x.1,eB x.2]
theorem yu(k:List Nat):ou (k,a8)=.tup [S k,.none]:=rfl
theorem yv(k v:List Nat):ou (k,a7 v)=.tup [S k,S v]:=rfl
noncomputable def qZ(ls:List (List gi)):AV:=.fl (ls.map λl=>.fl (l.map ou))
noncomputable def fb(v:List Nat):Bool:=!v.isEmpty && v.all Rx.dW
noncomputable def bR(x:gi):List Nat:=match x.2 with|none=>x.1|some v=>x.1++[61]++(if fb v then v else[34]++aG v++[34])
noncomputable def Ib(ls:List (List gi)):List Nat:=glue [44,32] ((ls.filter λl=>!l.isEmpty).map λl=>glue [59,32] (l.map bR))
def ui(x:gi):Prop:=x.1.length<=1000/\∀v,x.2=a7 v->v.length<=900
theorem gE(l:List Nat):(aG l).length<=2*l.length:=by
 induction l with|nil=>show Xd _|cons a l ih=>have:aG (a::l)=(if Rx.dD a then[a]else[92,a])++aG l:=rfl;rw[this,Xg,Xs];split<;>simp only[Xs,XU]<;>omega
theorem yw{x:gi}(h:ui x):(bR x).length<=3000:=by
 unfold bR;obtain⟨k,v⟩:=x;have h1:k.length<=1000:=h.1;cases v with|none=>dsimp only;show"La1000La3000" h1|some v=>have h2:v.length<=900:=h.2 v rfl;have h3:=gE v;dsimp only;split<;>simp only[Xg,Xs,XU]<;>omega
theorem sS:∀l:List gi,(∀x∈l,ui x)->((l.map bR).map λt=>t.length+([59,32]:List Nat).length).sum<=l.length*3002:=by
 intro l;induction l with|nil=>intro _;show Xn _|cons p l ih=>intro h;have h1:=yw (h p (.head _));have h2:=ih λq hq=>h q (.tail _ hq);simp only[Xu,Y4,Xs,XU]at h2 ⊢;show"La3000Lb:c3002L++a++0.1.1b:+c1.3002" h1 h2
theorem r7(sep:List Nat):∀ts:List (List Nat),(glue sep ts).length<=(ts.map λt=>t.length+sep.length).sum
 |[]=>by show Xd _
 |[x]=>by change x.length<=x.length+sep.length+0;show Yd x.length sep.length
 |x::y::r=>by have:=r7 sep (y::r);change(x++sep++glue sep (y::r)).length<=x.length+sep.length+_;rw[Xg,Xg];show(λ{m k n}=>Ac4.mpr) this
theorem BK:∀ls:List (List gi),(∀l∈ls,l.length<=10/\∀x∈l,ui x)->((((ls.filter λl=>!l.isEmpty).map λl=>glue [59,32] (l.map bR))).map λt=>t.length+([44,32]:List Nat).length).sum<=ls.length*40000:=by
 intro ls;induction ls with
 |nil=>intro _;show Xn _
 |cons p l ih=>
  intro h;have h1:=h p (.head _);have h2:=ih λq hq=>h q (.tail _ hq);have h3:=sS p h1.2;have h4:=r7 [59,32] (p.map bR);rw[List.filter_cons];split
  .simp only[Xu,Y4,Xs,XU]at h2 ⊢;omega
  .simp only[Xs]at h2 ⊢;show"La:b40000La:+b1.40000" h2
theorem zU{l:List Nat}(hl:l.length<=1000):Rx.Goes 100000 (AaU Rx.gr l.toArray 0 0 l.length a9 ac) (λm=>if fb l=a9 then m.outcome=a7 .matched/\m.start=0/\m.handed=l.length else m.outcome=a7 .failed):=by
 by_cases h:fb l=a9
 .unfold fb at h;simp only[YP,Z7,List.isEmpty_eq_false_iff,X8]at h
  have:=Rx.CY hl h.1 h.2;have h':fb l=a9:=by unfold fb;simp[h.1];show h.2
  simp only[h',if_true];show this.le (Xx _ _)
 .have h':fb l=ac:=by simpa using h
  simp only[h',ZV,if_false];show Rx.Av hl ?_;unfold fb at h';simp only[Adr,Bool.not_eq_false',Acl,List.all_eq_false]at h';rcases h' with h'|⟨x,hx,hb⟩
  .show .inl h'
  .show .inr (bd x hx (by simpa using hb))
inductive OG(ls:List (List gi))(H:List AO)(r:List AV)(P:List AO)(l:Loc):Prop
 |mk:∀dn td,(r=td.map (λl=>.fl (l.map ou)))->(ls=dn++td)->(P=H++[.lst ((((dn.filter λl=>!l.isEmpty).map λl=>glue [59,32] (l.map bR))).map S)])->(bh l "headers" (.ref H.length))->OG ls H r P l
inductive OH(ws:List gi)(H:List AO)(uw:AO)(G:List AO)(r:List AV)(P:List AO)(l:Loc):Prop
 |mk:∀sT wM,(r=wM.map ou)->(ws=sT++wM)->(P=H++[uw]++G++[.lst ((sT.map bR).map S)])->(bh l "headers" (.ref H.length))->(bh l "attr" (.ref (H++[uw]++G).length))->OH ws H uw G r P l
inductive OI(H:List AO)(uw:AO)(G:List AO)(sT:List gi)(G2:List AO)(k:List Nat)(v:Option (List Nat))(fl:AF)(H':List AO)(l':Loc):Prop
 |mk:(fl=.next)->((H'=H++[uw]++G++[.lst ((sT.map bR).map S)]++G2))->(bh l' "headers" (.ref H.length))->(bh l' "attr" (.ref (H++[uw]++G).length))->(bh l' "k" (S (bR (k,v))))->OI H uw G sT G2 k v fl H' l'
section
variable {af:Program}{w:World}{K:Frag}{A:Around}{f:Fp}(kf:KF af K){n:Nat}(hA:cM A (n+10)){H:List AO}{Q:AV->List AO->Prop}
include kf hA in
theorem Ic{ls:List (List gi)}(hl:ls.length<=10)(hw:∀l∈ls,l.length<=10/\∀x∈l,ui x)(q:Q (S (Ib ls)) H):bk ⟨af,w,K,A,f⟩ (.ref 253) [qZ ls] H Q:=by
 revert af w K A f n H Q ls;delta af w K A f;intro kf;delta n;intro hA;delta H Q ls;intro hl hw q;show d0 hA kf.Jn (.inl rfl) rfl (by decide) rfl rfl rfl rfl rfl rfl ?_;delta L q' aj A';intro db E ct hb hu;show dH ct λcc T iI hm=>?_;ext;show dX ?_;ext;show(ke).ok (bd _ rfl (gD (N:=H.length+1) db.handled jA (by simp) (.inr (XG rfl)) (OG ls H) (λr P l hI=>by obtain⟨dn,td,_,_,e,_⟩:=hI;rw[e];show GK) ⟨_,_,rfl,[],ls,rfl,rfl,rfl,rfl⟩ ?_ ?_))
 .rintro x r P G l jO ⟨dn,td,er,Mu,rfl,eh⟩
  cases td with
  |nil=>cases er
  |cons ws td=>
  injection er with ex er
  subst ex er;show xA (hw ws (by rw[Mu];show ZC)) λwk wl=>?_;ext;show dX ?_;ext;show(ke).ok (bd _ rfl ?_);have RV:((ws.map bR).map λt=>t.length+([59,32]:List Nat).length).sum<=sizeLine:=Xf (sS ws wl) (by show jh ?_;show"La10L:a3002.100000" wk);generalize TF:AO.lst ((((dn.filter λl=>!l.isEmpty).map λl=>glue [59,32] (l.map bR))).map S)=uw;show gD (N:=(H++[uw]++G).length+1) db.handled jA (by simp;show Xd _) uU (OH ws H uw G) (λr P l hI=>by obtain⟨dn,td,_,_,e,_⟩:=hI;show aE e ?_;simp;rfl) ⟨_,_,rfl,[],ws,rfl,rfl,rfl,bh.put (bh.put eh rfl) rfl,bh.new⟩ ?_ ?_
  .rintro x r P G2 l jO ⟨sT,wM,er,LQ,rfl,eh,ea⟩
   cases wM with
   |nil=>cases er
   |cons x wM=>
   injection er with ex er
   subst ex er;obtain⟨k,v⟩:=x;have hx:=wl (k,v) (by rw[LQ];show ZC);have Mv:k.length<=1000:=hx.1;show ic db.handled rfl rfl ?_;show"in";show"in";show jS (execs_cons (Ok.mono (Q:=OI H uw G sT G2 k v) ?_ ?_))
   .cases v with
    |none=>ext;show Ab5 (b:=ac) (.inl ⟨rfl,rfl⟩) (cf _ rfl (nofun) (λ_=>?_));ext;show⟨rfl,rfl,bh.put (bh.put eh rfl) rfl,bh.put (bh.put ea rfl) rfl,bh.put bh.new rfl⟩
    |some v=>
     have wN:v.length<=900:=hx.2 v rfl;ext;show Ab5 (b:=a9) (.inr (.inl ⟨⟨_,rfl⟩,rfl⟩)) (cf _ rfl (λ_=>?_) (nofun));by_cases hb:fb v=a9
     .ext;show bx (eZ kf.w9 Rf.fY Rf.mS) ?_;ext;show lK (l:=v) kf.w9 (by show"La900La1000" wN) (zU (by show"La900La1000" wN)) (by show"L100000*4.18446744073709551616") ?_;rw[aQ hb];show l7 ⟨nofun,λ_=>?_⟩;ext;show cf k rfl (iT ‹_›) (cf k rfl (by simp;show iT ‹_›) ?_);ext;show cf ([61]) rfl (by simp;show jh ?_;show"La1000L+a1.100000" Mv) ?_;ext;show cf v rfl (by show jh ?_;show"La900La100000" wN) ?_;show cf v rfl (by simp;show jh ?_;show"La1000Lb900L+a+b1.100000" Mv wN) ?_;ext;show⟨by simp;show jh ?_;show"La1000Lb900L+a+b1.100000" Mv wN,?_⟩;ext;show⟨rfl,rfl,bh.put (bh.put (bh.put eh rfl) rfl) rfl,bh.put (bh.put (bh.put ea rfl) rfl) rfl,?_⟩;have e:bR (k,a7 v)=k++[61]++v:=by unfold bR;dsimp only;rw[aQ hb]
      show aE e bh.new
     .ext;show bx (eZ kf.w9 Rf.fY Rf.mS) ?_;ext;show lK (l:=v) kf.w9 (by show"La900La1000" wN) (zU (by show"La900La1000" wN)) (by show"L100000*4.18446744073709551616") ?_;rw[aI hb];show AaQ ⟨λ_=>?_,nofun⟩;show"s";show"s";show sF (n:=n+7) (cc:=cc) (T:=T) (x:="_m") (a:=246) (l:=v) (mq:=jz v) (rep:=λt=>92::t) E db hm kf.tabs kf.blt iI kf.nm.choose_spec rfl (kf.gp "HEADER_JOIN_ESCAPE_RE" _ rfl) rfl kf.Ju rfl rfl rfl (λfd vs e1 e2 hl=>by(show xE (Abt.mp hl) λv iO=>?_;subst iO);obtain⟨nm,qn,ps,aB,al,gl,cl,dv,KV,r1,r2,r3,r4,r5,r6⟩:=fd;dsimp only at e1 e2;subst e1 e2;rfl)
       rfl rfl rfl rfl (by decide) (λg e P pC k=>sK (l:=v) E rfl rfl (by show"lk") rfl g e P pC k) rfl rfl (by show"La900La1000" wN) (λp hp=>yc (by show"La900La1000" wN) hp) Bw (λL2 q2 W6 A2 f2 H2 x1 x2 b e' W7 E2=>?_) (λt ht=>by simp;show"La1000La1999" ht) rfl (λ_ e=>by subst e;rfl) ?_
      .ext;show Ez ?_;ext;show bx (l4 Rf.fA Rf.ku) ?_;ext;have PJ:((v.drop b).take (e' - b)).length<=900:=by rw[XJ,XW];show"La900L<-bc-ac900" wN
       show kA (l:=v) (a:=0) (by show jh ?_;show"La900La100000" wN) (qv (by show jh ?_;show"La900La100000" PJ) ⟨λ_=>?_,λyx=>?_⟩)
       .show dQ (a:=[92]) (by simp;show jh ?_;show"La900L+1<-bc-ac100000" wN) ?_;show⟨rfl,rfl⟩
       .have RW:(v.drop b).take (e' - b)=[]:=by simpa using yx
        ext;show dQ (a:=[92]) (b:=[]) (by simp;unfold sizeLine;show XQ _) ?_;show aE RW ⟨rfl,rfl⟩
      ·(show aE (Bx _ _ (Acv v.length 0)) ?_;rw[Zi])
       have he:=gE v;ext;show DA (by show"La900Lb*2aLb1000000" wN he) ?_;ext;show cf k rfl (iT ‹_›) (cf k rfl (by simp;show iT ‹_›) ?_);ext;show cf ([61]) rfl (by simp;show jh ?_;show"La1000L+a1.100000" Mv) ?_;ext;show cf ([34]++aG v++[34]) rfl (by simp;show jh ?_;show"La900Lb*2aL++b1.1.100000" wN he) ?_;show cf ([34]++aG v++[34]) rfl (by simp;show jh ?_;show"La1000Lb900Lc*2bL+a+++c1.1.1.100000" Mv wN he) ?_;ext;show⟨by simp;show jh ?_;show"La1000Lb900Lc*2bL+a+++c1.1.1.100000" Mv wN he,?_⟩;ext;have e:bR (k,a7 v)=k++[61]++([34]++aG v++[34]):=by unfold bR;dsimp only;rw[aI hb]
       show⟨rfl,rfl,?_,?_,by show aE e ?_;show bh.new⟩
       .show bh.put (bh.put (bh.put (bh.put (bh.put eh rfl) rfl) rfl) rfl) rfl
       .show bh.put (bh.put (bh.put (bh.put (bh.put ea rfl) rfl) rfl) rfl) rfl
   .rintro fl H' l' ⟨rfl,rfl,g1,g2,g3⟩
    have eR:(H++[uw]++G++[AO.lst ((sT.map bR).map S)]++G2)[(H++[uw]++G).length]?=a7 (.lst ((sT.map bR).map S)):=bq jM;ext;show bx (bG eR) ?_;ext;show YH eR rfl (bW eR) (by simp;have:sT.length<=ws.length:=(by rw[LQ];show wH);show"La10LbaLb100000" wk this) ?_;ext;show⟨H++[uw]++G++[.lst (((sT++[(k,v)]).map bR).map S)],[],?_,sT++[(k,v)],wM,rfl,by show aE LQ ?_;show Cz,rfl,g1,g2⟩;rw[Zf _ _ IH,Xv];congr 1;rw[set_tail];simp[bX]
  .rintro P G2 l ⟨sT,wM,er,LQ,rfl,eh,ea⟩
   cases wM with
   |cons x wM=>cases er
   |nil=>
   have LQ:ws=sT:=by simpa using LQ
   subst LQ;have eR:(H++[uw]++G++[AO.lst ((ws.map bR).map S)]++G2)[(H++[uw]++G).length]?=a7 (.lst ((ws.map bR).map S)):=bq jM;have OJ:(H++[uw]++G++[AO.lst ((ws.map bR).map S)]++G2)[H.length]?=a7 uw:=bq (bq (bq jM));ext;show gT (.inr (bd _ rfl eR)) (by simp;show jh ?_;show"La10La100000" wk) ⟨λhb=>?_,λhb=>?_⟩
   .have d4:ws.isEmpty=ac:=by simpa using hb
    subst TF;ext;show bx (bG OJ) ?_;ext;show gA (.inr (bd _ rfl eR)) RV ?_;ext;show YH OJ rfl (bW OJ) (by simp;have:(dn.filter λl=>!l.isEmpty).length<=dn.length:=(Adm _ _);have:dn.length<=ls.length:=(by rw[Mu];show wH);omega) ?_;ext;show⟨H++[.lst (((((dn++[ws]).filter λl=>!l.isEmpty).map λl=>glue [59,32] (l.map bR))).map S)],[.lst ((ws.map bR).map S)]++G2,?_,dn++[ws],td,rfl,by rw[Mu];show Cz,rfl,eh⟩;simp[bX,List.filter_append,d4]
   .have d4:ws.isEmpty=a9:=by simpa using hb
    subst TF;ext;show⟨H++[.lst (((((dn++[ws]).filter λl=>!l.isEmpty).map λl=>glue [59,32] (l.map bR))).map S)],[.lst ((ws.map bR).map S)]++G2,?_,dn++[ws],td,rfl,by rw[Mu];show Cz,rfl,eh⟩;simp[List.filter_append,d4]
 .rintro P G l ⟨dn,td,er,Mu,rfl,eh⟩
  cases td with
  |cons ws td=>cases er
  |nil=>
  have RX:ls=dn:=by simpa using Mu
  subst RX;have OJ:(H++[AO.lst ((((ls.filter λl=>!l.isEmpty).map λl=>glue [59,32] (l.map bR))).map S)]++G)[H.length]?=a7 (AO.lst ((((ls.filter λl=>!l.isEmpty).map λl=>glue [59,32] (l.map bR))).map S)):=bq jM;ext;show gA (.inr (bd _ rfl OJ)) ?_ ?_
  .show Xf (BK ls hw) (by unfold sizeLine;show"La10L:a40000.16777216" hl)
  .rw[Xq];show vX (G:=[AO.lst ((((ls.filter λl=>!l.isEmpty).map λl=>glue [59,32] (l.map bR))).map S)]++G) (Xd _) hb rfl q
end
section
variable {i0 m k:Nat}
theorem Rx.Goes.mono{m:Sre.M}{P P':Sre.M->Prop}(x:Rx.Goes N m P)(h:∀m,P m->P' m):Rx.Goes N m P':=let⟨n,a,b,c⟩:=x;(cf n a b (h _ c))
def OK(t:List Nat):Prop:=∃N,N<=4*2 ^ 64/\Rx.Goes N (XH Rx.eG t.toArray 1 0 t.length ac) (λm=>m.outcome=a7 .failed)
inductive yz(t:List Nat):Option (List Nat)->List Nat->Prop
 |quoted (n q:Nat):t[Rx.dP t]?=a7 61->t[Rx.aZ t]?=a7 34->Rx.QB t n (Rx.aZ t+1+Rx.cnt Rx.dD t (Rx.aZ t+1)) q->yz t (a7 (j9 ((t.drop (Rx.aZ t+1)).take (q-(Rx.aZ t+1))))) (t.drop (q+1))
 |bare:OK t->t[Rx.dP t]?=a7 61->yz t (a7 (iG XD ((t.drop (Rx.aZ t)).take (Rx.aZ t+Rx.cnt Rx.isVal t (Rx.aZ t)-Rx.aZ t)))) (t.drop (Rx.aZ t+Rx.cnt Rx.isVal t (Rx.aZ t)))
 |none:t[Rx.dP t]?≠some 61->yz t .none t
inductive PT:Nat->List Nat->List gi->List (List gi)->List (List gi)->Prop
 |done {m:Nat} {ps:List gi} {rs:List (List gi)}:PT m [] ps rs (if ps.isEmpty then rs else rs++[ps])
 |word {m:Nat} {t t2:List Nat} {v:Option (List Nat)} {ps:List gi} {rs out:List (List gi)}:t≠[]->0<Rx.cnt Rx.dO t (Rx.cnt Rx.bI t 0)->
   yz (t.drop (Rx.cnt Rx.bI t 0+Rx.cnt Rx.dO t (Rx.cnt Rx.bI t 0))) v t2->PT m t2 (ps++[((t.drop (Rx.cnt Rx.bI t 0)).take (Rx.cnt Rx.bI t 0+Rx.cnt Rx.dO t (Rx.cnt Rx.bI t 0)-Rx.cnt Rx.bI t 0),v)]) rs out->PT (m+1) t ps rs out
 |comma {m:Nat} {t:List Nat} {ps:List gi} {rs out:List (List gi)}:t≠[]->Rx.cnt Rx.dO t (Rx.cnt Rx.bI t 0)=0->[44].isPrefixOf (t.dropWhile XD)=a9->
   PT m ((t.dropWhile XD).drop 1) [] (if ps.isEmpty then rs else rs++[ps]) out->PT (m+1) t ps rs out
 |LR {m:Nat} {t:List Nat} {ps:List gi} {rs out:List (List gi)}:t≠[]->Rx.cnt Rx.dO t (Rx.cnt Rx.bI t 0)=0->[44].isPrefixOf (t.dropWhile XD)=ac->
   PT m (t.dropWhile Rx.cJ) ps rs out->PT (m+1) t ps rs out
inductive Gu:List (List Nat)->List (List gi)->List (List gi)->Prop
 |nil {r:List (List gi)}:Gu [] r r
 |cons {m:Nat} {t:List Nat} {ts:List (List Nat)} {r r' out:List (List gi)}:t.length<=1000->m<=2000->PT m t [] r r'->Gu ts r' out->Gu (t::ts) r out
noncomputable def Frs(i0 m:Nat)(H:List AO):List Nat->List (List gi)->Prop
 |[],[]=>True
 |j::js,p::ps=>(i0<j/\j<m/\H[j]?=a7 (.lst (p.map ou)))/\Frs i0 m H js ps
 |_,_=>False
theorem Frs.mono{m':Nat}{H':List AO}(hm:m<=m')(h:∀j o,i0<j->j<m->H[j]?=a7 o->H'[j]?=a7 o):∀{js:List Nat} {ps:List (List gi)},Frs i0 m H js ps->Frs i0 m' H' js ps
 |[],[],_=>trivial
 |[],_::_,x=>x.elim
 |_::_,[],x=>x.elim
 |j::js,p::ps,x=>⟨⟨x.1.1,XB x.1.2.1 hm,h _ _ x.1.1 x.1.2.1 x.1.2.2⟩,Frs.mono hm h x.2⟩
theorem Frs.snoc{p:List gi}(hi:i0<k)(hm:k<m)(hk:H[k]?=a7 (.lst (p.map ou))):∀{js:List Nat} {ps:List (List gi)},Frs i0 m H js ps->Frs i0 m H (js++[k]) (ps++[p])
 |[],[],_=>⟨⟨hi,hm,hk⟩,trivial⟩
 |[],_::_,x=>x.elim
 |_::_,[],x=>x.elim
 |j::js,q::ps,x=>⟨x.1,Frs.snoc hi hm hk x.2⟩
theorem Fw{x:gi}:(ou x).gX n=a9:=by obtain⟨k,v⟩:=x;cases v<;>rfl
theorem Frs.fz(hn:n<=i0):∀{js:List Nat} {ps:List (List gi)},Frs i0 m H js ps->iU H n (js.map AV.ref) (ps.map λp=>.fl (p.map ou))
 |[],[],_=>.nil
 |[],_::_,x=>x.elim
 |_::_,[],x=>x.elim
 |j::js,p::ps,x=>.cons (.lst (by have:=x.1.1;show"LabTbcLac" hn this) x.1.2.2 (iU.refl (cN λ_ _=>Fw))) (Frs.fz hn x.2)
structure Sp(H0:List AO)(o0:AO)(m:Nat)(rs:List (List gi))(H:List AO):Prop where
 pre:∃G,H=H0++G
 it:H[H0.length+1]?=a7 o0
 res:∃js,js.length=rs.length/\H[H0.length]?=a7 (.lst (js.map AV.ref))/\Frs (H0.length+1) m H js rs
section
variable {H0:List AO}{o0:AO}{m:Nat}{rs:List (List gi)}
theorem Sp.grow(h:Sp H0 o0 m rs H){F:List AO}:Sp H0 o0 m rs (H++F):=by obtain⟨⟨G,e⟩,it,js,hl,hr,hf⟩:=h;show⟨⟨G++F,by rw[e,Xq]⟩,bq it,js,hl,bq hr,hf.mono (Xd _) λ_ _ _ _ q=>bq q⟩
theorem Sp.up(h:Sp H0 o0 m rs H){m':Nat}(hm:m<=m'):Sp H0 o0 m' rs H:=by obtain⟨p,it,js,hl,hr,hf⟩:=h;show⟨p,it,js,hl,hr,hf.mono hm λ_ _ _ _ q=>q⟩
theorem Sp.HQ(h:Sp H0 o0 m rs H)(hk:m<=k)(hi:H0.length+1<k):Sp H0 o0 m rs (H.set k o):=by obtain⟨⟨G,e⟩,it,js,hl,hr,hf⟩:=h;show⟨⟨G.set (k-H0.length) o,by(show aE e ?_;rw[Ys _ _ (by show"T+a1bLab" hi)])⟩,by rw[XC (Aak ‹_›)];show it,js,hl,by rw[XC (by show"T+a1bDba" hi)];show hr,hf.mono (Xd _) λj o' h1 h2 q=>by rw[XC (by show"LabTcaDbc" hk h2)];show q⟩
theorem Sp.push(h:Sp H0 o0 m rs H){ps:List gi}(hm:m<=k)(hi:H0.length+1<k)(hk:H[k]?=a7 (.lst (ps.map ou))):∃l,H[H0.length]?=a7 (.lst l)/\l.length=rs.length/\Sp H0 o0 (k+1) (rs++[ps]) (H.set H0.length (dI (l++[.ref k]) (.lst l))):=by obtain⟨⟨G,e⟩,it,js,hl,hr,hf⟩:=h;show cf _ hr (by simp[hl]) ⟨⟨G.set 0 _,by(show aE e ?_;rw[Ys _ _ (Xd _),ZZ])⟩,by rw[XC (Nat.ne_add_one H0.length)];show it,js++[k],by simp[hl],by rw[bn hr];simp[bX],?_⟩;show Frs.snoc (by assumption) (by show Xd _) (by rw[XC (by show"T+a1bDab" hi)];show hk) ?_;show hf.mono (by show Abr hm) λj o' h1 h2 q=>by rw[XC (by show"T+a1bDab" h1)];show q
end
section
variable {f:Fp}(kf:KF af K)(hA:cM A (n+10)){Q:AV->List AO->Prop}
include kf hA in
theorem jC{l:List Nat}{s e:Nat}{r:List Int}(hl:l.length<=1000)(hse:s<=e)(Gr:e<=l.length)(q:Q (S (l.take s++l.drop e)) H) :
  bk ⟨af,w,K,A,f⟩ (.ref 209) [.mt ⟨l.toArray⟩ ((s:Int)::(e:Int)::r)] H Q:=by
 show d0 hA kf.Ob (.inl rfl) rfl (by decide) rfl rfl rfl rfl rfl rfl λL q' aj A' db E ct hb hu=>?_;ext;show bx (l4 Rf.o9 Rf.HF) ?_;ext;show HH (ic db.handled rfl rfl ?_);show"in";show"in";show jS ?_;ext;show sE ?_;ext;show bd _ rfl ⟨iD (a:=l),xH (a:=l) (iT ‹_›) ?_⟩;ext;show sE ?_;ext;show bd _ rfl ?_;ext;show⟨iD (a:=l),xH (a:=l) (iT ‹_›) ?_⟩;rw[mY,jc];show dQ (by rw[XJ,XW];show jh ?_;show"La1000L+<ba-ac100000" hl) ?_;show c9 (Xd _) hb rfl q
end
end
theorem PT.len{m:Nat}{ps:List gi}{rs out:List (List gi)}(h:PT m t ps rs out):rs.length<=out.length:=by
 induction h with|done=>split<;>simp|word _ _ _ _ ih=>show ih|comma _ _ _ _ ih=>show Xf ?_ ih;split<;>simp|LR _ _ _ _ ih=>show ih
theorem Gu.len{r out:List (List gi)}(h:Gu ts r out):r.length<=out.length:=by
 induction h with|nil=>show Xd _|cons _ _ h _ ih=>show Xf h.len ih
inductive OL(H:List AO)(out:List (List gi))(r:List AV)(bu:List AO)(l:Loc):Prop
 |mk (td:List (List Nat)) (rs:List (List gi)) (m:Nat) (o0:AO):r=td.map S->Gu td rs out->Sp H o0 m rs bu->m<=bu.length->bh l "result" (.ref H.length)->OL H out r bu l
inductive OM(H:List AO)(o1:AO)(r':List (List gi))(k:Nat)(H':List AO)(l':Loc):Prop
 |mk (t:List Nat) (ps:List gi) (jR:List (List gi)) (pj:Nat):PT k t ps jR r'->Sp H o1 pj jR H'->H.length+1<pj->H'[pj]?=a7 (.lst (ps.map ou))->bh l' "text" (S t)->bh l' "result" (.ref H.length)->bh l' "pairs" (.ref pj)->t.length<=1000->ps.length+k<=5000->OM H o1 r' k H' l'
inductive ON(H:List AO)(o1:AO)(r':List (List gi))(fl:AF)(H':List AO)(l':Loc):Prop
 |mk (ps:List gi) (jR:List (List gi)) (pj:Nat):fl=.next->r'=(if ps.isEmpty then jR else jR++[ps])->Sp H o1 pj jR H'->H.length+1<pj->H'[pj]?=a7 (.lst (ps.map ou))->bh l' "result" (.ref H.length)->bh l' "pairs" (.ref pj)->jR.length<=1000->ps.length<=5000->ON H o1 r' fl H' l'
inductive Ie(H H':List AO)(pj:Nat)(aV nm:List Nat)(v:AV)(fl:AF)(J2:List AO)(DO:Loc):Prop
 |mk:fl=.next->J2=H'->bh DO "text" (S aV)->bh DO "name" (S nm)->bh DO "value" v->bh DO "pairs" (.ref pj)->bh DO "result" (.ref H.length)->Ie H H' pj aV nm v fl J2 DO
section
variable {af:Program}{w:World}{K:Frag}{A:Around}{f:Fp}(kf:KF af K){n:Nat}(hA:cM A (n+30)){H:List AO}{Q:AV->List AO->Prop}
include kf hA in
theorem Fx{ts:List (List Nat)}{out:List (List gi)}(ut:ts.length<=1000)(hp:Gu ts [] out)(ho:out.length<=1000)(q:Q (qZ out) H):bk ⟨af,w,K,A,f⟩ (.ref 236) [.fl (ts.map S)] H Q:=by
 revert af w K A f n H Q ts out;delta af w K A f;intro kf;delta n;intro hA;delta H Q ts out;intro ut hp ho q;show d0 hA kf.EN (.inl rfl) rfl (by decide) rfl rfl rfl rfl rfl rfl ?_;delta L q' aj A';intro db E ct hb hu;show dH ct ?_;delta cc T;intro iI RY;ext;show lC (.inl rfl) (gw ⟨rfl,?_⟩);ext;show dX ?_;ext;show(ke).ok (bd _ rfl ?_);have e1:(H++[AO.lst []]).length=H.length+1:=GK;show aE e1 (vy db.handled (.it (i:=H.length+1) (xs:=ts.map S) SD) (.inr (XG rfl)) (OL H out) ?_ ?_ ?_)
 .show⟨ts,[],H.length+2,.it (ts.map S),rfl,hp,⟨⟨_,by rw[Xq]⟩,by show SD,[],rfl,by show Ur,trivial⟩,by show Us,rfl⟩
 .rintro x r bu d7 l jO ⟨td,rs,m,o0,er,RZ,sp,hm,OO⟩ o S'
  cases td with
  |nil=>cases er
  |cons t td=>
  injection er with ex er
  clear jO;subst ex er;cases RZ with
  |@cons mm _ _ _ r' _ hl Pw ht BL=>
  have TG:r'.length<=1000:=Xf BL.len ho;obtain⟨o1,PK⟩:∃o1,d7[H.length+1]?=a7 o1:=by have h1:=(S'.foot).2 (H.length+1) (.head _);show⟨_,Xk h1⟩
  have TH:Sp H o1 m rs d7:=by
   obtain⟨⟨G,e⟩,it,js,hl,hr,hf⟩:=sp;clear hm it;subst e;show bb (mZ o SH) λG' e hG=>⟨⟨G',e⟩,PK,js,hl,?_,?_⟩
   .rw[o.off _ SI];show hr
   .show hf.mono (Xd _) λj o' h1 h2 q=>by rw[o.off _ (by simp;show Aak ‹_›)];show q
  have TJ:m<=d7.length:=by rw[o.len];show hm
  clear sp hm o;revert d7 l rs m t td mm r' o1;delta d7 l rs m;intro OO;delta t td;intro S';delta mm r';intro Pw hl ht BL TG;delta o1;intro PK TH TJ;ext;show dX ?_;ext;show hide λP hP=>Ok.mono (Q:=ON H o1 r') (vd (dC (OM H o1 r') mm ?_ ?_)) ?_
  .show⟨t,[],rs,d7.length,ht,(TH.grow).up TJ,?_,by show jM,by left,by left,by left,hl,by simp;show"La2000La5000" Pw⟩;have h1:=(S'.foot).2 (H.length+1) (.head _);show h1
  .rintro k H' l' ⟨t,ps,jR,pj,ht,sp,zV,mP,g1,g2,g3,g4,g5⟩
   have OP:jR.length<=1000:=Xf ht.len TG;revert P k H' l' t ps jR pj;delta P;intro hP;delta k H' l' t;delta ps jR pj;intro ht sp zV mP g1 g2 g3 g4 g5 OP;ext;show qv (iT ‹_›) ⟨λhb=>?_,λhb=>?_⟩
   .show hide λP' Mw=>?_;have d4:t≠[]:=by intro e;rw[e]at hb;cases hb
    cases ht with
    |done=>show absurd rfl d4
    |@word k _ t2 v _ _ _ _ Fy Bd kK=>
     have W8:Rx.cnt Rx.bI t 0+Rx.cnt Rx.dO t (Rx.cnt Rx.bI t 0)<=t.length:=by have h1:=Rx.gK Rx.bI t 0;have h2:=Rx.gK Rx.dO t (Rx.cnt Rx.bI t 0);show(λ{k m n} h=>(Ada h).mp) h1 h2
     generalize S0:Rx.cnt Rx.bI t 0=e0 at *
     generalize S1:Rx.cnt Rx.dO t e0=k0 at *
     have iY:(t.drop (e0+k0)).length<=1000:=by rw[XW];show"La1000L-a+bc1000" g4
     ext;show bx (eZ kf.yj Rf.dw Rf.hU) ?_;ext;show u6 (s:=0) (e:=e0+k0) (b:=e0) (e':=e0+k0) kf.yj g4 ((Rx.GR g4 (by rw[S0,S1];show Fy)).mono λm ⟨a,b,c,d⟩=>⟨a,b,by rw[c,S0,S1],by show Yd _ _,by rw[S0,S1]at d;show d⟩) (Xx _ _) ?_;ext;show l7 ⟨λ_=>?_,nofun⟩;ext;show bK (jC kf db (s:=0) (e:=e0+k0) g4 (Xn _) W8 ?_);rw[AbK,YU];ext;show bx (l4 Rf.fA Rf.ku) ?_;ext;show kA (a:=0) (l:=t) (iT ‹_›) ?_;ext;show bx (eZ kf.ES Rf.dw Rf.hU) ?_;ext;generalize Bt:(t.drop e0).take (e0+k0-e0)=nm at *
     generalize ht1:t.drop (e0+k0)=t1 at *
     cases Bd with
     |quoted nq q v1 v2 v3=>
      have OQ:=v3.lt;show u6 (s:=0) (e:=q+1) (b:=Rx.aZ t1+1) (e':=q) kf.ES iY ((Rx.GU iY v1 v2 v3).mono λm ⟨a,b,c,d⟩=>⟨a,b,c,by show"ATabL+++c1d*2eaL+c1a" OQ,d⟩) (by show"L100000*4.18446744073709551616") (execs_cons (Ok.mono (Q:=Ie H H' pj (t1.drop (q+1)) nm (S (j9 ((t1.drop (Rx.aZ t1+1)).take (q-(Rx.aZ t1+1)))))) ?_ ?_))
      .ext;show l7 ⟨λ_=>?_,nofun⟩;ext;show bK (jC kf db (s:=0) (e:=q+1) iY (Xn _) (by show"ATabL+++c1d*2eaL+a1b" OQ) ?_);rw[AbK,YU];ext;show bx (l4 Rf.fA Rf.ku) ?_;ext;show kA (a:=0) (l:=t1) (iT ‹_›) ?_;have Ig:((t1.drop (Rx.aZ t1+1)).take (q-(Rx.aZ t1+1))).length<=1000:=by rw[XJ,XW];show"La1000L<-b+c1-a+c1.1000" iY
       clear kK;generalize hvv:(t1.drop (Rx.aZ t1+1)).take (q-(Rx.aZ t1+1))=vv at *
       show"s";show"s";show sF (n:=n+27) (cc:=cc) (T:=T) (x:="_m") (a:=229) (l:=vv) (mq:=kD vv) (rep:=λt=>t) E db RY kf.tabs kf.blt iI kf.nm.choose_spec rfl (kf.gp "HEADER_ESCAPE_RE" _ rfl) rfl kf.Od rfl rfl rfl (λfd vs e1 e2 hl=>by(show xE (Abt.mp hl) λv iO=>?_;clear hl;subst iO);obtain⟨nm,qn,ps,aB,al,gl,cl,dv,KV,r1,r2,r3,r4,r5,r6⟩:=fd;dsimp only at e1 e2;subst e1 e2;rfl)
        rfl rfl rfl rfl (by decide) (λg e P pC k=>sK (l:=vv) E rfl rfl (by show"lk") rfl g e P pC k) rfl rfl Ig (λp hp=>Bv Ig hp) Eu (λL2 q2 W6 A2 f2 H2 x1 x2 b e' W7 E2=>?_) (λt ht=>by show"La1000La2000" ht) rfl (λ_ e=>by subst e;rfl) ?_
       .ext;show Ez ?_;ext;show bx (l4 Rf.fA Rf.ku) ?_;ext;have PJ:((vv.drop b).take (e' - b)).length<=1000:=by rw[XJ,XW];show"La1000L<-bc-ac1000" Ig
        show kA (l:=vv) (a:=0) (iT ‹_›) (qv (iT ‹_›) ⟨λ_=>?_,λyx=>?_⟩)
        .show dQ (a:=[]) (by simp;show jh ?_;show"La1000L<-bc-ac100000" Ig) ?_;show⟨rfl,rfl⟩
        .have RW:(vv.drop b).take (e' - b)=[]:=by simpa using yx
         ext;show dQ (a:=[]) (b:=[]) (Xn _) (aE RW ?_);show⟨rfl,rfl⟩
       ·(show aE (Ey _ _ (Acv vv.length 0)) ?_;rw[Zi])
        ext;show⟨rfl,rfl,by left,by left,by left,by left,by left⟩
      .rintro fl J2 DO ⟨rfl,rfl,i1,i2,i3,i4,i5⟩
       ext;show bx (bG mP) ?_;ext;show YH mP rfl (bW mP) (by simp;show"L+a+b1.5000La100000" g5) ?_;ext;show Mw _ _ _ ⟨_,_,.same,k,by show Xd _,_,ps++[(nm,a7 (j9 ((t1.drop (Rx.aZ t1+1)).take (q-(Rx.aZ t1+1)))))],jR,pj,kK,sp.HQ (Xd _) zV,zV,by rw[bn mP];simp[bX,yu,yv],i1,i5,i4,by rw[XW];show"La1000L-a+b1.1000" iY,by simp;show"L+a+b1.5000L++a1b5000" g5⟩
     |bare v1 v2=>
      show bb v1 λN hN hG=>qL kf.ES iY hG hN ?_;have Ig:=Rx.gK Rx.isVal t1 (Rx.aZ t1);have W9:Rx.aZ t1<=t1.length:=by have h1:=(Xc.mp v2).1;have h2:=Rx.gK Rx.bI t1 (Rx.dP t1+1);unfold Rx.aZ;show"TabLc-b+a1L++a1cb" h1 h2
      show execs_cons (Ok.mono (Q:=Ie H H' pj (t1.drop (Rx.aZ t1+Rx.cnt Rx.isVal t1 (Rx.aZ t1))) nm (S (iG XD ((t1.drop (Rx.aZ t1)).take (Rx.aZ t1+Rx.cnt Rx.isVal t1 (Rx.aZ t1)-Rx.aZ t1))))) ?_ ?_)
      .ext;show AaQ ⟨nofun,λ_=>?_⟩;ext;show bx (eZ kf.ET Rf.dw Rf.hU) ?_;ext;show u6 (s:=0) (e:=Rx.aZ t1+Rx.cnt Rx.isVal t1 (Rx.aZ t1)) (b:=Rx.aZ t1) (e':=Rx.aZ t1+Rx.cnt Rx.isVal t1 (Rx.aZ t1)) kf.ET iY ((Rx.GS iY v2).mono λm ⟨a,b,c,d⟩=>⟨a,b,c,by show Yd _ _,d⟩) (Xx _ _) ?_;ext;show l7 ⟨λ_=>?_,nofun⟩;ext;show bK (jC kf db (s:=0) (e:=Rx.aZ t1+Rx.cnt Rx.isVal t1 (Rx.aZ t1)) iY (Xn _) ((λ{k m n} h=>(Ada h).mp) W9 Ig) ?_);rw[AbK,YU];ext;show bx (l4 Rf.fA Rf.ku) ?_;ext;show kA (a:=0) (l:=t1) (iT ‹_›) ?_;ext;show xJ (by rw[XJ];unfold sizeLine;rw[XW];show"La1000L<-+bcb-ab16777216" iY) ?_;ext;show⟨rfl,rfl,by left,by left,by left,by left,by left⟩
      .rintro fl J2 DO ⟨rfl,rfl,i1,i2,i3,i4,i5⟩
       ext;show bx (bG mP) ?_;ext;show YH mP rfl (bW mP) (by simp;show"L+a+b1.5000La100000" g5) ?_;ext;show Mw _ _ _ ⟨_,_,.same,k,by show Xd _,_,ps++[(nm,a7 (iG XD ((t1.drop (Rx.aZ t1)).take (Rx.aZ t1+Rx.cnt Rx.isVal t1 (Rx.aZ t1)-Rx.aZ t1))))],jR,pj,kK,sp.HQ (Xd _) zV,zV,by rw[bn mP];simp[bX,yu,yv],i1,i5,i4,by rw[XW];show"La1000L-a+bc1000" iY,by simp;show"L+a+b1.5000L++a1b5000" g5⟩
     |none v1=>
      show qL kf.ES iY (Rx.s6 iY (.inl v1)) (by show"L10000000000*4.18446744073709551616") (execs_cons (Ok.mono (Q:=Ie H H' pj (t2) nm .none) ?_ ?_))
      .ext;show AaQ ⟨nofun,λ_=>?_⟩;ext;show bx (eZ kf.ET Rf.dw Rf.hU) ?_;ext;show qL kf.ET iY (Rx.CP iY v1) (by show"L10000000000*4.18446744073709551616") ?_;ext;show AaQ ⟨nofun,λ_=>?_⟩;ext;show⟨rfl,rfl,by left,by left,by left,by left,by left⟩
      .rintro fl J2 DO ⟨rfl,rfl,i1,i2,i3,i4,i5⟩
       ext;show bx (bG mP) ?_;ext;show YH mP rfl (bW mP) (by simp;show"L+a+b1.5000La100000" g5) ?_;ext;show Mw _ _ _ ⟨_,_,.same,k,by show Xd _,_,ps++[(nm,a8)],jR,pj,kK,sp.HQ (Xd _) zV,zV,by rw[bn mP];simp[bX,yu,yv],i1,i5,i4,iY,by simp;show"L+a+b1.5000L++a1b5000" g5⟩
    |@comma k _ _ _ _ _ Fy LS kK=>
     have iY:(t.dropWhile XD).length<=t.length:=(Abu _).length_le;ext;show bx (eZ kf.yj Rf.dw Rf.hU) ?_;ext;show qL kf.yj g4 (Rx.uN g4 Fy) (by show"L10000000000*4.18446744073709551616") ?_;ext;show AaQ ⟨nofun,λ_=>?_⟩;ext;show lX (iT ‹_›) ?_;ext;show kl (aE LS (gw ⟨λ_=>?_,nofun⟩));ext;show lX (iT ‹_›) ?_;ext;show bd _ rfl ?_;ext;show⟨iD,xH (by show jh ?_;show"La1000LbaLb100000" g4 iY) ?_⟩;show aE (show(a7 (1:Int))=a7 ((1:Nat):Int)from rfl) ?_;rw[jc];ext;show gT (.inr (bd pj rfl mP)) (by simp;show jh ?_;show"L+a+b1.5000La100000" g5) ⟨λyx=>?_,λyx=>?_⟩
     .have uj:ps.isEmpty=ac:=by simpa using yx
      rw[uj]at kK;show bV (sp.push (Xd _) zV mP) λrl ux S2 PL=>?_;ext;show bx (bG ux) ?_;ext;show YH ux rfl (bW ux) (by show"La1000EbaLb100000" OP S2) ?_;ext;show dX ?_;ext;have pQ:pj<H'.length:=(Xc.mp mP).1;show Mw _ _ _ ⟨_,_,.same,k,by show Xd _,_,[],_,(H'.set H.length (dI (rl++[.ref pj]) (.lst rl))).length,kK,(PL.grow).up (by rw[Yg];assumption),by rw[Yg];show Acf zV pQ,by show jM,by left,by left,by left,by rw[XW];show"La1000LbaL-b1.1000" g4 iY,by simp;show"L+a+b1.5000Lb5000" g5⟩
     .have uj:ps.isEmpty=a9:=by simpa using yx
      rw[uj]at kK;ext;show dX ?_;ext;have pQ:pj<H'.length:=(Xc.mp mP).1;show Mw _ _ _ ⟨_,_,.same,k,by show Xd _,_,[],_,H'.length,kK,(sp.grow).up (YM ‹_›),by show Acf zV pQ,by show jM,by left,by left,by left,by rw[XW];show"La1000LbaL-b1.1000" g4 iY,by simp;show"L+a+b1.5000Lb5000" g5⟩
    |@LR k _ _ _ _ _ Fy LS kK=>have iY:(t.dropWhile XD).length<=t.length:=(Abu _).length_le;have hdj:(t.dropWhile Rx.cJ).length<=t.length:=(Abu _).length_le;ext;show bx (eZ kf.yj Rf.dw Rf.hU) ?_;ext;show qL kf.yj g4 (Rx.uN g4 Fy) (by show"L10000000000*4.18446744073709551616") ?_;ext;show AaQ ⟨nofun,λ_=>?_⟩;ext;show lX (iT ‹_›) ?_;ext;show kl (aE LS (gw ⟨nofun,λ_=>?_⟩));ext;show bx (eZ kf.Lq Rf.o8 Rf.HE) ?_;ext;show Et kf.Lq g4 (ic db.handled rfl rfl ?_);show"in";show"in";show jS ?_;ext;show iR (cf _ rfl rfl ?_);ext;show Mw _ _ _ ⟨_,_,.same,k,by show Xd _,_,ps,jR,pj,kK,sp,zV,mP,by left,by left,by left,by show Xf ‹_› ‹_›,by show YM ‹_›⟩
   .have d4:t=[]:=by simpa using hb
    clear g1 g4 hb;subst d4;cases ht with|done=>ext;show⟨ps,jR,pj,rfl,rfl,sp,zV,mP,g2,g3,OP,by show Zp g5⟩|word h=>show absurd rfl h|comma h=>show absurd rfl h|LR h=>show absurd rfl h
  .rintro fl H' l' ⟨ps,jR,pj,rfl,PM,sp,zV,mP,g1,g2,g3,g4⟩
   show hP _ _ _ (hide λP2 TK=>?_);have pQ:pj<H'.length:=(Xc.mp mP).1;ext;show gT (.inr (bd pj rfl mP)) (by simp;show jh ?_;show"La5000La100000" g4) ⟨λyx=>?_,λyx=>?_⟩
   .have uj:ps.isEmpty=ac:=by simpa using yx
    rw[uj]at PM;show bV (sp.push (Xd _) zV mP) λrl ux S2 PL=>?_;ext;show bx (bG ux) ?_;ext;show YH ux rfl (bW ux) (by show"La1000EbaLb100000" g3 S2) ?_;ext;show TK _ _ _ ⟨?_,td,_,_,o1,rfl,by rw[PM]at BL;show BL,PL,by simp;assumption,by left⟩;intro j hj;simp only[Xi,Xy,or_false]at hj;subst hj;show aE PK PL.it
   .have uj:ps.isEmpty=a9:=by simpa using yx
    rw[uj]at PM;ext;show TK _ _ _ ⟨?_,td,jR,pj,o1,rfl,by rw[PM]at BL;show BL,sp,by show YM ‹_›,by left⟩;intro j hj;simp only[Xi,Xy,or_false]at hj;subst hj;show aE PK sp.it
 .rintro bu d7 l ⟨td,rs,m,o0,er,RZ,sp,hm,OO⟩ o
  cases td with
  |cons t td=>cases er
  |nil=>
  cases RZ;obtain⟨⟨G,e⟩,it,js,Gq,hr,hf⟩:=sp;clear hm it;subst e;show bb (mZ o SH) λG' e hG=>?_;subst e;ext;show pZ H.length H (qZ out) (Xd _) ⟨by show wH,by rw[fX];show lG.refl hb,?_⟩ q;show .lst (Xd _) (by rw[o.off _ SI];show hr) ?_;show Frs.fz (i0:=H.length+1) (m:=m) (Yb _) ?_;show hf.mono (Xd _) λj o' h1 h2 q=>by show aE (o.off _ (by simp;show Aak ‹_›)) ?_;show q
end
noncomputable def bi(k t:List Nat):List Nat:=bR (k,a7 t)
noncomputable def cq(k t:List Nat)(r:Int):Nat->Nat
 |0=>0
 |n+1=>if n+1 > 1/\((bi k (t.take (n+1))).length:Int) > r then cq k t r n else n+1
noncomputable def cB(k:List Nat)(r:Int)(p:List (Option (List Nat))×List Nat):List (Option (List Nat))×List Nat:=
 if p.1=[]/\((bi k (p.2.take (cq k p.2 r p.2.length))).length:Int) > r then(p.1++[a8],p.2)
 else(p.1++[a7 (bi k (p.2.take (cq k p.2 r p.2.length)))],p.2.drop (cq k p.2 r p.2.length))
noncomputable def gF(p:List (Option (List Nat))×List Nat):Bool:=p.1==[] ||(p.1==[a8] ||p.2 != [])
theorem Ih(k t:List Nat)(r:Int)(n:Nat):cq k t r n<=n:=by
 induction n with
 |zero=>show Xd _
 |succ n ih=>
  unfold cq;split
  .show AaD ih
  .show Xd _
theorem lf{k:List Nat}(hk:k.length<=10)(ht:t.length<=100):(bi k t).length<=300:=by unfold bi bR;have h3:=gE t;dsimp only;split<;>simp only[Xg,Xs,XU]<;>omega
section
variable {f:Fp}(kf:KF af K)(hA:cM A (n+10)){Q:AV->List AO->Prop}
include kf hA
theorem zW{k:List Nat}(hk:k.length<=10)(ht:t.length<=100)(q:Q (S (bi k t)) H):bk ⟨af,w,K,A,f⟩ (.ref 253) [.fl [.fl [.tup [S k,S t]]]] H Q:=
 Ic kf (n:=n) hA (ls:=[[(k,a7 t)]]) (XK rfl) (λl m=>by rw[Xh.mp m];show⟨XK rfl,λx m=>by rw[Xh.mp m];show⟨Xf hk (by decide),λv e=>by rw[<-Xe e];show Xf ht (by decide)⟩⟩) q
end
noncomputable def Mx:Stmt->List Stmt
 |.While _ b _ _=>b
 |_=>[]
theorem wm:∀td:List (Option (List Nat)),Hi 1 (td.map eB) [] (td==[])
 |[]=>.pairs (.nil 1)
 |_::_=>.len (by show XG rfl)
theorem BM:∀td:List (Option (List Nat)),Hi 1 (td.map eB) [.none] (td==[a8])
 |[]=>.len (by show XG rfl)
 |[none]=>.pairs (.cons (.none 1) (.nil 1))
 |[some _]=>.pairs (.cons (.str_none 1 _) (.nil 1))
 |none::_::_=>.len (by show XG rfl)
 |some _::_::_=>.len (by show XG rfl)
theorem FA{k:List Nat}{m:Nat}(hm:cq k t r t.length=m)(h:td=[]/\((bi k (t.take m)).length:Int) > r):cB k r (td,t)=(td++[a8],t):=by subst hm;show aQ h
theorem sU{k:List Nat}{m:Nat}(hm:cq k t r t.length=m)(h:¬(td=[]/\((bi k (t.take m)).length:Int) > r)):cB k r (td,t)=(td++[a7 (bi k (t.take m))],t.drop m):=by subst hm;show aI h
theorem sV{k:List Nat}(h:¬(n > 1/\((bi k (t.take n)).length:Int) > r)):cq k t r n=n:=by
 cases n with|zero=>rfl|succ n=>show aI h
theorem Ii{k:List Nat}(h:n+1 > 1/\((bi k (t.take (n+1))).length:Int) > r):cq k t r (n+1)=cq k t r n:=aQ h
inductive LU(H:List AO)(td:List (Option (List Nat)))(k t:List Nat)(r:Int)(ga:Addr)(m:Nat)(H':List AO)(l':Loc):Prop
 |mk:(H'=H++[.lst (td.map eB)])->m<=t.length->cq k t r m=cq k t r t.length->bh l' "told" (.ref H.length)->bh l' "text" (S t)->bh l' "rooms" (.val (.ref ga))->bh l' "key" (S k)->bh l' "room" (.int r)->bh l' "take" (.int m)->LU H td k t r ga m H' l'
inductive OS(H:List AO)(td:List (Option (List Nat)))(k t:List Nat)(ga:Addr)(fl:AF)(H':List AO)(l':Loc):Prop
 |mk:fl=.next->(H'=H++[.lst (td.map eB)])->bh l' "told" (.ref H.length)->bh l' "text" (S t)->bh l' "rooms" (.val (.ref ga))->bh l' "key" (S k)->OS H td k t ga fl H' l'
section
variable {af:Program}{w:World}{K:Frag}{A:Around}{n:Nat}(kf:KF af K)
include kf
theorem Ij{L cell ga fa:Addr}{q:Pi}{aj:Value}{H:List AO}{ls:Loc}{td:List (Option (List Nat))}{k t:List Nat}{r:Int}(hA:cM A (n+20))(E:ba (bT b9.2.2 L [("key",cell)] q fa aj) ⟨L,[("key",cell)]⟩)
  (hk:k.length<=10) (ht:t.length<=100) (PN:td.length<=1000) (h1:bh ls "told" (.ref H.length)) (h2:bh ls "text" (S t)) (h3:bh ls "rooms" (.val (.ref ga))) (h4:bh ls "key" (S k)) (h5:bh ls "room" (.int r)) :
  Ok ⟨af,w,K,A,⟨L,[("key",cell)]⟩⟩ aY (execs ((Mx (cZ b9.1 1)).drop 1) (bT b9.2.2 L [("key",cell)] q fa aj)) (H++[.lst (td.map eB)]) ls (OS H (cB k r (td,t)).1 k (cB k r (td,t)).2 ga):=by
 revert af w K A n L cell ga fa q aj H ls td k t r;delta af w K A n;intro kf;delta L cell ga fa q aj H ls td k t r;intro hA E hk ht PN h1 h2 h3 h4 h5;change Ok _ aY (execs [_,_,_,_] _) _ _ _;ext;show si (by show jh ?_;show Xf ht (by decide)) ?_;ext;show Ok.mono (Q:=λfl H' l'=>fl=.next/\∃m,cq k t r t.length=m/\LU H td k t r ga m H' l') (vd (dC (LU H td k t r ga) t.length ?_ ?_)) ?_
 .show⟨rfl,Xd _,rfl,by left,by left,by left,by left,by left,by left⟩
 .rintro m H' l' ⟨rfl,hm,hf,g1,g2,g3,g4,g5,g6⟩
  ext;show iR ⟨_,rfl,λhb=>?_,λhb=>?_⟩
  .have hb:(m:Int) > 1:=aP hb;ext;show cW ?_;ext;show cW ?_;ext;show bd _ rfl ⟨iD (a:=t),xH (a:=t) (by show jh ?_;show Xf ht (by decide)) ?_⟩;rw[mY];have B7:(t.take m).length<=100:=by rw[XJ];show Xf (AaI _ _) ht
   have S4:=lf hk B7;ext;show bK (zW kf (n:=n+10) hA hk B7 ?_);ext;show si (by show jh ?_;show Xf S4 (by decide)) ?_;ext;show iR ⟨_,rfl,λhc=>?_,λhc=>?_⟩
   .have hc:((bi k (t.take m)).length:Int) > r:=aP hc;ext;show⟨λ_=>?_,λz=>nomatch z⟩;ext;show zr ?_;ext;obtain⟨m,rfl⟩:∃j,m=j+1:=⟨m-1,by show"H1$aEa+-a1.1" hb⟩
    have e1:((m+1:Nat):Int)-1=(m:Int):=by show"I-$+a1.1$a"
    rw[e1];show⟨_,_,.same,m,Yi _,rfl,by show"L+a1bLab" hm,?_,by left,by left,by left,by left,by left,by left⟩;rw[<-hf,Ii ⟨by show"H1$+a1T1+a1" hb,hc⟩]
   .show⟨λz=>(nomatch z),λ_=>?_⟩;ext;show⟨rfl,m,?_,rfl,hm,hf,g1,g2,g3,g4,g5,g6⟩;rw[<-hf];show sV λz=>of_decide_eq_false hc z.2
  .show⟨λz=>(nomatch z),λ_=>?_⟩;ext;show⟨rfl,m,?_,rfl,hm,hf,g1,g2,g3,g4,g5,g6⟩;rw[<-hf];show sV λz=>of_decide_eq_false hb ?_;show"AT1aHp$bH1$a" z
 .rintro fl H' l' ⟨rfl,m,hm,rfl,hmt,_,g1,g2,g3,g4,g5,g6⟩
  have B7:(t.take m).length<=100:=by rw[XJ];show Xf (AaI _ _) ht
  have S4:=lf hk B7;have eR:(H++[AO.lst (td.map eB)])[H.length]?=a7 (.lst (td.map eB)):=jM;have sl:∀{a:AO},(H++[AO.lst (td.map eB)]).set H.length a=H++[a]:=set_tail;ext;show cW ?_;ext;show cW ?_;ext;show bd _ rfl ⟨iD (a:=t),xH (a:=t) (by show jh ?_;show Xf ht (by decide)) ?_⟩;rw[mY];ext;show bK (zW kf (n:=n+10) hA hk B7 ?_);ext;show cW ?_;ext;show eq_list hA (d:=1) (by decide) (.inr ⟨_,rfl,eR⟩) (.inl rfl) (wm td) ⟨_,rfl,λhn=>?_,λhn=>?_⟩
  .have hn:td=[]:=eq_of_beq hn;ext;show si (by show jh ?_;show Xf S4 (by decide)) ?_;ext;show iR ⟨_,rfl,λhc=>?_,λhc=>?_⟩
   .have hc:((bi k (t.take m)).length:Int) > r:=aP hc;ext;show⟨λ_=>?_,λz=>(nomatch z)⟩;ext;show bx (bG eR) ?_;ext;show YH eR rfl (bW eR) (by rw[Xm];show Xf PN (XK rfl)) ?_;ext;rw[FA hm ⟨hn,hc⟩];show⟨rfl,?_,by left,by left,by left,by left⟩;rw[sl,bX,Yc];rfl
   .show⟨λz=>(nomatch z),λ_=>?_⟩;ext;show bx (bG eR) ?_;ext;show YH eR rfl (bW eR) (by rw[Xm];show Xf PN (XK rfl)) ?_;ext;show bd _ rfl ?_;ext;show⟨iD (a:=t),xH (a:=t) (by show jh ?_;show Xf ht (by decide)) ?_⟩;rw[jc];ext;rw[sU hm (λz=>of_decide_eq_false hc z.2)];show⟨rfl,?_,by left,by left,by left,by left⟩;rw[sl,bX,Yc];rfl
  .show⟨λz=>(nomatch z),λ_=>?_⟩;ext;show bx (bG eR) ?_;ext;show YH eR rfl (bW eR) (by rw[Xm];show Xf PN (XK rfl)) ?_;ext;show bd _ rfl ?_;ext;show⟨iD (a:=t),xH (a:=t) (by show jh ?_;show Xf ht (by decide)) ?_⟩;rw[jc];ext;rw[sU hm (λz=>by rw[z.1]at hn;show nomatch hn)];show⟨rfl,?_,by left,by left,by left,by left⟩;rw[sl,bX,Yc];rfl
end
section
variable {z:Int}
noncomputable abbrev Tx:Type:=List Nat
noncomputable abbrev Ps:Type:=List (Tx×Tx)
noncomputable def g7(ps:Ps)(n:Int):AO:=.acc eA (ps.map pr) [("_initial_size",.int n)]
noncomputable def bo(ps:Ps)(n:Int):Int:=n+((ps.map λp=>((p.1.length+p.2.length:Nat):Int)).sum)
noncomputable def bz(ps:Ps):Tx:=(ps.map λp=>p.1++p.2).flatten
theorem set_same{H:List α}{o:α}(h:H[i]?=a7 o):H.set i o=H:=by
 apply Z6;intro j;by_cases e:i=j
 .subst e;rw[Y0 (Xc.mp h).1,h]
 .rw[XC e]
theorem zX{fs:List (Pi×AV)}(h:∀p∈fs,p.2.gX n=a9):D8 n fs:=λx av e=>h (x,av) (ZI e)
theorem je{n:Int}{m:Nat}:(g7 ps n).gX m:=by show⟨HM,zX (XO.mpr ⟨rfl,nofun⟩)⟩
section
variable {f:Fp}(kf:KF af K)(hA:cM A (n+1)){Q:AV->List AO->Prop}
include kf hA in
theorem n6{x y:Tx}(hi:H[i]?=a7 (g7 ps z))(hs:ps.length<=1000)(q:Q .none (H.set i (g7 (ps++[(x,y)]) z))):bk ⟨af,w,K,A,f⟩ (.ref 137) [.ref i,S x,S y] H Q:=by
 show d0 hA kf.ER (.inl rfl) rfl (by decide) rfl rfl rfl rfl rfl rfl λL q' aj A' db E ct hb hu=>?_;repeat show"s"
 show HL kf.acc hi rfl (by rfl) (by rfl) (by rfl) ?_;repeat show"s"
 show YH hi rfl (vg hi kf.EM.mro) (by simp;show"La1000La100000" hs) ?_;repeat show"s"
 have e:dI (ps.map pr++[.tup [S x,S y]]) (g7 ps z)=g7 (ps++[(x,y)]) z:=by change AO.acc _ _ _=AO.acc _ _ _;rw[Yc];rfl
 show aE e (c9 (by simp) (by rw[Yg];show bw.set hb je i) rfl q)
include kf hA in
theorem BN(hi:H[i]?=a7 (g7 ps z))(q:Q (.int ps.length) H):bk ⟨af,w,K,A,f⟩ (.ref 190) [.ref i] H Q:=by show om hA kf.Jt (.inl rfl) rfl (by decide) rfl rfl rfl rfl rfl rfl λL q' aj A' db E ct hc hb hu=>l8 (sI ?_);show ua (self:="self") (fa:=190) (cc:=kH) ⟨E,kf.sup,kf.Tu,hc,rfl,rfl,rfl,rfl,rfl,rfl,rfl⟩ hi rfl kf.O8 rfl (c9 (Xd _) hb rfl (by rw[Xm];show q))
include kf hA in
theorem FB(hi:H[i]?=a7 (.acc eA [] []))(q:Q .none (H.set i (g7 [] z))):bk ⟨af,w,K,A,f⟩ (.ref 130) [.ref i,.int z] H Q:=by
 show bb kf.EQ λdv F hd=>om hA F (.inr hd) rfl (by decide) rfl rfl rfl rfl rfl rfl λL q' aj A' db E ct hc hb hu=>l8 (ja.of ?_);repeat show"s"
 show fM kf.acc hi rfl rfl (by decide) (l8 (EB ?_ rfl rfl));have oS:(H.set i (s8 (put "_initial_size" (.int z) []) (.acc eA [] [])))[i]?=a7 (g7 [] z):=bn hi;show rQ (self:="self") (fa:=130) (cc:=kH) ⟨E,kf.sup,kf.Ts,hc,rfl,rfl,rfl,rfl,rfl,rfl,rfl⟩ oS rfl kf.Oa rfl (EA (c9 (by simp) (by rw[Yg];show bw.set hb (je (ps:=[]) (n:=z)) i) rfl q))
theorem Done.id(hb:bw H.length H)(hx:x.gX H.length=a9):Done H.length H x H x:=⟨Xd _,by rw[Abn];show lG.refl hb,Fz.refl hx⟩
noncomputable def popped(ps:Ps):Tx×Tx:=(ps.getLast?).getD ([],[])
end
section
variable {f:Fp}(kf:KF af K)(hA:cM A (n+2)){Q:AV->List AO->Prop}
include kf hA in
theorem Ik(hi:H[i]?=a7 (g7 ps z))(hs:ps.length<=1000)(q:Q (pr (popped ps)) (H.set i (g7 ps.dropLast z))):bk ⟨af,w,K,A,f⟩ (.ref 153) [.ref i] H Q:=by
 show om hA kf.Jp (.inl rfl) rfl (by decide) rfl rfl rfl rfl rfl rfl λL q' aj A' db E ct hc hb hu=>l8 (O5 ?_);repeat show"s"
 show fq kf.acc hi rfl rfl rfl ?_;repeat show"s"
 show bK (BN kf db hi ?_);repeat show"s"
 show xD (cf _ rfl (λh=>?_) (λh=>?_))
 .have e:ps=[]:=by simpa using h
  clear h hs;subst e;show l8 (ja.of ?_);repeat show"s"
  have:H.set i (g7 [] z)=H:=set_same hi;rw[List.dropLast_nil,this]at q;show c9 (Xd _) hb rfl q
 .have e:ps≠[]:=by simpa using h
  show EA (l8 (sI (ub (self:="self") (fa:=153) (cc:=kH) (y:=pr (popped ps)) ⟨E,kf.sup,kf.Tt,hc,rfl,rfl,rfl,rfl,rfl,rfl,rfl⟩ hi rfl kf.O9 (by simp;show"La1000La100000" hs) ?_ rfl ?_)))
  .show xE (List.getLast?_isSome.mpr e |> Zd.mp) λx hx=>?_;simp[popped,hx]
  have e2:AO.acc eA (ps.map pr).dropLast [("_initial_size",.int z)]=g7 ps.dropLast z:=by unfold g7;rw[Ab9]
  show aE e2 (c9 (by simp) (by rw[Yg];show bw.set hb je i) rfl q)
end
end
theorem FC(ts:List Tx):glue [] ts=ts.flatten:=l6 ts
section
variable {f:Fp}(kf:KF af K)(hA:cM A (n+1)){Q:AV->List AO->Prop}
include kf hA in
theorem pU{z:Int}(hi:H[i]?=a7 (g7 ps z))(hz:0<=z/\z<=1000)(hs:ps.length<=1000)(hl:∀p∈ps,p.1.length<=1000/\p.2.length<=1000)(q:Q (.int (bo ps z)) H):bk ⟨af,w,K,A,f⟩ (.ref 160) [.ref i] H Q:=by
 show d0 hA kf.Jq (.inl rfl) rfl (by decide) rfl rfl rfl rfl rfl rfl λL q' aj A' db E ct hb hu=>execs_cons (nz ?_);show Be (C:=eA) (ps:=ps) (x:=z) (n:=n) (val:=λp=>(p.1.length:Int)+(p.2.length:Int)) db E ⟨ct,kf.tabs,kf.blt,kf.acc.fi _ _ rfl,kf.EM.mro,rfl,rfl,rfl,rfl,rfl,rfl,by decide,rfl,fun  j=>rfl⟩ rfl (kf.gl _ _ rfl).1 rfl rfl rfl rfl rfl hi kf.acc.pg kf.acc.hd (kf.acc.fi _ _ rfl) rfl
  (λCa aj A' pC p t u aN m₂ hh hp ns h1 h2 X=>HN X ⟨rfl,E.glob,rfl⟩ rfl (kf.gl _ _ rfl).1 rfl rfl rfl rfl ns h1 h2 (by have:=hl p hp;show jh ?_;show"ALa1000Lb1000La100000" this) (by have:=hl p hp;show jh ?_;show"ALa1000Lb1000Lb100000" this) rfl rfl) (by show"AG0pGp1000AG0pGp1000000" hz) (by show"La1000La1000000" hs) (λp hp=>by have:=hl p hp;show"ALa1000Lb1000AG0+$a$bG+$a$b1000000" this) (fun  j=>rfl) (fun  j e=>by subst e;rfl) ?_
 show c9 (Xd _) hb rfl q
include kf hA in
theorem zY{z:Int}(hi:H[i]?=a7 (g7 ps z))(hs:ps.length<=1000)(hl:∀p∈ps,p.1.length<=1000/\p.2.length<=1000)(q:Q (S (bz ps)) H):bk ⟨af,w,K,A,f⟩ (.ref 167) [.ref i] H Q:=by
 show d0 hA kf.Jr (.inl rfl) rfl (by decide) rfl rfl rfl rfl rfl rfl λL q' aj A' db E ct hb hu=>execs_cons (nz ?_);show xE kf.es λt0 TL=>?_;have yA:∀l:Ps,(∀p∈l,p.1.length<=1000/\p.2.length<=1000)->((l.map λp=>p.1++p.2).map λt=>t.length+([]:Tx).length).sum<=l.length*2000:=by
  intro l;induction l with|nil=>intro j;show Xn _|cons p l ih=>intro h;have h1:=h p (.head _);have h2:=ih λq hq=>h q (.tail _ hq);simp only[Xu,Y4,Xs,Xg,XU]at h2 ⊢;show"ALa1000Lb1000Lc:d2000L+++ab0c:+d1.2000" h1 h2
 show xS (C:=eA) (ps:=ps) (n:=n) (sep:=[]) (val:=λp=>p.1++p.2) db E ⟨ct,kf.tabs,kf.blt,kf.acc.fi _ _ rfl,kf.EM.mro,rfl,rfl,rfl,rfl,rfl,rfl,by decide,rfl,fun  j=>rfl⟩ rfl rfl rfl rfl hi rfl TL rfl
  (λCa aj A' pC p t u aN m₂ hh hp ns h1 h2 X=>?_) (by show"La1000La1000000" hs) (Xf (yA ps hl) (by unfold sizeLine;show"La1000L:a2000.16777216" hs)) rfl (fun  j e=>by subst e;rfl) ?_
 .show Xz (EE (sep:=[]) X ⟨rfl,E.glob,rfl⟩ rfl TL rfl rfl rfl rfl rfl ns h1 h2 (by have:=hl p hp;simp;show"ALa1000Lb1000L+ab1000000" this) rfl rfl) (λv s' z=>by simpa using z) fun  j j z=>z
 rw[FC];show c9 (Xd _) hb rfl q
end
section
variable {z:Int}
def oy(ps:Ps):Prop:=ps.length<=1000/\∀p∈ps,p.1.length<=1000/\p.2.length<=1000
theorem uk(x a:Pi)(v:α)(l:List (Pi×α)):YK x ((a,v)::l)=bif x==a then a7 v else YK x l:=by change(match x==a with|true=>a7 v|false=>YK x l)=_;cases x==a<;>rfl
section
variable {f:Fp}(kf:KF af K)(hA:cM A (n+10)){Q:AV->List AO->Prop}
include kf hA in
theorem yC(hi:H[i]?=a7 (g7 ps z))(hs:ps.length<=1000)(q:Q .none (H.set i (g7 [] 0))):bk ⟨af,w,K,A,f⟩ (.ref 175) [.ref i] H Q:=by
 show bb kf.Js λdv F tz=>?_;show c0 tz ?_;clear tz;intro T o nn h1 h2 h3 h4;show vB (bs:=λvs=>[("self",vs.getD 0 .none),("startval",.none)]) (ls:=[("self",.ref i),("startval",.none)]) hA F (λfd s vs e1 e2 e3 X hl=>?_) rfl rfl rfl rfl (λvs hl=>?_) (λW vs r x av e=>?_) λL q' aj A' db E ct hb hu=>?_
 .show xE (Abt.mp hl:∃v,vs=[v]) λv iO=>?_;clear hl;subst iO;obtain⟨nm,qn,wK,aB,al,gl,cl,dv',KV,r1,r2,r3,r4,r5,r6⟩:=fd;dsimp only at e1 e2;clear F e3;subst e1 e2;show BindsTo.of_defaults h1 (X _ _ h2) h4 rfl rfl
 .intro x m;simp only[Xi,Xy,or_false]at m;rcases m with rfl|rfl<;>rfl
 .show bb r.one λa e9 ra=>?_;clear r;subst e9;rw[uk,uk]at e;change∃v,YK x [("startval",Zb),("self",a)]=a7 v/\VR W av v;rw[uk,uk];cases hx:(x==("self" : Pi))with
  |true=>rw[hx]at e;obtain rfl:=Xe e;obtain rfl:=eq_of_beq hx;show bd a rfl ra
  |false=>
   rw[hx]at e;cases hy:(x==("startval" : Pi))with|true=>rw[hy]at e;obtain rfl:=Xe e;show bd _ rfl .none|false=>rw[hy]at e;show nomatch e
 repeat show"s"
 show is_none (b:=a9) (.inl ⟨rfl,rfl⟩) (cf _ rfl (fun  u=>?_) (nofun));repeat show"s"
 show cW ?_;repeat show"s"
 show B0 (new:=[]) hi rfl (KM hi kf.EM) (.inl rfl) (by simp) (by simp;show"La1000La100000" hs) ?_;rw[EF];repeat show"s"
 show fM kf.acc (bn hi) rfl rfl (XQ _) ?_;rw[Zt];repeat show"s"
 show c9 (by simp) (by rw[Yg];show bw.set hb (je (ps:=[]) (n:=0)) i) rfl q
end
end
noncomputable def ul(l:Tx):Bool:=!l.isEmpty && l.all XD
noncomputable def jK(ps:Ps)(z:Int):Bool:=z==0 && (bo ps z==0 ||ul (bz ps))
theorem oy.cur(h:oy ps){z:Int}(hz:0<=z/\z<=1000):0<=bo ps z/\bo ps z<=3000000:=by
 have:∀l:Ps,(∀p∈l,p.1.length<=1000/\p.2.length<=1000)->0<=((l.map λp=>((p.1.length+p.2.length:Nat):Int)).sum)/\((l.map λp=>((p.1.length+p.2.length:Nat):Int)).sum)<=l.length*2000:=by
  intro l;induction l with|nil=>intro u;show(λ{a b}=>Int.le_antisymm_iff.mp) rfl|cons p l ih=>intro h;have h1:=h p (.head _);have h2:=ih λq hq=>h q (.tail _ hq);simp only[Xu,Y4,Xs];show"ALa1000Lb1000AG0pGp:$c2000AG0+$+abpG+$+abp:$+c1.2000" h1 h2
 have h1:=this ps h.2;have h2:=h.1;unfold bo;show"AG0pGp1000AG0qGq:$a2000La1000AG0+pqG+pq3000000" hz h1 h2
section
variable {f:Fp}(kf:KF af K)(hA:cM A (n+10)){Q:AV->List AO->Prop}
include kf hA in
theorem LV{z:Int}(hi:H[i]?=a7 (g7 ps z))(hz:0<=z/\z<=1000)(hs:oy ps)(q:Q (.bool (jK ps z)) H):bk ⟨af,w,K,A,f⟩ (.ref 182) [.ref i] H Q:=by
 have hc:=hs.cur hz;show d0 hA kf.Oc (.inl rfl) rfl (by decide) rfl rfl rfl rfl rfl rfl λL q' aj A' db E ct hb hu=>?_;ext;show zK ?_;ext;show bj kf.acc hi rfl rfl rfl rfl ?_;ext;show xD (gw ⟨λh=>?_,λh=>?_⟩)
 .have e:jK ps z=ac:=by unfold jK;show aE h ?_;rfl
  show aE h ?_;rw[e]at q;show c9 (Xd _) hb rfl q
 show Ez ?_;ext;have e:jK ps z=(bo ps z==0 ||ul (bz ps)):=by unfold jK;rw[h];rfl
 rw[e]at q;show Lm (truthy_own hi rfl (kf.acc.fi _ _ rfl) (kf.acc.fi _ _ rfl) (kf.acc.fn "__len__" _ rfl).1 (pU kf db.in1 hi hz hs.1 hs.2 (gn _ rfl hc.1 (by lia) (gw ⟨λh2=>?_,λh2=>?_⟩))))
 .have e2:(bo ps z==0)=a9:=by simpa using h2
  have e3:(!(bo ps z != 0))=a9:=h2;show aE e3 ?_;rw[e2]at q;show c9 (Xd _) hb rfl q
 .have e2:(bo ps z==0)=ac:=by simpa using h2
  ext;show u4 (by have:=db.units;change A'.units+10<=9000;show"L+a*10+b9.9000L+a10.9000" this) hi rfl (kf.acc.fi _ _ rfl) (kf.acc.fn "__str__" _ rfl).1 (zY kf db.in1.in1 hi hs.1 hs.2 (bd _ rfl ?_));ext;show vq (a:=bz ps) ?_;rw[e2]at q;show c9 (Xd _) hb rfl q
end
section
variable {G:List AO}{signs:Tx}
noncomputable def OT(w:Int)(aW signs:Tx)(j k:Nat):List (Str×AV):=[("_maxlen",.int w),("_continuation_ws",S aW),("_continuation_ws_len",.int aW.length),("_splitchars",S signs),("_lines",.ref j),("_current_line",.ref k)]
noncomputable def rU(w:Int)(aW signs:Tx)(j k:Nat):AO:=.inst oq (OT w aW signs j k)
noncomputable def sW(lines:List Tx):AO:=.lst (lines.map S)
theorem zZ:(sW lines).gX n:=cN fun  u u=>rfl
theorem um{b c:AO}:(G++[b]).set G.length c=G++[c]:=by simp
theorem FD{w:Int}{aW:Tx}{m:Nat}:(rU w aW signs m (m+1)).gX (m+2):=by revert w aW signs m;delta w aW signs m;show zX (XO.mpr ⟨rfl,XO.mpr ⟨rfl,XO.mpr ⟨rfl,XO.mpr ⟨rfl,XO.mpr ⟨decide_eq_true (Abe (by decide)),XO.mpr ⟨decide_eq_true (Yi _),nofun⟩⟩⟩⟩⟩⟩)
noncomputable def cL(H:List AO)(j k:Nat)(lines:List Tx)(ps:Ps)(z:Int):List AO:=(H.set j (sW lines)).set k (g7 ps z)
structure Fm(w:Int)(aW signs:Tx)(i j k:Nat)(lines:List Tx)(ps:Ps)(z:Int)(H:List AO):Prop where
 f:H[i]?=a7 (rU w aW signs j k)
 l:H[j]?=a7 (sW lines)
 a:H[k]?=a7 (g7 ps z)
section
variable {w:Int}{k:Nat}{gN A0:List Tx}{wK OU:Ps}{z z' TM:Int}
theorem Fm.jk(h:Fm w aW signs i j k lines ps z H):j≠k:=λe=>by have:=h.l;rw[e,h.a]at this;cases this
theorem Fm.ij(h:Fm w aW signs i j k lines ps z H):i≠j:=λe=>by have:=h.f;rw[e,h.l]at this;cases this
theorem Fm.ik(h:Fm w aW signs i j k lines ps z H):i≠k:=λe=>by have:=h.f;rw[e,h.a]at this;cases this
theorem Fm.set(h:Fm w aW signs i j k lines ps z H):Fm w aW signs i j k gN wK z' (cL H j k gN wK z'):=⟨by unfold cL;rw[XC (Ne.symm h.ik),XC (Ne.symm h.ij)];show h.f,by unfold cL;rw[XC (Ne.symm h.jk)];show bn h.l,by unfold cL;show bn (o:=g7 ps z) (by rw[XC h.jk];show h.a)⟩
theorem Fm.same(h:Fm w aW signs i j k lines ps z H):cL H j k lines ps z=H:=by unfold cL;rw[set_same h.l,set_same h.a]
theorem dG(Wa:j≠k):cL (cL H j k gN wK z') j k A0 OU TM=cL H j k A0 OU TM:=by unfold cL;rw[List.set_comm _ _ (Ne.symm Wa) (l:=H.set j (sW gN)),Zt,Zt,]
theorem Fm.BO(h:Fm w aW signs i j k lines ps z H):H.set k (g7 wK z')=cL H j k lines wK z':=by unfold cL;rw[set_same h.l]
theorem Fm.LW(h:Fm w aW signs i j k lines ps z H):H.set j (sW gN)=cL H j k gN ps z:=by unfold cL;rw[List.set_comm _ _ h.jk,set_same h.a]
theorem Fm.app(h:Fm w aW signs i j k lines ps z H):Fm w aW signs i j k lines ps z (H++G):=⟨bq h.f,bq h.l,bq h.a⟩
theorem Fm.Wb(h:Fm w aW signs i j k lines ps z H):j<H.length:=(Xc.mp h.l).1
theorem Fm.klt(h:Fm w aW signs i j k lines ps z H):k<H.length:=(Xc.mp h.a).1
theorem Fm.ip(h:Fm w aW signs i j k lines ps z H):cL (H++G) j k gN wK z'=cL H j k gN wK z'++G:=by unfold cL;rw[Zf _ _ h.Wb,Zf _ _ (by rw[Yg];show h.klt)]
theorem dp:(cL H j k lines ps z).length=H.length:=by unfold cL;rw[Yg,Yg]
theorem n7(hb:bw n H):bw n (cL H j k lines ps z):=(hb.set zZ j).set je k
end
section
variable {f:Fp}(kf:KF af K)(hA:cM A (n+20)){Q:AV->List AO->Prop}
include kf hA in
theorem FE{z:Int}(hi:H[i]?=a7 (.inst oq []))(hc:aW.length<=1000)(q:Q .none (H.set i (rU wd aW signs H.length (H.length+1))++[sW [],g7 [] z])):bk ⟨af,w,K,A,f⟩ (.ref 50) [.ref i,.int z,.int wd,S aW,S signs] H Q:=by
 show d0 hA kf.EO (.inl rfl) rfl (by decide) rfl rfl rfl rfl rfl rfl λL q' aj A' db E ct hb hu=>?_;have sv:i<H.length:=(Xc.mp hi).1;ext;show fM kf.fmt hi rfl rfl (Xn _) ?_;ext;show fM kf.fmt (bn hi) rfl rfl (XK rfl) ?_;rw[Zt];ext;show si (iT ‹_›) ?_;ext;show fM kf.fmt (bn hi) rfl rfl (XK rfl) ?_;rw[Zt];ext;show fM kf.fmt (bn hi) rfl rfl (XK rfl) ?_;rw[Zt];ext;show dX ?_;ext;rw[Yg];show fM kf.fmt (bq (bn hi)) rfl rfl (XK rfl) ?_;rw[Zf _ _ (by rw[Yg];show sv),Zt];ext;show bK (Ec kf.Tq (kf.acc.fi "__init__" _ rfl) (kf.acc.fn "__init__" _ rfl).1 λS5 bB=>FB kf (bB _ db) jM ⟨rfl,by simp,?_⟩);ext;rw[um,Xg,Yg];show fM kf.fmt (bq (bq (bn hi))) rfl rfl (XK rfl) ?_;rw[Zf _ _ (by simp;show AaJ 1 sv),Zf _ _ (by rw[Yg];show sv),Zt,Xq];ext;show c9 (by simp) ?_ rfl q;have e1:(H.set i (rU wd aW signs H.length (H.length+1))++[sW [],g7 [] z]).length=H.length+2:=by simp
 change bw (H.set i (rU wd aW signs H.length (H.length+1))++[sW [],g7 [] z]).length (H.set i (rU wd aW signs H.length (H.length+1))++[sW [],g7 [] z]);show aE e1 (bw.append (bw.set (λo ho=>AO.gX.mono (Yd _ _) (hb o ho)) FD i) ?_);intro o ho;simp only[Xi,Xy,or_false]at ho;rcases ho with rfl|rfl
 .show zZ
 .show je
end
end
section
variable {ps:Ps}
noncomputable def be(ps:Ps):Ps:=if popped ps=([32],[])then ps.dropLast else ps.dropLast++[popped ps]
noncomputable def br(lines:List Tx)(ps:Ps)(z:Int):List Tx:=if bo (be ps) z > 0 then(if jK (be ps) z && !lines.isEmpty then lines.dropLast++[lines.getLast?.getD []++bz (be ps)]else lines++[bz (be ps)])else lines
theorem oy.dropLast(h:oy ps):oy ps.dropLast:=⟨by rw[ZF];have:=h.1;show"La1000L-a1.1000" this,λp hp=>h.2 p (AaK _ hp)⟩
theorem sY(h:ps≠[]):ps.dropLast++[popped ps]=ps:=by unfold popped;rw[YO h];show Yh h
theorem oy.be(h:oy ps):oy (be ps):=by
 unfold Internal.be;split
 .show h.dropLast
 .cases ps with|nil=>show⟨by show XQ _,λp hp=>by simp[popped]at hp;subst hp;simp⟩|cons p ps=>rw[sY (Yj p ps)];show h
section
variable {af:Program}{w:World}{K:Frag}{A:Around}{f:Fp}(kf:KF af K){n:Nat}(hA:cM A (n+20)){H:List AO}{Q:AV->List AO->Prop}
include kf hA in
theorem pd{i j k:Nat}{z:Int}{wd:Int}{aW signs:Tx}{lines:List Tx}{ps:Ps}(h:Fm wd aW signs i j k lines ps z H)(hz:0<=z/\z<=1000)(hs:oy ps)(hl:lines.length<=1000)(hc:(bz (be ps)).length<=5000)(wO:∀l∈lines,l.length<=5000)(q:Q .none (cL H j k (br lines ps z) [] 0)):bk ⟨af,w,K,A,f⟩ (.ref 71) [.ref i] H Q:=by
 revert af w K A f n H Q i j k z wd aW signs lines ps;delta af w K A f;intro kf;delta n;intro hA;delta H Q i j k z wd aW signs lines ps;intro h hz hs hl hc wO q;show d0 hA kf.EP (.inl rfl) rfl (by decide) rfl rfl rfl rfl rfl rfl ?_;delta L q' aj A';intro db E ct hb hu;have hr:=hs.be;have gL:=hr.cur hz;ext;show bj kf.fmt h.f rfl rfl rfl rfl (fq kf.acc h.a rfl rfl rfl ?_);ext;show bK (Ik kf db h.a hs.1 ?_);rw[h.BO];show EG (cL H j k lines (be ps) z) ?_ ?_
 .ext;show KJ db (by decide) (d:=0) HO (cf _ rfl (λMs=>?_) (λMs=>?_))
  .have d4:be ps=ps.dropLast++[popped ps]:=by unfold be;rw[aI];intro e;rw[e]at Ms;show absurd Ms (by decide)
   ext;show bb kf.acc.cd fun  cd pK u=>DG (i:=k) (ob:=g7 ps.dropLast z) (C:=eA) (f:=137) (cd:=cd) (fs:=[("_initial_size",.int z)]) kf.acc.pg kf.acc.hd pK (kf.acc.fi _ _ rfl) (kf.acc.fn "push" _ rfl).1 kf.zM.1 kf.zM.2.1 kf.zM.2.2 rfl rfl ?_;ext;show bj kf.fmt h.set.f rfl rfl rfl rfl ⟨rfl,h.set.a,rfl,rfl,?_⟩;ext;show bd _ (B6 (Xx _ _)) (n6 kf db h.set.a hs.dropLast.1 ?_);rw[h.set.BO,dG h.jk];show ix d4 ?_;ext;show⟨rfl,rfl,rfl⟩
  .have d4:be ps=ps.dropLast:=by
    unfold be;rw[aQ];have:(popped ps).1=[32]/\(popped ps).2=[]:=by simpa using Ms
    show Acn this.1 this.2
   ext;show⟨rfl,by rw[d4],rfl⟩
 show EG (cL H j k (br lines ps z) (be ps) z) ?_ ?_
 .ext;show bj kf.fmt h.set.f rfl rfl rfl rfl ?_;ext;show len_own h.set.a rfl (kf.acc.fi _ _ rfl) (kf.acc.fn "__len__" _ rfl).1 (pU kf db.in1 h.set.a hz hr.1 hr.2 (gn _ rfl gL.1 (by lia) ?_));ext;show iR (cf _ rfl (λh1=>?_) (λh1=>?_))
  .have h1:bo (be ps) z > 0:=(λ{a}=>Rat.intCast_pos.mp) h1;have IY:bk ⟨af,w,K,A'.in1.in1,⟨L,[]⟩⟩ (.ref 167) [.ref k] (cL H j k lines (be ps) z) λx H'=>x=S (bz (be ps))/\H'=cL H j k lines (be ps) z:=zY kf db.in1.in1 h.set.a hr.1 hr.2 ⟨rfl,rfl⟩;show"s";show ud (jK (be ps) z && !lines.isEmpty) ?_ (λhT=>?_) (λhT=>?_)
   .ext;show bj kf.fmt h.set.f rfl rfl rfl rfl (fq kf.acc h.set.a rfl rfl rfl ?_);ext;show bK (LV kf db h.set.a hz hr (gw ⟨λPO=>?_,λPO=>⟨by rw[PO];rfl,rfl,rfl⟩⟩));ext;show bj kf.fmt h.set.f rfl rfl rfl rfl (gT (l:=lines.map S) (.inr (bd j rfl h.set.l)) (by simp;show iT ‹_›) ⟨λyx=>?_,λyx=>⟨?_,rfl,rfl⟩⟩)
    .ext;show⟨by rw[PO];have:lines.isEmpty=ac:=(by simpa using yx);rw[this];rfl,rfl,rfl⟩
    .rw[PO];have:lines.isEmpty=a9:=by simpa using yx
     rw[this];rfl
   .have S6:jK (be ps) z=a9/\lines.isEmpty=ac:=by simpa using hT
    have d4:lines≠[]:=by intro e;rw[e]at S6;show absurd S6.2 (by decide)
    have cY:0<lines.length:=Ye.mpr d4;show"s";show B4 ?_ (fun  u u u=>rfl);ext;show bj kf.fmt h.set.f rfl rfl rfl rfl ?_;ext;show mX (bd _ rfl (iZ (n:=lines.length-1) (y:=S (lines.getLast?.getD [])) (gy (l:=lines.map S) (.inr (bd j rfl h.set.l))) (by rw[Xm];show kG cY) ?_ (by simp;show iT ‹_›) ?_))
    ·(rw[Zl,ZD];show aE (Xk (Z9 cY)) ?_);rfl
    ext;show bj kf.fmt h.set.f rfl rfl rfl rfl ?_;ext;show u4 (by have:=db.units;change A'.units+10<=9000;show"L+a*10+b19.9000L+a10.9000" this) h.set.a rfl (kf.acc.fi _ _ rfl) (kf.acc.fn "__str__" _ rfl).1 (IY.mono λx H' ⟨e1,e2⟩=>(bd _ e1 ?_));subst e2;have eT:(lines.getLast?.getD []).length<=5000:=by rw[YO d4];show wO _ (Abp d4)
    show DD (b:=bz (be ps)) (by show jh ?_;show"La5000Lb5000L+ba100000" hc eT) ?_;show vt (n:=lines.length-1) h.set.l rfl (gy (l:=lines.map S) (.inr (bd j rfl h.set.l))) (by rw[Xm];show kG cY) (by simp;show iT ‹_›) ?_;ext;show⟨rfl,?_,rfl⟩;have e3:dI ((lines.map S).set (lines.length-1) (S (lines.getLast?.getD []++bz (be ps)))) (sW lines)=sW (br lines ps z):=by unfold br sW;rw[bX,aQ h1,aQ hT];congr 2;show IG (⟨_,_,(Yh d4).symm⟩:∃l0 x,lines=l0++[x]) λl0 x iO=>?_;clear h hT S6 IY hl eT cY wO d4 q;subst iO;simp
    show aE e3 ?_;rw[h.set.LW,dG h.jk]
   .ext;show bj kf.fmt h.set.f rfl rfl rfl rfl (bx (bG h.set.l) ?_);ext;show bj kf.fmt h.set.f rfl rfl rfl rfl ?_;ext;show u4 (by have:=db.units;change A'.units+10<=9000;show"L+a*10+b19.9000L+a10.9000" this) h.set.a rfl (kf.acc.fi _ _ rfl) (kf.acc.fn "__str__" _ rfl).1 (IY.mono λx H' ⟨e1,e2⟩=>(bd _ e1 ?_));subst e2;ext;show YH h.set.l rfl (bW h.set.l) (by simp;show"La1000La100000" hl) ?_;ext;show⟨rfl,?_,rfl⟩;have e3:dI (lines.map S++[S (bz (be ps))]) (sW lines)=sW (br lines ps z):=by unfold br sW;rw[bX,aQ h1,aI (by rw[hT];decide)];simp
    change(cL H j k lines (be ps) z).set j (dI (lines.map S++[S (bz (be ps))]) (sW lines))=_;show aE e3 ?_;rw[h.set.LW,dG h.jk]
  .ext;have h1:¬bo (be ps) z > 0:=of_decide_eq_false h1;show⟨rfl,?_,rfl⟩;unfold br;rw[aI h1]
 .ext;show bj kf.fmt h.set.f rfl rfl rfl rfl (fq kf.acc h.set.a rfl rfl rfl ?_);ext;show bK (yC kf db h.set.a hr.1 ?_);rw[h.set.BO,dG h.jk];ext;show c9 (by rw[dp];show Xd _) (by rw[dp];show n7 hb) rfl q
end
end
noncomputable def LX:Stmt->Expr
 |.While t _ _ _=>t
 |_=>.Constant .none 0 ⟨0,0,0,0⟩
inductive TN(H0:List AO)(OV:Loc)(b0:Bool)(b:Bool)(H':List AO)(l':Loc):Prop
 |mk:b=b0->H'=H0->l'=OV->TN H0 OV b0 b H' l'
section
variable (kf:KF af K)
include kf
theorem A1{cell:Addr}{H:List AO}{ls:Loc}{td:List (Option (List Nat))}{t:List Nat}(hA:cM A (n+20))(E:ba (bT b9.2.2 L [("key",cell)] q fa aj) ⟨L,[("key",cell)]⟩)
  (h1:bh ls "told" (.ref H.length)) (h2:bh ls "text" (S t)) :
  Ok ⟨af,w,K,A,⟨L,[("key",cell)]⟩⟩ cy (isTrue (LX (cZ b9.1 1)) (bT b9.2.2 L [("key",cell)] q fa aj) (eval (LX (cZ b9.1 1)) (bT b9.2.2 L [("key",cell)] q fa aj))) (H++[.lst (td.map eB)]) ls (TN (H++[.lst (td.map eB)]) ls (gF (td,t))):=by
 have eR:(H++[AO.lst (td.map eB)])[H.length]?=a7 (.lst (td.map eB)):=jM;change Ok _ cy (isTrue (.BoolOp _ _ _) _ _) _ _ _;ext;show cW ?_;ext;show eq_list hA (d:=1) (by decide) (.inr ⟨_,rfl,eR⟩) (.inl rfl) (wm td) ⟨_,rfl,λhn=>?_,λhn=>?_⟩
 .ext;show cW ?_;ext;show eq_list hA (d:=1) (by decide) (.inr ⟨_,rfl,eR⟩) (.inl rfl) (BM td) ⟨_,rfl,λhm=>?_,λhm=>?_⟩
  .ext;show xF (a:=t) (b:=[]) ⟨_,rfl,λht=>?_,λht=>?_⟩
   .ext;show⟨by unfold gF;rw[show(td==[])=ac from hn,show(td==[a8])=ac from hm];show ht.symm,rfl,rfl⟩
   .show⟨by unfold gF;rw[show(td==[])=ac from hn,show(td==[a8])=ac from hm];show ht.symm,rfl,rfl⟩
  .show⟨by unfold gF;rw[show(td==[])=ac from hn,show(td==[a8])=a9 from hm];rfl,rfl,rfl⟩
 .show⟨by unfold gF;rw[show(td==[])=a9 from hn];rfl,rfl,rfl⟩
end
noncomputable def maxD:List Stmt×Arguments×Scope:=match tU (cw (top uu) 6)with|some d=>d|none=>([],⟨[],[],a8,[],[],a8,[]⟩,{ kind:=.function,names:=[],isGenerator:=ac,isCoroutine:=ac })
noncomputable def S7:Stmt->Expr
 |.Expr (.Yield (a7 e) _) _=>e
 |_=>.Constant .none 0 ⟨0,0,0,0⟩
noncomputable abbrev fC(L:Addr)(q:Pi)(aj:Value):Env:=bT maxD.2.2 L [] q 92 aj
section
variable (kf:KF af K)(hA:cM A (n+20))
include kf hA in
theorem Il{k:Nat}{z:Int}(E:ba (fC L q aj) ⟨L,[]⟩)(h:Fm wd aW signs i j k lines ps z H)(hz:0<=z/\z<=1000)(hs:oy ps) :
  Ok ⟨af,w,K,A,⟨L,[]⟩⟩ VR (eval (S7 (cZ maxD.1 0)) (fC L q aj)) H (qT i) λy H' l'=>y=.int (wd-bo ps z)/\H'=H/\l'=qT i:=by
 have gL:=hs.cur hz;change Ok _ VR (eval (.BinOp _ _ _ _) _) _ _ _;ext;show bj kf.fmt h.f rfl rfl rfl rfl ?_;ext;show bj kf.fmt h.f rfl rfl rfl rfl ?_;ext;show len_own h.a rfl (kf.acc.fi _ _ rfl) (kf.acc.fn "__len__" _ rfl).1 (pU kf hA.in1 h.a hz hs.1 hs.2 (gn _ rfl gL.1 (by lia) ?_));ext;show zr ?_;show⟨rfl,rfl,rfl⟩
end
noncomputable abbrev TT:Type:=List (Option (List Nat))×List Nat
noncomputable def Fc(p:TT):Nat:=p.2.length+(if p.1=[]then 2 else if p.1=[a8]then 1 else 0)
noncomputable def BP(k:List Nat)(r:Int):Nat->TT->TT
 |0,p=>p
 |n+1,p=>if gF p then BP k r n (cB k r p)else p
noncomputable def dJ(k:List Nat)(r0 r1:Int)(t:List Nat):List (Option (List Nat)):=(BP k r1 101 (cB k r0 ([],t))).1
theorem n8{k:List Nat}{p:TT}(h:gF p=ac):BP k r n p=p:=by
 cases n with|zero=>rfl|succ n=>unfold BP;rw[h];rfl
theorem un{k:List Nat}{p:TT}(h:gF p=a9):BP k r (n+1) p=BP k r n (cB k r p):=by rw[BP,aQ h]
theorem n9{k:List Nat}(h:0<n):0<cq k t r n:=by
 induction n with
 |zero=>show absurd h (XM _)
 |succ n ih=>
  unfold cq;split
  .rename_i z;show ih (by have:=z.1;show"AT1+a1Hp$bT0a" z)
  .show XQ _
theorem jf{k:List Nat}{p:TT}:(cB k r p).1.length=p.1.length+1/\(cB k r p).2.length<=p.2.length:=by
 unfold cB;split
 .show⟨by show GK,Xd _⟩
 .show⟨by show GK,by show length_drop_le_self (cq k p.snd r p.snd.length) p.snd⟩
theorem FF{k:List Nat}{p:TT}:(cB k r p).1≠[]:=λe=>by have:=(jf (k:=k) (r:=r) (p:=p)).1;rw[e]at this;cases this
theorem FG{p:TT}(h:gF p=a9):0<Fc p:=by
 unfold gF at h;unfold Fc;split
 .show"T0+a2"
 .split
  .show"T0+a1"
  .rename_i h1 h2;have:p.2≠[]:=λe=>by rw[e]at h;simp[h1,h2]at h
   have:=Ye.mpr this;show"T0aT0+a0" this
theorem Im{k:List Nat}{p:TT}(h:gF p=a9):Fc (cB k r p)<Fc p:=by
 obtain⟨td,t⟩:=p;have hl:=jf (k:=k) (r:=r) (p:=(td,t));by_cases h0:td=[]
 .clear h;subst h0;unfold Fc;rw[aI FF,aQ rfl]
  have:=hl.2;split<;>omega
 .have e1:cB k r (td,t)=(td++[a7 (bi k (t.take (cq k t r t.length)))],t.drop (cq k t r t.length)):=by unfold cB;rw[aI λz=>h0 z.1]
  have n1:td++[a7 (bi k (t.take (cq k t r t.length)))]≠[a8]:=λe=>by have:=congrArg ZL e;rw[Xg]at this;have h3:=Ye.mpr h0;simp at this;show h0 this
  rw[e1];unfold Fc;rw[aI (by show Yu (a7 (bi k (AbA (cq k t r t.length) t))) td),aI n1,aI h0];dsimp only;rw[XW];by_cases h1:td=[a8]
  .rw[aQ h1];show"T+-ab0+a1"
  .rw[aI h1];have ht:t≠[]:=λe=>by unfold gF at h;rw[e]at h;simp[h0,h1]at h
   have:=Ye.mpr ht
   have:=n9 (k:=k) (t:=t) (r:=r) this;omega
inductive OW(H0:List AO)(OV:Loc)(fl:AF)(H':List AO)(l':Loc):Prop
 |mk:fl=.next->(H'=H0++[.lst []])->l'=put "told" (.ref H0.length) OV->OW H0 OV fl H' l'
structure LI(c:Cx)(Lg ga g:Addr)(i:Nat)(cO:Wd)(bD:Shared)(H:List AO)(k:List Nat)(p:TT)(W':Wd)(s':Shared)(l':Loc):Prop where
 gx:GX c Lg g cO bD W' s' l'
 eH:W'.H=H++[.lst (p.1.map eB)]
 t1:bh l' "told" (.ref H.length)
 t2:bh l' "text" (S p.2)
 t3:bh l' "rooms" (.val (.ref ga))
 t4:bh l' "key" (S k)
 tx:p.2.length<=100
inductive yE(c:Cx)(Lg ga g:Addr)(i:Nat)(cO:Wd)(bD:Shared)(H:List AO)(k t:List Nat)(r0 a b:Int)(OX:GenState)(n:Nat)(s':Shared):Prop
 |fresh (W':Wd) (l':Loc):LI c Lg ga g i cO bD H k ([],t) W' s' l'->n=102->GA c ga Lg g i OX W' s'->yE c Lg ga g i cO bD H k t r0 a b OX n s'
 |later (W':Wd) (l':Loc) (p:TT) (gs:GenState):LI c Lg ga g i cO bD H k p W' s' l'->p.1.length+n<=102->Fc p<=n->GA c ga Lg g i gs W' s'->Later c oq Lg (cO.ρ i).1 a b gs (n+1)->(BP k (a-b) n p).1=dJ k r0 (a-b) t->yE c Lg ga g i cO bD H k t r0 a b OX n s'
section
variable (kf:KF af K)
theorem LY{cell:Addr}{H:List AO}{ls:Loc}(E:ba (bT b9.2.2 L [("key",cell)] q fa aj) ⟨L,[("key",cell)]⟩) :
  Ok ⟨af,w,K,A,⟨L,[("key",cell)]⟩⟩ aY (exec (cZ b9.1 0) (bT b9.2.2 L [("key",cell)] q fa aj)) H ls (OW H ls):=by
 change Ok _ aY (exec (.Assign _ _ _) _) _ _ _;ext;show dX ?_;ext;show⟨rfl,rfl,rfl⟩
include kf
theorem sZ{L cell fa Lg ga g:Addr}{i N:Nat}{q:Pi}{aj:Value}{H:List AO}{k t:List Nat}{p:TT}{r r0 a b:Int}{OX gs:GenState}{cO b7:Wd}{bD bJ:Shared}{ls:Loc}{v:Value}{tv:Tok}
  (hA:cM A (n+20)) (E:ba (bT b9.2.2 L [("key",cell)] q fa aj) ⟨L,[("key",cell)]⟩) (hk:k.length<=10) (I:LI ⟨af,w,K,A,⟨L,[("key",cell)]⟩⟩ Lg ga g i cO bD H k p b7 bJ ls) (hi:i<b7.H.length) (hv:v=.int r tv)
  (x:GA ⟨af,w,K,A,⟨L,[("key",cell)]⟩⟩ ga Lg g i gs b7 bJ) (l:Later ⟨af,w,K,A,⟨L,[("key",cell)]⟩⟩ oq Lg (cO.ρ i).1 a b gs (N+1)) (hl:gF p=a9) (h1:p.1.length+N<102) (h2:Fc p<=N+1) (e:(BP k (a-b) N (cB k r p)).1=dJ k r0 (a-b) t)
  (Q:Flow->Shared->Prop) (E':Value->Shared->Prop) (hq:∀s',yE ⟨af,w,K,A,⟨L,[("key",cell)]⟩⟩ Lg ga g i cO bD H k t r0 a b OX N s'->Q .next s') :
  wpAny (model af w) A (storeName (bT b9.2.2 L [("key",cell)] q fa aj) "room" v) (λ_ s=>wpAny (model af w) A (execs ((Mx (cZ b9.1 1)).drop 1) (bT b9.2.2 L [("key",cell)] q fa aj)) Q E' s) E' bJ:=by
 subst hv;show yp (c:=⟨af,w,K,A,⟨L,[("key",cell)]⟩⟩) I.gx.here E rfl rfl (.int _ _) λg9 fP bE jP=>?_;have I1:=I.t1;have I2:=I.t2;have I3:=I.t3;have I4:=I.t4;have Wc:bh (put "room" (.int r) ls) "told" (.ref H.length):=by left
 have We:bh (put "room" (.int r) ls) "text" (S p.2):=by left
 have Wf:bh (put "room" (.int r) ls) "rooms" (.val (.ref ga)):=by left
 have Wg:bh (put "room" (.int r) ls) "key" (S k):=by left
 show(Ij (q:=q) (fa:=fa) (aj:=aj) (H:=H) (td:=p.1) (t:=p.2) (r:=r) (k:=k) (ga:=ga) kf hA E hk I.tx (by show"T+ab102La1000" h1) (Wc) (We) (Wf) (Wg) (tC _)).run bE.here (jP.trans I.eH) λeX eu nS fl f cU rf z=>?_;obtain⟨rfl,e5,g1,g2,g3,g4⟩:=z;cases rf;have GG:=bE.tr cU;have cY:=jf (k:=k) (r:=r) (p:=p);have hi4:i<g9.H.length:=by rw[jP];show hi
 show hq _ (.later eX nS (cB k r p) gs ⟨I.gx.trans (.of GG),e5,g1,g2,g3,g4,Xf cY.2 I.tx⟩ (by rw[cY.1];show"T+ab102L++a1b102" h1) (Aa8 (XB (Im hl) h2)) (x.step I.gx.hh hi GG) l e)
end
inductive TP(ga:Addr)(H:List AO)(ls:Loc)(xs:List AV)(H':List AO)(l':Loc):Prop
 |mk:xs=[.val (.ref ga)]->H'=H->l'=ls->TP ga H ls xs H' l'
theorem TQ(h:H[i]?=a7 o):i<H.length:=(Xc.mp h).1
section
variable {af:Program}{w:World}{K:Frag}{A:Around}{n:Nat}(kf:KF af K)
include kf
theorem yF{L cell fa Lg ga g:Addr}{i j kk N:Nat}{q q2:Pi}{aj dR:Value}{H:List AO}{k t:List Nat}{wd z:Int}{aW signs:Tx}{lines:List Tx}{ps:Ps}{cO:Wd}{bD s':Shared}
  (hA:cM A (n+30)) (E:ba (bT b9.2.2 L [("key",cell)] q fa aj) ⟨L,[("key",cell)]⟩) (hk:k.length<=10) (ht:t.length<=100) (h:Fm wd aW signs i j kk lines ps z H) (hz:0<=z/\z<=1000) (hs:oy ps) (lA:cO.H=H) (LZ:interactive (fC Lg q2 dR)=ac)
  (I:yE ⟨af,w,K,A,⟨L,[("key",cell)]⟩⟩ Lg ga g i cO bD H k t (wd-bo ps z) wd aW.length (.fresh (.func maxD.1 (fC Lg q2 dR))) N s') (R:Result->Shared->Prop)
  (hq:∀W' l' s',GX ⟨af,w,K,A,⟨L,[("key",cell)]⟩⟩ Lg g cO bD W' s' l'->W'.H=H++[.lst ((dJ k (wd-bo ps z) (wd-aW.length) t).map eB)]->bh l' "told" (.ref H.length)->R (.ok .next) s') :
  wpAny (model af w) A (isTrue (LX (cZ b9.1 1)) (bT b9.2.2 L [("key",cell)] q fa aj) (eval (LX (cZ b9.1 1)) (bT b9.2.2 L [("key",cell)] q fa aj))) (λb aN=>
    if b then wpAny (model af w) A (execs (Mx (cZ b9.1 1)) (bT b9.2.2 L [("key",cell)] q fa aj)) (λf bJ=>match f with
      |.next|.cont=>∃m,m<N/\yE ⟨af,w,K,A,⟨L,[("key",cell)]⟩⟩ Lg ga g i cO bD H k t (wd-bo ps z) wd aW.length (.fresh (.func maxD.1 (fC Lg q2 dR))) m bJ
      |.brk=>R (.ok .next) bJ
      |.ret v=>R (.ok (.ret v)) bJ) (notedBy (model af w) A (bT b9.2.2 L [("key",cell)] q fa aj) λe s'=>R (.error e) s') aN
    else wpAny (model af w) A (execs [] (bT b9.2.2 L [("key",cell)] q fa aj)) (λf bJ=>R (.ok f) bJ) (notedBy (model af w) A (bT b9.2.2 L [("key",cell)] q fa aj) λe s'=>R (.error e) s') aN)
   (notedBy (model af w) A (bT b9.2.2 L [("key",cell)] q fa aj) λe s'=>R (.error e) s') s':=by
 revert af w K A n L cell fa Lg ga g i j kk N q q2 aj dR H k t wd z aW signs lines ps cO bD s' R;delta af w K A n;intro kf;delta L cell fa Lg ga g i j kk N q q2 aj dR H k t wd z aW signs lines ps cO bD s';intro hA E hk ht h hz hs lA LZ I;delta R;intro hq;have rC:=TQ h.f;have S8:cM (A.in1.in1.over (.func maxD.1 (fC Lg q2 dR)) []) (n+20):=((hA.le (m:=n+20+1+1+1) (by show"L++++a20.1.1.1+a30")).in1.in1).over _ _;have Eg:ba (fC Lg q2 dR) ⟨Lg,[]⟩:=⟨rfl,rfl,λu u e=>e,rfl,rfl⟩
 have aO:∀{H':List AO} {ls:Loc} {pp:Pos} {p2:Pos},bh ls "rooms" (.val (.ref ga))->Ok ⟨af,w,K,A,⟨L,[("key",cell)]⟩⟩ bY (spliced (backTo pp (starEach [.Name "rooms" p2] (bT b9.2.2 L [("key",cell)] q fa aj)))) H' ls (TP ga H' ls):=λh3=>by ext;show⟨rfl,rfl,rfl⟩
 cases I with
 |fresh W' l' I hn x=>
  subst hn;show(A1 (q:=q) (fa:=fa) (aj:=aj) (td:=[]) (t:=t) kf (hA.le (m:=n+20) (by show"L+a20+a30")) E I.t1 I.t2).run I.gx.here I.eH λaK aH aU b b' aD rb FH=>?_;obtain⟨rfl,e1,rfl⟩:=FH;cases rb;rw[aQ (show gF ([],t)=a9 from rfl)];show X7 (Z3 (qX (c:=⟨af,w,K,A,⟨L,[("key",cell)]⟩⟩) aD.here rfl E rfl rfl (kf.gl _ _ rfl) rfl (aO I.t3) rfl λb4 aN cj xs vs aF dg M0=>?_) rfl);obtain⟨rfl,e2,rfl⟩:=M0;cases dg with
  |cons ra rb=>
  cases ra;cases rb;have GG:=aD.tr aF;have PP:aK.H=H++[.lst []]:=e1;have Ci:b4.H=H++[.lst []]:=e2.trans PP;have oS:i<W'.H.length:=by rw[I.eH,Xg];show"TabTa+bc" rC
  have PQ:i<b4.H.length:=by rw[Ci,Xg];show"TabTa+bc" rC
  show Xz (yl (c:=⟨af,w,K,A,⟨L,[("key",cell)]⟩⟩) (r0:=wd-bo ps z) (L:=Lg) (g:=g) (aB:=maxD.1) (ae:=fC Lg q2 dR) (a:=wd) (b:=aW.length) hA rfl kf.fmt rfl rfl rfl rfl rfl rfl LZ (x.step I.gx.hh oS GG) GG.here PQ (Il (q:=q2) (aj:=dR) kf S8 Eg (by rw[Ci];show h.app) hz hs) 101) (λv bJ ⟨b7,tv,wf,hv,aT,cE,r8,d5⟩=>?_) λ_ _ z=>z.elim;have ag:b4.ρ i=cO.ρ i:=(GG.st.agree i oS).trans (I.gx.st.agree i (by rw[lA];show rC));show sZ (p:=([],t)) kf (hA.le (m:=n+20) (by show"L+a20+a30")) E hk ⟨(I.gx.trans (.of GG)).trans aT,cE.trans Ci,I.t1,I.t2,I.t3,I.t4,I.tx⟩ (by rw[cE];show PQ) hv r8 (ag▸d5) rfl (by change 0+101<102;decide) (by change t.length+2<=102;show"La100L+a2.102" ht) rfl _ _ λfF S9=>⟨101,by decide,S9⟩
 |later W' l' p gs I hl hm x lt e=>
  show(A1 (q:=q) (fa:=fa) (aj:=aj) (td:=p.1) (t:=p.2) kf (hA.le (m:=n+20) (by show"L+a20+a30")) E I.t1 I.t2).run I.gx.here I.eH λaK aH aU b b' aD rb FH=>?_;obtain⟨rfl,e1,rfl⟩:=FH;cases rb;have PP:aK.H=H++[.lst (p.1.map eB)]:=e1;cases hb:gF (p.1,p.2)with
  |false=>rw[aI (by decide)];show Abx (hq aK aU aH (I.gx.trans (.of aD)) ?_ I.t1);rw[PP,<-e,n8 hb]
  |true=>
   rw[aQ rfl];show X7 (Z3 (qX (c:=⟨af,w,K,A,⟨L,[("key",cell)]⟩⟩) aD.here rfl E rfl rfl (kf.gl _ _ rfl) rfl (aO I.t3) rfl λb4 aN cj xs vs aF dg M0=>?_) rfl);obtain⟨rfl,e2,rfl⟩:=M0;cases dg with
   |cons ra rb=>
   cases ra;cases rb;have GG:=aD.tr aF;have Ci:b4.H=H++[.lst (p.1.map eB)]:=e2.trans PP;have oS:i<W'.H.length:=by rw[I.eH,Xg];show"TabTa+bc" rC
   have PQ:i<b4.H.length:=by rw[Ci,Xg];show"TabTa+bc" rC
   have ag:b4.ρ i=cO.ρ i:=(GG.st.agree i oS).trans (I.gx.st.agree i (by rw[lA];show rC));have hp:=FG (p:=p) hb;obtain⟨N,rfl⟩:∃M,N=M+1:=⟨N-1,by show"LabT0aEb+-b1.1" hm hp⟩
   have x2:=x.step I.gx.hh oS GG;have f2:b4.H[i]?=a7 (rU wd aW signs j kk):=by rw[Ci];show h.app.f
   show Xz (ym (c:=⟨af,w,K,A,⟨L,[("key",cell)]⟩⟩) hA x2 GG.here (LA GG.here x2 f2 rfl rfl rfl) (ag.symm▸lt)) (λv bJ ⟨tv,wf,hv,aT,r8,d5⟩=>?_) λ_ _ z=>z.elim;show sZ (p:=p) kf (hA.le (m:=n+20) (by show"L+a20+a30")) E hk ⟨(I.gx.trans (.of GG)).trans aT,Ci,I.t1,I.t2,I.t3,I.t4,I.tx⟩ PQ hv r8 (ag▸d5) hb (by show"L+a+b1.102T+ab102" hl) hm ((congrArg Prod.fst (un hb).symm).trans e) _ _ λfF S9=>⟨N,Yi _,S9⟩
end
inductive OY(i:Nat)(H:List AO)(fl:AF)(H':List AO)(l':Loc):Prop
 |mk:fl=.ret (.ref i)->H'=H->OY i H fl H' l'
inductive FJ(K:Frag)(Lg cell g:Addr)(W:Wd)(s:Shared)(rows:List (Option (List Nat)))(r:Result)(s':Shared):Prop
 |mk (W':Wd):r=.ok (.ret (.ref (W'.ρ W.H.length).1))->W'.h=s'.heap->W'.H=W.H++[.lst (rows.map eB)]->Step (Lg::cell::bp K) W W'->Rel K W'->s'.os=s.os->GG g s.gens s'.gens->0<s'.toks->FJ K Lg cell g W s rows r s'
section
variable {af:Program}{w:World}{K:Frag}{A:Around}{n:Nat}(kf:KF af K)
include kf
omit kf in
theorem FK{cell:Addr}{H:List AO}{ls:Loc}(E:ba (bT b9.2.2 L [("key",cell)] q fa aj) ⟨L,[("key",cell)]⟩) (h:bh ls "told" (.ref i)) :
  Ok ⟨af,w,K,A,⟨L,[("key",cell)]⟩⟩ aY (execs [cZ b9.1 2] (bT b9.2.2 L [("key",cell)] q fa aj)) H ls (OY i H):=by
 change Ok _ aY (execs [.Return (a7 (.Name _ _)) _] _) _ _ _;ext;show⟨rfl,rfl⟩
theorem wn{L cell fa Lg ga g:Addr}{i j kk N:Nat}{q q2:Pi}{aj dR:Value}{H:List AO}{k t:List Nat}{wd z:Int}{aW signs:Tx}{lines:List Tx}{ps:Ps}{cO:Wd}{bD s':Shared}{p:Pos}
  (hA:cM A (n+30)) (E:ba (bT b9.2.2 L [("key",cell)] q fa aj) ⟨L,[("key",cell)]⟩) (hk:k.length<=10) (ht:t.length<=100) (h:Fm wd aW signs i j kk lines ps z H) (hz:0<=z/\z<=1000) (hs:oy ps) (lA:cO.H=H) (LZ:interactive (fC Lg q2 dR)=ac)
  (I:yE ⟨af,w,K,A,⟨L,[("key",cell)]⟩⟩ Lg ga g i cO bD H k t (wd-bo ps z) wd aW.length (.fresh (.func maxD.1 (fC Lg q2 dR))) N s') (Q:Flow->Shared->Prop) (Er:Value->Shared->Prop)
  (hq:∀W' l' s',GX ⟨af,w,K,A,⟨L,[("key",cell)]⟩⟩ Lg g cO bD W' s' l'->W'.H=H++[.lst ((dJ k (wd-bo ps z) (wd-aW.length) t).map eB)]->bh l' "told" (.ref H.length)->Q .next s') :
  wpAny (model af w) A (exec (.While (LX (cZ b9.1 1)) (Mx (cZ b9.1 1)) [] p) (bT b9.2.2 L [("key",cell)] q fa aj)) Q Er s':=by
 have key:∀(R:Result->Shared->Prop),(∀s',Q .next s'->R (.ok .next) s')->codeAny (model af w) A (.whileLoop (LX (cZ b9.1 1)) (Mx (cZ b9.1 1)) [] (bT b9.2.2 L [("key",cell)] q fa aj)) R s':=λR hR=>codeAny_whileLoop (yE ⟨af,w,K,A,⟨L,[("key",cell)]⟩⟩ Lg ga g i cO bD H k t (wd-bo ps z) wd aW.length (.fresh (.func maxD.1 (fC Lg q2 dR)))) (λn' fF I'=>yF kf hA E hk ht h hz hs lA LZ I' R λW' l' s3 G e c1=>hR _ (hq W' l' s3 G e c1)) N I
 show wpAny_While (key _ λ_ x=>x)
theorem yG{cell fl Lg ga g:Addr}{i j kk:Nat}{q2:Pi}{dR:Value}{H:List AO}{k t:List Nat}{tt:Tok}{wd z:Int}{aW signs:Tx}{lines:List Tx}{ps:Ps}{W:Wd}{s:Shared}{f:Fp}{vs:List Value}
  (hA:cM A (n+31)) (dF:0<s.toks) (hh:W.h=s.heap) (R:Rel K W) (hk:k.length<=10) (ht:t.length<=100) (h:Fm wd aW signs i j kk lines ps z H) (hz:0<=z/\z<=1000) (hs:oy ps) (lA:W.H=H) (LZ:interactive (fC Lg q2 dR)=ac)
  (CL:gh W.h fl b9.2.1 b9.1 b9.2.2 "key" cell) (ca:W.h.IsCell cell (a7 (.str ⟨k.toArray⟩ tt))) (am:cell ∉ W.bf) (ak:K.lookup cell=a8) (as:cStatics≠cell) (r:bY W [S t,.val (.ref ga)] vs)
  (x:GA ⟨af,w,K,A,f⟩ ga Lg g i (.fresh (.func maxD.1 (fC Lg q2 dR))) W s) (n1:Lg≠cell) (n2:ga≠cell) :
  codeAny (model af w) A (.call (.ref fl) ⟨vs,[]⟩) (FJ K Lg cell g W s (dJ k (wd-bo ps z) (wd-aW.length) t)) s:=by
 revert af w K A n cell fl Lg ga g i j kk q2 dR H k t tt wd z aW signs lines ps W s f vs;delta af w K A n;intro kf;delta cell fl Lg ga g i j kk q2 dR H k t tt wd z aW signs lines ps W s f vs;intro hA dF hh R hk ht h hz hs lA LZ CL ca am ak as r x n1 n2;subst lA;show BE (K:=K) hA dF hh R CL r ca (.str _ _) am ak as (by decide) (λfd vs e1 e2 hl=>?_) (by decide) rfl rfl rfl rfl (by decide) (by decide) λL q aj A' h₀ tk db E ue k₁ nL=>?_
 .obtain⟨nm,qn,ps,aB,al,gl,cl,dv,KV,r1,r2,r3,r4,r5,r6⟩:=fd;dsimp only at e1 e2;subst e1 e2;show dH (iK 1 hl) λ_ u0 e9 LC=>?_;subst e9;show dH (iK 0 LC) λ_ u1 jN OZ=>?_;subst jN;obtain rfl:=ZQ OZ;rfl
 .have rC:=TQ h.f;rw[show b9.1=[cZ b9.1 0,cZ b9.1 1,cZ b9.1 2]from rfl];show X7 ((LY (q:=q) (aj:=aj) (fa:=fl) E).run ue rfl λaK aH aU TR vT aD rf FH=>?_);obtain⟨rfl,c8,rfl⟩:=FH;cases rf;obtain⟨pw,hw⟩:∃p,cZ b9.1 1=.While (LX (cZ b9.1 1)) (Mx (cZ b9.1 1)) [] p:=⟨_,rfl⟩
  have A3:aK.H=W.H++[.lst []]:=c8
  have FM:GA ⟨af,w,K,A',⟨L,[("key",cell)]⟩⟩ ga Lg g i (.fresh (.func maxD.1 (fC Lg q2 dR))) ⟨h₀,W.ρ,W.H⟩ { s with heap:=h₀,toks:=tk }:=by
   obtain⟨o,nm,qn,eg,rr⟩:=x.gen;obtain⟨m,⟨o2,es,ep,el,r2⟩,hs⟩:=x.ns;have TS:∀a o,W.h.get? a=a7 o->a≠cell->a ∉ bp K->a ∉ (⟨L,[("key",cell)]⟩:Fp).ad++bp K:=λa o e nc nt m=>by
    rcases Xl.mp m with m|m
    .rcases Xi.mp m with m|m
     .rw[m,nL]at e;cases e
     .show nc (Xh.mp m)
    .show nt m
   show⟨⟨o,nm,qn,k₁ _ _ (hh▸eg),rr⟩,x.st,⟨m,⟨o2,es,ep,k₁ _ _ (hh▸el),r2⟩,hs⟩,x.nL,x.ng,TS Lg _ (hh▸el) n1 (λm=>x.fL (X6 _ m)),TS ga _ (hh▸eg) n2 (λm=>x.fg (X6 _ m)),x.kL,x.sL,x.ne⟩
  have BQ:=FM.step rfl rC aD;rw[hw];show X7 (wn (N:=102) (cO:=⟨h₀,W.ρ,W.H⟩) kf db E hk ht h hz hs rfl LZ (.fresh aK _ ⟨.of aD,A3,?_,?_,?_,?_,ht⟩ rfl BQ) _ _ λW' l' s' G e c1=>?_);any_goals left
  show(FK (q:=q) (aj:=aj) (fa:=fl) E c1).run G.here rfl λeX eu nS Sa Wh cU DB Sb=>?_;obtain⟨rfl,e5⟩:=Sb;cases DB with
  |ret DB=>
  cases DB;have X:=G.trans (.of cU);show .mk eX rfl X.hh (e5.trans e) ⟨X.st.len,X.st.agree,λb o eb mb nb=>?_⟩ X.rel X.os X.gens X.tk;show X.st.keep b o (k₁ b o eb) mb λm=>?_;rcases Xi.mp m with m|m
  .show nb (m▸.head _)
  .rcases Xl.mp m with m|m
   .rcases Xi.mp m with m|m
    .rw[m,nL]at eb;cases eb
    .show nb (.tail _ (Xi.mpr (.inl (Xh.mp m))))
   .show nb (.tail _ (.tail _ m))
end
noncomputable def gQ:List Stmt×Arguments×Scope:=match tU (cw (top uu) 5)with|some d=>d|none=>([],⟨[],[],a8,[],[],a8,[]⟩,{ kind:=.function,names:=[],isGenerator:=ac,isCoroutine:=ac })
noncomputable abbrev bP(L:Addr)(q:Pi)(aj:Value):Env:=bT gQ.2.2 L [] q 85 aj
section
variable (kf:KF af K)
include kf
theorem BR{i j kk:Nat}{wd:Int}{aW signs:Tx}{W:Wd}{s:Shared}{ls:Loc}{p1 p2 p3:Pos}{P E:Value->Shared->Prop}(hA:cM A (n+2))(E':ba (bP L q aj) ⟨L,[]⟩)
  (g:Here ⟨af,w,K,A,⟨L,[]⟩⟩ W s ls) (h:W.H[i]?=a7 (rU wd aW signs j kk)) (hs:bh ls "self" (.ref i)) (sx:(p2.endLine==p3.line)=a9)
  (k:∀W' s' ga Lg g' q2 dR,bN ⟨af,w,K,A,⟨L,[]⟩⟩ W s W' s' ls->W'.H=W.H->GA ⟨af,w,K,A,⟨L,[]⟩⟩ ga Lg g' i (.fresh (.func maxD.1 (fC Lg q2 dR))) W' s'->W.h.get? Lg=a8->W.h.get? ga=a8->(∀(m:Nat) (y:GenState),s.gens[m]?=a7 y->m≠g')->P (.ref ga) s') :
  wpAny (model af w) A (eval (.Call (.Attribute (.Name "self" p1) "_maxlengths" p2) [] [] p3) (bP L q aj)) P E s:=by
 have Bt:Ok ⟨af,w,K,A,⟨L,[]⟩⟩ VR (eval (.Name "self" p1) (bP L q aj)) W.H ls λx H' l'=>x=.ref i/\H'=W.H/\l'=ls:=by ext;show⟨rfl,rfl,rfl⟩
 show n5 g rfl rfl (by decide) sx rfl Bt λaK aH aU x u aD b8 z pl=>?_;obtain⟨rfl,c8,rfl⟩:=z;show tG (c:=⟨af,w,K,A,⟨L,[]⟩⟩) (c8▸h) rfl kf.fmt.pg (kf.fmt.fi "_maxlengths" _ rfl) (kf.fmt.fn "_maxlengths" _ rfl).1 rfl aK aH u aU _ _ pl aD.here rfl b8 (YR ⟨⟨_,dY (aD.hh▸aD.rel.top) (kf.fmt.fn "_maxlengths" _ rfl).2⟩,?_⟩);cases b8 with
 |ref _ hi=>
 show cA (P:=λv s'=>l9 K aK aH maxD.1 maxD.2.2 92 (qT i) (.ok (.ret v)) s') (E:=qm) aD.tk (YD (Yr (F3 (K:=K) (W:=aK) (xs:=[.ref i]) (n:=n+1) hA kf.Jv rfl (by decide) rfl rfl rfl rfl rfl rfl aD.hh aD.rel (.cons (.ref i hi) .nil)) λr s' z=>?_)) (λv s' t z=>?_) λ_ _ z=>z.elim
 .have z':=z;obtain⟨ga,L',q',TU,hr,_⟩:=z';subst hr;show z
 .obtain⟨ga,Lg,q2,dR,hr,G,x,n1,n2⟩:=l9.ga (c:=⟨af,w,K,A,⟨L,[]⟩⟩) aD.here z t;cases hr;show k _ _ ga Lg _ q2 dR (aD.tr G) c8 x (aD.old c8 n1) (aD.old c8 n2) λm y e z=>by have:=aD.sh.2.keep m y e;rw[z]at this;show absurd (AaT.mp this).1 (XM _)
end
structure jL(c:Cx)(W:Wd)(s:Shared)(co d f cell:Addr)(k:List Nat):Prop where
 at_:wj s.heap co d f cell k
 nm:∀a∈[co,d,f,cell],a ∉ W.bf
 nf:∀a∈[co,d,f,cell],a ∉ c.f.ad++bp c.K
 ck:c.K.lookup cell=a8
 cs:cStatics≠cell
section
variable {ls dq:Loc}{co d f cell:Addr}{k:List Nat}
theorem wj.keeps{h:Heap}(x:wj h co d f cell k)(e:∀a∈[co,d,f,cell],∀o,h.get? a=a7 o->h'.get? a=a7 o)(cl:gh h f b9.2.1 b9.1 b9.2.2 "key" cell->gh h' f b9.2.1 b9.1 b9.2.2 "key" cell):wj h' co d f cell k:=by obtain⟨⟨fd,sl,e1⟩,⟨m,t,n,e2,e3⟩,Wi,t',o,e4,r⟩:=x;show⟨⟨fd,sl,e co (by simp) _ e1⟩,⟨m,t,n.at λo q=>e d (by simp) o q,e2,e3⟩,cl Wi,t',o,e cell (by simp) _ e4,r⟩
theorem jL.step(x:jL c W s co d f cell k)(H:Here c W s ls)(G:bN c W s W' s' dq):jL c W' s' co d f cell k:=by
 have kp:∀a∈[co,d,f,cell],∀o,s.heap.get? a=a7 o->s'.heap.get? a=a7 o:=λa m o e=>G.hh▸(G.st.keep a o (H.hh▸e) (x.nm a m) (x.nf a m)).1;show⟨x.at_.keeps kp λcl=>?_,λa m=>?_,x.nf,x.ck,x.cs⟩
 .have:=gh.mono H.rel (G.toGood.mono H) (H.hh▸cl) (x.nm f (by simp));show G.hh▸this
 .have ex:∃o,s.heap.get? a=a7 o:=by
   obtain⟨⟨fd,sl,e1⟩,⟨mm,t,⟨od,_,_,e7,_⟩,e2,e3⟩,⟨Wj,e6,_⟩,t',o,e4,r⟩:=x.at_;simp only[Xi,Xy,or_false]at m;rcases m with rfl|rfl|rfl|rfl
   .show⟨_,e1⟩
   .show⟨_,e7⟩
   .show⟨_,e6⟩
   .show⟨_,e4⟩
  obtain⟨o,e⟩:=ex;show(G.st.keep a o (H.hh▸e) (x.nm a m) (x.nf a m)).2
theorem Here.toks(H:Here c W s ls)(T:Toks s s'):Here c W s' ls:=⟨H.hh.trans T.heap.symm,H.rel,H.fr,XB H.tk T.tk⟩
theorem jL.toks(x:jL c W s co d f cell k)(T:Toks s s'):jL c W s' co d f cell k:=⟨T.heap.symm▸x.at_,x.nm,x.nf,x.ck,x.cs⟩
end
section
variable {af:Program}{w:World}{K:Frag}{A:Around}{n:Nat}(kf:KF af K)
theorem Io{L:Addr}{q:Pi}{aj:Value}{W:Wd}{s:Shared}{ls:Loc}{co d f cell:Addr}{k:List Nat}{aV:List Stmt}{Q:Flow->Shared->Prop}{E:Value->Shared->Prop}(E':ba (bP L q aj) ⟨L,[]⟩)
  (g:Here ⟨af,w,K,A,⟨L,[]⟩⟩ W s ls) (x:jL ⟨af,w,K,A,⟨L,[]⟩⟩ W s co d f cell k) (hs:bh ls "charset" (.val (.ref co)))
  (kk:∀s',Toks s s'->wpAny (model af w) A (execs aV (bP L q aj)) Q E s'):wpAny (model af w) A (execs (cZ gQ.1 0::aV) (bP L q aj)) Q E s:=by
 revert af w K A L q aj W s ls co d f cell k aV Q E;delta af w K A L q aj W s ls co d f cell k aV Q E;intro E' g x hs kk;change wpAny _ _ (execs (.If (.Compare (.Attribute (.Name "charset" _) _ _) _ [.Constant .none _ _] _) _ [] _::_) _) _ _ _;obtain⟨m,n1,r⟩:=g.fr.ns;obtain⟨v,e,rv⟩:=r "charset" _ hs rfl;cases rv;obtain⟨fd,sl,e1⟩:=x.at_.fn;obtain⟨mm,t,n2,e2,e3⟩:=x.at_.ns;show X7 (wpAny_If (Ade (Aa4 (kJ (L:=L) rfl rfl rfl (g.hh▸n1) e rfl (Om e1 Ff.wh n2 e2 rfl (wpAny_Constant_none (wpAny_is_plain rfl (Aaz ?_)))))) rfl));rw[aI (ne_true_of_eq_false rfl)];show Abx (kk _ ⟨rfl,rfl,rfl,Yb _⟩)
end
theorem yH{M:Model}{h:Heap}{a:Addr}{oc:Value}(e:h.get? a=a7 ⟨oc,od,.func fd,sl⟩):Looks M h (keeperOf (.ref a)) .frame:=λA Q E s k' q=>aM (Z1 (k' _ _ e) (GT q))
theorem M1{G Go:Array GenState}(x:GE G G')(y:GG g G' Go)(n:∀(m:Nat) (z:GenState),G[m]?=a7 z->m≠g):GE G Go:=⟨λh=>y.bare (x.bare h),λi z e=>y.keep i z (n i z e) (x.keep i z e)⟩
section
variable {af:Program}{w:World}{K:Frag}{A:Around}{n:Nat}(kf:KF af K)
include kf
theorem FN{L:Addr}{q:Pi}{aj:Value}{W:Wd}{s:Shared}{ls:Loc}{co d f cell:Addr}{k t:List Nat}{i j kk:Nat}{wd z:Int}{aW signs:Tx}{lines:List Tx}{ps:Ps}{aV:List Stmt}{Q:Flow->Shared->Prop}{E:Value->Shared->Prop}(hA:cM A (n+31))(E':ba (bP L q aj) ⟨L,[]⟩)
  (g:Here ⟨af,w,K,A,⟨L,[]⟩⟩ W s ls) (x:jL ⟨af,w,K,A,⟨L,[]⟩⟩ W s co d f cell k) (hk:k.length<=10) (ht:t.length<=100) (h:Fm wd aW signs i j kk lines ps z W.H) (hz:0<=z/\z<=1000) (hs:oy ps)
  (h1:bh ls "charset" (.val (.ref co))) (h2:bh ls "string" (S t)) (h3:bh ls "self" (.ref i))
  (kq:∀W' s',Here ⟨af,w,K,A,⟨L,[]⟩⟩ W' s' (put "encoded_lines" (.ref W.H.length) ls)->W'.H=W.H++[.lst ((dJ k (wd-bo ps z) (wd-aW.length) t).map eB)]->Step (L::cell::bp K) W W'->s'.os=s.os->GE s.gens s'.gens->wpAny (model af w) A (execs aV (bP L q aj)) Q E s') :
  wpAny (model af w) A (execs (cZ gQ.1 1::aV) (bP L q aj)) Q E s:=by
 revert af w K A n L q aj W s ls co d f cell k t i j kk wd z aW signs lines ps aV Q E;delta af w K A n;intro kf;delta L q aj W s ls co d f cell k t i j kk wd z aW signs lines ps aV Q E;intro hA E' g x hk ht h hz hs h1 h2 h3 kq;change wpAny _ _ (execs (.Assign [.Name "encoded_lines" _] (.Call (.Attribute (.Name "charset" _) _ _) [.Name "string" _,.Call (.Attribute (.Name "self" _) _ _) [] [] _] [] _) _::_) _) _ _ _;have n1:∀{pp:Pos} {dq:Loc} {H:List AO},bh dq "charset" (.val (.ref co))->Ok ⟨af,w,K,A,⟨L,[]⟩⟩ VR (eval (.Name "charset" pp) (bP L q aj)) H dq λx H' l'=>x=.val (.ref co)/\H'=H/\l'=dq:=λh1=>by ext;show⟨rfl,rfl,rfl⟩
 have n2:∀{pp:Pos} {dq:Loc} {H:List AO},bh dq "string" (S t)->Ok ⟨af,w,K,A,⟨L,[]⟩⟩ VR (eval (.Name "string" pp) (bP L q aj)) H dq λx H' l'=>x=S t/\H'=H/\l'=dq:=λh2=>by ext;show⟨rfl,rfl,rfl⟩
 show X7 (Z3 (n5 g rfl rfl (by decide) rfl rfl (n1 h1) λaK aH aU y u aD b8 zz pl=>?_) rfl);obtain⟨rfl,c8,rfl⟩:=zz;cases b8;have BQ:=x.step g aD;obtain⟨fd,sl,f1⟩:=BQ.at_.fn;obtain⟨mm,tt,m1,m2,m3⟩:=BQ.at_.ns;show OB f1 Ff.qW m1 m3 rfl ?_;have T:Toks aH { aH with toks:=aH.toks+1 }:=⟨rfl,rfl,rfl,Yb _⟩
 have pD:=aD.here.toks T;show Yp ((n2 h2).run pD rfl λb4 aN cj y v aF rs zz=>?_) rfl;clear g h1 h2;obtain⟨rfl,cT,rfl⟩:=zz;have TV:b4.H=W.H:=cT.trans c8;show Yp (BR kf (n:=n+29) hA E' aF.here (by rw[TV];show h.f) h3 rfl λb7 bJ ga Lg g' q2 dR aT cE xg nL nG ng=>?_) rfl;show YR ?_;have PR:b7.H=W.H:=cE.trans TV;have r8:=((BQ.toks T).step pD aF).step aF.here aT;have Sc:=aF.tr aT;obtain⟨fd3,c1,c2⟩:=r8.at_.cl;show⟨⟨_,yH c1⟩,?_⟩;have oL:∀a,b4.h.get? a=a8->W.h.get? a=a8:=λa e=>aD.old c8 (aF.old cT e);have nc:∀a,b4.h.get? a=a8->a≠cell:=λa e z=>by obtain⟨tt,o,e4,_⟩:=((BQ.toks T).step pD aF).at_.ce;rw[<-z,<-aF.hh,e]at e4;cases e4
 obtain⟨tt3,TY⟩:=r8.at_.ce;have M4:∀a∈Lg::cell::bp K,∃o,b7.h.get? a=a7 o/\soft o=a9:=λa m=>by
  rcases Xi.mp m with m|m
  .obtain⟨_,⟨o,es,ep,e,d,_⟩,_⟩:=xg.ns;show⟨o,m▸aT.hh▸e,by unfold soft;rw[d]⟩
  .rcases Xi.mp m with m|m
   .obtain⟨o,e,d⟩:=TY;show⟨o,m▸aT.hh▸e,by unfold soft;rw[d]⟩
   .show aT.rel.iB a m
 have Wk:L ∉ Lg::cell::bp K:=λm=>by
  rcases Xi.mp m with m|m
  .show xg.fL (m▸.head _)
  .rcases Xi.mp m with m|m
   .show r8.nf cell (by simp) (m▸.head _)
   .show aT.here.sO L (.head _) m
 show YD (Yr (yG kf hA aT.tk aT.hh aT.rel hk ht (by rw[PR];show h) hz hs rfl rfl (by rw[aT.hh];show r8.at_.cl) (aT.hh▸TY) (r8.nm cell (by simp)) r8.ck r8.cs (.cons (aT.vr aF.here rs) (.cons (.val _) .nil)) xg (nc Lg nL) (nc ga nG)) λr fP zz=>?_);obtain⟨g9,hr,Wl,P0,PS,R4,Wm,Wn,Wo⟩:=zz;subst hr;have kL:∀a∈(⟨L,[]⟩:Fp).ad,g9.h.get? a=b7.h.get? a/\a ∉ g9.bf:=λa m=>by
  rw[Xh.mp m];obtain⟨o,e⟩:=aT.fr.there L (.head _)
  have:=PS.keep L o e (aT.fr.cH L (.head _)) Wk;show⟨this.1.trans e.symm,this.2⟩
 have Sd:Here ⟨af,w,K,A,⟨L,[]⟩⟩ g9 fP cj:=⟨Wl,R4,aT.fr.mono (PS.mono M4) (λa m=>(kL a m).1) λa m=>(kL a m).2,Wo⟩
 have M2:g9.H=W.H++[.lst ((dJ k (wd-bo ps z) (wd-aW.length) t).map eB)]:=by rw[P0,PR]
 show yp (y:=.ref b7.H.length) Sd E' rfl rfl (.ref _ (by rw[P0,Xg];show Yi _)) λeX eu cU mH=>?_;show kq eX eu (by rw[<-PR];show cU.here) (mH.trans M2) ⟨?_,λa ha=>?_,λa o e m nf=>?_⟩ ?_ ?_
 .rw[mH,M2,Xg];show Yd _ _
 .rw[cU.st.agree a (by rw[M2,Xg];show AaJ _ ha),PS.agree a (by rw[PR];show ha),Sc.st.agree a (by rw[c8];show ha)];show aD.st.agree a ha
 .have P1:a ∉ (⟨L,[]⟩:Fp).ad++bp K:=λz=>(Xl.mp z).elim (λz=>nf (Xi.mpr (.inl (Xh.mp z)))) λz=>nf (.tail _ (.tail _ z));have a1:=aD.st.keep a o e m P1;have a3:=Sc.st.keep a o a1.1 a1.2 P1;have a4:=PS.keep a o a3.1 a3.2 λz=>(Xi.mp z).elim (λz=>by rw[z,oL Lg nL]at e;cases e) λz=>nf (.tail _ z);show cU.st.keep a o a4.1 a4.2 P1
 .show cU.sh.1.trans (Wm.trans (Sc.sh.1.trans aD.sh.1))
 .show((aD.sh.2.trans aF.sh.2).trans (M1 aT.sh.2 Wn ng)).trans cU.sh.2
end
section
variable {f:Fp}(kf:KF af K)(hA:cM A (n+20)){Q:AV->List AO->Prop}
include kf hA in
theorem yI{k:Nat}{z:Int}{fw st:Tx}(h:Fm wd aW signs i j k lines ps z H)(hz:0<=z/\z<=1000)(hs:oy (ps++[(fw,st)]))(hf:bo (ps++[(fw,st)]) z<=wd)
  (q:Q .none (cL H j k lines (ps++[(fw,st)]) z)):bk ⟨af,w,K,A,f⟩ (.ref 106) [.ref i,S fw,S st] H Q:=by
 show d0 hA kf.zN (.inl rfl) rfl (by decide) rfl rfl rfl rfl rfl rfl λL q' aj A' db E ct hb hu=>?_;have Qe:oy ps:=⟨by have:=hs.1;rw[Xg]at this;show"L+ab1000La1000" this,λp hp=>hs.2 p (XN _ hp)⟩
 have gL:=hs.cur hz;generalize mP:ps++[(fw,st)]=wK at *
 ext;show bj kf.fmt h.f rfl rfl rfl rfl ?_;show fq kf.acc h.a rfl rfl rfl ?_;ext;show bK (n6 kf db h.a Qe.1 ?_);rw[h.BO];show aE mP ?_;have h1:=h.set (gN:=lines) (wK:=wK) (z':=z);show"s";show ud ac ?_ (λhT=>?_) (λhT=>?_)
 .ext;show bj kf.fmt h1.f rfl rfl rfl rfl ?_;ext;show len_own h1.a rfl (kf.acc.fi _ _ rfl) (kf.acc.fn "__len__" _ rfl).1 (pU kf db.in1 h1.a hz hs.1 hs.2 (gn _ rfl gL.1 (by lia) ?_));ext;show bj kf.fmt h1.f rfl rfl rfl rfl ?_;show iR (gn _ rfl ?_ rfl rfl);show decide_eq_false (by show"GpqNHqp" hf)
 .cases hT
 .ext;show c9 (by rw[dp];show Xd _) (by rw[dp];show n7 hb) rfl q
include kf hA in
theorem Ip{k:Nat}{z:Int}(h:Fm wd aW signs i j k lines ps z H)(hs:oy ps)(q:Q .none (cL H j k lines (ps++[([32],[])]) z)):bk ⟨af,w,K,A,f⟩ (.ref 78) [.ref i] H Q:=by show d0 hA kf.EU (.inl rfl) rfl (by decide) rfl rfl rfl rfl rfl rfl λL q' aj A' db E ct hb hu=>?_;ext;show bj kf.fmt h.f rfl rfl rfl rfl ?_;show fq kf.acc h.a rfl rfl rfl ?_;ext;show bK (n6 kf db h.a hs.1 ?_);rw[h.BO];ext;show c9 (by rw[dp];show Xd _) (by rw[dp];show n7 hb) rfl q
end
inductive JH(H0:List AO)(fl:AF)(H':List AO)(l':Loc):Prop
 |mk (G:List AO):fl=.next->H'=H0++G->JH H0 fl H' l'
inductive TZ(H:List AO)(i j k:Nat)(aW:Tx)(l0:List Tx)(ws:List Tx)(lp:Ps)(r:List AV)(P:List AO)(l:Loc):Prop
 |mk (dn td:List Tx):r=td.map S->ws=dn++td->P=cL H j k (l0++dn.map (aW++·)) lp 0->bh l "self" (.ref i)->TZ H i j k aW l0 ws lp r P l
section
variable {af:Program}{w:World}{K:Frag}{A:Around}(kf:KF af K){n:Nat}(hA:cM A (n+30)){H:List AO}
include kf hA in
theorem FO{L:Addr}{q:Pi}{aj:Value}{ls:Loc}{i j k:Nat}{wd z:Int}{aW signs:Tx}{lines:List Tx}{ps:Ps}{last:Tx}{ws:List Tx}(E:ba (bP L q aj) ⟨L,[]⟩)(h:Fm wd aW signs i j k lines ps z H)(hz:0<=z/\z<=1000)(hs:oy ps)
  (hl:lines.length<=900) (hc:(bz (be ps)).length<=5000) (wO:∀l∈lines,l.length<=5000) (hw:ws.length<=105) (wk:∀x∈ws,x.length<=3000) (rY:aW.length<=10)
  (h1:bh ls "self" (.ref i)) (h2:bh ls "last_line" (S last)) (h3:bh ls "encoded_lines" (.ref H.length)) :
  Ok ⟨af,w,K,A,⟨L,[]⟩⟩ aY (execs (gQ.1.drop 5) (bP L q aj)) (H++[.lst (ws.map S)]) ls (JH (cL H j k (br lines ps z++ws.map (aW++·)) [(aW,last)] 0)):=by
 revert af w K A n H L q aj ls i j k wd z aW signs lines ps last ws;delta af w K A;intro kf;delta n;intro hA;delta H L q aj ls i j k wd z aW signs lines ps last ws;intro E h hz hs hl hc wO hw wk rY h1 h2 h3;change Ok _ aY (execs [_,_,_] _) _ _ _;have ha:=h.app (G:=[.lst (ws.map S)]);ext;show fq kf.fmt ha.f rfl rfl rfl ?_;ext;show bK (pd kf (hA.le (m:=n+20) (by show"L+a20+a30")) ha hz hs (by show"La900La1000" hl) hc wO ?_);rw[h.ip];have h4:=h.set (gN:=br lines ps z) (wK:=[]) (z':=0);have P3:=h4.app (G:=[.lst (ws.map S)]);ext;show bj kf.fmt P3.f rfl rfl rfl rfl ?_;show fq kf.acc P3.a rfl rfl rfl ?_;ext;show bj kf.fmt P3.f rfl rfl rfl rfl ?_;ext;show bK (n6 kf hA P3.a (Xn _) ?_);rw[P3.BO,h4.ip,dG h.jk];have KO:(br lines ps z).length<=901:=by
  unfold br;split
  .split
   .rw[Xg,ZF];simp;show"La900La901" hl
   .rw[Xg];simp;show"La900La900" hl
  .show"La900La901" hl
 ext;have cY:∀{l0:List Tx} {lp:Ps},(cL H j k l0 lp 0).length=H.length:=dp;show(Ks (l:=ws.map S) (by rw[Yo (by rw[cY];show Xd _),cY,ZZ];rfl)).ok ⟨_,rfl,?_⟩;have e1:(cL H j k (br lines ps z) ([]++[(aW,last)]) 0++[AO.lst (List.map S ws)]).length=H.length+1:=by rw[Xg,cY];rfl
 rw[e1];show gD (c:=⟨af,w,K,A,⟨L,[]⟩⟩) (N:=H.length) (i:=H.length+1) (ft:=[H.length+1,H.length]) (xs:=(ws.map S).drop 0) hA.handled (.of (by rw[<-e1];show jM) (bq (by rw[Yo (by rw[cY];show Xd _),cY,ZZ];rfl))) ?_ (.inr (XG rfl)) (TZ H i j k aW (br lines ps z) ws [(aW,last)]) (λr P l hI=>by obtain⟨dn,td,_,_,eP,_⟩:=hI;rw[eP];show dp) ⟨_,_,Xq _ _ _,[],ws,rfl,rfl,by rw[Aal,Xv];rfl,by left⟩ ?_ ?_
 .intro y hy;simp only[Xi,Xy,or_false]at hy;show"OEa+b1EabLba" hy
 .rintro x r P G l jO ⟨dn,td,er,ew,rfl,g1⟩
  cases td with
  |nil=>cases er
  |cons lw td=>
  injection er with ex er
  clear jO;subst ex er;have Wp:lw.length<=3000:=wk lw (by rw[ew];simp);have Wq:dn.length<=105:=by rw[ew,Xg]at hw;show"L+ab105La105" hw
  have h5:=h.set (gN:=br lines ps z++dn.map (aW++·)) (wK:=[(aW,last)]) (z':=0);have Mz:=h5.app (G:=G);ext;show bj kf.fmt Mz.f rfl rfl rfl rfl (bx (bG Mz.l) ?_);ext;show bj kf.fmt Mz.f rfl rfl rfl rfl ?_;ext;show dQ (by show jh ?_;show"La10Lb3000L+ab100000" rY Wp) ?_;ext;show YH Mz.l rfl (bW Mz.l) (by rw[Xm,Xg,Xm];show"La901Lb105L+ab100000" KO Wq) ?_;ext;show⟨cL H j k (br lines ps z++(dn++[lw]).map (aW++·)) [(aW,last)] 0,[],?_,dn++[lw],td,rfl,by rw[ew];simp,rfl,by left⟩;have e3:dI ((br lines ps z++dn.map (aW++·)).map S++[S (aW++lw)]) (sW (br lines ps z++dn.map (aW++·)))=sW (br lines ps z++(dn++[lw]).map (aW++·)):=by unfold sW;rw[bX];simp
  show aE e3 ?_;rw[Mz.LW,h5.ip,dG h.jk,Xv]
 .rintro P G l ⟨dn,td,er,ew,rfl,g1⟩
  cases td with
  |cons _ _=>cases er
  |nil=>
  rw[Xv]at ew;subst ew;ext;show⟨G,rfl,rfl⟩
end
noncomputable def uo(ps:Ps):Option Tx->Ps
 |some w=>ps++[([],w)]
 |none=>ps
noncomputable def jD(aW:Tx)(lines:List Tx)(ps:Ps)(z:Int)(r:Option Tx)(ws:List Tx):List Tx×Ps×Int:=if ws=[]then(lines,uo ps r,z)else(br lines (uo ps r) z++ws.dropLast.map (aW++·),[(aW,ws.getLast?.getD [])],0)
inductive P4(H0:List AO)(l0:Loc)(fl:AF)(H':List AO)(l':Loc):Prop
 |mk:fl=.next->H'=H0->l'=l0->P4 H0 l0 fl H' l'
section
variable (kf:KF af K)(hA:cM A (n+30))
theorem BS{ls:Loc}{r:Option Tx}{ws:List Tx}(E:ba (bP L q aj) ⟨L,[]⟩)(hw:ws.length<=105)(h3:bh ls "encoded_lines" (.ref H.length)) :
  Ok ⟨af,w,K,A,⟨L,[]⟩⟩ aY (exec (cZ gQ.1 2) (bP L q aj)) (H++[.lst (eB r::ws.map S)]) ls (P4 (H++[.lst (ws.map S)]) (put "first_line" (eB r) ls)):=by
 change Ok _ aY (exec (.Try [_] (_::_) [] [] _) _) _ _ _;show zR ?_;have eR:(H++[AO.lst (eB r::ws.map S)])[H.length]?=a7 (.lst (eB r::ws.map S)):=jM;ext;show bx (qP eR) ?_;ext;show vo eR rfl (bW eR) (by rw[Xm];show"La105La100000" hw) ?_;ext;show⟨rfl,?_,rfl⟩;rw[set_tail,bX]
include kf hA in
theorem yJ{ls:Loc}{k:Nat}{z:Int}{r:Option Tx}{G:List AO}(E:ba (bP L q aj) ⟨L,[]⟩)(h:Fm wd aW signs i j k lines ps z H)(hz:0<=z/\z<=1000)(hs:oy (uo ps r))(hf:r≠a8->bo (uo ps r) z<=wd)
  (h1:bh ls "self" (.ref i)) (h2:bh ls "first_line" (eB r)) (h3:bh ls "fws" (S [])) :
  Ok ⟨af,w,K,A,⟨L,[]⟩⟩ aY (exec (cZ gQ.1 3) (bP L q aj)) (H++G) ls (P4 (cL H j k lines (uo ps r) z++G) ls):=by
 change Ok _ aY (exec (.If _ [_] [] _) _) _ _ _;have ha:=h.app (G:=G);cases r with|none=>ext;show Ab5 (b:=ac) (.inl ⟨rfl,rfl⟩) ⟨_,rfl,λz=>(nomatch z),λ_=>?_⟩;ext;show⟨rfl,by unfold uo;rw[h.same],rfl⟩|some w=>ext;show Ab5 (b:=a9) (.inr (.inl ⟨⟨_,rfl⟩,rfl⟩)) ⟨_,rfl,λ_=>?_,λz=>(nomatch z)⟩;ext;show fq kf.fmt ha.f rfl rfl rfl ?_;ext;show bK (yI kf (hA.le (m:=n+20) (by show"L+a20+a30")) ha hz hs (hf nofun) ?_);ext;show⟨rfl,by rw[h.ip];rfl,rfl⟩
theorem FP{ls:Loc}{last:Tx}{ws:List Tx}(E:ba (bP L q aj) ⟨L,[]⟩)(hw:ws.length<=105)(he:ws.getLast?=a7 last)(h3:bh ls "encoded_lines" (.ref H.length)) :
  Ok ⟨af,w,K,A,⟨L,[]⟩⟩ aY (exec (cZ gQ.1 4) (bP L q aj)) (H++[.lst (ws.map S)]) ls (P4 (H++[.lst (ws.dropLast.map S)]) (put "last_line" (S last) ls)):=by
 change Ok _ aY (exec (.Try [_] (_::_) [] [] _) _) _ _ _;show zR ?_;have eR:(H++[AO.lst (ws.map S)])[H.length]?=a7 (.lst (ws.map S)):=jM;ext;show bx (qP eR) ?_;ext;show Dv (y:=S last) eR rfl (bW eR) (by rw[Xm];show"La105La100000" hw) (by rw[List.getLast?_map,he];rfl) ?_;ext;show⟨rfl,?_,rfl⟩;rw[set_tail,bX,Ab9]
end
theorem ci.fun{f:Fp}{ls:Loc}{h:Heap}(F:ci K W f ls)(k:∀o,W.h.get? f.L=a7 o->h.get? f.L=a7 o):∃o,h.get? f.L=a7 o/\∀vs,o.data≠.fields vs:=by obtain⟨m,⟨o,es,ep,e,d,_⟩,_⟩:=F.ns;show⟨o,k o e,λvs z=>by rw[d]at z;cases z⟩
section
variable (kf:KF af K)(hA:cM A (n+30))
include kf hA in
theorem BU{L:Addr}{fL:Fp}{ls lL:Loc}{nh:Env}{W:Wd}{s:Shared}{E:Value->Shared->Prop}{Q:Flow->Shared->Prop}(E':ba (bP L q aj) ⟨L,[]⟩)(pG:A.frames=a7 [bP L q aj,nh])(M3:nh.frame=a7 fL.L)(MA:nh.scope.kind≠.module)
  (g:Here ⟨af,w,K,A,⟨L,[]⟩⟩ W s ls) (FL:ci K W fL lL) (d4:∀a∈fL.ad,a≠L) (eH:W.H=H++[.lst []]) (h3:bh ls "encoded_lines" (.ref H.length))
  (kq:∀W' s',W'.h=s'.heap->W'.H=W.H->Step (L::fL.L::bp K) W W'->Rel K W'->ci K W' fL lL->s'.os=s.os->GE s.gens s'.gens->Q (.ret .none) s') :
  wpAny (model af w) A (exec (cZ gQ.1 4) (bP L q aj)) Q E s:=by
 change wpAny _ _ (exec (.Try [.Assign [.Name "last_line" _] (.Call (.Attribute (.Name "encoded_lines" _) _ _) [] [] _) _] [.ExceptHandler (a7 (.Name "IndexError" _)) a8 [.Return a8 _] _] [] [] _) _) _ _ _;have Bt:∀{pp:Pos},Ok ⟨af,w,K,A,⟨L,[]⟩⟩ VR (eval (.Name "encoded_lines" pp) (bP L q aj)) W.H ls λx H' l'=>x=.ref H.length/\H'=W.H/\l'=ls:=by intro pp;ext;show⟨rfl,rfl,rfl⟩
 show wpAny_Try_except (X7 (Z3 (n5 g rfl rfl (by decide) rfl rfl Bt λaK aH aU x u aD b8 zz pl=>?_) rfl));obtain⟨rfl,c8,rfl⟩:=zz;have eR:aK.H[H.length]?=a7 (.lst []):=by rw[c8,eH];show jM
 show qP (c:=⟨af,w,K,A,⟨L,[]⟩⟩) eR aK aH u aU _ _ pl aD.here rfl b8 (YR ⟨⟨.machine,Aaq rfl⟩,?_⟩);cases b8;obtain⟨vs,nn,ho,rs⟩:=aD.rel.obj _ _ eR;cases rs;have Wr:=aD.hh▸ho;show Fh (n:=nn) hA.handled Wr λh' tk e X=>?_;have wo:ci K aK fL lL:=by
  have kp:∀a∈fL.ad,aK.h.get? a=W.h.get? a/\a ∉ aK.bf:=λa m=>by
   obtain⟨o,eo⟩:=FL.there a m;have z:=aD.st.keep a o eo (FL.cH a m) λm2=>by
    rcases Xl.mp m2 with m2|m2
    .show d4 a m (Xh.mp m2)
    .show Here.sO (c:=⟨af,w,K,A,fL⟩) ⟨g.hh,g.rel,FL,g.tk⟩ a m m2
   show⟨z.1.trans eo.symm,z.2⟩
  show FL.mono (aD.toGood.mono g) (λa m=>(kp a m).1) λa m=>(kp a m).2
 have k1:∀b o,aK.h.get? b=a7 o->h'.get? b=a7 o:=λb o eb=>X.keeps b o (aD.hh▸eb);obtain⟨oL,eL,dL⟩:=ci.fun (h:=h') aD.fr (k1 _);obtain⟨oM,eM,dM⟩:=ci.fun (h:=h') wo (k1 _);obtain⟨ob,tv,t1,t2,t3⟩:=X.there;have nE:aK.h.get? e=a8:=aD.hh▸X.new;have Ji:[bP L q aj,nh].filterMap (·.frame)=[L,fL.L]:=by rw[YQ,YQ,M3];rfl
 show yt (base:={}) (L:=L) (X:="IndexError") pG ⟨nofun,⟨L,oL,rfl,rfl,eL,dL⟩,MA,⟨fL.L,oM,M3,rfl,eM,dM⟩,trivial⟩ rfl ⟨ob,t1,t2,t3⟩ Fj Fl Fk (λh'' P E'' Ws p=>BG (K:=K) (λa o ea=>?_) E' rfl kf.Tv rfl p) λaR bB S k2=>?_
 .show Ws a o (λm=>?_) (λz=>?_) (k1 a o (aD.rel.top a o ea))
  .rw[Ji]at m;simp only[Xi,Xy,or_false]at m;rcases m with m|m
   .rw[m,aD.fr.apart L (.head _)]at ea;cases ea
   .rw[m,wo.apart fL.L (.head _)]at ea;cases ea
  .have:=aD.rel.top a o ea;rw[z,nE]at this;cases this
 .rw[Ji]at S;obtain⟨R2,kk,Wt⟩:=Rel.LF (f:=⟨L,[]⟩) (f':=fL) aD.rel aD.fr wo d4 k1 nE S k2;show kq ⟨bB,aK.ρ,aK.H⟩ _ rfl c8 ⟨aD.st.len,aD.st.agree,λa o ea m nf=>?_⟩ R2 Wt aD.sh.1 aD.sh.2;have P1:a ∉ (⟨L,[]⟩:Fp).ad++bp K:=λz=>(Xl.mp z).elim (λz=>nf (by rw[Xh.mp z];show .head _)) λz=>nf (.tail _ (.tail _ z));have a1:=aD.st.keep a o ea m P1;show⟨kk a o (λz=>by
   simp only[Xi,Xy,or_false]at z;rcases z with z|z
   .show nf (z▸.head _)
   .show nf (z▸.tail _ (.head _))) a1.1,a1.2⟩
end
theorem t5{k:List Nat}(hk:k.length<=10){r:Option Tx}(n:Nat):∀(p:TT) (ws:List Tx),p.1=r::ws.map a7->p.2.length<=100->(∀x∈ws,x.length<=300)->∃KI:List Tx,(BP k r1 n p).1=r::KI.map a7/\KI.length<=ws.length+n/\∀x∈KI,x.length<=300:=by
 induction n with
 |zero=>showλp ws h _ h3=>⟨ws,h,Xd _,h3⟩
 |succ n ih=>
  intro p ws h h2 h3;unfold BP;split
  .obtain⟨td,t⟩:=p;dsimp only at h h2;have e1:cB k r1 (td,t)=(td++[a7 (bi k (t.take (cq k t r1 t.length)))],t.drop (cq k t r1 t.length)):=by unfold cB;rw[aI λz=>by rw[h]at z;show nomatch z.1]
   have hw:(bi k (t.take (cq k t r1 t.length))).length<=300:=lf hk (by rw[XJ];show Xf (AaI _ _) h2);obtain⟨KI,a,b,c⟩:=ih (cB k r1 (td,t)) (ws++[bi k (t.take (cq k t r1 t.length))]) (by rw[e1,h];simp) (by rw[e1];show Xf (by rw[XW];show Nat.sub_le _ _) h2) (λx m=>by
    rcases Xl.mp m with m|m
    .show h3 x m
    .rw[Xh.mp m];show hw)
   show⟨KI,a,by rw[Xg]at b;simp at b;show"La++b1cLa+b+c1" b,c⟩
  .show⟨ws,h,Yd _ _,h3⟩
theorem uq{k:List Nat}{r0:Int}(hk:k.length<=10)(ht:t.length<=100):∃(r:Option Tx) (ws:List Tx),dJ k r0 r1 t=r::ws.map a7/\(∀w,r=a7 w->(w.length:Int)<=r0/\w.length<=300)/\ws.length<=101/\∀x∈ws,x.length<=300:=by
 have hw:(bi k (t.take (cq k t r0 t.length))).length<=300:=lf hk (by rw[XJ];show Xf (AaI _ _) ht);by_cases h:((bi k (t.take (cq k t r0 t.length))).length:Int) > r0
 .obtain⟨ws,a,b,c⟩:=t5 (r1:=r1) hk 101 (cB k r0 ([],t)) [] (by unfold cB;rw[aQ ⟨rfl,h⟩];rfl) (Xf jf.2 ht) (λ_ m=>nomatch m);show⟨a8,ws,a,nofun,by assumption,c⟩
 .obtain⟨ws,a,b,c⟩:=t5 (r1:=r1) hk 101 (cB k r0 ([],t)) [] (by unfold cB;rw[aI λz=>h z.2];rfl) (Xf jf.2 ht) (λ_ m=>nomatch m);show⟨a7 (bi k (t.take (cq k t r0 t.length))),ws,a,λw e=>by rw[<-Xe e];show⟨by show"NHp$aG$ap" h,hw⟩,by assumption,c⟩
theorem ci.stepT{fL:Fp}{lL:Loc}{F:List Addr}(FL:ci K W fL lL)(S:Step F W W')(M:bQ W W')(n:∀a∈fL.ad,a ∉ F):ci K W' fL lL:=by
 have kp:∀a∈fL.ad,W'.h.get? a=W.h.get? a/\a ∉ W'.bf:=λa m=>by obtain⟨o,eo⟩:=FL.there a m;have z:=S.keep a o eo (FL.cH a m) (n a m);show⟨z.1.trans eo.symm,z.2⟩
 show FL.mono M (λa m=>(kp a m).1) λa m=>(kp a m).2
inductive JI(K:Frag)(fL:Fp)(cell:Addr)(lL:Loc)(W:Wd)(s:Shared)(H':List AO)(r:Result)(s':Shared):Prop
 |mk (W':Wd) (G:List AO):r=.ok (.ret .none)->W'.h=s'.heap->W'.H=H'++G->Step (fL.L::cell::bp K) W W'->Rel K W'->ci K W' fL lL->s'.os=s.os->GE s.gens s'.gens->0<s'.toks->JI K fL cell lL W s H' r s'
section
variable {af:Program}{w:World}{K:Frag}{A:Around}(kf:KF af K){n:Nat}(hA:cM A (n+31))
include kf hA in
theorem BV{L:Addr}{fL:Fp}{q:Pi}{aj:Value}{ls lL:Loc}{nh:Env}{W:Wd}{s:Shared}{co d f cell:Addr}{k t:List Nat}{i j kk:Nat}{wd z:Int}{aW signs:Tx}{lines:List Tx}{ps:Ps}(E':ba (bP L q aj) ⟨L,[]⟩)(pG:A.frames=a7 [bP L q aj,nh])(M3:nh.frame=a7 fL.L)(MA:nh.scope.kind≠.module)
  (g:Here ⟨af,w,K,A,⟨L,[]⟩⟩ W s ls) (x:jL ⟨af,w,K,A,⟨L,[]⟩⟩ W s co d f cell k) (FL:ci K W fL lL) (d4:∀a∈fL.ad,a≠L) (Je:∀a∈fL.ad,a≠cell)
  (hk:k.length<=10) (ht:t.length<=100) (h:Fm wd aW signs i j kk lines ps z W.H) (hz:0<=z/\z<=1000) (hs:oy ps) (hp:ps.length<=900) (Iq:wd<=500) (hl:lines.length<=900) (hc:∀r,(∀w,r=a7 w->w.length<=300)->(bz (be (uo ps r))).length<=5000) (wO:∀l∈lines,l.length<=5000) (rY:aW.length<=10)
  (h0:bh ls "fws" (S [])) (h1:bh ls "charset" (.val (.ref co))) (h2:bh ls "string" (S t)) (h3:bh ls "self" (.ref i)) {r:Option Tx} {ws:List Tx} (hr:dJ k (wd-bo ps z) (wd-aW.length) t=r::ws.map a7) (BW:∀w,r=a7 w->(w.length:Int)<=wd-bo ps z/\w.length<=300) (wl:ws.length<=101) (wk:∀x∈ws,x.length<=300) :
  wpAny (model af w) A (execs gQ.1 (bP L q aj)) (λf' s'=>∃W' G,(f'=.next\/f'=.ret .none)/\W'.h=s'.heap/\W'.H=cL W.H j kk (jD aW lines ps z r ws).1 (jD aW lines ps z r ws).2.1 (jD aW lines ps z r ws).2.2++G/\Step (L::fL.L::cell::bp K) W W'/\Rel K W'/\ci K W' fL lL/\s'.os=s.os/\GE s.gens s'.gens) qm s:=by
 revert af w K A n L fL q aj ls lL nh W s co d f cell k t i j kk wd z aW signs lines ps r ws;delta af w K A;intro kf;delta n;intro hA;delta L fL q aj ls lL nh W s co d f cell k t i j kk wd z aW signs lines ps;intro E' pG M3 MA g x FL d4 Je hk ht h hz hs hp Iq hl hc wO rY h0 h1 h2 h3;delta r ws;intro hr BW wl wk;rw[show gQ.1=cZ gQ.1 0::cZ gQ.1 1::cZ gQ.1 2::cZ gQ.1 3::cZ gQ.1 4::gQ.1.drop 5 from rfl];show Io E' g x h1 λbD T=>?_;have ue:=g.toks T;have FM:=x.toks T;show FN kf hA E' ue FM hk ht h hz hs h1 h2 h3 λaK aH pD c8 FQ P5 P6=>?_;have A3:aK.H=W.H++[.lst (eB r::ws.map S)]:=by rw[c8,hr,Xu,Zu];rfl
 have P7:∀a∈L::cell::bp K,∃o,W.h.get? a=a7 o/\soft o=a9:=λa m=>by
  rcases Xi.mp m with m|m
  .rw[m];show g.fr.dy L (.head _)
  .rcases Xi.mp m with m|m
   .obtain⟨tt,o,e,d⟩:=x.at_.ce;show⟨o,m▸g.hh▸e,by unfold soft;rw[d]⟩
   .show g.rel.iB a m
 have nT:∀a∈fL.ad,a ∉ bp K:=Here.sO (c:=⟨af,w,K,A,fL⟩) ⟨g.hh,g.rel,FL,g.tk⟩;have nF:∀a∈fL.ad,a ∉ (⟨L,[]⟩:Fp).ad++bp K:=λa ma m=>by
  rcases Xl.mp m with m|m
  .show d4 a ma (Xh.mp m)
  .show nT a ma m
 have wo:=FL.stepT FQ (FQ.mono P7) (λa ma m=>by
  rcases Xi.mp m with m|m
  .show d4 a ma m
  .rcases Xi.mp m with m|m
   .show Je a ma m
   .show nT a ma m)
 have b1:bh (put "encoded_lines" (.ref W.H.length) ls) "encoded_lines" (.ref W.H.length):=by left
 show X7 ((BS (q:=q) (aj:=aj) (H:=W.H) (r:=r) (ws:=ws) E' (by show"La101La105" wl) b1).run pD A3 λb4 aN cj fl Wu aF rf zz=>?_);obtain⟨rfl,cT,rfl⟩:=zz;cases rf;have Pz:oy (uo ps r):=by
  cases r with
  |none=>show hs
  |some w=>
   show⟨by change(ps++[([],w)]).length<=1000;rw[Xg];simp;show"La900La999" hp,λp m=>?_⟩;rcases Xl.mp m with m|m
   .show hs.2 p m
   .rw[Xh.mp m];show⟨Xn _,Xf (BW w rfl).2 (by decide)⟩
 have vJ:r≠a8->bo (uo ps r) z<=wd:=λhn=>by
  cases r with|none=>show absurd rfl hn|some w=>have:=(BW w rfl).1;change bo (ps++[([],w)]) z<=wd;unfold bo at this ⊢;simp only[Yc,List.sum_append,Xu,Aal,Y4,List.sum_nil,XU]at this ⊢;show"G$a-p+qrG+q+r+$+0a0p" this
 have c1:bh (put "first_line" (eB r) (put "encoded_lines" (.ref W.H.length) ls)) "self" (.ref i):=by left
 have c2:bh (put "first_line" (eB r) (put "encoded_lines" (.ref W.H.length) ls)) "first_line" (eB r):=by left
 have c3:bh (put "first_line" (eB r) (put "encoded_lines" (.ref W.H.length) ls)) "fws" (S []):=by left
 have c4:bh (put "first_line" (eB r) (put "encoded_lines" (.ref W.H.length) ls)) "encoded_lines" (.ref W.H.length):=by left
 show X7 ((yJ (q:=q) (aj:=aj) (n:=n+1) (G:=[.lst (ws.map S)]) kf hA E' h hz Pz vJ c1 c2 c3).run aF.here cT λb7 bJ d5 fl Wv aT rf zz=>?_);obtain⟨rfl,cE,rfl⟩:=zz;cases rf;have P8:=aF.tr aT;have JJ:=wo.stepT P8.st (P8.toGood.mono pD) nF;have mo:∀a∈(⟨L,[]⟩:Fp).ad++bp K,a∈L::fL.L::cell::bp K:=λa m=>by
  rcases Xl.mp m with m|m
  .rw[Xh.mp m];show .head _
  .show .tail _ (.tail _ (.tail _ m))
 have S3:Step (L::fL.L::cell::bp K) W b7:=(FQ.more λa m=>by
  rcases Xi.mp m with m|m
  .show m▸.head _
  .show .tail _ (.tail _ m)).trans (P8.st.more mo)
 have Se:(cL W.H j kk lines (uo ps r) z).length=W.H.length:=dp;have hF:=h.set (gN:=lines) (wK:=uo ps r) (z':=z);have U0:bJ.os=s.os:=P8.sh.1.trans (P5.trans T.os);have U1:GE s.gens bJ.gens:=(T.gens▸P6).trans P8.sh.2;by_cases hw:ws=[]
 .clear A3 cT hr wk wl;subst hw;show X7 (BU (n:=n+1) (H:=cL W.H j kk lines (uo ps r) z) kf hA E' pG M3 MA aT.here JJ d4 cE (by rw[Se];show c4) λW' s' Ww PU Ri R' Wx Wy Wz=>?_);show⟨W',[.lst []],.inr rfl,Ww,by rw[PU,cE];unfold jD;rw[aQ rfl];rfl,S3.trans (Ri.more λa m=>?_),R',Wx,Wy.trans U0,U1.trans Wz⟩;rcases Xi.mp m with m|m
  .show m▸.head _
  .rcases Xi.mp m with m|m
   .show m▸.tail _ (.head _)
   .show .tail _ (.tail _ (.tail _ m))
 .have eT:ws.getLast?=a7 (ws.getLast?.getD []):=by rw[YO hw];rfl
  show X7 ((FP (q:=q) (aj:=aj) (H:=cL W.H j kk lines (uo ps r) z) (ws:=ws) (last:=ws.getLast?.getD []) E' (by show"La101La105" wl) eT (by rw[Se];show c4)).run aT.here cE λg9 fP lV fl WA bE rf zz=>?_);obtain⟨rfl,jP,rfl⟩:=zz;cases rf;have d1:bh (put "last_line" (S (ws.getLast?.getD [])) (put "first_line" (eB r) (put "encoded_lines" (.ref W.H.length) ls))) "self" (.ref i):=by left
  have d2:bh (put "last_line" (S (ws.getLast?.getD [])) (put "first_line" (eB r) (put "encoded_lines" (.ref W.H.length) ls))) "last_line" (S (ws.getLast?.getD [])):=by left
  have d3:bh (put "last_line" (S (ws.getLast?.getD [])) (put "first_line" (eB r) (put "encoded_lines" (.ref W.H.length) ls))) "encoded_lines" (.ref W.H.length):=by left
  show(FO (q:=q) (aj:=aj) (n:=n+1) (H:=cL W.H j kk lines (uo ps r) z) kf hA E' hF hz Pz hl (hc r λw e=>(BW w e).2) wO (by rw[ZF];show"La101L-a1.105" wl) (λy m=>Xf (wk y (AaK _ m)) (by decide)) rY d1 d2 (by rw[Se];show d3)).run bE.here jP λeX eu nS fl Sa cU rf zz=>?_;obtain⟨G,rfl,mH⟩:=zz;cases rf;have P9:=bE.tr cU;show⟨eX,G,.inl rfl,cU.hh,?_,S3.trans (P9.st.more mo),cU.rel,JJ.stepT P9.st (P9.toGood.mono aT.here) nF,P9.sh.1.trans U0,U1.trans P9.sh.2⟩;rw[mH,dG h.jk];unfold jD;rw[aI hw]
end
section
variable (kf:KF af K)(hA:cM A (n+32))
include kf hA in
theorem BX{fL:Fp}{lL:Loc}{nh:Env}{W:Wd}{s:Shared}{vs:List Value}{co d f cell:Addr}{k t:List Nat}{i j kk:Nat}{wd z:Int}{aW signs:Tx}{lines:List Tx}{ps:Ps}(pG:A.frames=a7 [nh])(M3:nh.frame=a7 fL.L)(MA:nh.scope.kind≠.module)
  (g:Here ⟨af,w,K,A,fL⟩ W s lL) (x:jL ⟨af,w,K,A,fL⟩ W s co d f cell k) (rs:bY W [.ref i,S [],S t,.val (.ref co)] vs)
  (hk:k.length<=10) (ht:t.length<=100) (h:Fm wd aW signs i j kk lines ps z W.H) (hz:0<=z/\z<=1000) (hs:oy ps) (hp:ps.length<=900) (Iq:wd<=500) (hl:lines.length<=900) (hc:∀r,(∀w,r=a7 w->w.length<=300)->(bz (be (uo ps r))).length<=5000) (wO:∀l∈lines,l.length<=5000) (rY:aW.length<=10)
  {r:Option Tx} {ws:List Tx} (hr:dJ k (wd-bo ps z) (wd-aW.length) t=r::ws.map a7) (BW:∀w,r=a7 w->(w.length:Int)<=wd-bo ps z/\w.length<=300) (wl:ws.length<=101) (wk:∀x∈ws,x.length<=300) :
  codeAny (model af w) A (.call (.ref 85) ⟨vs,[]⟩) (JI K fL cell lL W s (cL W.H j kk (jD aW lines ps z r ws).1 (jD aW lines ps z r ws).2.1 (jD aW lines ps z r ws).2.2)) s:=by
 show codeAny_with_toks (n:=1) g.tk ?_;show qU (c:=⟨af,w,K,A,fL⟩) g.tk g.hh g.rel rs hA kf.EV (λfd vs e1 e2 hl=>?_) (by decide) rfl rfl rfl rfl (λL y hy=>?_) (λL=>?_) λL q aj A' h₀ tk db E ct ue k₁ fresh rS WB=>?_
 .obtain⟨nm,qn,ps,aB,al,gl,cl,dv,KV,r1,r2,r3,r4,r5,r6⟩:=fd;dsimp only at e1 e2;subst e1 e2;show dH (iK 3 hl) λ_ u0 e9 LC=>?_;subst e9;show dH (iK 2 LC) λ_ u1 jN OZ=>?_;subst jN;show dH (iK 1 OZ) λ_ u2 rJ WC=>?_;subst rJ;show dH (iK 0 WC) λ_ u3 AJ WD=>?_;subst AJ;obtain rfl:=ZQ WD;rfl
 .simp only[b5,Xu,Aal,Xi,Xy,or_false]at hy;rcases hy with rfl|rfl|rfl|rfl<;>show .inl ⟨rfl,rfl⟩
 .show .nil
 .have nL:W.h.get? L=a8:=fresh L (Xd _);have th:∀a o,s.heap.get? a=a7 o->a≠L:=λa o e z=>by rw[z,<-g.hh,nL]at e;cases e
  have d4:∀a∈fL.ad,a≠L:=λa m z=>by obtain⟨oM,eM⟩:=g.fr.there a m;rw[z,nL]at eM;cases eM
  have Je:∀a∈fL.ad,a≠cell:=λa m z=>x.nf cell (by simp) (XN _ (z▸m));have ex:∀a∈[co,d,f,cell],a≠L:=λa m=>by
   obtain⟨⟨fd,sl,e1⟩,⟨mm,t,⟨od,_,_,e7,_⟩,e2,e3⟩,⟨Wj,e6,_⟩,t',o,e4,r⟩:=x.at_;simp only[Xi,Xy,or_false]at m;clear x;rcases m with rfl|rfl|rfl|rfl
   .show th _ _ e1
   .show th _ _ e7
   .show th _ _ e6
   .show th _ _ e4
  have FM:jL ⟨af,w,K,A',⟨L,[]⟩⟩ ⟨h₀,W.ρ,W.H⟩ { s with heap:=h₀,toks:=tk } co d f cell k:=
   ⟨x.at_.keeps (λa m o e=>k₁ a o (g.hh▸e)) (λcl=>cl.keeps λb o e _=>k₁ b o (g.hh▸e)),x.nm,λa m z=>by
    rcases Xl.mp z with z|z
    .show ex a m (Xh.mp z)
    .show x.nf a m (X6 _ z),x.ck,x.cs⟩
  show Xz (BV (n:=n) (q:=q) (aj:=aj) kf db E (by rw[WB];change Option.map _ A.frames=_;rw[pG];rfl) M3 MA ue FM (g.fr.up k₁) d4 Je hk ht h hz hs hp Iq hl hc wO rY rfl rfl rfl rfl hr BW wl wk) (λf' s' ⟨W',G,e1,e2,e3,e4,e5,e6,e7,e8⟩ t=>?_) λ_ _ z=>z;show .mk W' G ?_ e2 e3 ⟨e4.len,e4.agree,λa o e m nf=>e4.keep a o (k₁ a o e) m λz=>?_⟩ e5 e6 e7 e8 t
  .rcases e1 with rfl|rfl<;>rfl
  .rcases Xi.mp z with z|z
   .rw[z,nL]at e;cases e
   .show nf z
end
noncomputable def yK:List Stmt×Arguments×Scope:=match tU (top 22)with|some d=>d|none=>([],⟨[],[],a8,[],[],a8,[]⟩,{ kind:=.function,names:=[],isGenerator:=ac,isCoroutine:=ac })
noncomputable abbrev gG(L:Addr):List (Pi×Addr):=bC yK.2.2 L
noncomputable abbrev fD(L:Addr)(q:Pi)(aj:Value):Env:=bT yK.2.2 L (gG L) q 275 aj
noncomputable def yL:Stmt->List Stmt
 |.For _ _ b _ _=>b
 |_=>[]
inductive U2(H0:List AO)(l0:Loc)(fl:AF)(H':List AO)(l':Loc):Prop
 |mk (G:List AO):fl=.next->H'=H0++G->l'=l0->U2 H0 l0 fl H' l'
section
variable {af:Program}{w:World}{K:Frag}{A:Around}(kf:KF af K){n:Nat}(hA:cM A (n+32)){H:List AO}
include kf hA in
theorem BY{LL:Addr}{q:Pi}{aj:Value}{ls:Loc}{k t:List Nat}{i j kk:Nat}{wd z:Int}{aW signs:Tx}{lines:List Tx}{ps:Ps}(E':ba (fD LL q aj) ⟨LL,gG LL⟩)(pG:A.frames=a7 [fD LL q aj])
  (hk:k.length<=10) (ht:t.length<=100) (h:Fm wd aW signs i j kk lines ps z H) (hz:0<=z/\z<=1000) (hs:oy ps) (hp:ps.length<=900) (Iq:wd<=500) (hl:lines.length<=900) (hc:∀r,(∀w,r=a7 w->w.length<=300)->(bz (be (uo ps r))).length<=5000) (wO:∀l∈lines,l.length<=5000) (rY:aW.length<=10)
  {r:Option Tx} {ws:List Tx} (hr:dJ k (wd-bo ps z) (wd-aW.length) t=r::ws.map a7) (BW:∀w,r=a7 w->(w.length:Int)<=wd-bo ps z/\w.length<=300) (wl:ws.length<=101) (wk:∀x∈ws,x.length<=300)
  (h1:bh ls "maker" (.ref i)) (h2:bh ls "value" (S t)) (h3:bh ls "key" (S k)) :
  Ok ⟨af,w,K,A,⟨LL,gG LL⟩⟩ aY (exec (cZ (yL (cZ yK.1 8)) 0) (fD LL q aj)) H ls (U2 (cL H j kk (jD aW lines ps z r ws).1 (jD aW lines ps z r ws).2.1 (jD aW lines ps z r ws).2.2) ls):=by
 revert af w K A n H LL q aj ls k t i j kk wd z aW signs lines ps r ws;delta af w K A;intro kf;delta n;intro hA;delta H LL q aj ls k t i j kk wd z aW signs lines ps;intro E' pG hk ht h hz hs hp Iq hl hc wO rY;delta r ws;intro hr BW wl wk h1 h2 h3;change Ok _ aY (exec (.Expr (.Call (.Attribute (.Name "maker" _) _ _) [.Constant _ _ _,.Name "value" _,.Call (.Name "_law_coder" _) [.Name "key" _] [] _] [] _) _) _) _ _ _;intro W s g e;subst e;have n1:∀{pp:Pos},Ok ⟨af,w,K,A,⟨LL,gG LL⟩⟩ VR (eval (.Name "maker" pp) (fD LL q aj)) W.H ls λx H' l'=>x=.ref i/\H'=W.H/\l'=ls:=by intro pp;ext;show⟨rfl,rfl,rfl⟩
 have n2:∀{pp:Pos} {H:List AO},Ok ⟨af,w,K,A,⟨LL,gG LL⟩⟩ VR (eval (.Name "value" pp) (fD LL q aj)) H ls λx H' l'=>x=S t/\H'=H/\l'=ls:=by intro pp H;ext;show⟨rfl,rfl,rfl⟩
 have n3:∀{pp p2:Pos} {H:List AO},Ok ⟨af,w,K,A,⟨LL,gG LL⟩⟩ bY (spliced (backTo pp (starEach [.Name "key" p2] (fD LL q aj)))) H ls λx H' l'=>x=[S k]/\H'=H/\l'=ls:=by intro pp p2 H;ext;show⟨rfl,rfl,rfl⟩
 have n0:∀{kk:Nat} {pp:Pos} {H:List AO},Ok ⟨af,w,K,A,⟨LL,gG LL⟩⟩ VR (eval (.Constant (.str "") kk pp) (fD LL q aj)) H ls λx H' l'=>x=S []/\H'=H/\l'=ls:=by intro kk pp H;ext;show⟨rfl,rfl,rfl⟩
 show wpAny_Expr_any (n5 g rfl rfl (by decide) rfl rfl n1 λaK aH aU y u aD b8 zz pl=>?_) rfl rfl;obtain⟨rfl,c8,rfl⟩:=zz;have f1:aK.H[i]?=a7 (rU wd aW signs j kk):=by rw[c8];show h.f
 show tG (c:=⟨af,w,K,A,⟨LL,gG LL⟩⟩) f1 rfl kf.fmt.pg (kf.fmt.fi "feed" _ rfl) (kf.fmt.fn "feed" _ rfl).1 rfl aK aH u aU _ _ pl aD.here rfl b8 ?_;show Yp (n0.run aD.here rfl λb4 aN cj y v0 aF dg zz=>?_) rfl;obtain⟨rfl,cT,rfl⟩:=zz;show Yp (n2.run aF.here rfl λb7 bJ d5 y v1 aT eU zz=>?_) rfl;obtain⟨rfl,cE,rfl⟩:=zz;show Yp (qX (c:=⟨af,w,K,A,⟨LL,gG LL⟩⟩) aT.here rfl E' rfl rfl (kf.gl _ _ rfl) rfl n3 rfl λg9 fP lV xs vs bE B5 zz=>?_) rfl;clear g h1 h2 h3 n0 n1 n2 n3;obtain⟨rfl,jP,rfl⟩:=zz;show YD (Yr (yq (n:=n+31) kf hA bE.tk bE.hh bE.rel B5) λrr eu zz=>?_);obtain⟨co,d,f,cell,eX,Sf,WE,mH,U3,R5,WF,WG,ca,z1,z2,z3,z4⟩:=zz;subst Sf;have cU:bN ⟨af,w,K,A,⟨LL,gG LL⟩⟩ g9 fP eX eu lV:=(bE.here.Fi WE U3 R5 WF).at WG;have P0:g9.H=W.H:=jP.trans (cE.trans (cT.trans c8));have PV:eX.H=W.H:=mH.trans P0;have WH:eX.bf=g9.bf:=sR mH U3.agree;have nw:∀a∈[co,d,f,cell],g9.h.get? a=a8:=λa m=>by simp only[Xi,Xy,or_false]at m;clear ca;rcases m with rfl|rfl|rfl|rfl<;>assumption
 have Sg:jL ⟨af,w,K,A,⟨LL,gG LL⟩⟩ eX eu co d f cell k:=⟨ca,λa m=>by rw[WH];show(bE.rel.pH (nw a m)).1,λa m=>bE.here.pH (nw a m),(bE.rel.pH z4).2.2.1,(bE.rel.pH z4).2.2.2⟩
 have PW:=bE.tr cU;have Pc:=aF.tr (aT.tr PW) |>.vr aD.here b8
 have WI:=aT.tr PW |>.vr aF.here dg
 have WJ:=PW.vr aT.here eU;show YR ⟨⟨_,dY (cU.hh▸cU.rel.top) (kf.fmt.fn "feed" _ rfl).2⟩,?_⟩;show YD (Yr (BX kf hA pG rfl nofun cU.here Sg (.cons Pc (.cons WI (.cons WJ (.cons (.val _) .nil)))) hk ht (by rw[PV];show h) hz hs hp Iq hl hc wO rY hr BW wl wk) λrr vw zz=>?_);obtain⟨DC,G,Sf,WK,Pd,U4,R6,WL,WM,WN,tk6⟩:=zz;subst Sf;have GA:=((aD.tr aF).tr aT).tr PW;have cn:W.h.get? cell=a8:=(((aD.tr aF).tr aT).tr bE).old P0 z4;show⟨DC,lV,.next,⟨WK,⟨?_,λa ha=>?_,λa o eo m nf=>?_⟩,R6,WL,WM.trans GA.sh.1,GA.sh.2.trans WN⟩,.next,⟨G,rfl,by rw[Pd,PV],rfl⟩⟩
 .rw[Pd,Xg,dp,PV];show Yd _ _
 .rw[U4.agree a (by rw[PV];show ha)];show GA.st.agree a ha
 .have a5:=GA.st.keep a o eo m nf;show U4.keep a o a5.1 a5.2 λz=>?_;rcases Xi.mp z with z|z
  .show nf (XN _ (z▸.head _))
  .rcases Xi.mp z with z|z
   .rw[z,cn]at eo;cases eo
   .show nf (X6 _ z)
end
noncomputable def bH(k t:List Nat):List Nat:=if t≠[]/\t.all ([97,126]:List Nat).contains=a9 then k++[61]++t else k++[61,34]++aG t++[34]
theorem BZ{k:List Nat}(h:(t != [] && t.all ([97,126]:List Nat).contains)=a9):bH k t=k++[61]++t:=by unfold bH;rw[aQ];simpa using h
theorem FR{k:List Nat}(h:(t != [] && t.all ([97,126]:List Nat).contains)=ac):bH k t=k++[61,34]++aG t++[34]:=by unfold bH;rw[aI];intro z;rw[<-Bool.not_eq_true]at h;show h (by simpa using z)
noncomputable def M5:AV->Option AV
 |.str s=>a7 (S (aG s.cps.toList))
 |_=>a8
theorem wq:∀t:List Nat,(t.map λc=>S [c]).filterMap M5=(t.map λc=>aG [c]).map S:=by
 intro t;induction t with|nil=>rfl|cons a t ih=>rw[Xu,YQ,ih];rfl
theorem FS:∀t:List Nat,(t.map λc=>aG [c]).flatten=aG t:=by
 intro t;induction t with|nil=>rfl|cons a t ih=>rw[Xu,Abb,ih];change aG [a]++aG t=aG ([a]++t);unfold aG;rw[List.flatMap_append]
theorem pV{c:Nat}:aG [c]=if Rx.dD c then[c]else[92,c]:=by unfold aG;simp
section
variable {f:Fp}(kf:KF af K)(hA:cM A (n+5)){Q:AV->List AO->Prop}
include kf hA in
theorem r9{k:List Nat}(hk:k.length<=10)(ht:t.length<=100)(q:Q (S (bH k t)) H):bk ⟨af,w,K,A,f⟩ (.ref 265) [S k,S t] H Q:=by
 show d0 hA kf.Jw (.inl rfl) rfl (by decide) rfl rfl rfl rfl rfl rfl λL q' aj A' db E ct hb hu=>?_;show"s";show ud (t != [] && t.all ([97,126]:List Nat).contains) ?_ (λhT=>?_) (λhT=>?_)
 .ext;show xF (a:=t) (b:=[]) ⟨_,rfl,λh1=>?_,λh1=>?_⟩
  .ext;ext;show B3 (a:=t) (by show jh ?_;show Xf ht (by decide)) ?_;ext;show Kx (b:=[]) ⟨_,rfl,λh2=>?_,λh2=>?_⟩
   .ext;show⟨?_,rfl,rfl⟩;rw[sM]at h2;rw[h1,h2];rfl
   .show⟨?_,rfl,rfl⟩;rw[sM]at h2;rw[h1,h2];rfl
  .show⟨?_,rfl,rfl⟩;rw[h1];rfl
 .ext;show dQ (by show jh ?_;simp only[Xs,XU];show"La10L+a+0.1.100000" hk) ?_;ext;show dQ (by show jh ?_;simp only[Xg,Xs,XU];show"La10Lb100L++a+0.1b100000" hk ht) ?_;ext;rw[BZ hT]at q;show c9 (Xd _) hb rfl q
 .ext;show dQ (b:=[61,34]) (by show jh ?_;simp only[Xs,XU];show"La10L+a++0.1.1.100000" hk) ?_;ext;show jd (cl:=[]) db.handled E rfl ⟨.nil,λp hp=>nomatch hp⟩ (by decide) rfl (by decide) (λu=>rfl) ?_;ext;show iA rfl (eJ H.length ([.it (t.map λc=>S [c])]) ([H.length]) (t.map λc=>S [c]) (eQ M5 tI jA (.inr (by show XG rfl)) (by show Gj) (wU (by rw[Xm];show"La100La100000" ht) ?_ ?_ ?_)))
  .intro C E2 y hy;obtain⟨c,hc,rfl⟩:=Xr.mp hy;have ef:M5 (S [c])=a7 (S (aG [c])):=rfl;rw[ef];show n4 E2 (.local rfl rfl) rfl λF l hk yM=>hJ ⟨rfl,?_⟩;have Si:bh l "sign" (S [c]):=yM;ext;show Ky (a:=[c]) (b:=[34,92]) ?_;rw[tP];show cf _ rfl (λh2=>?_) (λh2=>?_)
   .have hq:Rx.dD c=ac:=by(have h3:c=34\/c=92:=(by simpa using h2));clear ef h2 hc yM Si hy;rcases h3 with rfl|rfl<;>rfl
    ext;show dQ (a:=[92]) (b:=[c]) (by simp[sizeLine]) ?_;show⟨by rw[pV,hq];rfl,hk,[],by rw[Xv]⟩
   .have hq:Rx.dD c=a9:=by(have h3:¬(c=34\/c=92):=(by simpa using h2));unfold Rx.dD;simpa using h3
    ext;show⟨by rw[pV,hq];rfl,hk,[],by rw[Xv]⟩
  .rw[wq];show cN λu _=>rfl
  .rw[wq];have Gr:=gE t;ext;show gA (.inl rfl) ?_ ?_
   .show Xf (y8 _ 2 λy hy=>?_) ?_
    .obtain⟨c,_,rfl⟩:=Xr.mp hy;rw[pV];split<;>simp
    .rw[Xm];show iT (by show"La100L:a2.1000" ht)
   rw[l6,FS];ext;show dQ (by show jh ?_;simp only[Xg,Xs,XU];show"La10Lb100Lc*2bL++a++0.1.1c100000" hk ht Gr) ?_;ext;show dQ (b:=[34]) (by show jh ?_;simp only[Xg,Xs,XU];show"La10Lb100Lc*2bL+++a++0.1.1c+0.1.100000" hk ht Gr) ?_;ext;rw[FR hT]at q;show c9 (Xd _) hb rfl q
end
noncomputable abbrev bM:Type:=List (Tx×Tx)
noncomputable def fc(p:Tx×Tx):AV:=.tup [S p.1,S p.2]
noncomputable def bZ(r:bM):AV:=.fl (r.map fc)
noncomputable def longer(row:bM)(fresh:Bool)(key sign:Tx):bM:=if fresh then row++[(key,sign)]else row.dropLast++[(key,(row.getLast?.getD ([],[])).2++sign)]
noncomputable def iq(row:bM):Nat:=(glue [32] (row.map λp=>bH p.1 p.2)).length
noncomputable def eD(w h a:Int)(key:Tx)(st:List bM×Bool)(sign:Tx):List bM×Bool:=
 if(iq (longer (st.1.getLast?.getD []) st.2 key sign):Int)+(if st.1.length=1 then h else a) > w then(st.1++[[(key,sign)]],ac)
 else(st.1.dropLast++[longer (st.1.getLast?.getD []) st.2 key sign],ac)
noncomputable def Pe:List Stmt×Arguments×Scope:=match tU (top 21)with|some d=>d|none=>([],⟨[],[],a8,[],[],a8,[]⟩,{ kind:=.function,names:=[],isGenerator:=ac,isCoroutine:=ac })
noncomputable abbrev FT(L:Addr)(q:Pi)(aj:Value):Env:=bT Pe.2.2 L [] q 270 aj
theorem t6(l:List α):iw l a8 (a7 (-1))=l.dropLast:=by
 have e:clip (a7 (-1)) l.length l.length=l.length-1:=by unfold clip;dsimp only;rw[aQ (by decide)];omega
 unfold iw;rw[e,jb,Zi,Ace,Y9]
structure M6(rows:List bM):Prop where
 ne:rows≠[]
 len:rows.length<=100
 row:∀r∈rows,r.length<=10/\∀p∈r,p.1.length<=10/\p.2.length<=50
noncomputable def FU:AV->Option AV
 |.tup [.str a,.str b]=>a7 (S (bH a.cps.toList b.cps.toList))
 |_=>a8
theorem ni:∀r:bM,(r.map fc).filterMap FU=(r.map λp=>bH p.1 p.2).map S:=by
 intro r;induction r with|nil=>rfl|cons a r ih=>rw[Xu,YQ,ih];rfl
theorem lj{k t:Tx}:(bH k t).length<=k.length+2*t.length+3:=by
 unfold bH
 have:=gE t;split<;>simp only[Xg,Xs,XU]<;>omega
theorem FV:∀l:List Tx,(∀y∈l,y.length<=200)->(l.map λt=>t.length+([32]:Tx).length).sum<=l.length*201:=by
 intro l;induction l with|nil=>intro _;show Xn _|cons a l ih=>intro h;have h1:=h a (.head _);have h2:=ih λy m=>h y (.tail _ m);simp only[Xu,Y4,Xs,XU]at h2 ⊢;show"La200Lb:c201L++a+0.1b:+c1.201" h1 h2
theorem yN:∀l:List Tx,(glue [32] l).length<=(l.map λt=>t.length+([32]:Tx).length).sum:=by
 intro l;induction l with
 |nil=>show Xn _
 |cons a l ih=>
  cases l with|nil=>change a.length<=_;show Yb _|cons b l=>change(a++[32]++glue [32] (b::l)).length<=_;simp only[Xg,Xu,Y4,Xs,XU]at ih ⊢;show"La++b+0.1cL++d+0.1a++d+0.1++b+0.1c" ih
inductive U5(j:Nat)(H0:List AO)(rows:List bM)(ls:Loc)(fl:AF)(H':List AO)(l':Loc):Prop
 |mk:fl=.next->H'=H0.set j (.lst (rows.map bZ))->bh l' "rows" (.ref j)->bh l' "fresh" (.bool ac)->(∀x v,x∈(["key", "width", "head", "ahead"]:List Pi)->bh ls x v->bh l' x v)->U5 j H0 rows ls fl H' l'
section
variable {af:Program}{w:World}{K:Frag}{A:Around}(kf:KF af K){n:Nat}(hA:cM A (n+10)){H:List AO}
include kf hA in
theorem C0{L:Addr}{q:Pi}{aj:Value}{ls:Loc}{j:Nat}{rows:List bM}{fresh:Bool}{key sign:Tx}{wd hd ah:Int}(E:ba (FT L q aj) ⟨L,[]⟩)(eR:H[j]?=a7 (.lst (rows.map bZ)))(ok:M6 rows)(hk:key.length<=10)(hs:sign.length<=1)
  (cY:(longer (rows.getLast?.getD []) fresh key sign).length<=10/\∀p∈longer (rows.getLast?.getD []) fresh key sign,p.1.length<=10/\p.2.length<=50) (pG:fresh=ac->rows.getLast?.getD []≠[])
  (h1:bh ls "rows" (.ref j)) (h2:bh ls "key" (S key)) (h3:bh ls "sign" (S sign)) (h4:bh ls "fresh" (.bool fresh)) (h5:bh ls "width" (.int wd)) (h6:bh ls "head" (.int hd)) (h7:bh ls "ahead" (.int ah)) :
  Ok ⟨af,w,K,A,⟨L,[]⟩⟩ aY (execs (yL (cZ (yL (cZ Pe.1 1)) 1)) (FT L q aj)) H ls (U5 j H (eD wd hd ah key (rows,fresh) sign).1 ls):=by
 revert af w K A n H L q aj ls j rows fresh key sign wd hd ah;delta af w K A;intro kf;delta n;intro hA;delta H L q aj ls j rows fresh key sign wd hd ah;intro E eR ok hk hs cY pG h1 h2 h3 h4 h5 h6 h7;have d4:=ok.ne;have fO:0<rows.length:=Ye.mpr d4;have eT:rows.getLast?.getD []=rows[rows.length-1]:=by rw[ZD,Xk (Z9 fO)];rfl
 generalize FW:rows.getLast?.getD []=row at *
 change Ok _ aY (execs [_,_,_,_,_] _) _ _ _;ext;show mX ?_;show⟨iF (.inr ⟨j,rfl,eR⟩),iZ (n:=rows.length-1) (y:=bZ row) (gy (l:=rows.map bZ) (.inr ⟨j,rfl,eR⟩)) (by rw[Xm];show kG fO) ?_ (by rw[Xm];show iT (Xf ok.len (by decide))) ?_⟩
 .rw[Zl,Xk (Z9 fO),<-eT];rfl
 show"s";have g1:bh (put "row" (bZ row) ls) "row" (bZ row):=by left
 have g2:bh (put "row" (bZ row) ls) "rows" (.ref j):=by left
 have g3:bh (put "row" (bZ row) ls) "key" (S key):=by left
 have g4:bh (put "row" (bZ row) ls) "sign" (S sign):=by left
 have g5:bh (put "row" (bZ row) ls) "fresh" (.bool fresh):=by left
 generalize JK:longer row fresh key sign=lg at *
 have ux:row.length<=10:=by rw[eT];show(ok.row _ (Aah _)).1
 show Ok.mono (Q:=P4 H (put "longer" (bZ lg) (put "row" (bZ row) ls))) ?_ ?_
 .ext;show gw ⟨λhb=>?_,λhb=>?_⟩
  .clear g5 h4 pG eT;subst hb;ext;show cW ?_;ext;show nY (.inl rfl) (.inl rfl) (by rw[Xm];simp only[Xs,XU];show iT ?_;show"La10L+a+0.1.1000" ux) ?_;ext;show⟨rfl,rfl,?_⟩;rw[<-JK];unfold longer bZ;rw[aQ rfl,Yc];rfl
  .clear g5 h4;subst hb;have M7:=pG rfl;have U6:0<row.length:=Ye.mpr M7;ext;show mX (bd _ rfl ⟨iF (.inl rfl),zt (by rw[Xm];show iT (by show"La10La1000" ux)) ?_⟩);ext;show cW ?_;ext;show mX ?_;show⟨iF (.inl rfl),iZ (n:=row.length-1) (y:=fc (row.getLast?.getD ([],[]))) (gy (l:=row.map fc) (.inl rfl)) (by rw[Xm];show kG U6) ?_ (by rw[Xm];show iT (by show"La10La1000" ux)) ?_⟩
   .rw[Zl,ZD,Xk (Z9 U6)];rfl
   ext;show⟨AR,item_tup (n:=1) (y:=S (row.getLast?.getD ([],[])).2) rfl rfl (iT (XK rfl)) ?_⟩;ext;have OZ:(row.getLast?.getD ([],[])).2.length<=50:=by
    rw[YO M7]
    have:=(ok.row row (by rw[eT];show Aah _)).2 _ (Abp M7);show this.2
   show dQ (by show jh ?_;show"La1Lb50L+ba100000" hs OZ) ?_;ext;show nY (.inl rfl) (.inl rfl) (by have:=t6 (row.map fc);rw[this,ZF,Xm];simp only[Xs,XU];show iT ?_;show"La10L+-a1+0.1.1000" ux) ?_
   ext;show⟨rfl,rfl,?_⟩;rw[<-JK,t6];unfold longer bZ;rw[aI (by decide),Yc,Ab9];rfl
 .rintro fl H' l' ⟨rfl,PU,rfl⟩
  rw[PU];clear PU H';have e0:bh (put "longer" (bZ lg) (put "row" (bZ row) ls)) "longer" (bZ lg):=by left
  ext;show jd (cl:=[]) hA.handled E rfl ⟨.nil,λp hp=>nomatch hp⟩ (by decide) rfl (by decide) (λu=>rfl) ?_;ext;show iA rfl (eJ H.length ([.it (lg.map fc)]) ([H.length]) (lg.map fc) (eQ FU ke jA (.inr (by show XG rfl)) (by show Gj) (wU (by rw[Xm];omega) ?_ ?_ ?_)))
  .intro C E2 y hy;revert C y;delta C;intro E2;delta y;intro hy;obtain⟨p,hp,rfl⟩:=Xr.mp hy;clear hy;obtain⟨pk,pt⟩:=p;have pQ:=cY.2 _ hp;have ef:FU (fc (pk,pt))=a7 (S (bH pk pt)):=rfl;rw[ef];show⟨λF l hl=>ic hA.handled rfl rfl ?_⟩;show"in";show"in";show jS ?_;show hJ ⟨rfl,?_⟩;ext;show bK (r9 kf (hA.le (m:=n+5) (by show"L+a5+a10")) pQ.1 (Xf pQ.2 (by decide)) ?_);show⟨rfl,λn hn=>(nomatch hn),[],by rw[Xv]⟩
  .rw[ni];show cN λu _=>rfl
  .rw[ni];have yA:((lg.map λp=>bH p.1 p.2).map λt=>t.length+([32]:Tx).length).sum<=2010:=by
    show Xf (FV _ λy hy=>?_) (by rw[Xm];omega);obtain⟨p,hp,rfl⟩:=Xr.mp hy;have pQ:=cY.2 _ hp
    have:=lj (k:=p.1) (t:=p.2);show"ALa10Lb50Lc++a*2b3Lc200" pQ this
   ext;show gA (.inl rfl) ?_ ?_
   .show Xf yA (by show jh ?_;show"L2010.100000")
   have mn:(glue [32] (lg.map λp=>bH p.1 p.2)).length=iq lg:=rfl;have Sj:iq lg<=2010:=Xf (yN _) yA;ext;show si (by rw[mn];show jh ?_;show"La2010La100000" Sj) ?_;show"s";rw[mn];have k1:bh (put "size" (.int (iq lg)) (put "longer" (bZ lg) (put "row" (bZ row) ls))) "size" (.int (iq lg)):=by left
   have k2:bh (put "size" (.int (iq lg)) (put "longer" (bZ lg) (put "row" (bZ row) ls))) "rows" (.ref j):=by left
   have k3:bh (put "size" (.int (iq lg)) (put "longer" (bZ lg) (put "row" (bZ row) ls))) "longer" (bZ lg):=by left
   have k4:bh (put "size" (.int (iq lg)) (put "longer" (bZ lg) (put "row" (bZ row) ls))) "width" (.int wd):=by left
   have k5:bh (put "size" (.int (iq lg)) (put "longer" (bZ lg) (put "row" (bZ row) ls))) "head" (.int hd):=by left
   have k6:bh (put "size" (.int (iq lg)) (put "longer" (bZ lg) (put "row" (bZ row) ls))) "ahead" (.int ah):=by left
   have k7:bh (put "size" (.int (iq lg)) (put "longer" (bZ lg) (put "row" (bZ row) ls))) "key" (S key):=by left
   have k8:bh (put "size" (.int (iq lg)) (put "longer" (bZ lg) (put "row" (bZ row) ls))) "sign" (S sign):=by left
   show ud (decide ((iq lg:Int)+(if rows.length=1 then hd else ah) > wd)) ?_ (λhT=>?_) (λhT=>?_)
   .ext;show nX (l:=rows.map bZ) (.inr ⟨j,rfl,eR⟩) (by rw[Xm];show iT (Xf ok.len (by decide))) ?_;rw[Xm];ext;show xD ⟨_,rfl,λhb=>?_,λhb=>?_⟩
    .have hb:rows.length=1:=by have:=aP hb;show"I$a1Ea1" this
     ext;show tL ?_;ext;rw[aQ hb];show iR (gn _ rfl rfl rfl rfl)
    .have hb:¬rows.length=1:=λz=>by have:=of_decide_eq_false hb;show"Ea1NI$a1.0" z this
     ext;show tL ?_;ext;rw[aI hb];show iR (gn _ rfl rfl rfl rfl)
   .have hT:=aP hT;have es:(eD wd hd ah key (rows,fresh) sign).1=rows++[[(key,sign)]]:=by unfold eD;dsimp only;rw[FW,JK,aQ hT]
    rw[es];ext;show bx (bG eR) ?_;ext;show cW ?_;ext;show YH eR rfl (bW eR) (by rw[Xm];show Xf ok.len (by decide)) ?_;ext;show⟨rfl,?_,by left,by left,λx v hx hv=>?_⟩
    .rw[bX,Yc];rfl
    .revert x v;delta x v;intro hx hv;simp only[Xi,Xy,or_false]at hx;rcases hx with rfl|rfl|rfl|rfl<;>show((((hv.put rfl).put rfl).put rfl).put rfl)
   .have hT:=of_decide_eq_false hT;have es:(eD wd hd ah key (rows,fresh) sign).1=rows.dropLast++[lg]:=by unfold eD;dsimp only;rw[FW,JK,aI hT]
    rw[es];change Ok _ aY (execs [.Assign [.Subscript _ _ _] _ _] _) _ _ _;show execs_cons (ug ?_ rfl);ext;show mX ?_;show⟨_,rfl,vt (n:=rows.length-1) eR rfl (gy (l:=rows.map bZ) (.inr ⟨j,rfl,eR⟩)) (by rw[Xm];show kG fO) (by rw[Xm];show iT (Xf ok.len (by decide))) ?_⟩;ext;show⟨rfl,?_,by left,by left,λx v hx hv=>?_⟩
    .rw[bX];congr 2;obtain⟨l0,x0,e0⟩:∃l0 x0,rows=l0++[x0]:=⟨_,_,(Yh d4).symm⟩
     clear es hT eR eT d4 fO FW ok;subst e0;simp
    .revert x v;delta x v;intro hx hv;simp only[Xi,Xy,or_false]at hx;rcases hx with rfl|rfl|rfl|rfl<;>show((((hv.put rfl).put rfl).put rfl).put rfl)
end
noncomputable def signsOf(v:Tx):List Tx:=v.take 1::(v.drop 1).map λc=>[c]
noncomputable def ir(w h a:Int)(rows:List bM)(p:Tx×Tx):List bM:=((signsOf p.2).foldl (eD w h a p.1) (rows,a9)).1
noncomputable def fillAll(w h a:Int)(pe:List (Tx×Tx)):List bM:=pe.foldl (ir w h a) [[]]
structure ny(m n:Nat)(st:List bM×Bool):Prop where
 ne:st.1≠[]
 len:st.1.length<=n+1
 row:∀r∈st.1,r.length<=m/\∀p∈r,p.1.length<=10/\p.2.length<=n
 fr:st.2=a9->∀r∈st.1,r.length+1<=m
 nf:st.2=ac->st.1.getLast?.getD []≠[]
theorem A4{l:List (List α)}(h:l≠[]):l.getLast?.getD []∈l:=by rw[YO h];show Abp h
theorem ny.lg{m:Nat}{st:List bM×Bool}{key sign:Tx}(h:ny m n st)(hm:1<=m)(hk:key.length<=10)(hs:sign.length<=1):(longer (st.1.getLast?.getD []) st.2 key sign).length<=m/\longer (st.1.getLast?.getD []) st.2 key sign≠[]/\∀p∈longer (st.1.getLast?.getD []) st.2 key sign,p.1.length<=10/\p.2.length<=n+1:=by
 have hl:=h.row _ (A4 h.ne);cases hf:st.2 with
 |true=>
  have h2:=h.fr hf _ (A4 h.ne);generalize st.1.getLast?.getD []=r at *
  unfold longer;rw[aQ rfl];show⟨by rw[Xg];show h2,by show Yu (key,sign) r,λp hp=>?_⟩;rcases Xl.mp hp with hp|hp
  .show⟨(hl.2 p hp).1,AaD (hl.2 p hp).2⟩
  .rw[Xh.mp hp];show⟨hk,by change sign.length<=_;show"La1La+b1" hs⟩
 |false=>
  have h2:=h.nf hf;generalize st.1.getLast?.getD []=r at *
  unfold longer;rw[aI (by decide)];have RB:0<r.length:=Ye.mpr h2;show⟨by rw[Xg,ZF];simp only[Xs,XU];have:=hl.1;omega,by show Yu (key,((List.getLast? r).getD ([],[])).snd++sign) (List.dropLast r),λp hp=>?_⟩;rcases Xl.mp hp with hp|hp
  .have hp:=AaK _ hp;show⟨(hl.2 p hp).1,AaD (hl.2 p hp).2⟩
  .rw[Xh.mp hp];show⟨hk,?_⟩;change((r.getLast?.getD ([],[])).2++sign).length<=_;rw[YO h2,Xg]
   have:=(hl.2 _ (Abp h2)).2;change(r.getLast h2).2.length+_<=_;show"La1LbcL+ba+c1" hs this
theorem wu{key s:Tx}{w a:Int}{st:List bM×Bool}:eD w h a key st s=(st.1++[[(key,s)]],ac)\/eD w h a key st s=(st.1.dropLast++[longer (st.1.getLast?.getD []) st.2 key s],ac):=by unfold eD;show(Decidable.em _).elim (λz=>.inl (aQ z)) λz=>.inr (aI z)
theorem ny.step{m n:Nat}{st:List bM×Bool}{key sign:Tx}{w h a:Int}(H:ny m n st)(hm:1<=m)(hk:key.length<=10)(hs:sign.length<=1):ny m (n+1) (eD w h a key st sign):=by
 revert m n st key sign w h a;delta m n st key sign w h a;intro H hm hk hs;obtain⟨l1,l2,l3⟩:=H.lg hm hk hs;have up:∀r∈st.1,r.length<=m/\∀p∈r,p.1.length<=10/\p.2.length<=n+1:=λr hr=>⟨(H.row r hr).1,λp hp=>⟨((H.row r hr).2 p hp).1,AaD ((H.row r hr).2 p hp).2⟩⟩;rcases wu (w:=w) (h:=h) (a:=a) (key:=key) (st:=st) (s:=sign)with e|e<;>rw[e]<;>clear e
 .show⟨by show Yu [(key,sign)] st.fst,by have:=H.len;simp only[Xg,Xs,XU];show"La+b1L+a+0.1++b1.1" this,λr hr=>?_,nofun,λ_=>by simp⟩;rcases Xl.mp hr with hr|hr
  .show up r hr
  .rw[Xh.mp hr];show⟨hm,λp hp=>by rw[Xh.mp hp];show⟨hk,by change sign.length<=_;show"La1La+b1" hs⟩⟩
 .show⟨by show Yu (longer (st.fst.getLast?.getD []) st.snd key sign) st.fst.dropLast,by have:=H.len;simp only[Xg,ZF,Xs,XU];show"La+b1L+-a1+0.1++b1.1" this,λr hr=>?_,nofun,λ_=>by simpa using l2⟩;rcases Xl.mp hr with hr|hr
  .show up r (AaK _ hr)
  .rw[Xh.mp hr];show⟨l1,l3⟩
theorem ny.steps{m:Nat}{key:Tx}{w a:Int}(hm:1<=m)(hk:key.length<=10):∀(sg:List Tx) {n:Nat} {st:List bM×Bool},(∀s∈sg,s.length<=1)->ny m n st->ny m (n+sg.length) (sg.foldl (eD w h a key) st):=by
 intro sg;induction sg with
 |nil=>showλ_ h=>h
 |cons s sg ih=>
  intro n st hs H
  have:=ih (λx hx=>hs x (.tail _ hx)) (H.step (w:=w) (h:=h) (a:=a) hm hk (hs s (.head _)));rw[Aas,Xs,Adk sg.length 1,<-Abf];show this
theorem A5{key:Tx}{w a:Int}{st:List bM×Bool}{s:Tx}:(eD w h a key st s).2=ac:=by rcases wu (w:=w) (h:=h) (a:=a) (key:=key) (st:=st) (s:=s)with e|e<;>rw[e]
theorem signs_one{v:Tx}:∀s∈signsOf v,s.length<=1:=by
 intro s hs;rcases Xi.mp hs with rfl|hs
 .rw[XJ];show Nat.min_le_left _ _
 .obtain⟨c,_,rfl⟩:=Xr.mp hs;show Xd _
theorem FX{key:Tx}{w a:Int}:∀(sg:List Tx) (st:List bM×Bool),sg≠[]->(sg.foldl (eD w h a key) st).2=ac:=by
 intro sg;induction sg with
 |nil=>showλ_ h=>absurd rfl h
 |cons s sg ih=>
  intro st _;rw[Aas];cases sg with|nil=>show A5|cons s' sg=>show ih _ (Yj _ _)
theorem ny.start{m:Nat}{rows:List bM}(H:ny m n (rows,ac)\/(rows=[[]]/\m=0)):ny (m+1) n (rows,a9):=by
 rcases H with H|⟨rfl,rfl⟩
 .show⟨H.ne,H.len,λr hr=>⟨AaD (H.row r hr).1,(H.row r hr).2⟩,λ_ r hr=>ZN (H.row r hr).1,nofun⟩
 .show⟨by show Ne.symm List.ne_cons_self,by show XQ _,λr hr=>?_,λ_ r hr=>?_,nofun⟩
  .rw[Xh.mp hr];show⟨Xn _,λ_ m=>nomatch m⟩
  .rw[Xh.mp hr];show Xd _
theorem ny.kv{m:Nat}{rows:List bM}{p:Tx×Tx}{w a:Int}(H:ny m n (rows,ac)\/(rows=[[]]/\m=0))(hk:p.1.length<=10)(hv:p.2.length<=5):ny (m+1) (n+6) (ir w h a rows p,ac):=by
 have h0:=ny.start H;have h1:=ny.steps (w:=w) (h:=h) (a:=a) (XQ m) hk (signsOf p.2) signs_one h0;have hl:(signsOf p.2).length<=6:=by unfold signsOf;simp only[Xs,Xm,XW];show"La5L+-a1.1.6" hv
 have e:=FX (w:=w) (h:=h) (a:=a) (key:=p.1) (signsOf p.2) (rows,a9) (by unfold signsOf;show Yj (AbA 1 p.snd) (List.map (λc=>[c]) (Aae 1 p.snd)));unfold ir;show⟨h1.ne,Xf h1.len (by show"La6L++ba1++b6.1" hl),λr hr=>⟨(h1.row r hr).1,λq hq=>⟨((h1.row r hr).2 q hq).1,Xf ((h1.row r hr).2 q hq).2 (by show"La6L+ba+b6" hl)⟩⟩,nofun,λ_=>h1.nf e⟩
noncomputable def parts(k:Tx)(r1:Int):Int->Tx->Tx->List Tx
 |_,p,[]=>[p]
 |R,p,c::u=>if((bi k (p++[c])).length:Int) > R then p::parts k r1 r1 [c] u else parts k r1 R (p++[c]) u
theorem parts_nil{k p:Tx}{R:Int}:parts k r1 R p []=[p]:=rfl
theorem mf{k p u:Tx}{R:Int}{c:Nat}:parts k r1 R p (c::u)=if((bi k (p++[c])).length:Int) > R then p::parts k r1 r1 [c] u else parts k r1 R (p++[c]) u:=rfl
theorem re{k p q:Tx}(hp:p≠[]):(bi k p).length<=(bi k (p++q)).length:=by
 revert k p q;delta k p q;intro hp;have e:∀t,(bi k t).length=k.length+(if fb t then 1+t.length else 3+(aG t).length):=λt=>by unfold bi bR;dsimp only;cases fb t<;>simp<;>omega
 have h1:∀t:Tx,t.length<=(aG t).length:=by
  intro t;induction t with
  |nil=>show Xd _
  |cons c t ih=>
   have:aG (c::t)=aG [c]++aG t:=by unfold aG;simp
   rw[this,Xg,Xs,pV];split<;>simp<;>omega
 have h2:(aG (p++q)).length=(aG p).length+(aG q).length:=by unfold aG;simp
 rw[e,e];have h3:fb (p++q)=a9->fb p=a9:=λh=>by
  unfold fb at h ⊢;rw[YP,List.all_append,YP]at h;rw[YP];show⟨?_,h.2.1⟩;cases p with|nil=>show absurd rfl hp|cons a p=>rfl
 have h4:=h1 p;have h5:=h1 (p++q);rw[Xg]at h5 ⊢;by_cases hb:fb (p++q)=a9
 .rw[aQ hb,aQ (h3 hb)];show"L+a+1b+a+1+bc"
 .rw[aI hb];split<;>omega
theorem C1{k:Tx}{r1:Int}:∀(u:Tx) (n:Nat) (R:Int) (p:Tx),n<=u.length->(∀i,1<=i->i<=n->((bi k (p++u.take i)).length:Int)<=R)->(n<u.length->((bi k (p++u.take (n+1))).length:Int) > R)->
  parts k r1 R p u=(p++u.take n)::(if u.drop n=[]then[]else parts k r1 r1 ((u.drop n).take 1) ((u.drop n).drop 1)):=by
 intro u;induction u with
 |nil=>intro n R p hn h1 h2;rw[parts_nil];simp
 |cons c u ih=>
  intro n R p hn h1 h2;rw[mf];cases n with|zero=>have:=h2 (XQ _);rw[aQ (by assumption)];simp|succ n=>have:=h1 1 (Xd _) (ZN (Xn _));rw[aI (by simp at this;show"G$apNHp$a" this),ih n R (p++[c]) (Nat.le_of_succ_le_succ hn) (λi a b=>by have:=h1 (i+1) (ZN (Xn _)) (ZN b);simpa using this) (λz=>by have:=h2 (Nat.succ_lt_succ z);simpa using this)];simp
theorem wv{k t:Tx}:∀(n j:Nat),cq k t r n<j->j<=n->1<j->((bi k (t.take j)).length:Int) > r:=by
 intro n;induction n with
 |zero=>intro j a b;omega
 |succ n ih=>
  intro j a b c;unfold cq at a;split at a
  .rename_i h;rcases Nat.lt_or_ge n j with z|z
   .obtain rfl:j=n+1:=by show"La+b1TbaEa+b1" b z
    show h.2
   .show ih j a z c
  .show"La+b1T+b1aHp$c" b a
theorem t7{k t:Tx}:∀(n:Nat),cq k t r n<=1\/((bi k (t.take (cq k t r n))).length:Int)<=r:=by
 intro n;induction n with
 |zero=>show .inl (Xn _)
 |succ n ih=>
  unfold cq;split
  .show ih
  .rename_i h;by_cases z:n+1 > 1
   .show .inr (by have:=λy=>h ⟨z,y⟩;show"NAT1+a1Hp$bT1+a1G$bp" h z)
   .show .inl (by show"NT1+a1L+a1.1" z)
theorem oz{k t:Tx}{R:Int}(ht:t≠[])(h1:cq k t R t.length=1\/True):parts k r1 R (t.take 1) (t.drop 1)=t.take (cq k t R t.length)::(if t.drop (cq k t R t.length)=[]then[]else parts k r1 r1 ((t.drop (cq k t R t.length)).take 1) ((t.drop (cq k t R t.length)).drop 1)):=by
 obtain⟨c,u,rfl⟩:=List.exists_cons_of_ne_nil ht;have fO:0<cq k (c::u) R (c::u).length:=n9 (XQ _);have hle:=Ih k (c::u) R (c::u).length;have M8:=wv (k:=k) (t:=c::u) (r:=R) (c::u).length;have vJ:=t7 (k:=k) (t:=c::u) (r:=R) (c::u).length;generalize cq k (c::u) R (c::u).length=n at *
 obtain⟨n,rfl⟩:∃m,n=m+1:=⟨n-1,by show"T0aEa+-a1.1" fO⟩
 have e:=C1 (k:=k) (r1:=r1) u n R [c] (by show Aa8 hle) (λi a b=>?_) (λz=>?_)
 .assumption
 .rcases vJ with h|h
  .show"L1aLabL+b1.1G$cp" a b h
  .have m:=re (k:=k) (p:=[c]++u.take i) (q:=(u.take n).drop i) (by simp);have e2:[c]++u.take i++(u.take n).drop i=(c::u).take (n+1):=by rw[Xq,show u.take i=(u.take n).take i by rw[List.take_take,Zn b],Y7];rfl
   rw[e2]at m;show"G$apLbaG$bp" h m
 .have:=M8 (n+2) (by show"T+a1+a2") (by rw[Xs];show"TabL+a2+b1" z) (by show"T1+a2");assumption
theorem t8{k:Tx}:∀(n:Nat) (td:List (Option Tx)) (t:Tx),td≠[]->(td≠[a8]\/n≠0/\False)->t.length<=n->(BP k r1 n (td,t)).1=td++(if t=[]then[]else(parts k r1 r1 (t.take 1) (t.drop 1)).map λp=>a7 (bi k p)):=by
 intro n;induction n with
 |zero=>intro td t h1 h2 h3;obtain rfl:t=[]:=Zg.mp (Nat.le_zero.mp h3);simp[BP]
 |succ n ih=>
  intro td t h1 h2 h3;have h2:td≠[a8]:=h2.resolve_right λz=>z.2;by_cases ht:t=[]
  .clear h3;subst ht;rw[n8 (by unfold gF;simp[h1,h2])];simp
  .rw[un (by unfold gF;simp[ht])];have e1:cB k r1 (td,t)=(td++[a7 (bi k (t.take (cq k t r1 t.length)))],t.drop (cq k t r1 t.length)):=by unfold cB;rw[aI λz=>h1 z.1]
   have fO:0<cq k t r1 t.length:=n9 (Ye.mpr ht);rw[e1,ih _ _ (by show Yu (a7 (bi k (AbA (cq k t r1 (ZL t)) t))) td) (.inl (by clear e1 h1 h2;cases td<;>simp)) (by rw[XW];have:=Ye.mpr ht;show"La+b1T0cL-acb" h3 fO),aI ht,oz ht (.inr trivial)];split<;>show CA
theorem C2{k t:Tx}{r0 r1:Int}(ht:t.length<=99):dJ k r0 r1 t=if((bi k (t.take 1)).length:Int) > r0 then a8::(parts k r1 r1 (t.take 1) (t.drop 1)).map (λp=>a7 (bi k p))else(parts k r1 r0 (t.take 1) (t.drop 1)).map λp=>a7 (bi k p):=by
 revert k t r0 r1;delta k t r0 r1;intro ht;by_cases he:t=[]
 .clear ht;subst he;have e0:cB k r0 ([],[])=if((bi k []).length:Int) > r0 then([a8],[])else([a7 (bi k [])],[]):=by unfold cB;simp[cq]
  unfold dJ;rw[e0];simp only[List.take_nil,List.drop_nil];split
  .rw[un (n:=100) (by rfl)];have e1:cB k r1 ([a8],[])=([a8,a7 (bi k [])],[]):=by unfold cB;rfl
   rw[e1,n8 (by rfl)];rfl
  .rw[n8 (by rfl)];show List.toList_toArray
 .have fO:0<t.length:=Ye.mpr he;have M8:=wv (k:=k) (t:=t) (r:=r0) t.length;have vJ:=t7 (k:=k) (t:=t) (r:=r0) t.length;have Sk:0<cq k t r0 t.length:=n9 fO;have hm:∀i,1<=i->(bi k (t.take 1)).length<=(bi k (t.take i)).length:=λi hi=>by have m:=re (k:=k) (p:=t.take 1) (q:=(t.take i).drop 1) (by clear vJ M8 Sk fO ht;cases t<;>simp_all);have e2:=Y7 1 (t.take i);rw[show(t.take i).take 1=t.take 1 by rw[List.take_take,Zn hi]]at e2;rw[e2]at m;show m
  unfold dJ;by_cases hr:((bi k (t.take 1)).length:Int) > r0
  .rw[aQ hr];have e1:cB k r0 ([],t)=([a8],t):=by
    have hx:((bi k (t.take (cq k t r0 t.length))).length:Int) > r0:=by have:=hm _ Sk;show"Hp$aLabHp$b" hr this
    unfold cB;rw[aQ ⟨rfl,hx⟩];rfl
   rw[e1,un (n:=100) (by rfl)];have e2:cB k r1 ([a8],t)=([a8,a7 (bi k (t.take (cq k t r1 t.length)))],t.drop (cq k t r1 t.length)):=by unfold cB;rw[aI λz=>nomatch z.1];rfl
   rw[e2,t8 _ _ _ (by show Yj a8 [a7 (bi k (AbA (cq k t r1 (ZL t)) t))]) (.inl (by show not_eq_of_beq_eq_false rfl)) (by rw[XW];show"La99L-ab100" ht),oz (k:=k) (r1:=r1) (R:=r1) he (.inr trivial)];split<;>simp
  .rw[aI hr];have e1:cB k r0 ([],t)=([a7 (bi k (t.take (cq k t r0 t.length)))],t.drop (cq k t r0 t.length)):=by
    have hx:¬((bi k (t.take (cq k t r0 t.length))).length:Int) > r0:=λz=>by
     rcases vJ with h|h
     .have e:cq k t r0 t.length=1:=by show"T0aLa1Ea1" Sk h
      rw[e]at z;show hr z
     .show"Hp$aG$ap0" z h
    unfold cB;rw[aI λz=>hx z.2];rfl
   rw[e1,t8 _ _ _ (by show Yj (a7 (bi k (AbA (cq k t r0 (ZL t)) t))) []) (.inl (by show not_eq_of_beq_eq_false rfl)) (by rw[XW];show"La99L-ab101" ht),oz (k:=k) (r1:=r1) (R:=r0) he (.inr trivial)];split<;>simp
def MB(c:Nat):Prop:=c∈([97,126,32,34,59,92,61,44]:List Nat)
def lD(t:Tx):Prop:=∀c∈t,MB c
def yO(k:Tx):Prop:=k=[107]\/k=[108]\/k=[109]
theorem lD.app{a b:Tx}(ha:lD a)(hb:lD b):lD (a++b):=λc hc=>(Xl.mp hc).elim (ha c) (hb c)
theorem nj{t:Tx}(h:lD t):fb t=a9↔t≠[]/\t.all ([97,126]:List Nat).contains=a9:=by
 have e:t.all Rx.dW=t.all ([97,126]:List Nat).contains:=by
  induction t with
  |nil=>rfl
  |cons c t ih=>
   have h1:Rx.dW c=([97,126]:List Nat).contains c:=by have:=h c (.head _);unfold MB at this;simp only[Xi,Xy,or_false]at this;clear h;rcases this with rfl|rfl|rfl|rfl|rfl|rfl|rfl|rfl<;>rfl
   rw[Ab4,Ab4,h1,ih λx hx=>h x (.tail _ hx)]
 unfold fb;rw[e,YP];clear e h;cases t<;>simp
theorem ur{k t:Tx}(h:lD t):bH k t=bi k t:=by
 unfold bH bi bR;dsimp only;by_cases hb:fb t=a9
 .rw[aQ ((nj h).mp hb),aQ hb]
 .rw[aI λz=>hb ((nj h).mpr z),aI hb];simp
theorem ww{k:Tx}:∀(u:Tx) (R:Int) (p:Tx),lD p->lD u->∀q∈parts k r1 R p u,lD q:=by
 intro u;induction u with
 |nil=>intro R p hp _ q hq;rw[Xh.mp hq];show hp
 |cons c u ih=>
  intro R p hp hu q hq;have h1:lD [c]:=λx hx=>by rw[Xh.mp hx];show hu c (.head _)
  have h2:lD u:=λx hx=>hu x (.tail _ hx);rw[mf]at hq;split at hq
  .rcases Xi.mp hq with rfl|hq
   .show hp
   .show ih _ _ h1 h2 q hq
  .show ih _ _ (hp.app h1) h2 q hq
noncomputable def cR(row:bM):List Tx:=row.map λp=>bH p.1 p.2
noncomputable def jg(row:bM):Nat:=if row=[]then 0 else(glue [32] (cR row)).length+1
theorem ph:∀(ts:List Tx) (x:Tx),glue [32] (ts++[x])=(if ts=[]then[]else glue [32] ts++[32])++x:=by
 intro ts;induction ts with
 |nil=>intro x;rfl
 |cons a ts ih=>
  intro x;rw[aI (Yj _ _)];cases ts with|nil=>rfl|cons b ts=>have:=ih x;rw[aI (Yj _ _)]at this;change a++[32]++glue [32] (b::ts++[x])=a++[32]++glue [32] (b::ts)++[32]++x;rw[this];simp
theorem ri(row:bM)(k p:Tx):iq (row++[(k,p)])=jg row+(bH k p).length:=by
 unfold iq jg cR;rw[Yc,Xu,Aal,ph];cases row with|nil=>show Xg|cons a row=>simp[Abf];show"E+a1+1a"
theorem lq{rs:List (List α)}{r:List α}:(rs++[r]).getLast?.getD []=r:=by rw[AbG];rfl
noncomputable def oA(h a:Int)(rs:List bM):Int:=if rs=[]then h else a
theorem len_one{rs:List bM}{r:bM}{a:Int}:(if(rs++[r]).length=1 then h else a)=oA h a rs:=by
 unfold oA;cases rs with|nil=>rfl|cons b rs=>rw[aI (by simp),aI (Yj _ _)]
theorem rj{w h a:Int}{k:Tx}:∀(u:Tx) (rs:List bM) (row:bM) (p:Tx) (R:Int),R=w-oA h a rs-(jg row:Int)->lD p->lD u->∃p1 pr,parts k (w-a) R p u=p1::pr/\((u.map λc=>[c]).foldl (eD w h a k) (rs++[row++[(k,p)]],ac)).1=rs++[row++[(k,p1)]]++pr.map λq=>[(k,q)]:=by
 revert w h a k;delta w h a k;intro u;induction u with
 |nil=>showλrs row p R _ _ _=>⟨p,[],rfl,by show Cz⟩
 |cons c u ih=>
  intro rs row p R hR hp hu;have h1:lD [c]:=λx hx=>by rw[Xh.mp hx];show hu c (.head _)
  have h2:lD u:=λx hx=>hu x (.tail _ hx);have el:longer (row++[(k,p)]) ac k [c]=row++[(k,p++[c])]:=by unfold longer;rw[aI (by decide)];simp
  have es:eD w h a k (rs++[row++[(k,p)]],ac) [c]=if((bi k (p++[c])).length:Int) > R then(rs++[row++[(k,p)]]++[[(k,[c])]],ac)else(rs++[row++[(k,p++[c])]],ac):=by
   unfold eD;dsimp only;rw[lq,el,len_one,ri,ur (hp.app h1)];by_cases z:((bi k (p++[c])).length:Int) > R
   .rw[aQ z,aQ (by show"Ip--qr$aHp$bHq+$+abr" hR z)]
   .rw[aI z,aI (by show"Ip--qr$aNHp$bNHq+$+abr" hR z),AbI]
  rw[Xu,Aas,es];rw[mf];split
  .obtain⟨p1,pr,e1,e2⟩:=ih (rs++[row++[(k,p)]]) [] [c] (w-a) (by unfold oA jg;rw[aI (by show Yu (row++[(k,p)]) rs),aQ rfl];show"I-pq--pq$0") h1 h2;show⟨p,p1::pr,by rw[e1],?_⟩;rw[YU]at e2;rw[e2];show CA
  .show ih rs row (p++[c]) R hR (hp.app h1) h2
theorem rn{w h a:Int}{k v:Tx}{rs:List bM}{row:bM}{R:Int}(hR:R=w-oA h a rs-(jg row:Int))(hv:lD v) :
  ∃p1 pr,ir w h a (rs++[row]) (k,v)=(if((bi k (v.take 1)).length:Int) > R then rs++[row]++(p1::pr).map (λq=>[(k,q)])else rs++[row++[(k,p1)]]++pr.map λq=>[(k,q)])/\
   parts k (w-a) (if((bi k (v.take 1)).length:Int) > R then w-a else R) (v.take 1) (v.drop 1)=p1::pr:=by
 revert w h a k v rs row R;delta w h a k v rs row R;intro hR hv;have h1:lD (v.take 1):=λx hx=>hv x (YY hx);have h2:lD (v.drop 1):=λx hx=>hv x (Aab hx);have es:eD w h a k (rs++[row],a9) (v.take 1)=if((bi k (v.take 1)).length:Int) > R then(rs++[row]++[[(k,v.take 1)]],ac)else(rs++[row++[(k,v.take 1)]],ac):=by
  have el:longer row a9 k (v.take 1)=row++[(k,v.take 1)]:=by unfold longer;rw[aQ rfl]
  unfold eD;dsimp only;rw[lq,el,len_one,ri,ur h1];by_cases z:((bi k (v.take 1)).length:Int) > R
  .rw[aQ z,aQ (by show"Ip--qr$aHp$bHq+$+abr" hR z)]
  .rw[aI z,aI (by show"Ip--qr$aNHp$bNHq+$+abr" hR z),AbI]
 unfold ir signsOf;rw[Aas,es];split
 .obtain⟨p1,pr,e1,e2⟩:=rj (w:=w) (h:=h) (a:=a) (k:=k) (v.drop 1) (rs++[row]) [] (v.take 1) (w-a) (by unfold oA jg;rw[aI (by show Yu row rs),aQ rfl];show"I-pq--pq$0") h1 h2;show⟨p1,pr,?_,e1⟩;rw[YU]at e2;rw[e2];show CA
 .show(rj (w:=w) (h:=h) (a:=a) (k:=k) (v.drop 1) rs row (v.take 1) R hR h1 h2).imp λp1 x=>x.imp λpr y=>⟨y.2,y.1⟩
noncomputable def rE(aW:Tx)(first:Bool)(row:bM):Ps:=match row with
 |[]=>[]
 |p::r=>((if first then[]else aW),bH p.1 p.2)::([32],[])::r.flatMap λp=>[([],bH p.1 p.2),([32],[])]
noncomputable def cI(h:Int)(aW:Tx)(first:Bool)(row:bM):List Tx:=if row≠[]then[(if first then[]else aW)++glue [32] (cR row)]else if h > 0 then[[]]else[]
noncomputable def bL(h:Int)(aW:Tx):Bool->List bM->List Tx
 |_,[]=>[]
 |first,r::rs=>cI h aW first r++bL h aW ac rs
theorem gH:∀(rs:List bM) (first:Bool) (r:bM),bL h aW first (rs++[r])=bL h aW first rs++cI h aW (first && rs.isEmpty) r:=by
 intro rs;induction rs with|nil=>intro f r;simp[bL]|cons a rs ih=>intro f r;change cI h aW f a++bL h aW ac (rs++[r])=cI h aW f a++bL h aW ac rs++_;rw[ih];simp
theorem ro{k:Tx}:∀(ps:List Tx),bL h aW ac (ps.map λq=>[(k,q)])=(ps.map (bH k)).map (aW++·):=by
 intro ps;induction ps with|nil=>rfl|cons a ps ih=>rw[Xu];change cI h aW ac [(k,a)]++bL h aW ac (ps.map λq=>[(k,q)])=_;rw[ih];rfl
theorem rp:∀(rs:List bM) (first:Bool) (rt:List bM),rs≠[]->bL h aW first (rs++rt)=bL h aW first rs++bL h aW ac rt:=by
 intro rs;induction rs with
 |nil=>showλ_ _ h=>absurd rfl h
 |cons a rs ih=>
  intro f rt _;cases rs with|nil=>change cI h aW f a++bL h aW ac rt=cI h aW f a++[]++_;simp|cons b rs=>change cI h aW f a++bL h aW ac (b::rs++rt)=cI h aW f a++bL h aW ac (b::rs)++_;rw[ih ac rt (Yj _ _)];show(Xq _ _ _).symm
theorem kM{first:Bool}{row:bM}{k p:Tx}:rE aW first (row++[(k,p)])=rE aW first row++[((if row=[]/\first=ac then aW else[]),bH k p),([32],[])]:=by
 cases row with|nil=>cases first<;>rfl|cons a row=>simp[rE]
theorem iu(a b:Ps):bz (a++b)=bz a++bz b:=by unfold bz;simp
theorem mh(ps:Ps)(z:Int):bo ps z=z+(bz ps).length:=by
 unfold bo bz;congr 1;induction ps with|nil=>rfl|cons a ps ih=>simp only[Xu,Y4,Abb,Xg,ih];show"I+$+ab$c$++abc"
theorem snoc_ind{P:List α->Prop}(h0:P [])(h1:∀l a,P l->P (l++[a]))(l:List α):P l:=by
 have:∀l:List α,P l.reverse:=λl=>by
  induction l with|nil=>show h0|cons a l ih=>rw[List.reverse_cons];show h1 _ _ ih
 have h:=this l.reverse
 rwa[AbE]at h
theorem rq{first:Bool}:∀(row:bM),row≠[]->bz (rE aW first row)=(if first then[]else aW)++glue [32] (cR row)++[32]:=by
 show snoc_ind (λh=>absurd rfl h) λrow x ih _=>?_
 .
  obtain⟨k,p⟩:=x;rw[kM,iu];have e2:cR (row++[(k,p)])=cR row++[bH k p]:=by unfold cR;show Yc
  rw[e2,ph];by_cases h:row=[]
  .clear e2;subst h;clear ih;cases first<;>rfl
  .have z1:(if row=[]/\first=ac then aW else([]:Tx))=[]:=aI λz=>h z.1;have z2:(if cR row=[]then([]:Tx)else glue [32] (cR row)++[32])=glue [32] (cR row)++[32]:=aI (by unfold cR;simp[h]);rw[ih h,z1,z2];simp[bz]
theorem yP{aW:Tx}{rs:List bM}{row:bM}{h:Int}(d4:rs≠[]->row≠[]):bo (rE aW rs.isEmpty row) (if rs.isEmpty then h else 0)=oA h aW.length rs+jg row:=by
 revert aW rs row h;delta aW rs row h;intro d4;rw[mh];unfold oA jg;by_cases hr:row=[]
 .subst hr;have:rs=[]:=ZE λz=>d4 z rfl;clear d4;subst this;rfl
 .rw[rq row hr,aI hr];cases rs with|nil=>simp;try omega|cons a rs=>simp;try omega
theorem yQ(ps:Ps):be (ps++[([32],[])])=ps:=by unfold be popped;rw[AbG];simp
theorem wx(ps:Ps){x:Tx×Tx}(h:x≠([32],[])):be (ps++[x])=ps++[x]:=by
 have e:popped (ps++[x])=x:=by unfold popped;rw[AbG];rfl
 unfold be;rw[e,aI h,AbI]
theorem Ir{z:Int}(hz:0<=z){c:Nat}(hc:c∈bz (be ps))(hs:XD c=ac):br lines ps z=lines++[bz (be ps)]:=by
 unfold br;have hl:bo (be ps) z > 0:=by
  rw[mh]
  have:=List.length_pos_of_mem hc;show"G0pT0aH0+p$a" hz this
 rw[aQ hl];have ho:jK (be ps) z=ac:=by
  unfold jK;have h1:(bo (be ps) z==0)=ac:=beq_eq_false_iff_ne.mpr (by show"H0pJp0" hl);have h2:ul (bz (be ps))=ac:=by
   unfold ul;have:(bz (be ps)).all XD=ac:=by rw[<-Bool.not_eq_true];intro h;rw[X8]at h;rw[h c hc]at hs;cases hs
   rw[this,AcR]
  rw[h1,h2,Bool.or_false,AcR]
 rw[ho];rfl
theorem FY{k p:Tx}:∃r,bH k p=k++61::r:=by
 unfold bH;split
 .show⟨p,by show CA⟩
 .show⟨34::aG p++[34],by simp⟩
theorem yR(hh:0<=h){k p:Tx}{rs:List bM}{row:bM}(b:Bool):br lines (rE aW rs.isEmpty row++((if row=[]/\rs.isEmpty=ac then aW else[]),bH k p)::(if b then[([32],[])]else[])) (if rs.isEmpty then h else 0)=lines++cI h aW rs.isEmpty (row++[(k,p)]):=by
 obtain⟨r,er⟩:=FY (k:=k) (p:=p);have d4:(((if row=[]/\rs.isEmpty=ac then aW else[]),bH k p):Tx×Tx)≠([32],[]):=λz=>by have:=congrArg Ac3 z;rw[er]at this;simp at this
 generalize hx:(((if row=[]/\rs.isEmpty=ac then aW else[]),bH k p):Tx×Tx)=x at *
 have e1:be (rE aW rs.isEmpty row++x::(if b then[([32],[])]else[]))=rE aW rs.isEmpty row++[x]:=by
  cases b with|true=>rw[aQ rfl,show rE aW rs.isEmpty row++[x,([32],[])]=(rE aW rs.isEmpty row++[x])++[([32],[])]by show Cz,yQ]|false=>show wx _ d4
 have e2:bz (rE aW rs.isEmpty row++[x])=(if rs.isEmpty then[]else aW)++glue [32] (cR (row++[(k,p)])):=by
  have e3:rE aW rs.isEmpty (row++[(k,p)])=(rE aW rs.isEmpty row++[x])++[([32],[])]:=by rw[kM,hx];show Cz
  have e4:=rq (aW:=aW) (first:=rs.isEmpty) (row++[(k,p)]) (by show Yu (k,p) row);rw[e3,iu]at e4;show List.append_cancel_right e4
 rw[Ir (z:=if rs.isEmpty then h else 0) (c:=61) (by split<;>omega) (by rw[e1,iu,<-hx];simp[bz,er]) (by rfl),e1,e2];unfold cI;rw[aQ (show row++[(k,p)]≠[]by show Yu (k,p) row)]
theorem Iu:br lines [] h=lines++cI h aW a9 []:=by
 have e1:be []=[([],[])]:=by unfold be popped;rfl
 have e2:bo [([],[])] h=h:=by rw[mh];simp[bz]
 have e3:cI h aW a9 []=if h > 0 then[[]]else[]:=by unfold cI;rw[aI (by show not_not_intro rfl)]
 unfold br;rw[e1,e2,e3];split
 .have ho:jK [([],[])] h=ac:=by unfold jK;rw[show(h==0)=ac from beq_eq_false_iff_ne.mpr (by show"H0pJp0" ‹_›)];rfl
  rw[ho];rfl
 .show Eq.symm (Xv lines)
structure Iv(h:Int)(aW:Tx)(rows:List bM)(st:List Tx×Ps×Int):Prop where
 ex:∃rs row,rows=rs++[row]/\(rs≠[]->row≠[])/\st=(bL h aW a9 rs,rE aW rs.isEmpty row,if rs.isEmpty then h else 0)
theorem some_inj{a b:List α}(h:a.map a7=b.map a7):a=b:=by have:=congrArg (λl=>l.filterMap _root_.id) h;simpa[Ab3]using this
theorem C3{w h:Int}{aW k v:Tx}{rows:List bM}{lines:List Tx}{ps:Ps}{z:Int}(F:Iv h aW rows (lines,ps,z))(hh:0<=h)(hv:lD v)(Ig:v.length<=99){r:Option Tx}{ws:List Tx}(hr:dJ k (w-bo ps z) (w-aW.length) v=r::ws.map a7) :
  Iv h aW (ir w h aW.length rows (k,v)) ((jD aW lines ps z r ws).1,(jD aW lines ps z r ws).2.1++[([32],[])],(jD aW lines ps z r ws).2.2):=by
 revert w h aW k v rows lines ps z r ws;delta w h aW k v rows lines ps z;intro F hh hv Ig;delta r ws;intro hr;obtain⟨rs,row,rfl,d4,e⟩:=F.ex;injections rs row;injection e with e1 e
 injection e with e2 e3
 subst e1 e2 e3;rw[C2 Ig,yP d4]at hr;obtain⟨p1,pr,f1,f2⟩:=rn (w:=w) (h:=h) (a:=aW.length) (k:=k) (v:=v) (rs:=rs) (row:=row) rfl hv;injections p1 pr;have e4:w-oA h aW.length rs-(jg row:Int)=w-(oA h aW.length rs+jg row):=by show"I--pq$a-p+q$a"
 rw[e4]at f1 f2;have Sl:∀q∈p1::pr,bi k q=bH k q:=λq hq=>(ur (ww _ _ _ (λx hx=>hv x (YY hx)) (λx hx=>hv x (Aab hx)) q (f2▸hq))).symm;have Pf:∀l:List Tx,(∀q∈l,bi k q=bH k q)->l.map (λp=>a7 (bi k p))=(l.map (bH k)).map a7:=λl hl=>by injections l;rw[Zu];show ZK λq hq=>by rw[hl q hq];rfl
 by_cases hT:((bi k (v.take 1)).length:Int) > w-(oA h aW.length rs+jg row)
 .rw[aQ hT]at f1 f2 hr;rw[f2,Pf _ Sl]at hr;injection hr with BW Pg
  have wl:(p1::pr).map (bH k)=ws:=some_inj Pg;clear Pg;subst BW wl;rw[f1];have uj:(p1::pr).map (bH k)≠[]:=by simp
  have KO:br (bL h aW a9 rs) (rE aW rs.isEmpty row) (if rs.isEmpty then h else 0)=bL h aW a9 (rs++[row]):=by
   rw[gH,Ac6];by_cases PX:row=[]
   .have:rs=[]:=ZE λz=>d4 z PX;clear F e4 f1 hT d4;subst this PX;show Iu
   .obtain⟨r0,x,rfl⟩:∃r0 x,row=r0++[x]:=⟨_,_,(Yh PX).symm⟩
    clear F e4 f1 hT d4 PX;obtain⟨k0,p0⟩:=x;rw[kM];show yR hh a9
  obtain⟨qs,ql,hq⟩:∃qs ql,p1::pr=qs++[ql]:=⟨_,_,(Yh (Yj p1 pr)).symm⟩
  unfold jD uo;rw[aI uj];show⟨⟨rs++[row]++qs.map λq=>[(k,q)],[(k,ql)],by rw[hq];simp,λ_=>by show Yj (k,ql) [],?_⟩⟩;rw[hq];show Acn ?_ (Acn ?_ ?_)
  .change br _ _ _++_=bL h aW a9 (rs++[row]++qs.map λq=>[(k,q)]);rw[KO,rp (rs++[row]) a9 _ (by show Yu row rs),ro];simp
  .change[(aW,_)]++[([32],[])]=_;rw[show((rs++[row]++qs.map λq=>[(k,q)]).isEmpty)=ac by simp];simp[rE]
  .change(0:Int)=_;rw[show((rs++[row]++qs.map λq=>[(k,q)]).isEmpty)=ac by simp];rfl
 .rw[aI hT]at f1 f2 hr;rw[f2,Pf _ Sl]at hr;injection hr with BW Pg
  have wl:pr.map (bH k)=ws:=some_inj Pg;subst BW wl;rw[f1];unfold jD uo;have U7:(if row=[]/\rs.isEmpty=ac then aW else([]:Tx))=[]:=aI λz=>by show d4 (λy=>?_) z.1;rw[y]at z;cases z.2
  by_cases hp:pr=[]
  .clear f1 f2 Pg Sl;subst hp;rw[Aal,aQ rfl];show⟨⟨rs,row++[(k,p1)],by show CA,λ_=>by show Yu (k,p1) row,?_⟩⟩;rw[kM,U7];simp
  .rw[aI (by simp[hp])];have KO:br (bL h aW a9 rs) (rE aW rs.isEmpty row++[([],bH k p1)]) (if rs.isEmpty then h else 0)=bL h aW a9 (rs++[row++[(k,p1)]]):=by
    rw[gH,Ac6]
    have:=yR (h:=h) hh (aW:=aW) (k:=k) (p:=p1) (lines:=bL h aW a9 rs) (rs:=rs) (row:=row) ac;rw[U7]at this;show this
   obtain⟨qs,ql,hq⟩:∃qs ql,pr=qs++[ql]:=⟨_,_,(Yh hp).symm⟩
   show⟨⟨rs++[row++[(k,p1)]]++qs.map λq=>[(k,q)],[(k,ql)],by rw[hq];simp,λ_=>by show Yj (k,ql) [],?_⟩⟩;rw[hq];show Acn ?_ (Acn ?_ ?_)
   .change br _ _ _++_=bL h aW a9 (rs++[row++[(k,p1)]]++qs.map λq=>[(k,q)]);rw[KO,rp (rs++[row++[(k,p1)]]) a9 _ (by show Yu (row++[(k,p1)]) rs),ro];simp
   .change[(aW,_)]++[([32],[])]=_;rw[show((rs++[row++[(k,p1)]]++qs.map λq=>[(k,q)]).isEmpty)=ac by simp];simp[rE]
   .change(0:Int)=_;rw[show((rs++[row++[(k,p1)]]++qs.map λq=>[(k,q)]).isEmpty)=ac by simp];rfl
section
open Rx (isBlank cnt bI dO dD isVal cJ)
variable {aX:Nat->Bool}{aV sp:Tx}{m k:Nat}
theorem FZ{p:Nat->Bool}{a:Tx}(ha:∀c∈a,p c=a9){b:Tx}(hb:∀c,b.head?=a7 c->p c=ac):(a++b).takeWhile p=a/\(a++b).dropWhile p=b:=by
 induction a with
 |nil=>
  cases b with|nil=>show⟨rfl,rfl⟩|cons c b=>have:=hb c rfl;simp[Y2,Aai,this]
 |cons x a ih=>have h1:=ha x (.head _);have⟨h2,h3⟩:=ih λc hc=>ha c (.tail _ hc);simp[Y2,Aai,h1,h2,h3]
theorem jE{a b:Tx}(ha:∀c∈a,aX c=a9)(hb:∀c,b.head?=a7 c->aX c=ac):cnt aX (a++b) 0=a.length:=by unfold Rx.cnt;rw[Zi,(FZ ha hb).1]
theorem t9(a b:Tx)(n:Nat):cnt aX (a++b) (a.length+n)=cnt aX b n:=by unfold Rx.cnt;rw[<-ZR,Aa1]
theorem fE(a b:Tx):cnt aX (a++b) a.length=cnt aX b 0:=t9 a b 0
theorem kN(c:Nat)(r:Tx):aG (c::r)=(if dD c then[c]else[92,c])++aG r:=rfl
theorem M9:∀(u pre aV:Tx),∃n,Rx.QB (pre++(aG u++34::aV)) n (pre.length+cnt dD (pre++(aG u++34::aV)) pre.length) (pre.length+(aG u).length):=by
 intro u;induction u with
 |nil=>intro pre aV;show⟨0,?_⟩;rw[fE,Rx.qj (λc hc=>by injection hc with hc;subst hc;rfl)];show .stop (by rw[Adi,Yo (Xd _),ZZ];rfl)
 |cons c u ih=>
  intro pre aV;cases hq:dD c with
  |true=>
   obtain⟨n,h⟩:=ih (pre++[c]) aV;show⟨n,?_⟩;have e:aG (c::u)=c::aG u:=by rw[kN,hq];rfl
   have e2:pre++[c]++(aG u++34::aV)=pre++(c::aG u++34::aV):=by show CA
   rw[e2]at h;rw[e];have e3:cnt dD (pre++(c::aG u++34::aV)) pre.length=1+cnt dD (pre++(c::aG u++34::aV)) (pre++[c]).length:=by rw[Xg,t9,fE];change((c::(aG u++34::aV)).takeWhile dD).length=1+((aG u++34::aV).takeWhile dD).length;rw[Y2,hq];show Adk _ _
   rw[e3,show pre.length+(1+cnt dD (pre++(c::aG u++34::aV)) (pre++[c]).length)=(pre++[c]).length+cnt dD (pre++(c::aG u++34::aV)) (pre++[c]).length by simp[Abf],show pre.length+(c::aG u).length=(pre++[c]).length+(aG u).length by simp;show"E+a+b1++a1b"];show h
  |false=>
   obtain⟨n,h⟩:=ih (pre++[92,c]) aV;show⟨n+1,?_⟩;have e:aG (c::u)=92::c::aG u:=by rw[kN,hq];rfl
   have e2:pre++[92,c]++(aG u++34::aV)=pre++(92::c::aG u++34::aV):=by show Xq _ _ _
   rw[e2]at h;rw[e,fE,Rx.qj (λx hx=>by injection hx with hx;subst hx;rfl),Adi,show pre.length+(92::c::aG u).length=(pre++[92,c]).length+(aG u).length by simp;show"E+a++b1.1++a2b"];show .step (ch:=c) ?_ ?_ ?_ ?_
   .rw[Yo (Xd _),ZZ];rfl
   .rw[Yo (by show Yb _),ZJ];rfl
   .clear e e2 h;rintro rfl;show XA hq
   .rw[show(pre++[92,c]).length=pre.length+2 by show Xg]at h ⊢;show h
theorem C4:∀u:Tx,j9 (aG u)=u:=by
 intro u;induction u with
 |nil=>rfl
 |cons c u ih=>
  cases hq:dD c with
  |true=>
   have e:aG (c::u)=c::aG u:=by rw[kN,hq];rfl
   rw[e,kF,ih];unfold kC;have:((c::aG u)[0]?==a7 92)=ac:=by change(a7 c==a7 92)=ac;rw[beq_eq_false_iff_ne];intro h;clear e;injection h with h;subst h;show XA hq
   rw[this];rfl
  |false=>
   have e:aG (c::u)=92::c::aG u:=by rw[kN,hq];rfl
   rw[e,sG,ih];clear e;rintro rfl;show XA hq
theorem G1{v:Tx}(h:∀c∈v,XD c=ac):iG XD v=v:=by
 unfold iG
 have:=(FZ (p:=XD) (a:=[]) (λ_ h=>by cases h) (b:=v.reverse) (λc hc=>h c (List.mem_reverse.mp (List.mem_of_mem_head? hc)))).2;rw[YU]at this;rw[this,AbE]
def JL(r:Tx):Prop:=∀c,r.head?=a7 c->c=32
noncomputable def yS(u:Tx):Tx:=if fb u then 61::u else 61::34::aG u++[34]
theorem G4{u:Tx}(hu:lD u)(hr:JL aV)(hl:(yS u++aV).length<=1000):yz (yS u++aV) (a7 u) aV:=by
 unfold yS at hl ⊢;by_cases hb:fb u=a9
 .rw[aQ hb]at hl ⊢;obtain⟨d4,MC⟩:=(nj hu).mp hb;have tm:∀c∈u,c=97\/c=126:=λc hc=>by have:=X8.mp MC c hc;simpa using this
  have Lc:∀c∈u,XD c=ac:=λc hc=>by rcases tm c hc with rfl|rfl<;>rfl
  rw[show(61::u)++aV=[61]++(u++aV)by simp]at hl ⊢;have q0:Rx.dP ([61]++(u++aV))=0:=jE (a:=[]) (λ_ h=>by cases h) (λc hc=>by injection hc with hc;subst hc;rfl);have q1:Rx.aZ ([61]++(u++aV))=1:=by
   unfold Rx.aZ;rw[q0];have:cnt bI ([61]++(u++aV)) (0+1)=0:=by
    rw[show 0+1=([61]:Tx).length from rfl,fE];show jE (a:=[]) (λ_ h=>by cases h) λc hc=>?_;cases u with|nil=>show absurd rfl d4|cons a u=>clear hb tm hl d4 q0 MC hu;injection hc with hc;subst hc;show Lc _ (.head _)
   rw[this]
  have q2:cnt isVal ([61]++(u++aV)) 1=u.length:=by rw[show 1=([61]:Tx).length from rfl,fE];show jE (λc hc=>by rcases tm c hc with rfl|rfl<;>rfl) λc hc=>by rw[hr c hc];rfl
  have r:=yz.bare (t:=[61]++(u++aV)) ⟨10000000000,by decide,Rx.s6 hl (.inr (by
   rw[q1];cases u with
   |nil=>show absurd rfl d4
   |cons a u=>
    change a7 a≠a7 34;intro h;injection h with h;clear MC hb hl d4 hu Lc q0 q1 q2;subst h
    rcases tm 34 (.head _)with z|z<;>cases z))⟩ (by rfl)
  rw[q1,q2,ZJ]at r;have e2:(([61]++(u++aV)).drop 1).take u.length=u:=by change(u++aV).take u.length=u;rw[List.take_left]
  have e3:([61]++(u++aV)).drop (1+u.length)=aV:=by rw[<-ZR];change(u++aV).drop u.length=aV;rw[Aa1]
  rw[e2,e3,G1 Lc]at r;show r
 .rw[aI hb]at hl ⊢;have e1:(61::34::aG u++[34])++aV=[61,34]++(aG u++34::aV):=by show CA
  rw[e1]at hl ⊢;have q0:Rx.dP ([61,34]++(aG u++34::aV))=0:=jE (a:=[]) (λ_ h=>by cases h) (λc hc=>by injection hc with hc;subst hc;rfl);have q1:Rx.aZ ([61,34]++(aG u++34::aV))=1:=by
   unfold Rx.aZ;rw[q0];have:cnt bI ([61,34]++(aG u++34::aV)) (0+1)=0:=by change cnt bI ([61]++([34]++(aG u++34::aV))) (0+1)=0;rw[show 0+1=([61]:Tx).length from rfl,fE];show jE (a:=[]) (λ_ h=>by cases h) λc hc=>by injection hc with hc;subst hc;rfl
   rw[this]
  obtain⟨n,hq⟩:=M9 u [61,34] aV;have r:=yz.quoted (t:=[61,34]++(aG u++34::aV)) n (2+(aG u).length) (by rfl) (by rfl) (by assumption);rw[q1,show 2+(aG u).length-(1+1)=(aG u).length by show Adj 2 (aG u).length]at r;have e2:(([61,34]++(aG u++34::aV)).drop (1+1)).take (aG u).length=aG u:=by change(aG u++34::aV).take _=_;show List.take_left
  have e3:([61,34]++(aG u++34::aV)).drop (2+(aG u).length+1)=aV:=by rw[show 2+(aG u).length+1=2+((aG u).length+1)by show Abf _ _ _,<-ZR];change(aG u++34::aV).drop _=aV;rw[<-ZR,Aa1];rfl
  rw[e2,e3,C4]at r;show r
theorem A6{ps:List gi}{rs out:List (List gi)}{u:Tx}(WO:∀c∈sp,bI c=a9)(hk:yO [k])(hu:lD u)(hr:JL aV)(hl:(yS u++aV).length<=1000)(h:PT m aV (ps++[([k],a7 u)]) rs out) :
  PT (m+1) (sp++([k]++(yS u++aV))) ps rs out:=by
 have hk:k=107\/k=108\/k=109:=hk.imp Abg λx=>x.imp Abg Abg;have Jf:bI k=ac:=by clear h;rcases hk with rfl|rfl|rfl<;>rfl
 have WP:dO k=a9:=by clear h Jf;rcases hk with rfl|rfl|rfl<;>rfl
 have th:∀c,(yS u++aV).head?=a7 c->dO c=ac:=λc hc=>by
  have:(yS u).head?=a7 61:=by unfold yS;split<;>rfl
  rw[List.head?_append,this]at hc;injection hc with hc;subst hc;rfl
 have e1:cnt bI (sp++([k]++(yS u++aV))) 0=sp.length:=jE WO λc hc=>by injection hc with hc;subst hc;show Jf
 have e2:cnt dO (sp++([k]++(yS u++aV))) sp.length=1:=by rw[fE];show jE (a:=[k]) (λc hc=>by rw[Xh.mp hc];show WP) th
 have e3:(sp++([k]++(yS u++aV))).drop (sp.length+1)=yS u++aV:=by rw[<-ZR,Aa1];rfl
 have e4:((sp++([k]++(yS u++aV))).drop sp.length).take (sp.length+1-sp.length)=[k]:=by rw[Aa1,ZJ];rfl
 show .word (t2:=aV) (v:=a7 u) (by simp) ?_ ?_ ?_
 .rw[e1,e2];show Xd _
 .rw[e1,e2,e3];show G4 hu hr hl
 .rw[e1,e2,e4];show h
theorem A7{k u:Tx}(hu:lD u):bH k u=k++yS u:=by
 unfold bH yS;by_cases hb:fb u=a9
 .rw[aQ ((nj hu).mp hb),aQ hb];show CA
 .rw[aI λz=>hb ((nj hu).mpr z),aI hb];simp
def wy(row:bM):Prop:=∀p∈row,yO p.1/\lD p.2
noncomputable def gj(row:bM):List gi:=row.map λp=>(p.1,a7 p.2)
theorem pi:∀(a:Tx) (l:List Tx),glue [32] (a::l)=a++l.flatMap λy=>32::y:=by
 intro a l;induction l generalizing a with|nil=>simp[glue]|cons b l ih=>change a++[32]++glue [32] (b::l)=_;rw[ih b];show CA
theorem G6{rs:List (List gi)}:∀(row:bM) (sp:Tx) (ps:List gi) (a:Tx×Tx),wy (a::row)->(∀c∈sp,bI c=a9)->(bH a.1 a.2++(cR row).flatMap λy=>32::y).length<=1000->PT (row.length+1) (sp++(bH a.1 a.2++(cR row).flatMap λy=>32::y)) ps rs (rs++[ps++gj (a::row)]):=by
 intro row;induction row with
 |nil=>
  intro sp ps a h hs hl;obtain⟨h1,h2⟩:=h a (.head _);obtain⟨k,hk⟩:∃k,a.1=[k]:=by rcases h1 with e|e|e<;>show⟨_,e⟩
  rw[A7 h2,hk,Xq]at hl ⊢;show A6 hs (hk▸h1) h2 (λc hc=>nomatch hc) (by rw[Xg]at hl;show Xf (Xx _ _) hl) ?_
  have:=@PT.done 0 (ps++[([k],a7 a.2)]) rs;rw[aI (by simp)]at this;unfold gj;rw[Xu,hk];show this
 |cons b row ih=>
  intro sp ps a h hs hl;obtain⟨h1,h2⟩:=h a (.head _);obtain⟨k,hk⟩:∃k,a.1=[k]:=by rcases h1 with e|e|e<;>show⟨_,e⟩
  have e:(cR (b::row)).flatMap (λy=>32::y)=[32]++(bH b.1 b.2++(cR row).flatMap λy=>32::y):=by change(32::bH b.1 b.2)++_=_;rfl
  rw[e]at hl ⊢;have i:=ih [32] (ps++[([k],a7 a.2)]) b (λp hp=>h p (.tail _ hp)) (λc hc=>by rw[Xh.mp hc];rfl) (by rw[Xg,Xg]at hl;show"L+a+bc1000Lc1000" hl);rw[A7 h2,hk,Xq]at hl ⊢;show A6 hs (hk▸h1) h2 (λc hc=>by injection hc with hc;show hc.symm) (by rw[Xg]at hl;show Xf (Xx _ _) hl) ?_;have e2:ps++[([k],a7 a.2)]++gj (b::row)=ps++gj (a::b::row):=by unfold gj;rw[Xu,Xu,Xu,hk];show CA
  rw[e2]at i;show i
theorem C5(hc:∀c∈aW,bI c=a9):∀(rows:List bM) (first:Bool) (r:List (List gi)),(∀row∈rows,wy row/\row.length<=10)->(∀t∈bL h aW first rows,t.length<=1000)->Gu (bL h aW first rows) r (r++(rows.filter λrow=>row≠[]).map gj):=by
 intro rows;induction rows with
 |nil=>intro f r _ _;simp only[List.filter_nil,Aal,Xv];show .nil
 |cons row rows ih=>
  intro f r h1 h2;have i:=λr'=>ih ac r' (λx hx=>h1 x (.tail _ hx)) λt ht=>h2 t (X6 _ ht);change Gu (cI h aW f row++bL h aW ac rows) _ _;have h3:∀t∈cI h aW f row,t.length<=1000:=λt ht=>h2 t (XN _ ht);cases row with
  |nil=>
   have e:([]::rows).filter (λrow=>decide (row≠[]))=rows.filter λrow=>decide (row≠[]):=by rw[Aau (by show ne_true_of_eq_false rfl)]
   rw[e];unfold cI;rw[aI (by show not_not_intro rfl)];split
   .show .cons (Xn _) (Xn _) (PT.done (m:=0)) (i r)
   .show i r
  |cons a row=>
   have e:((a::row)::rows).filter (λrow=>decide (row≠[]))=(a::row)::rows.filter λrow=>decide (row≠[]):=by rw[Aat (by rfl)]
   rw[e,Xu,show r++gj (a::row)::(rows.filter λrow=>decide (row≠[])).map gj=r++[gj (a::row)]++(rows.filter λrow=>decide (row≠[])).map gj by show Cz];have el:cI h aW f (a::row)=[(if f then[]else aW)++(bH a.1 a.2++(cR row).flatMap λy=>32::y)]:=by unfold cI;rw[aQ (Yj _ _)];unfold cR;rw[Xu,pi]
   rw[el]at h3 ⊢;have h4:=h3 _ (.head _);have h5:=h1 (a::row) (.head _);show .cons h4 ?_ (G6 row _ [] a h5.1 ?_ (by rw[Xg]at h4;show Xf (Xx _ _) h4)) (i _)
   .have:=h5.2;simp only[Xs]at this;show"L+a1.10L+a1.2000" this
   .intro c PD;cases f with|true=>show nomatch PD|false=>show hc c PD
end
noncomputable def fN:List Tx:=[[107],[108],[109]]
theorem G7(ks vs:List Tx):tQ (ks.map S) (vs.map S)=(ks.zip vs).map fc:=by unfold tQ;rw[List.zip_map,Zu];rfl
theorem lr{w a:Int}{dn:List (Tx×Tx)}{p:Tx×Tx}:fillAll w h a (dn++[p])=ir w h a (fillAll w h a dn) p:=by unfold fillAll;rw[Aca];rfl
def Iw(p:Tx×Tx):Prop:=p.1.length<=10/\p.2.length<=5
theorem ny.all{w a:Int}:∀(pe:List (Tx×Tx)),(∀p∈pe,Iw p)->ny pe.length (6*pe.length) (fillAll w h a pe,ac)\/(fillAll w h a pe=[[]]/\pe.length=0):=by
 show snoc_ind (λ_=>.inr ⟨rfl,rfl⟩) λl p ih h=>.inl ?_;have h1:=ih λq hq=>h q (XN _ hq);have h2:=h p (X6 _ (.head _));rw[lr,Xg];rcases h1 with h1|⟨h1,h3⟩
 .show ny.kv (.inl h1) h2.1 h2.2
 .rw[h3];show ny.kv (m:=0) (n:=0) (.inr ⟨h1,rfl⟩) h2.1 h2.2
inductive Ph(pe:List (Tx×Tx))(w h a:Int)(H:List AO)(r:List AV)(P:List AO)(l:Loc):Prop
 |mk:∀dn td,r=td.map fc->pe=dn++td->P=H++[.lst ((fillAll w h a dn).map bZ)]->bh l "rows" (.ref H.length)->bh l "width" (.int w)->bh l "head" (.int h)->bh l "ahead" (.int a)->Ph pe w h a H r P l
inductive Pj(sg:List Tx)(w h a:Int)(key:Tx)(rows:List bM)(H G:List AO)(r:List AV)(P:List AO)(l:Loc):Prop
 |mk:∀dn td,r=td.map S->sg=dn++td->P=H++[.lst ((dn.foldl (eD w h a key) (rows,a9)).1.map bZ)]++G->bh l "rows" (.ref H.length)->bh l "key" (S key)->bh l "fresh" (.bool (dn.foldl (eD w h a key) (rows,a9)).2)->bh l "width" (.int w)->bh l "head" (.int h)->bh l "ahead" (.int a)->Pj sg w h a key rows H G r P l
inductive U8(sg:List Tx)(l0:Loc)(P':List AO)(x:AV)(H':List AO)(l':Loc):Prop
 |mk:x=.fl (sg.map S)->H'=P'->l'=l0->U8 sg l0 P' x H' l'
theorem wz{r:bM}:(bZ r).gX n=a9:=cN λp _=>rfl
section
variable {af:Program}{w:World}{K:Frag}{A:Around}{f:Fp}(kf:KF af K){n:Nat}(hA:cM A (n+12)){H:List AO}{Q:AV->List AO->Prop}
include kf hA in
theorem C6{vals:List Tx}{wd hd ah:Int}(hv:∀v∈vals,v.length<=5)(hl:vals.length=3)(q:Q (.fl ((fillAll wd hd ah (fN.zip vals)).map bZ)) H):bk ⟨af,w,K,A,f⟩ (.ref 270) [.fl (vals.map S),.int wd,.int hd,.int ah] H Q:=by
 revert af w K A f n H Q vals wd hd ah;delta af w K A f;intro kf;delta n;intro hA;delta H Q vals wd hd ah;intro hv hl q;show d0 hA kf.zO (.inl rfl) rfl (by decide) rfl rfl rfl rfl rfl rfl ?_;delta L q' aj A';intro db E ct hb hu;have U9:∀p∈fN.zip vals,Iw p:=λp hp=>by
  obtain⟨p1,p2⟩:=p
  have:=YT hp;show⟨?_,hv _ this.2⟩;have h1:=this.1;unfold fN at h1;simp only[Xi,Xy,or_false]at h1;rcases h1 with e|e|e<;>(rw[show p1=_ from e];show XK rfl)
 have wP:(fN.zip vals).length=3:=by rw[Acx,hl];rfl
 ext;show dX ?_;ext;show cW ?_;ext;show ve tI ke ?_;ext;have Sm:tQ ((⟨#[107,108,109]⟩:Pi).cps.toList.map λc=>.str ⟨#[c]⟩) (vals.map S)=(fN.zip vals).map fc:=G7 fN vals;generalize fN.zip vals=pe at *
 generalize Sn:AO.it ((⟨#[107,108,109]⟩:Pi).cps.toList.map λc=>.str ⟨#[c]⟩)=I1;generalize So:AO.it (vals.map S)=I2;have n1:(H++[AO.lst [.fl []]]).length=H.length+1:=by show GK
 have n2:(H++[AO.lst [.fl []]]++[I1]).length=H.length+2:=by show SE
 have n3:(H++[AO.lst [.fl []]]++[I1]++[I2]).length=H.length+3:=by simp
 rw[n1,n2,n3];have hz:(H++[AO.lst [.fl []]]++[I1]++[I2]++[AO.zip .none (H.length+1) (H.length+2)])[H.length+3]?=a7 (.zip .none (H.length+1) (H.length+2)):=by rw[<-n3];show jM
 show(tJ hz (.inr (.inr (MN _ _ _ rfl)))).ok (bd _ rfl (gD (N:=H.length+1) (ft:=[H.length+3,H.length+1,H.length+2]) (xs:=pe.map fc) db.handled ?_ ?_ uU (Ph pe wd hd ah H) (λr P l hI=>by obtain⟨dn,td,_,_,eP,_⟩:=hI;rw[eP];show GK) ⟨H++[.lst [.fl []]],[I1,I2,AO.zip .none (H.length+1) (H.length+2)],by simp,[],_,rfl,rfl,rfl,by left,by left,by left,by left⟩ ?_ ?_))
 .rw[<-Sm];show .zip hz ?_ ?_ (YL (Yi _))
  .rw[<-Sn,<-n1];show bq (bq (by show jM))
  .rw[<-So,<-n2];show bq (by show jM)
 .intro j hj;simp only[Xi,Xy,or_false]at hj;show"OEa+b3OEa+b1Ea+b2L+b1a" hj
 .rintro x r P G l jO ⟨dn,td,e9,ew,rfl,g1,g2,g3,g4⟩
  cases td with
  |nil=>cases e9
  |cons x td=>
  injection e9 with ex e9
  subst ex e9;obtain⟨key,v⟩:=x;show ic db.handled rfl rfl ?_;show"in";show"in";show jS ?_;have Cj:Iw (key,v):=U9 _ (by rw[ew];show ZC);have Sq:=ny.all (w:=wd) (h:=hd) (a:=ah) dn λp hp=>U9 p (by rw[ew];show XN _ hp);have iY:dn.length<=2:=by rw[ew]at wP;simp at wP;show"E+a+b1.3La2" wP
  change Ok _ aY (execs [_,.For _ _ _ _ _] _) _ _ _;show execs_cons ?_;show"st";show"ex";have Ua:=Cj.2;have pq:(signsOf v).length<=6:=by unfold signsOf;simp only[Xs,Xm,XW];have:v.length<=5:=Ua;show"La5L+-a1.1.6" this
  generalize hR:fillAll wd hd ah dn=rows at *
  show execs_cons (Co (Ok.mono (Q:=U8 (signsOf v) (put "fresh" (.bool a9) (put "value" (S v) (put "key" (S key) l))) (H++[AO.lst (rows.map bZ)]++G)) ?_ ?_) (λu=>rfl))
  .ext;show xF (a:=v) (b:=[]) ⟨_,rfl,λh1=>?_,λh1=>?_⟩
   .have es:(v.map λc=>S [c])=(signsOf v).map S:=by
     cases v with|nil=>cases h1|cons c v=>simp[signsOf,Function.comp_def]
    show jd (cl:=[]) db.handled E rfl ⟨.nil,λp hp=>nomatch hp⟩ (by decide) rfl (by decide) (λu=>rfl) ?_;ext;show iA rfl (eJ (H++[AO.lst (rows.map bZ)]++G).length ([.it (v.map λc=>S [c])]) ([(H++[AO.lst (rows.map bZ)]++G).length]) (v.map λc=>S [c]) (eQ a7 tI jA (.inr (by show XG rfl)) (by show Gj) (wU (by rw[Xm];show Xf Ua (by decide)) ?_ ?_ ?_)))
    .intro C E2 y hy;show n4 E2 (.local rfl rfl) rfl λF l hk yM=>hJ ⟨rfl,?_⟩;ext;show⟨rfl,hk,[],by rw[Xv]⟩
    .rw[List.filterMap_some];show cN λu _=>rfl
    .rw[List.filterMap_some,es];show .mk rfl rfl rfl
   .have es:v=[]:=by cases v with|nil=>rfl|cons c v=>cases h1
    ext;show cW ?_;ext;show .mk (by rw[es];rfl) rfl rfl
  .rintro y H' l' ⟨rfl,eH,el⟩
   have g0:bh l' "fresh" (.bool a9):=by rw[el];left
   have g1:bh l' "rows" (.ref H.length):=by rw[el];left
   have g2:bh l' "width" (.int wd):=by rw[el];left
   have g3:bh l' "head" (.int hd):=by rw[el];left
   have g4:bh l' "ahead" (.int ah):=by rw[el];left
   have g5:bh l' "key" (S key):=by rw[el];left
   subst eH;clear el;have wI:=ny.start Sq;generalize Ub:signsOf v=sg at *
   have Uc:∀s∈sg,s.length<=1:=Ub▸signs_one;have hPl:(H++[AO.lst (rows.map bZ)]++G).length=H.length+1+G.length:=by simp;show"E+a+b1++a1b"
   show ke.ok (bd _ rfl ?_);show gD (N:=(H++[AO.lst (rows.map bZ)]++G).length) (ft:=[(H++[AO.lst (rows.map bZ)]++G).length]) (xs:=sg.map S) db.handled (.it jM) (by show Gj) (.inr (by show XG rfl)) (Pj sg wd hd ah key rows H G) (λr P l hI=>by obtain⟨_,_,_,_,eP,_⟩:=hI;rw[eP];simp) ⟨_,_,rfl,[],sg,rfl,rfl,rfl,g1,g5,g0,g2,g3,g4⟩ ?_ ?_
   .rintro x r P G2 l2 jO ⟨sT,wM,er,Ck,rfl,k1,k2,k3,k4,k5,k6⟩
    cases wM with
    |nil=>cases er
    |cons x wM=>
    injection er with ex er
    clear jO;subst ex er;show ji E (.local rfl rfl) ?_;have hF:=ny.steps (w:=wd) (h:=hd) (a:=ah) (key:=key) (XQ _) Cj.1 sT (λs hs=>Uc s (by rw[Ck];show XN _ hs)) wI;have hd2:sT.length<=6:=by rw[Ck]at pq;simp at pq;show"L+a+b1.6La6" pq
    have Sr:=Uc x (by rw[Ck];show ZC);have JK:=hF.lg (key:=key) (sign:=x) (XQ _) Cj.1 Sr;generalize Pk:sT.foldl (eD wd hd ah key) (rows,a9)=st at *
    obtain⟨Ss,Su⟩:=st;show Ok.mono (C0 kf (n:=n+1) db (rows:=Ss) (fresh:=Su) (j:=H.length) E (bq (bq jM)) ⟨hF.ne,Xf hF.len (by show"La2Lb6L++*6ab1.100" iY hd2),λr hr=>⟨Xf (hF.row r hr).1 (by omega),λp hp=>⟨((hF.row r hr).2 p hp).1,Xf ((hF.row r hr).2 p hp).2 (by show"La2Lb6L+*6ab50" iY hd2)⟩⟩⟩ Cj.1 Sr ⟨Xf JK.1 (by omega),λp hp=>⟨(JK.2.2 p hp).1,Xf (JK.2.2 p hp).2 (by show"La2Lb6L++*6ab1.50" iY hd2)⟩⟩ (λz=>hF.nf z) (by left) (by left) (by left) (by left) (by left) (by left) (by left)) ?_
    rintro fl H' l' ⟨rfl,eH,m1,m2,m3⟩
    show⟨H++[.lst ((eD wd hd ah key (Ss,Su) x).1.map bZ)]++G,[],?_,sT++[x],wM,rfl,by rw[Ck];show Cz,?_,m1,?_,?_,?_,?_,?_⟩
    .rw[eH,Xq,Xv,pS];show(Xq _ _ _).symm
    .rw[Aca,Pk];rfl
    .show m3 _ _ (by show .head _) (by left)
    .rw[Aca,Pk];change bh l' _ (.bool (eD wd hd ah key (Ss,Su) x).2);rw[A5];show m2
    .show m3 _ _ (by show .tail _ (.head _)) (by left)
    .show m3 _ _ (by show AcW rfl) (by left)
    .show m3 _ _ (by show AcW rfl) (by left)
   .rintro P G2 l2 ⟨sT,wM,er,Ck,rfl,k1,k2,k3,k4,k5,k6⟩
    cases wM with
    |cons x wM=>cases er
    |nil=>
    rw[Xv]at Ck;ext;show⟨H++[.lst ((fillAll wd hd ah (dn++[(key,v)])).map bZ)],G2,?_,dn++[(key,v)],td,rfl,by rw[ew];show Cz,rfl,k1,k4,k5,k6⟩;rw[lr,hR];unfold ir;rw[Ub,Ck]
 .rintro P G l ⟨dn,td,e9,ew,rfl,g1,g2,g3,g4⟩
  cases td with
  |cons x td=>cases e9
  |nil=>
  rw[Xv]at ew;subst ew;ext;show pZ H.length H _ (Xd _) ⟨by simp,by rw[Xq,fX];show lG.refl hb,.lst (Xd _) (bq (by show jM)) (iU.refl (cN λr _=>wz))⟩ q
end
noncomputable def kO(s:List Int):List Int:=s.take 3++([166088,17,131968]:List Int).drop (s.take 3).length
noncomputable def oB:List Nat:=[97,126,32,34,59,92,61,44]
noncomputable def wA(x:Int)(d:Nat):Nat:=oB.getD (x / 8 ^ d % 8).toNat 0
noncomputable def oD(x:Int):Nat:=(x % 196608 / 32768).toNat
noncomputable def rA(x:Int):Tx:=(Yx (oD x)).map (wA x)
noncomputable def vals2(s:List Int):List Tx:=(kO s).map rA
noncomputable def nk(s:List Int):Nat:=((kO s).sum % 99).toNat
noncomputable def oE(s:List Int):Nat:=4+nk s % 11
noncomputable def eO(s:List Int):Nat:=nk s / 11 % 3*4
noncomputable def yU:List Tx:=[[32],[9],[32,32,32]]
noncomputable def cK(s:List Int):Tx:=yU.getD (nk s / 33) []
noncomputable def d9(s:List Int):List bM:=fillAll (oE s) (eO s) (cK s).length (fN.zip (vals2 s))
theorem ta{s:List Int}:(kO s).length=3:=by unfold kO;simp;show"E+<3a-3<3a3"
theorem A8{x:Int}:oD x<=5:=by unfold oD;omega
theorem G8{x:Int}{d:Nat}:MB (wA x d):=by
 have h:(x / 8 ^ d % 8).toNat<8:=by omega
 unfold wA MB;generalize(x / 8 ^ d % 8).toNat=n at *
 have:n=0\/n=1\/n=2\/n=3\/n=4\/n=5\/n=6\/n=7:=by show"Ta8OEa0OEa1OEa2OEa3OEa4OEa5OEa6Ea7" h
 clear h;rcases this with rfl|rfl|rfl|rfl|rfl|rfl|rfl|rfl<;>decide
theorem Ix{x:Int}:(rA x).length<=5/\lD (rA x):=by unfold rA;show⟨by rw[Xm,AaE];show A8,λc hc=>?_⟩;obtain⟨d,_,rfl⟩:=Xr.mp hc;show G8
theorem wB{s:List Int}:∀v∈vals2 s,v.length<=5/\lD v:=λv hv=>by obtain⟨x,_,rfl⟩:=Xr.mp hv;show Ix
theorem lu{s:List Int}:(vals2 s).length=3:=by unfold vals2;rw[Xm,ta]
theorem A9{s:List Int}:nk s<99:=by unfold nk;omega
theorem wC{s:List Int}:eO s<=8:=by unfold eO;omega
theorem lx{s:List Int}:(cK s).length<=3/\cK s≠[]/\∀c∈cK s,Rx.bI c=a9/\c≠10:=by
 have h:=A9 (s:=s);unfold cK;generalize nk s=n at *
 have:n / 33=0\/n / 33=1\/n / 33=2:=by omega
 rcases this with e|e|e<;>rw[e]<;>decide
theorem ite_le{t:Tx}(h:t.length<=n):(if b=a9 then[]else t).length<=n:=by
 cases b with|true=>show Xn _|false=>show h
theorem G9{m:Nat}{row:bM}(hm:row.length<=m)(hr:∀p∈row,p.1.length<=10/\p.2.length<=n):(glue [32] (cR row)).length<=m*(2*n+14):=by
 show Xf (yN _) (Xf (m:=row.length*(2*n+14)) ?_ (Adt _ hm));clear hm;unfold cR;induction row with|nil=>show Xn _|cons a row ih=>have h1:=hr a (.head _);have h2:=ih λp hp=>hr p (.tail _ hp);have h3:=lj (k:=a.1) (t:=a.2);simp only[Xu,Y4,Xs,XU]at h2 ⊢;rw[Nat.succ_mul];show"ALa10LbcLdeLf++a*2b3L++f+0.1d+e+*2c14" h1 h2 h3
theorem C7{m:Nat}{first:Bool}{row:bM}(hm:row.length<=m)(hr:∀p∈row,p.1.length<=10/\p.2.length<=n)(hc:aW.length<=10):∀t∈cI h aW first row,t.length<=10+m*(2*n+14):=by
 intro t ht
 have:=G9 hm hr;unfold cI at ht;split at ht
 .rw[Xh.mp ht,Xg];have:(if first then[]else aW).length<=10:=by
   split
   .show Xn _
   .show hc
  omega
 .split at ht
  .rw[Xh.mp ht];show Xn _
  .cases ht
theorem mi{m:Nat}(hc:aW.length<=10):∀(rows:List bM) (first:Bool),(∀r∈rows,r.length<=m/\∀p∈r,p.1.length<=10/\p.2.length<=n)->(bL h aW first rows).length<=rows.length/\∀t∈bL h aW first rows,t.length<=10+m*(2*n+14):=by
 intro rows;induction rows with
 |nil=>showλ_ _=>⟨Xd _,λ_ m=>nomatch m⟩
 |cons r rows ih=>
  intro f hr;have h1:=ih ac λx hx=>hr x (.tail _ hx);have h2:=hr r (.head _);have h3:(cI h aW f r).length<=1:=by
   unfold cI;split
   .show Xd _
   .split
    .show Xd _
    .show Xn _
  show⟨?_,λt ht=>?_⟩
  .change(cI h aW f r++bL h aW ac rows).length<=_;rw[Xg,Xs];have:=h1.1;omega
  .rcases Xl.mp ht with ht|ht
   .show C7 h2.1 h2.2 hc t ht
   .show h1.2 t ht
structure Sv(h:Int)(lines:List Tx)(ps:Ps)(z:Int):Prop where
 z:0<=z/\z<=1000
 PY:oy ps
 pl:ps.length<=900
 ll:lines.length<=900
 ls:∀l∈lines,l.length<=5000
 cu:∀r:Option Tx,(∀w,r=a7 w->w.length<=300)->(bz (be (uo ps r))).length<=5000
theorem rV(ps:Ps):(bz (be ps)).length<=(bz ps).length:=by
 unfold be;by_cases h:ps=[]
 .subst h;show Xd _
 .have e:=sY h;split
  .generalize popped ps=x at *
   rw[<-e];simp[iu]
  .rw[e];show Xd _
theorem Iv.ok{rows:List bM}{z:Int}(F:Iv h aW rows (lines,ps,z))(hh:0<=h/\h<=1000)(hc:aW.length<=10)(hn:n<=18)(hl:rows.length<=19)(hr:∀r∈rows,r.length<=3/\∀p∈r,p.1.length<=10/\p.2.length<=n):Sv h lines ps z:=by
 obtain⟨rs,row,rfl,d4,e⟩:=F.ex;injection e with e1 e
 injection e with e2 e3
 subst e1 e2 e3;have h1:=mi (h:=h) hc rs a9 λr hx=>hr r (XN _ hx);have h2:=hr row (X6 _ (.head _));have h3:(rE aW rs.isEmpty row).length<=6/\∀p∈rE aW rs.isEmpty row,p.1.length<=10/\p.2.length<=49:=by
  have h4:∀p∈row,(bH p.1 p.2).length<=49:=λp hp=>by have a:=h2.2 p hp;have b:=lj (k:=p.1) (t:=p.2);show"La18ALb10LcaLd++b*2c3Ld49" hn a b
  have h5:∀(r:bM),(∀p∈r,(bH p.1 p.2).length<=49)->(r.flatMap λp=>[(([]:Tx),bH p.1 p.2),([32],[])]).length=2*r.length/\∀p∈r.flatMap (λp=>[(([]:Tx),bH p.1 p.2),([32],[])]),p.1.length<=10/\p.2.length<=49:=by
   intro r;induction r with
   |nil=>showλ_=>⟨rfl,λ_ m=>nomatch m⟩
   |cons a r ih=>
    intro hx;have i:=ih λp hp=>hx p (.tail _ hp);show⟨by rw[AaF,Xg,i.1,Xs];simp;show"E+2*2a*2+a1",λp hp=>?_⟩;rw[AaF]at hp;rcases Xl.mp hp with hp|hp
    .simp only[Xi,Xy,or_false]at hp;rcases hp with rfl|rfl
     .show⟨Xn _,hx a (.head _)⟩
     .show⟨by decide,by decide⟩
    .show i.2 p hp
  cases row with
  |nil=>show⟨Xn _,λ_ m=>nomatch m⟩
  |cons a row=>
   have i:=h5 row λp hp=>h4 p (.tail _ hp)
   have:=h2.1;show⟨by change(_::_::List.flatMap _ row).length<=6;rw[Xs,Xs,i.1];simp at this;show"La2L++*2a1.1.6" this,λp hp=>?_⟩;rcases Xi.mp hp with rfl|hp
   .show⟨by change(if rs.isEmpty=a9 then[]else aW).length<=10;show ite_le hc,h4 a (.head _)⟩
   .rcases Xi.mp hp with rfl|hp
    .show⟨by decide,by decide⟩
    .show i.2 p hp
 have h6:(bz (rE aW rs.isEmpty row)).length<=400:=by
  have:∀ps:Ps,(∀p∈ps,p.1.length<=10/\p.2.length<=49)->(bz ps).length<=ps.length*59:=by
   intro ps;induction ps with|nil=>showλ_=>Xd _|cons a ps ih=>intro hx;have i:=ih λp hp=>hx p (.tail _ hp);have j:=hx a (.head _);unfold bz at i ⊢;simp only[Xu,Abb,Xg,Xs]at i ⊢;show"La:b59ALc10Ld49L++cda:+b1.59" i j
  have:=this _ h3.2;omega
 show⟨by split<;>omega,⟨by omega,λp hp=>⟨Xf (h3.2 p hp).1 (by decide),Xf (h3.2 p hp).2 (by decide)⟩⟩,by omega,?_,λl hx=>Xf (h1.2 l hx) (by show"La18L+10*3+*2a14.5000" hn),λr hw=>?_⟩
 .have:=h1.1;rw[Xg]at hl;simp at hl;omega
 .show Xf (rV _) ?_;cases r with
  |none=>show Xf h6 (by decide)
  |some w=>
   have:=hw w rfl;change(bz (rE aW rs.isEmpty row++[([],w)])).length<=_;rw[iu,Xg];have e:(bz [(([]:Tx),w)]).length=w.length:=by show Xg
   show"La400Lb300EcbL+ac5000" h6 this e
inductive Ud(j:Nat)(H0:List AO)(vs:List Tx)(ls:Loc)(fl:AF)(H':List AO)(l':Loc):Prop
 |mk:fl=.next->H'=H0.set j (.lst (vs.map S))->bh l' "values" (.ref j)->(∀v,bh ls "numbers" v->bh l' "numbers" v)->Ud j H0 vs ls fl H' l'
noncomputable def Pl(x:Int):AV->Option AV
 |.int d=>a7 (.int (x / 8 ^ d.toNat % 8))
 |_=>a8
theorem wD(x:Int)(n:Nat):(Bz 0 (n-0)).filterMap (Pl x)=(Yx n).map λd=>.int (x / 8 ^ d % 8):=by
 unfold Bz;rw[Ab3,Ace,<-Adn];congr 1;funext d
 change a7 (AV.int (x / 8 ^ ((0+d:Nat):Int).toNat % 8))=_;rw[XI];rfl
noncomputable def Sw:AV->Option AV
 |.int f=>a7 (S [oB.getD f.toNat 0])
 |_=>a8
theorem Aa(x:Int)(n:Nat):((Yx n).map λd=>AV.int (x / 8 ^ d % 8)).filterMap Sw=((Yx n).map λd=>[wA x d]).map S:=by rw[Ab3,Zu,<-Adn];rfl
section
variable {af:Program}{w:World}{K:Frag}{A:Around}(kf:KF af K){n:Nat}(hA:cM A (n+10)){H:List AO}
include kf hA in
theorem C8{LL:Addr}{q:Pi}{aj:Value}{ls:Loc}{j:Nat}{x:Int}{vs:List Tx}(E:ba (fD LL q aj) ⟨LL,gG LL⟩)(eR:H[j]?=a7 (.lst (vs.map S)))(hl:vs.length<=10)(h1:bh ls "values" (.ref j)) (h2:bh ls "x" (.int x)) :
  Ok ⟨af,w,K,A,⟨LL,gG LL⟩⟩ aY (execs (yL (cZ yK.1 2)) (fD LL q aj)) H ls (Ud j H (vs++[rA x]) ls):=by
 revert af w K A n H LL q aj ls j x vs;delta af w K A;intro kf;delta n;intro hA;delta H LL q aj ls j x vs;intro E eR hl h1 h2;change Ok _ aY (execs [_,_] _) _ _ _;have hn:x % 196608 / 32768=(oD x:Int):=(AbS (by omega)).symm;have Mj:=A8 (x:=x);show execs_cons (rR (cl:=[("x",LL+1)]) (.local rfl rfl) rfl hA.handled E rfl ⟨by simp,by simp;rfl⟩ (by decide) rfl (by decide) (λu=>rfl) ?_);ext;show mI (by decide) ?_;ext;have WQ:AaO (x % 196608) 32768=ac:=rfl;show mW (by decide) WQ ?_;rw[hn];ext;show zw (iA rfl (eJ H.length ([.it (Bz 0 (oD x-0))]) ([H.length]) (Bz 0 (oD x-0)) (eQ (Pl x) (Jm (a:=0) (by show"La5La100000" Mj) (by show Xn _)) jA (.inr (by show XG rfl)) (by show Gj) (wU (by unfold Bz;simp;show"La5La100000" Mj) ?_ ?_ ?_))))
 .intro C E2 y hy;revert C y;delta C;intro E2;delta y;intro hy;obtain⟨d,hd,rfl⟩:∃d,d<5/\y=.int ((d:Nat):Int):=by
   unfold Bz at hy;obtain⟨d,hd,rfl⟩:=Xr.mp hy;injections d
   have:=AcL.mp hd;show⟨d,by show"La5Tb-a0Tb5" Mj this,by rw[XI]⟩
  show n4 E2 (.local rfl rfl) rfl λF l hk yM=>hJ ⟨rfl,?_⟩;have Sr:bh l "x" (.int x):=hk.has rfl (by left);ext;show HW (x:=8) (n:=d) (by show"Ta5La1000" hd) (by decide) ?_;have KW:AaO x (8 ^ d)=ac:=by
   have:d=0\/d=1\/d=2\/d=3\/d=4:=by show"Ta5OEa0OEa1OEa2OEa3Ea4" hd
   clear hd yM hy;rcases this with rfl|rfl|rfl|rfl|rfl<;>rfl
  show mW (Int.pow_pos (by decide)) KW ?_;ext;show mI (by decide) ?_;show⟨rfl,hk,[],by show Eq.symm (Xv (H++F))⟩
 .rw[wD];show cN λu u=>rfl
 rw[wD];have g1:bh (put "figures" (.fl ((Yx (oD x)).map λd=>AV.int (x / 8 ^ d % 8))) ls) "values" (.ref j):=by left
 have g2:bh (put "figures" (.fl ((Yx (oD x)).map λd=>AV.int (x / 8 ^ d % 8))) ls) "figures" (.fl ((Yx (oD x)).map λd=>AV.int (x / 8 ^ d % 8))):=by left
 ext;show bx (bG eR) ?_;ext;show jd (cl:=[]) hA.handled E rfl ⟨.nil,λp hp=>nomatch hp⟩ (by decide) rfl (by decide) (λu=>rfl) ?_;ext;show iA rfl (eJ H.length ([.it ((Yx (oD x)).map λd=>AV.int (x / 8 ^ d % 8))]) ([H.length]) ((Yx (oD x)).map λd=>AV.int (x / 8 ^ d % 8)) (eQ Sw ke jA (.inr (by show XG rfl)) (by show Gj) (wU (by rw[Xm,AaE];show"La5La100000" Mj) ?_ ?_ ?_)))
 .intro C E2 y hy;revert C y;delta C;intro E2;delta y;intro hy;obtain⟨d,hd,rfl⟩:=Xr.mp hy;injections d;have h8:(x / 8 ^ d % 8).toNat<8:=by omega
  have e8:x / 8 ^ d % 8=((x / 8 ^ d % 8).toNat:Int):=(AbS (by omega)).symm;have ef:Sw (.int (x / 8 ^ d % 8))=a7 (S [oB.getD (x / 8 ^ d % 8).toNat 0]):=rfl;rw[ef];clear ef;generalize hm:(x / 8 ^ d % 8).toNat=m at *
  rw[e8];show n4 E2 (.local rfl rfl) rfl λF l hk yM=>hJ ⟨rfl,?_⟩;ext;show pI (l:=oB) (by show"r") ?_;ext;show⟨iD,KA (n:=m) (k:=oB.getD m 0) (pR h8) ?_ (by trivial) ?_⟩
  .rw[Zq,Xk (show m<oB.length from h8)];rfl
  .show⟨rfl,hk,[],by show Eq.symm (Xv (H++F))⟩
 .rw[Aa];show cN λu u=>rfl
 rw[Aa];ext;show gA (.inl rfl) ?_ ?_
 .show Xf (y8 _ 1 λt ht=>?_) ?_
  .revert t;delta t;intro ht;obtain⟨d,_,rfl⟩:=Xr.mp ht;show Xd _
  .rw[Xm,AaE];show iT (by show"La5L:a1.1000" Mj)
 have eg:glue [] ((Yx (oD x)).map λd=>[wA x d])=rA x:=by
  rw[l6];unfold rA;generalize Yx (oD x)=l;induction l with|nil=>rfl|cons a l ih=>simp only[Xu,Abb,ih];rfl
 rw[eg];ext;show YH eR rfl (bW eR) (by rw[Xm];show"La10La100000" hl) ?_;ext;show⟨rfl,by rw[bX,Yc];rfl,by left,λv hv=>by left⟩
end
inductive Ue(j kk:Nat)(H0:List AO)(hd:Int)(aW:Tx)(rows:List bM)(ls:Loc)(fl:AF)(H':List AO)(l':Loc):Prop
 |mk (lines:List Tx) (ps:Ps) (z:Int) (G:List AO):fl=.next->H'=cL H0 j kk lines ps z++G->l'=ls->Iv hd aW rows (lines,ps,z)->Ue j kk H0 hd aW rows ls fl H' l'
section
variable {af:Program}{w:World}{K:Frag}{A:Around}(kf:KF af K){n:Nat}(hA:cM A (n+32)){H:List AO}
include kf hA in
theorem C9{LL:Addr}{q:Pi}{aj:Value}{ls:Loc}{k t:List Nat}{i j kk:Nat}{wd z hd:Int}{aW signs:Tx}{lines:List Tx}{ps:Ps}{rows:List bM}{m:Nat}(E':ba (fD LL q aj) ⟨LL,gG LL⟩)(pG:A.frames=a7 [fD LL q aj])
  (hk:k.length<=10) (ht:t.length<=5) (MC:lD t) (h:Fm wd aW signs i j kk lines ps z H) (F:Iv hd aW rows (lines,ps,z)) (hh:0<=hd/\hd<=1000) (rY:aW.length<=10) (Iq:wd<=500)
  (I:ny m (6*m) (rows,ac)\/(rows=[[]]/\m=0)) (hm:m<=2)
  (h1:bh ls "maker" (.ref i)) (h2:bh ls "value" (S t)) (h3:bh ls "key" (S k)) :
  Ok ⟨af,w,K,A,⟨LL,gG LL⟩⟩ aY (execs (yL (cZ yK.1 8)) (fD LL q aj)) H ls (Ue j kk H hd aW (ir wd hd aW.length rows (k,t)) ls):=by
 revert af w K A n H LL q aj ls k t i j kk wd z hd aW signs lines ps rows m;delta af w K A;intro kf;delta n;intro hA;delta H LL q aj ls k t i j kk wd z hd aW signs lines ps rows m;intro E' pG hk ht MC h F hh rY Iq I hm h1 h2 h3;have hr:rows.length<=19/\∀r∈rows,r.length<=3/\∀p∈r,p.1.length<=10/\p.2.length<=18:=by
  rcases I with I|⟨rfl,_⟩
  .show⟨Xf I.len (by show"La2L+*6a1.19" hm),λr hr=>⟨Xf (I.row r hr).1 (by show"La2La3" hm),λp hp=>⟨((I.row r hr).2 p hp).1,Xf ((I.row r hr).2 p hp).2 (by show"La2L*6a18" hm)⟩⟩⟩
  .show⟨by decide,λr hr=>by rw[Xh.mp hr];show⟨Xn _,λ_ x=>nomatch x⟩⟩
 have ok:=F.ok hh rY (Xd 18) hr.1 hr.2;obtain⟨r,ws,e0,e1,e2,e3⟩:=uq (k:=k) (t:=t) (r0:=wd-bo ps z) (r1:=wd-aW.length) hk (Xf ht (by decide));have F2:=C3 (w:=wd) F hh.1 MC (Xf ht (by decide)) e0;have I2:=ny.kv (w:=wd) (h:=hd) (a:=aW.length) (p:=(k,t)) I hk ht;change Ok _ aY (execs [cZ (yL (cZ yK.1 8)) 0,.Expr (.Call (.Attribute (.Name _ _) _ _) [] [] _) _] _) _ _ _;show execs_cons (Ok.mono (BY kf hA E' pG hk (Xf ht (by decide)) h ok.z ok.PY ok.pl Iq ok.ll ok.cu ok.ls rY e0 e1 e2 e3 h1 h2 h3) ?_)
 rintro fl H' l' ⟨G,rfl,eH,el⟩
 subst el;have Pm:oy (jD aW lines ps z r ws).2.1:=by
  unfold jD;split
  .cases r with
   |none=>show ok.PY
   |some w=>
    show⟨by change(ps++[([],w)]).length<=1000;rw[Xg];have:=ok.pl;simp;show"La900La999" this,λp hp=>?_⟩;rcases Xl.mp hp with hp|hp
    .show ok.PY.2 p hp
    .rw[Xh.mp hp];show⟨Xn _,Xf (e1 w rfl).2 (by decide)⟩
  .show⟨XK rfl,λp hp=>?_⟩;rw[Xh.mp hp];show⟨Xf rY (by decide),?_⟩;cases hl:ws.getLast? with|none=>show Xn _|some x=>show Xf (e3 x (List.mem_of_getLast? hl)) (by decide)
 generalize jD aW lines ps z r ws=o at *
 obtain⟨Ga,Uf,z1⟩:=o;dsimp only at eH F2 Pm;have h5:Fm wd aW signs i j kk Ga Uf z1 H':=by rw[eH];show h.set.app
 ext;show fq kf.fmt h5.f rfl rfl rfl ?_;ext;show bK (Ip kf (hA.le (m:=n+20) (by show"L+a20+a32")) h5 Pm ?_);ext;show .mk Ga (Uf++[([32],[])]) z1 G rfl (by rw[eH,h.set.ip,dG h.jk]) rfl F2
end
inductive Ug(j:Nat)(H0:List AO)(Iy:List Tx)(ls:Loc)(fl:AF)(H':List AO)(l':Loc):Prop
 |mk:fl=.next->H'=H0.set j (.lst (Iy.map S))->l'=ls->Ug j H0 Iy ls fl H' l'
inductive Uh(t:Tx)(H0:List AO)(l0:Loc)(x:AV)(H':List AO)(l':Loc):Prop
 |mk:x=S t->H'=H0->l'=l0->Uh t H0 l0 x H' l'
theorem Gc{d:Nat}:∀row:bM,Hi d (row.map fc) [] row.isEmpty:=by
 intro row;cases row with|nil=>show .pairs (.nil d)|cons a row=>show .len (by simp)
section
variable {af:Program}{w:World}{K:Frag}{A:Around}(kf:KF af K){n:Nat}(hA:cM A (n+10)){H:List AO}
include kf hA in
theorem Gd{LL:Addr}{q:Pi}{aj:Value}{ls:Loc}{j k:Nat}{hd:Int}{aW:Tx}{Iy:List Tx}{rows:List bM}{row:bM}(E:ba (fD LL q aj) ⟨LL,gG LL⟩)(eR:H[j]?=a7 (.lst (Iy.map S)))(iY:Iy.length<=100)(ux:rows.length<=19)(hk:rows[k]?=a7 row)(rY:aW.length<=10)
  (hr:row.length<=3/\∀p∈row,p.1.length<=10/\p.2.length<=18)
  (h1:bh ls "due" (.ref j)) (h2:bh ls "k" (.int (k:Int))) (h3:bh ls "rows" (.fl (rows.map bZ))) (h4:bh ls "head" (.int hd)) (h5:bh ls "ahead" (S aW)) :
  Ok ⟨af,w,K,A,⟨LL,gG LL⟩⟩ aY (execs (yL (cZ yK.1 12)) (fD LL q aj)) H ls (Ug j H (Iy++cI hd aW (decide (k=0)) row) ls):=by
 revert af w K A n H LL q aj ls j k hd aW Iy rows row;delta af w K A;intro kf;delta n;intro hA;delta H LL q aj ls j k hd aW Iy rows row;intro E eR iY ux hk rY hr h1 h2 h3 h4 h5;have wP:k<rows.length:=(Xc.mp hk).1;change Ok _ aY (execs [.If _ _ _ _] _) _ _ _;ext;show⟨ie,iZ (n:=k) (y:=bZ row) (gy (.inl rfl)) (pR (by rw[Xm];show wP)) (by rw[Zl,hk];rfl) (by rw[Xm];show iT (by show"La19La1000" ux)) ?_⟩;ext;show cW ?_;ext;show zu hA (d:=1) (by decide) (.inl rfl) (.inl rfl) (Gc row) ⟨_,rfl,λh1=>?_,λh1=>?_⟩
 .have d4:row≠[]:=λz=>by clear hk hr;subst z;cases h1
  ext;show bx (bG eR) ?_;show pW (uA (Ok.mono (Q:=Uh (if decide (k=0)=a9 then[]else aW) H ls) ?_ ?_)) rfl
  .ext;show iR ⟨_,rfl,λhb=>?_,λhb=>?_⟩
   .ext;have:¬k=0:=λz=>by have:=aP hb;show"Ea0H0$a0" z this
    show .mk (by rw[aI (by simp[this])]) rfl rfl
   .ext;have:k=0:=by have:=of_decide_eq_false hb;show"NH0$aEa0" this
    show .mk (by rw[aQ (by simp[this])]) rfl rfl
  .rintro y H' l' ⟨rfl,eH,el⟩
   clear h1 h4 h5;subst eH el;have el:cI hd aW (decide (k=0)) row=[(if decide (k=0)=a9 then[]else aW)++glue [32] (cR row)]:=by unfold cI;rw[aQ d4]
   have pQ:(if decide (k=0)=a9 then([]:Tx)else aW).length<=10:=ite_le rY;rw[el];clear el;generalize(if decide (k=0)=a9 then([]:Tx)else aW)=pre at *
   ext;show jd (cl:=[]) hA.handled E rfl ⟨.nil,λp hp=>nomatch hp⟩ (by decide) rfl (by decide) (λu=>rfl) ?_;ext;show⟨ie,iZ (n:=k) (y:=bZ row) (gy (.inl rfl)) (pR (by rw[Xm];show wP)) (by rw[Zl,hk];rfl) (by rw[Xm];show iT (by show"La19La1000" ux)) ?_⟩;show iA rfl (eJ H'.length ([.it (row.map fc)]) ([H'.length]) (row.map fc) (eQ FU ke jA (.inr (by show XG rfl)) (by show Gj) (wU (by rw[Xm];omega) ?_ ?_ ?_)))
   .intro C E2 y hy;obtain⟨p,hp,rfl⟩:=Xr.mp hy;clear hy;obtain⟨pk,pt⟩:=p;have pQ:=hr.2 _ hp;have ef:FU (fc (pk,pt))=a7 (S (bH pk pt)):=rfl;rw[ef];show⟨λF l hl=>ic hA.handled rfl rfl ?_⟩;show"in";show"in";show jS ?_;show hJ ⟨rfl,?_⟩;ext;show bK (r9 kf (hA.le (m:=n+5) (by show"L+a5+a10")) pQ.1 (Xf pQ.2 (by decide)) ?_);show⟨rfl,λn hn=>(nomatch hn),[],by rw[Xv]⟩
   .rw[ni];show cN λu _=>rfl
   .rw[ni];have yA:((row.map λp=>bH p.1 p.2).map λt=>t.length+([32]:Tx).length).sum<=800:=by
     show Xf (FV _ λy hy=>?_) (by rw[Xm];omega);obtain⟨p,hp,rfl⟩:=Xr.mp hy;have pQ:=hr.2 _ hp
     have:=lj (k:=p.1) (t:=p.2);show"ALa10Lb18Lc++a*2b3Lc200" pQ this
    have PJ:(glue [32] (cR row)).length<=800:=Xf (yN _) yA;ext;show gA (.inl rfl) ?_ ?_
    .show Xf yA (by show jh ?_;show"L800.100000")
    rw[show glue [32] (row.map λp=>bH p.1 p.2)=glue [32] (cR row)from rfl];show dQ (by show jh ?_;show"La10Lb800L+ab100000" pQ PJ) ?_;ext;show YH eR rfl (bW eR) (by rw[Xm];show"La100La100000" iY) ?_;ext;show .mk rfl (by rw[bX,Yc];rfl) rfl
 .have d4:row=[]:=by cases row with|nil=>rfl|cons a r=>cases h1
  ext;show iR ⟨_,rfl,λhb=>?_,λhb=>?_⟩
  .have hb:=aP hb;have el:cI hd aW (decide (k=0)) row=[[]]:=by unfold cI;rw[aI (by simp[d4]),aQ hb]
   rw[el];ext;show bx (bG eR) ?_;ext;show YH eR rfl (bW eR) (by rw[Xm];show"La100La100000" iY) ?_;ext;show .mk rfl (by rw[bX,Yc];rfl) rfl
  .have hb:=of_decide_eq_false hb;have el:cI hd aW (decide (k=0)) row=[]:=by unfold cI;rw[aI (by simp[d4]),aI hb]
   rw[el];ext;show .mk rfl (by rw[Xv,set_same eR]) rfl
end
open F in
section
variable {c:Cx}{H:List AO}{ls:Loc}{Q:AV->List AO->Loc->Prop}{a:List Nat}
theorem Iz{y:Nat}(hs:a.length<=10000)(q:Q (.ref H.length) (H++[.lst ((fB y a).map S)]) ls):kS c VR (λvs=>call (.builtin "str.split") vs) [S a,S [y]] H ls Q:=λW s vs g e r=>by
 revert c H ls Q a y W s vs;delta c H ls Q a y;intro hs q;delta W s vs;intro g e r;obtain⟨v,u,rfl,rx,ry⟩:=r.two;apply VR.dE rx;intro t;apply VR.dE ry;intro u;have hz:(⟨a.toArray⟩:Pi).length+2<=sizeLine:=by rw[dh];unfold sizeLine;lia
 have hn:(partsBetween ⟨a.toArray⟩ (occurrences ⟨a.toArray⟩ ⟨[y].toArray⟩ 0 (⟨a.toArray⟩:Pi).length ((⟨a.toArray⟩:Pi).length+1)) (⟨[y].toArray⟩:Pi).length).length<=sizeLine:=by have e1:=StrLaws.occ_length_le ⟨a.toArray⟩ ⟨[y].toArray⟩ 0 (⟨a.toArray⟩:Pi).length ((⟨a.toArray⟩:Pi).length+1);rw[length_partsBetween];show Nat.lt_of_le_of_lt ‹_› ‹_›
 have fin:=wa (Q:=Q) (ts:=fB y a) g e q;rw[<-HS]at fin;cases h1:(decide ((⟨a.toArray⟩:Pi).length<(⟨[y].toArray⟩:Pi).length) ||decide (strKind ⟨a.toArray⟩<strKind ⟨[y].toArray⟩))
 .cases hf:(occurrences ⟨a.toArray⟩ ⟨[y].toArray⟩ 0 (⟨a.toArray⟩:Pi).length ((⟨a.toArray⟩:Pi).length+1)).isEmpty
  .show AbC F.slot_str_split (Aaj _ _ _) F.entry_str_split (F.args_str_split_2 _ _) (meets_str_split_sep _ _ t u h1 rfl hf (by show Zp hz) hn) ?_;rw[strsFrom_eq];show fin (numbered s.toks _) _ ((numbered_texts _ _).trans ((aI (ne_true_of_eq_false h1)).trans (aI (ne_true_of_eq_false hf))).symm)
  .show AbC F.slot_str_split (Aaj _ _ _) F.entry_str_split (F.args_str_split_2 _ _) (meets_str_split_not_found _ _ t u h1 rfl hf) (fin [(_,t)] s.toks ((aI (ne_true_of_eq_false h1)).trans (aQ hf)).symm)
 .show AbC F.slot_str_split (Aaj _ _ _) F.entry_str_split (F.args_str_split_2 _ _) (meets_str_split_cannot_occur _ _ t u h1) (fin [(_,t)] s.toks (aQ h1).symm)
end
def mj(rows:List bM):Prop:=∀r∈rows,wy r
theorem IA{w a:Int}{k v:Tx}{rows:List bM}(d4:rows≠[])(hr:mj rows)(hk:yO k)(hv:lD v):mj (ir w h a rows (k,v))/\ir w h a rows (k,v)≠[]:=by
 obtain⟨rs,row,rfl⟩:∃rs row,rows=rs++[row]:=⟨_,_,(Yh d4).symm⟩
 obtain⟨p1,pr,e1,e2⟩:=rn (w:=w) (h:=h) (a:=a) (k:=k) (v:=v) (rs:=rs) (row:=row) rfl hv;have hp:=ww (k:=k) (r1:=w-a) (v.drop 1) (if((bi k (v.take 1)).length:Int) > w-oA h a rs-(jg row:Int)then w-a else w-oA h a rs-(jg row:Int)) (v.take 1) (λx hx=>hv x (YY hx)) (λx hx=>hv x (Aab hx));rw[e2]at hp;have one:∀q∈p1::pr,wy [(k,q)]:=λq hq p yM=>by rw[Xh.mp yM];show⟨hk,hp q hq⟩
 have OP:mj rs:=λr m=>hr r (XN _ m);have FW:wy row:=hr row (X6 _ (.head _));rw[e1];split
 .show⟨λr m=>?_,by show List.append_ne_nil_of_left_ne_nil d4 (List.map (λq=>[(k,q)]) (p1::pr))⟩;rcases Xl.mp m with m|m
  .show hr r m
  .obtain⟨q,hq,rfl⟩:=Xr.mp m;show one q hq
 .show⟨λr m=>?_,by simp⟩;rcases Xl.mp m with m|m
  .rcases Xl.mp m with m|m
   .show OP r m
   .rw[Xh.mp m];intro p yM;rcases Xl.mp yM with yM|yM
    .show FW p yM
    .show one p1 (.head _) p yM
  .obtain⟨q,hq,rfl⟩:=Xr.mp m;show one q (.tail _ hq)
theorem Ma{w a:Int}:∀(pe:List (Tx×Tx)),(∀p∈pe,yO p.1/\lD p.2)->mj (fillAll w h a pe)/\fillAll w h a pe≠[]:=by show snoc_ind (P:=λpe=>(∀p∈pe,yO p.1/\lD p.2)->mj (fillAll w h a pe)/\fillAll w h a pe≠[]) (λ_=>⟨λr m=>by rw[Xh.mp m];show(λ_ x=>nomatch x),Yj _ _⟩) λl p ih h=>?_;have i:=ih λq hq=>h q (XN _ hq);have j:=h p (X6 _ (.head _));rw[lr];show IA i.2 i.1 j.1 j.2
theorem np{s:List Int}:∀p∈fN.zip (vals2 s),yO p.1/\lD p.2/\Iw p:=λp hp=>by obtain⟨k,v⟩:=p;have h:=YT hp;have h1:=h.1;unfold fN at h1;simp only[Xi,Xy,or_false]at h1;have h2:=wB v h.2;show⟨h1,h2.2,?_,h2.1⟩;rcases h1 with e|e|e<;>(rw[show k=_ from e];show XK rfl)
theorem nr{s:List Int}:ny 3 18 (d9 s,ac):=by
 have h:=ny.all (w:=oE s) (h:=eO s) (a:=(cK s).length) (fN.zip (vals2 s)) λp hp=>(np p hp).2.2;have hl:(fN.zip (vals2 s)).length=3:=by rw[Acx,lu];rfl
 rw[hl]at h;show h.resolve_right λz=>nomatch z.2
theorem wE{s:List Int}:mj (d9 s):=(Ma _ λp hp=>⟨(np p hp).1,(np p hp).2.1⟩).1
noncomputable def ff(s:List Int):List Tx:=bL (eO s) (cK s) a9 (d9 s)
theorem oF{s:List Int}:(ff s).length<=19/\∀t∈ff s,t.length<=160:=by have h:=nr (s:=s);have i:=mi (h:=eO s) (Xf (lx (s:=s)).1 (by decide)) (d9 s) a9 λr hr=>⟨(h.row r hr).1,(h.row r hr).2⟩;show⟨Xf i.1 h.len,i.2⟩
theorem Ge{s:List Int}:ff s≠[]:=by
 have h:=nr (s:=s);obtain⟨rs,row,e⟩:∃rs row,d9 s=rs++[row]:=⟨_,_,(Yh h.ne).symm⟩
 have h1:row≠[]:=by have:=h.nf rfl;dsimp only at this;rwa[e,lq]at this
 unfold ff;rw[e,gH];unfold cI;rw[aQ h1];simp
theorem IB:∀u:Tx,lD u->10 ∉ aG u:=by
 intro u;induction u with
 |nil=>showλ_ m=>nomatch m
 |cons c u ih=>
  intro h m;rw[kN]at m;rcases Xl.mp m with m|m
  .have h1:c=10:=by
    split at m
    .show(Xh.mp m).symm
    .simp only[Xi,Xy,or_false]at m;rcases m with m|m
     .cases m
     .show m.symm
   have:=h c (.head _);rw[h1]at this;show absurd this (by unfold MB;decide)
  .show ih (λx hx=>h x (.tail _ hx)) m
theorem Mb{u:Tx}(h:lD u):10 ∉ u:=λm=>absurd (h 10 m) (by unfold MB;decide)
theorem Gf{k u:Tx}(hk:yO k)(hu:lD u):10 ∉ bH k u:=by
 have h1:10 ∉ k:=by rcases hk with rfl|rfl|rfl<;>decide
 have h2:=Mb hu;have h3:=IB u hu;unfold bH;split<;>simp[h1,h2,h3]
theorem Gg:∀ts:List Tx,(∀t∈ts,10 ∉ t)->10 ∉ glue [32] ts:=by
 intro ts h;cases ts with
 |nil=>showλm=>nomatch m
 |cons a ts=>
  rw[pi];intro m;rcases Xl.mp m with m|m
  .show h a (.head _) m
  .obtain⟨y,hy,m⟩:=ZP.mp m;rcases Xi.mp m with m|m
   .cases m
   .show h y (.tail _ hy) m
theorem Cb(hc:10 ∉ aW):∀(rows:List bM) (first:Bool),mj rows->∀t∈bL h aW first rows,10 ∉ t:=by
 intro rows;induction rows with
 |nil=>showλ_ _ _ m=>nomatch m
 |cons r rows ih=>
  intro f hr t ht;rcases Xl.mp ht with ht|ht
  .have h1:=hr r (.head _);unfold cI at ht;split at ht
   .rw[Xh.mp ht];intro m;rcases Xl.mp m with m|m
    .cases f with|true=>cases m|false=>show hc m
    .show Gg _ (λt ht=>?_) m;obtain⟨p,hp,rfl⟩:=Xr.mp ht;show Gf (h1 p hp).1 (h1 p hp).2
   .split at ht
    .rw[Xh.mp ht];showλm=>nomatch m
    .cases ht
  .show ih ac (λx hx=>hr x (.tail _ hx)) t ht
theorem wF{s:List Int}:fB 10 (glue [10] (ff s))=ff s:=by show p9 10 _ Ge ?_;show Cb (λm=>((lx (s:=s)).2.2 10 m).2 rfl) _ _ wE
theorem rB{s:List Int}:((ff s).map λt=>t.length+([10]:Tx).length).sum<=4000:=by have h:=oF (s:=s);show Xf (FV _ λy hy=>Xf (h.2 y hy) (by decide)) (by have:=h.1;show Nat.mul_le_of_le_div 201 (ff s).length 4000 this)
theorem Iv.end_{rows:List bM}{z:Int}(F:Iv h aW rows (lines,ps,z))(hh:0<=h)(hl:rows.getLast?.getD []≠[]):br lines ps z=bL h aW a9 rows:=by
 obtain⟨rs,row,rfl,d4,e⟩:=F.ex;injection e with e1 e
 injection e with e2 e3
 subst e1 e2 e3;rw[lq]at hl;obtain⟨r0,x,rfl⟩:∃r0 x,row=r0++[x]:=⟨_,_,(Yh hl).symm⟩
 clear F hl d4;obtain⟨k0,p0⟩:=x;rw[gH,Ac6,kM];show yR hh a9
noncomputable def Ab(s:List Int):List (List gi):=((d9 s).filter λrow=>row≠[]).map gj
theorem yV{s:List Int}:Gu (ff s) [] (Ab s):=by
 have h:=nr (s:=s)
 have:=C5 (h:=eO s) (aW:=cK s) (λc hc=>((lx (s:=s)).2.2 c hc).1) (d9 s) a9 [] (λr hr=>⟨wE r hr,Xf (h.row r hr).1 (by decide)⟩) (λt ht=>Xf (oF.2 t ht) (by decide))
 rwa[YU]at this
section
variable {f:Fp}(kf:KF af K)(hA:cM A (n+30)){Q:AV->List AO->Prop}
include kf hA in
theorem IC{k:Nat}{z:Int}{sep:Tx}(h:Fm wd aW signs i j k lines ps z H)(hz:0<=z/\z<=1000)(hs:oy ps)(hl:lines.length<=900)(hc:(bz (be ps)).length<=5000)(wO:∀l∈lines,l.length<=5000)
  (hj:((br lines ps z).map λt=>t.length+sep.length).sum<=sizeLine) (q:Q (S (glue sep (br lines ps z))) (cL H j k (br lines ps z) [] 0)):bk ⟨af,w,K,A,f⟩ (.ref 57) [.ref i,S sep] H Q:=by
 show d0 hA kf.Jo (.inl rfl) rfl (by decide) rfl rfl rfl rfl rfl rfl λL q' aj A' db E ct hb hu=>?_;ext;show fq kf.fmt h.f rfl rfl rfl ?_;ext;show bK (pd kf db h hz hs (by show"La900La1000" hl) hc wO ?_);ext;show bj kf.fmt h.set.f rfl rfl rfl rfl ?_;ext;show gA (.inr (bd j rfl h.set.l)) hj ?_;show c9 (by rw[dp];show Xd _) (by rw[dp];show n7 hb) rfl q
end
inductive Po(s:List Int)(H:List AO)(r:List AV)(P:List AO)(l:Loc):Prop
 |mk:∀dn td,r=td.map AV.int->kO s=dn++td->P=H++[.lst ((dn.map rA).map S)]->bh l "values" (.ref H.length)->bh l "numbers" (.fl ((kO s).map AV.int))->Po s H r P l
inductive Pp(pe:List (Tx×Tx))(w h:Int)(aW:Tx)(i j k:Nat)(M:List AO)(r:List AV)(P:List AO)(l:Loc):Prop
 |mk:∀dn td lines ps z,r=td.map fc->pe=dn++td->P=cL M j k lines ps z->Iv h aW (fillAll w h aW.length dn) (lines,ps,z)->bh l "maker" (.ref i)->bh l "values" (.fl ((pe.map Ac3).map S))->bh l "width" (.int w)->bh l "head" (.int h)->bh l "ahead" (S aW)->Pp pe w h aW i j k M r P l
inductive Pq(s:List Int)(H:List AO)(r:List AV)(P:List AO)(l:Loc):Prop
 |mk:∀k m,r=Bz k m->k+m=(d9 s).length->P=H++[.lst ((bL (eO s) (cK s) a9 ((d9 s).take k)).map S)]->bh l "due" (.ref H.length)->bh l "told" (.fl ((ff s).map S))->bh l "rows" (.fl ((d9 s).map bZ))->bh l "head" (.int (eO s:Nat))->bh l "ahead" (S (cK s))->Pq s H r P l
theorem Cc(l:List Tx):Hi 1 (l.map S) (l.map S) a9:=.pairs (pM.refl λx hx=>by obtain⟨t,_,rfl⟩:=Xr.mp hx;show Dat.eq (.str _ _))
theorem Gh(l:List bM):Hi 3 (l.map bZ) (l.map bZ) a9:=by show .pairs (pM.refl λx hx=>?_);obtain⟨r,_,rfl⟩:=Xr.mp hx;show Dat.eq (.fl λy hy=>?_);obtain⟨p,_,rfl⟩:=Xr.mp hy;show .tup λz hz=>?_;simp only[Xi,Xy,or_false]at hz;rcases hz with rfl|rfl<;>show .str _ _
noncomputable def Pr:AV->Option AV
 |.fl []=>a8
 |.fl (a::l)=>a7 (.fl (a::l))
 |_=>a8
theorem wG:∀rows:List bM,(rows.map bZ).filterMap Pr=(rows.filter λrow=>row≠[]).map bZ:=by
 intro rows;induction rows with
 |nil=>rfl
 |cons r rows ih=>
  cases r with|nil=>rw[Xu,YQ,Aau (by show ne_true_of_eq_false rfl),ih];rfl|cons a r=>rw[Xu,YQ,Aat (by rfl),ih];rfl
theorem ID{s:List Int}:qZ (Ab s)=.fl (((d9 s).filter λrow=>row≠[]).map bZ):=by unfold qZ Ab;rw[Zu];congr 1;show ZK λr _=>?_;change AV.fl ((gj r).map ou)=AV.fl (r.map fc);unfold gj;rw[Zu];rfl
theorem Cd{P F:List AO}{k:Nat}{z:Int}(hj:P.length<=j)(hk:P.length<=k):∃F',cL (P++F) j k lines ps z=P++F':=by unfold cL;rw[Ys _ _ hj,Ys _ _ hk];show⟨_,rfl⟩
theorem Ok.loc{R:Wd->β->α->Prop}{t:Sem α}{ls:Loc}{Q:β->List AO->Loc->Prop}{P:Loc->Prop}(hp:P ls)(k:∀l,P l->Ok c R t H l Q):Ok c R t H ls Q:=k ls hp
section
variable {af:Program}{w:World}{K:Frag}{A:Around}{f:Fp}(kf:KF af K){n:Nat}(hA:cM A (n+60)){H:List AO}{Q:AV->List AO->Prop}
include kf hA in
theorem IE{s:List Int}(hs:s.length<=100)(hf:A.frames=a7 [])(q:Q (.bool a9) H):bk ⟨af,w,K,A,f⟩ (.ref 275) [.fl (s.map AV.int)] H Q:=by
 revert af w K A f n H Q s;delta af w K A f;intro kf;delta n;intro hA;delta H Q s;intro hs hf q;show Fn hA kf.Oe (λfd vs e1 e2 hl=>?_) (by decide) rfl rfl rfl rfl (λL x hx=>?_) (λL=>?_) ?_
 .obtain⟨nm,qn,ps,aB,al,gl,cl,dv,KV,r1,r2,r3,r4,r5,r6⟩:=fd;dsimp only at e1 e2;subst e1 e2;obtain⟨u0,_,rfl,LC⟩:=iK 0 hl;obtain rfl:=ZQ LC;rfl
 .simp only[b5,Xu,Aal,Xi,Xy,or_false]at hx;subst hx;show .inl ⟨rfl,rfl⟩
 .change(["x"]:List Pi).Nodup;decide
 intro L q' aj A' db E hb pG;rw[hf]at pG;have pG:A'.frames=a7 [fD L q' aj]:=pG;have pq:(s.map AV.int).length=s.length:=Xm _;ext;show⟨_,rfl,⟨ie,zt (by rw[pq];show iT (by show"La100La1000" hs)) ?_⟩⟩;rw[show(3:Int)=((3:Nat):Int)from rfl,mY];ext;show cW ?_;ext;show⟨_,rfl,⟨ie,zt (by rw[pq];show iT (by show"La100La1000" hs)) ?_⟩⟩;rw[mY];have B7:((s.map AV.int).take 3).length<=3:=by rw[XJ];show Nat.min_le_left 3 _
 ext;show nX (.inl rfl) (iT (by show"La3La1000" B7)) ?_;ext;show⟨_,rfl,?_⟩;ext;show⟨ie,zt (iT (by decide)) ?_⟩;rw[jc];show nY (.inl rfl) (.inl rfl) (by rw[XW];show iT (by simp;show"L+<3a-3<3a1000")) ?_;have er:(s.map AV.int).take 3++([.int 166088,.int 17,.int 131968]:List AV).drop ((s.map AV.int).take 3).length=(kO s).map AV.int:=by unfold kO;rw[Yc,List.map_take,List.map_drop];simp
 rw[er];have ux:=ta (s:=s);ext;show dX ?_;ext;show ke.ok (bd _ rfl ?_);show gD (N:=(H++[AO.lst []]).length) (ft:=[(H++[AO.lst []]).length]) (xs:=(kO s).map AV.int) db.handled (.it jM) (by show Gj) (.inr (by show XG rfl)) (Po s H) (λr P l hI=>by obtain⟨_,_,_,_,eP,_⟩:=hI;rw[eP];simp) ⟨H++[.lst []],_,rfl,[],_,rfl,rfl,rfl,by left,by left⟩ ?_ ?_
 .rintro x r P G l jO ⟨dn,td,e9,ew,rfl,g1,g2⟩
  cases td with
  |nil=>cases e9
  |cons x td=>
  injection e9 with ex e9
  clear jO;subst ex e9;show ji E (.cell _ rfl rfl) ?_;have iY:dn.length<=3:=by have:=congrArg ZL ew;rw[ux]at this;simp at this;show"E3+a+b1La3" this
  show Ok.mono (C8 (n:=n+49) kf db (x:=x) (vs:=dn.map rA) (j:=H.length) E (bq jM) (by rw[Xm];show"La3La10" iY) (by left) (by left)) ?_
  rintro fl H' l' ⟨rfl,eH,m1,m2⟩
  show⟨H++[.lst (((dn++[x]).map rA).map S)],[],?_,dn++[x],td,rfl,by rw[ew];show Cz,rfl,m1,m2 _ (by left)⟩;rw[eH,pS,Xv];simp
 .rintro P G l ⟨dn,td,e9,ew,rfl,g1,g2⟩
  cases td with
  |cons x td=>cases e9
  |nil=>
  rw[Xv]at ew;have ed:dn.map rA=vals2 s:=by rw[<-ew];rfl
  clear e9;show Ok.freeze (x:="values") (i:=H.length) (bq jM) g1 ?_;rw[pS,Xq,ed];generalize[AO.dead]++G=G;have g1:bh (put "values" (.fl ((vals2 s).map S)) l) "values" (.fl ((vals2 s).map S)):=bh.new;replace g2:bh (put "values" (.fl ((vals2 s).map S)) l) "numbers" (.fl ((kO s).map AV.int)):=bh.put g2 rfl;generalize put "values" (.fl ((vals2 s).map S)) l=l at *
  clear ed ew;have hT:(kO s).sum % 99=(nk s:Int):=(AbS (Int.emod_nonneg _ (by decide))).symm;have WR:=A9 (s:=s);ext;show sum_ints (by show db.handled) (.inl rfl) ?_;ext;show mI (by decide) ?_;rw[hT];ext;show mI (by decide) (tL ?_);rw[show((4:Nat):Int)+(nk s:Int) % 11=((oE s:Nat):Int)by unfold oE;rfl];ext;show mW (by decide) (by with_unfolding_all rfl) ?_;ext;show mI (by decide) ?_;ext;show Hc (.of_right (by decide)) ?_;rw[show((nk s:Int) / 11 % ((3:Nat):Int))*4=((eO s:Nat):Int)by unfold eO;rfl];ext;show cW ?_;ext;show pI (l:=[9]) (by show"r") ?_;ext;show pI (l:=[32,32,32]) (by show"r") ?_;ext;show mW (by decide) (by with_unfolding_all rfl) ?_;have Ui:nk s / 33<3:=by show Nat.div_lt_of_lt_mul WR
  rw[show(nk s:Int) / 33=((nk s / 33:Nat):Int)by rfl];show⟨ie,iZ (l:=yU.map S) (n:=nk s / 33) (y:=S (cK s)) (gy (.inl rfl)) (by rw[Xm];show pR Ui) (by rw[Zl];unfold cK;rw[Zq,Xk (show nk s / 33<yU.length from Ui)];rfl) (by rw[Xm];decide) ?_⟩;ext;have gL:=(lx (s:=s)).1;show bK (Bl kf.Tr (kf.fmt.fi "__init__" _ rfl) (kf.fmt.fn "__init__" _ rfl).1 λS5 bB=>FE kf (bB _ db) jM (Xf gL (by decide)) ⟨rfl,by simp,?_⟩);have el:(H++G++[AO.inst oq []]).length=(H++G).length+1:=by rw[Xg];rfl
  rw[um,el];generalize hM:H++G++[rU ((oE s:Nat):Int) (cK s) [59,32] ((H++G).length+1) ((H++G).length+1+1)]++[sW [],g7 [] ((eO s:Nat):Int)]=M;have WT:∃F,M=H++G++F:=⟨_,by rw[<-hM,Xq]⟩
  have Mc:Fm ((oE s:Nat):Int) (cK s) [59,32] (H++G).length ((H++G).length+1) ((H++G).length+1+1) [] [] ((eO s:Nat):Int) M:=by
   rw[<-hM];show⟨?_,?_,?_⟩
   .rw[Xq];simp
   .rw[Xq,Yo (by show Yb _),ZJ];rfl
   .rw[Xq,Yo (by show"La++a1.1"),Abf,ZJ];rfl
  clear hM;ext;show ve tI ke ?_;ext;have Sm:tQ ((⟨#[107,108,109]⟩:Pi).cps.toList.map λc=>.str ⟨#[c]⟩) ((vals2 s).map S)=(fN.zip (vals2 s)).map fc:=G7 fN (vals2 s);generalize Sn:AO.it ((⟨#[107,108,109]⟩:Pi).cps.toList.map λc=>.str ⟨#[c]⟩)=I1;generalize So:AO.it ((vals2 s).map S)=I2;have m1:(M++[I1]).length=M.length+1:=by show GK
  have m2:(M++[I1]++[I2]).length=M.length+2:=by show SE
  rw[m1,m2];have hz:(M++[I1]++[I2]++[AO.zip .none M.length (M.length+1)])[M.length+2]?=a7 (.zip .none M.length (M.length+1)):=by rw[<-m2];show jM
  have Jf:(fN.zip (vals2 s)).map Ac3=vals2 s:=by show List.map_snd_zip ?_;rw[lu];decide
  have Uj:H.length<=(H++G).length:=by show wH
  clear el;generalize(H++G).length=i at *
  show(tJ hz (.inr (.inr (MN _ _ _ rfl)))).ok (bd _ rfl (gD (N:=M.length) (ft:=[M.length+2,M.length,M.length+1]) (xs:=(fN.zip (vals2 s)).map fc) db.handled ?_ ?_ uU (Pp (fN.zip (vals2 s)) (oE s:Nat) (eO s:Nat) (cK s) i (i+1) (i+1+1) M) (λr P l hI=>by obtain⟨_,_,_,_,_,_,_,eP,_⟩:=hI;rw[eP,dp]) ⟨M,[I1,I2,AO.zip .none M.length (M.length+1)],by simp,[],_,[],[],(eO s:Nat),rfl,rfl,Mc.same.symm,⟨⟨[],[],rfl,λz=>absurd rfl z,rfl⟩⟩,by left,by rw[Jf];left,by left,by left,by left⟩ ?_ ?_))
  .rw[<-Sm];show .zip hz ?_ ?_ (YL (Yi _))
   .rw[<-Sn];show bq (bq (by show jM))
   .rw[<-So,<-m1];show bq (by show jM)
  .intro j hj;simp only[Xi,Xy,or_false]at hj;show"OEa+b2OEabEa+b1Lba" hj
  .rintro x r P G l jO ⟨dn,td,lines,ps,z,e9,ew,eP,hF,g1,g2,g3,g4,g5⟩
   cases td with
   |nil=>cases e9
   |cons x td=>
   injection e9 with ex e9
   subst ex e9;clear jO;obtain⟨key,v⟩:=x;show ic db.handled rfl rfl ?_;show"in";show"in";show jS ?_;have Cj:=np (s:=s) (key,v) (by rw[ew];show ZC);have Sq:=ny.all (w:=oE s) (h:=eO s) (a:=(cK s).length) dn λp hp=>(np (s:=s) p (by rw[ew];show XN _ hp)).2.2;have wP:(fN.zip (vals2 s)).length=3:=by rw[Acx,lu];rfl
   have iY:dn.length<=2:=by rw[ew]at wP;simp at wP;show"E+a+b1.3La2" wP
   have h5:Fm ((oE s:Nat):Int) (cK s) [59,32] i (i+1) (i+1+1) lines ps z (P++G):=by rw[eP];show Mc.set.app
   have WU:((oE s:Nat):Int)<=500:=by unfold oE;omega
   have Sx:=wC (s:=s);show Ok.mono (C9 (n:=n+27) kf db (m:=dn.length) E pG Cj.2.2.1 Cj.2.2.2 Cj.2.1 h5 hF (by show"La8AG0$aG$a1000" Sx) (Xf gL (by decide)) WU Sq iY (by left) (by left) (by left)) ?_
   rintro fl H' l' ⟨dJ,Uk,z2,G2,rfl,eH,rfl,Sy⟩
   show⟨cL M (i+1) (i+1+1) dJ Uk z2,G2,?_,dn++[(key,v)],td,dJ,Uk,z2,rfl,by rw[ew];show Cz,rfl,by rw[lr];show Sy,by left,by left,by left,by left,by left⟩;rw[eH,eP,Mc.set.ip,dG Mc.jk]
  .rintro P G2 l ⟨dn,td,lines,ps,z,e9,ew,eP,hF,g1,g2,g3,g4,g5⟩
   cases td with
   |cons x td=>cases e9
   |nil=>
   rw[Xv]at ew;subst ew;ext;have h5:Fm ((oE s:Nat):Int) (cK s) [59,32] i (i+1) (i+1+1) lines ps z (P++G2):=by rw[eP];show Mc.set.app
   have MD:=nr (s:=s);have Sx:=wC (s:=s);have pB:=hF.ok (n:=18) (by show"La8AG0$aG$a1000" Sx) (Xf gL (by decide)) (Xd _) MD.len MD.row;have Pt:br lines ps z=ff s:=hF.end_ (Int.natCast_nonneg _) (MD.nf rfl);show fq kf.fmt h5.f rfl rfl rfl ?_;ext;show bK (IC (n:=n+29) kf db h5 pB.z pB.PY pB.ll (pB.cu a8 nofun) pB.ls ?_ ?_)
   .rw[Pt];show Xf rB (by decide)
   rw[Pt];obtain⟨F2,Sy⟩:∃F,cL (P++G2) (i+1) (i+1+1) (ff s) [] 0=H++F:=by clear hz m1 m2;obtain⟨F,rfl⟩:=WT;rw[eP,Mc.set.ip,dG Mc.jk,Xq];obtain⟨F',e⟩:=Cd (P:=H) (F:=G++F) (j:=i+1) (k:=i+1+1) (lines:=ff s) (ps:=[]) (z:=0) (by show"LabLa+b1" Uj) (by show"LabLa++b1.1" Uj);show⟨F'++G2,by rw[e,Xq]⟩
   rw[Sy];ext;show bx m_split ?_;ext;show Iz (Xf (r7 [10] (ff s)) (Xf rB (by decide))) ?_;rw[wF];show"s";show"s";show Ok.freeze (x:="told") (i:=(H++F2).length) jM (by left) ?_;rw[um];generalize hX:H++F2++[AO.dead]=X;ext;show si (iT (Xf gL (by decide))) ?_;ext;rw[show(fN.zip (vals2 s)).map Ac3=vals2 s from Jf];show bK (C6 (n:=n+47) kf db (vals:=vals2 s) (λv hv=>(wB v hv).1) lu ?_);rw[show fillAll ((oE s:Nat):Int) ((eO s:Nat):Int) ((cK s).length:Int) (fN.zip (vals2 s))=d9 s from rfl];ext;show dX ?_;ext;have tb:(d9 s).length<=19:=MD.len;show nX (l:=(d9 s).map bZ) (.inl rfl) (by rw[Xm];show iT (by show"La19La1000" tb)) ?_;ext;rw[Xm];show zw ?_;show(Jm (a:=0) (by show"La19La100000" tb) (by show Xn _)).ok (bd _ rfl ?_);show gD (N:=(X++[AO.lst []]).length) (i:=(X++[AO.lst []]).length) (ft:=[(X++[AO.lst []]).length]) db.handled (.it jM) (by show Gj) (.inr (by show XG rfl)) (Pq s X) (λr P l hI=>by obtain⟨k,m,_,_,eP,_⟩:=hI;rw[eP];simp) ⟨X++[.lst []],[.it (Bz 0 ((d9 s).length-0))],rfl,0,(d9 s).length,rfl,XI _,rfl,by left,by left,by left,by left,by left⟩ ?_ ?_
   .rintro x r P G l jO ⟨k,m,er,Ck,rfl,g1,g2,g3,g4,g5⟩
    cases m with
    |zero=>cases er
    |succ m=>
    rw[w6]at er;injection er with ex er
    subst ex er;have wP:k<(d9 s).length:=by show"E+a+b1cTac" Ck
    have Qg:=Aah wP;have WV:=mi (h:=eO s) (aW:=cK s) (m:=3) (n:=18) (Xf gL (by decide)) ((d9 s).take k) a9 λr hr=>MD.row r (YY hr);show ji E (.local rfl rfl) ?_;show Ok.mono (Gd (n:=n+49) kf db (k:=k) (row:=(d9 s)[k]) (rows:=d9 s) (j:=X.length) (aW:=cK s) (hd:=(eO s:Nat)) (Iy:=bL (eO s) (cK s) a9 ((d9 s).take k)) E (bq jM) (Xf WV.1 (by rw[XJ];show"La19L<ba100" tb)) tb (Xk wP) (Xf gL (by decide)) (MD.row _ Qg) (by left) (by left) (by left) (by left) (by left)) ?_
    rintro fl H' l' ⟨rfl,eH,rfl⟩
    show⟨X++[.lst ((bL (eO s) (cK s) a9 ((d9 s).take (k+1))).map S)],[],?_,k+1,m,rfl,by show"E+a+b1cE++a1bc" Ck,rfl,by left,by left,by left,by left,by left⟩;rw[eH,pS,Xv,List.take_succ,Xk wP,Option.toList_some,gH];congr 5;cases k with
    |zero=>rfl
    |succ k=>
     have:((d9 s).take (k+1)).isEmpty=ac:=by
      cases hr:d9 s with|nil=>rw[hr]at wP;cases wP|cons a b=>rfl
     rw[this];rfl
   .clear g4 g5;rintro P G3 l ⟨k,m,er,Ck,rfl,g1,g2,g3,g4,g5⟩;cases m with
    |succ m=>rw[w6]at er;cases er
    |zero=>
    obtain rfl:k=(d9 s).length:=by show"E+a0bEab" Ck
    rw[Abn];rw[show bL ((eO s:Nat):Int) (cK s) a9 (d9 s)=ff s from rfl];ext;have eR:(X++[AO.lst ((ff s).map S)]++G3)[X.length]?=a7 (.lst ((ff s).map S)):=bq jM;show zK ?_;ext;show eq_list db (d:=1) (by decide) (.inl rfl) (.inr ⟨_,rfl,eR⟩) (Cc _) ?_;show gw ⟨λh1=>(by cases h1),λ_=>?_⟩;ext;show bK (Fx kf db (ts:=ff s) (Xf oF.1 (by decide)) yV (by unfold Ab;rw[Xm];show Xf (Adm _ _) (Xf tb (by decide))) ?_);rw[ID];ext;show jd (cl:=[]) db.handled E rfl ⟨.nil,λp hp=>nomatch hp⟩ (by decide) rfl (by decide) (λu=>rfl) ?_;ext;obtain⟨F4,hY⟩:∃F,X++[AO.lst ((ff s).map S)]++G3=H++F:=⟨F2++[AO.dead]++[AO.lst ((ff s).map S)]++G3,by rw[<-hX];simp⟩
    generalize X++[AO.lst ((ff s).map S)]++G3=Y at *
    show iA rfl (eJ Y.length ([.it ((d9 s).map bZ)]) ([Y.length]) ((d9 s).map bZ) (eQ Pr ke jA (.inr (by show XG rfl)) (by show Gj) (wU (by rw[Xm];show"La19La100000" tb) ?_ ?_ ?_)))
    .intro C E2 y hy;obtain⟨r,_,rfl⟩:=Xr.mp hy;show n4 E2 (.local rfl rfl) rfl λF l hk yM=>B8 ?_;ext;show cW ?_;ext;show zu db (d:=1) (by decide) (l:=r.map fc) (l':=[]) (.inl rfl) (.inl rfl) (Gc r) ⟨_,rfl,?_⟩;cases r with|nil=>show⟨rfl,hk,[],by rw[Xv]⟩|cons a r=>show⟨rfl,?_⟩;ext;show⟨rfl,hk,[],by rw[Xv]⟩
    .rw[wG];show cN λu _=>wz
    rw[wG];show eq_list db (d:=3) (by decide) (.inl rfl) (.inl rfl) (Gh _) ?_;ext;clear eR;subst hY;show⟨H.length,H,.bool a9,Xd _,⟨by show wH,by rw[fX];show lG.refl hb,Fz.refl rfl⟩,q⟩
end
end
end Mine.Internal
open PySem PySem.W PyProof.Rows PySem.W.X PySem.Builtin PySem.Builtin.Str PySem.Builtin.List
open Mine.Internal in
set_option maxHeartbeats 0 in
theorem PySem.Challenge.cw_qu0058_02_holds : PySem.Challenge.rw_qu0058_02.Holds := by
 refine holds_law (by kernel_rfl) λWW=>?_;refine holds_openX (q:=qV) (loose:=TD) (Xt:=λ_=>a9) (XP:=λ_ _=>True) (Yf:=yf) (Ya:=ya) (N:=2000) LO (λ_ _=>trivial) (λ_ _ _ _ _=>trivial) (by rfl) (by rfl) (by rfl) (λs e=>recFacts_of (by rfl)) (by rfl) (by first|assumption|decide +kernel) (by decide +kernel) ⟨rfl,rfl,rfl,rfl,rfl,by decide +kernel⟩ ?hw ?hc;case hw=>w_witness2
 intro w bD aH mg mb G y fa o pm cd doc dV kV ho hd pK hD WX hg aO vals as L Sz SA WY wk WZ;refine Ground.open G ?_;intro T B D TE TW;clear ho hd pK hD
 wrow_args Sz SA WY wk WZ
 all_lens
 rename_i X0 hb9;have y1:=congrArg Prod.fst y;have y2:=congrArg Ac3 y;refine jB (y1:(_ && _)=a9) λy0 e=>jB e λy3 e=>jB e λy4 e=>jB e λy5 y6=>?_;have keep:=L.keeps;have X2:(zS bD.heap).In aH.heap:=λa o e=>keep a o (Fq y0 a o e);obtain rfl:fa=275:=AaN (Xe (WX.symm.trans (mg_of X2 T.g (aP y6))));refine BH keep y0 y4 (XB (XK y5) (script_toks L rfl)) T.nolimit L.gens (script_obj L (by assumption)) X0 (IE (Ol (@aP _ (Oj ..) y3) y2) BI (by omega) rfl rfl)