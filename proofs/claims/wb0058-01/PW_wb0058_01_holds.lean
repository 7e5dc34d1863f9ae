import PyProof.Rows.All
import PyProof.StrLawsReplace
import KE.KLam
import OpenK.XSeg
import Wide.FinOn
import OpenK.AllK
import Wide.All
import Lean
import PySem.Challenge.RW_wb0058_01
set_option genInjectivity false
set_option genSizeOf false
set_option maxRecDepth 100000
set_option Elab.async false
set_option linter.all false
set_option tactic.hygienic false
open Eq renaming substr->zF,refl->AH,symm->AM,trans->Dn
open Option.some renaming inj->zG,injEq->zV
open Nat renaming le_trans->zH,lt_of_lt_of_le->zI,lt_irrefl->zJ,le_of_ble_eq_true->zS,le_refl->zW,zero_le->Ae,add_le_add->Ah,le_of_eq->Ax,lt_of_le_of_lt->Ay,add_le_add_left->AA,le_add_right->AC,add_le_add_right->AD,lt_succ_self->AL,zero_add->AV,le_of_succ_le->AX,mul_le_mul_left->Bh,lt_succ_of_lt->By,min_le_right->BR,lt_trans->BU,le_of_lt->BV,add_comm->B0,succ_le_succ->B9,not_lt_of_le->Ca,le_succ_of_le->Cn,le_add_left->Cy,sub_le->CJ,ne_of_lt->CN,le_succ->CZ,lt_or_ge->Dv,mul_le_mul->DC,le_of_lt_succ->DL,lt_succ_iff_lt_or_eq->DM,add_assoc->DN,not_lt->D3,not_lt_zero->D9,sub_le_sub_right->Ej,not_le_of_lt->E3,le_of_not_lt->E4,mul_one->E6,min_le_left->Fl,succ_mul->F4,not_succ_le_zero->Gk
open PySem renaming wpAny_bind->zK,Shared->zL,wpAny_pure->zR,wpAny_execs_cons->zZ,wpAny_loadName_local->Af,wpAny_mono->Ak,Around->Av,wpAny_Name->Aw,mainGlobals->AE,strKind->AQ,wpAny_standAt->AS,wpAny_Assign_Name->AU,wpAny_truthy_bool->AZ,wpAny_Call_Name_kw->Bc,builtinsNs->Bq,Fin->Bt,wpAny_newObj_type->Bz,FuncData->BD,wpAny_holding->BE,wpAny_execs_nil->BF,cellsFrom->BJ,wpAny_assign_Name->BY,codeAny->BZ,starEach->B8,sysModules->Cg,theTreesLotGoes->Cp,letOwnedTupleGo->Cq,assign->Ct,typeIs_str->Cz,codeAny_of_tree->CA,wpAny_storeName_local->CF,wpAny_isTrue_Compare1->CG,codeAny_call_function->CH,Result->CI,wpAny_Return_some->CK,constantsAlone->CQ,Operator->CS,codeAny_mono->CV,intKind->C2,wpAny_call->C4,storeName->C6,Builtin->Da,valueAt->Dj,clipAt->Dk,plainObj_wpAny_Assign_Attribute->Dm,pyNext->Do,pushCells->Dp,noteFrame->Dq,assignEach->Ds,GenState->Dx,rawInt->Dz,pushCells_keeps->DA,Params->DB,BoolOp->DE,standAt->DH,relabel->DI,Call_method1->DJ,wpAny_noted->DV,interactive->DW,forTurn->DX,foldedSetIterable->DY,wpAny_onRaise->D0,swappedStores->D1,backTo->D2,Comprehension->D7,wpAny_Assign_Subscript->Ee,codeAny_func->Eg,closureFor->Eh,Expr->Es,wpAny_of_eq->EB,isTrue->EC,isSubtype_type->ED,bindArgs->EE,codeAmong->EJ,wpAny_Constant_none->ES,comprehension->ET,attributeBase->EU,wpAny_rule->EY,wpAny_getItem_list->EZ,spliced->Fc,slot_list_getitem->Fd,firstIterPos->Ff,compTurn->Fh,arm_eval_ListComp->Fi,FuncBody->Fn,wpAny_call_entry->FA,pyIter->FB,compareOp->FD,MethodOnS->FG,Ctx->FM,exec_Assign_arm->FN,call_isinstance->FO,wpAny_If->FU,newFunctionEnv->FW,isSame->FX,bindName->FY,PyData->FZ,wpAny_comprehension_free->Gd,wpAny_attempt->Ge,swapsWithSole->Gf,method1_meets->Gg,assignInOrder->Gh,wpAny_unpackItems_tuple->Gq,wpAny_list_append_plain->Gr,wpAny_callSpecial?_slot->Gs,swapsWith->Gu,assignAll->Gw,name_of_addr->GE,makeFunction->GF,holding->GG,denote->GH
open List renaming length_append->zM,forall_mem_cons->zN,mem_cons_of_mem->zT,mem_cons_self->zU,length_map->zX,mem_singleton->zY,lookup_cons->z5,range->z6,mem_append->z7,map_cons->z8,mem_cons->Ab,mem_map->Ac,all_eq_true->Ag,mem_append_left->Ai,getElem?_eq_getElem->Am,flatMap_cons->Ao,getElem?_eq_some_iff->Ap,contains_iff_mem->Au,append_assoc->Az,length_cons->AB,append_nil->AF,mem_append_right->AI,map_map->AO,getElem?_map->AR,zip_cons_cons->AY,nodup_cons->Bi,mem_filter->Bj,size_toArray->Bp,map_append->Br,length_range->Bv,pairwise_cons->BB,find?_cons->BC,toList_toArray->BG,mem_range->BH,mem_of_getElem?->BK,getD_eq_getElem?_getD->BN,pairwise_singleton->BX,lookup->B3,length_drop->B6,getElem_map->B7,mem_of_find?_eq_some->Cf,of_mem_zip->Ci,map_congr_left->Cr,forall_mem_nil->Cs,take_of_length_le->Cu,length_set->Cv,length_nil->Cw,mapM_cons->CC,length->CD,map_nil->CL,nodup_append->C3,take_append_drop->C7,lookup_cons_self->C8,length_singleton->C9,not_mem_nil->Dc,mem_reverse->Dd,mem_flatMap->De,map_reverse->Dg,ext_getElem->Dh,any_cons->Dl,contains_cons->Dy,getElem?_append_left->DG,map->DP,lookup_eq_none_iff->DQ,length_take->DR,isEmpty_iff->DS,getElem?_cons_zero->DT,head?_drop->D4,forIn_cons->D5,find?_some->D6,nodup_nil->Ea,drop_left->Eb,drop_drop->Ec,getElem?_range->En,flatMap_append->Eo,filterMap_cons->Ep,all_cons->Eu,getElem_range->Ez,find?_eq_none->EA,getElem?_set->EN,filter_cons->EV,cons_append->EW,range_succ->E8,nil_append->E9,foldl_cons->Fb,take_left->Fs,replicate->Ft,isPrefixOf_iff_prefix->Fu,getElem?_append_right->Fv,getElem?_cons_succ->FQ,pairwise_reverse->F5,length_filter_le->F6,getElem?_toArray->F7,dropLast_eq_take->F8,getElem?_of_mem->Gc,zip_nil_right->Gz,map_singleton->GA,head?->GB,zip_nil_left->GL,reverse_cons->GM,getElem?_inj->GN,find?_append->GO,any_eq_false->GP
open Option renaming bind_eq_some_iff->zO,bind_eq_bind->zQ,map_eq_some_iff->Aa,bind_some->Ad,isNone_iff_eq_none->Cc,map_some->Cd,isSome_iff_exists->DF,getD_some->EL,getD_none->EM,pure_def->GK
open PySem.Heap renaming get?_push_of_some->z9,get?_push_size->Aj,lt_size->Al,size_push->Aq,get?_none_of_le->AG,Ns->BO,IsCell->B5,get?_update_self->Cb,SameBut->Cm
open Array renaming length_toList->An,getElem?_eq_some_iff->BA,getElem?_toList->BP,toList_append->CP,find?_toList->Ey,getElem?_setIfInBounds_ne->EP,toList_setIfInBounds->Fp,getElem?_eq_getElem->Fy,size_append->GD,any_toList->GV
open Int renaming natCast_nonneg->Ar,ofNat_lt->BW,toNat_natCast->Co,ofNat_le->C5,le_trans->Dw,lt_of_le_of_lt->DD,neg_nonpos_of_nonneg->DO,natCast_pos->Fm,toNat_lt->F9,fmod_nonneg_of_pos->Ga,natAbs_of_nonneg->Gl,fmod->Gm,fdiv->Gp,toNat_of_nonneg->GC,not_lt->GQ,not_le->GS,add_sub_cancel->GT
open Bool renaming and_eq_true_iff->As,false_eq_true->AK,and_eq_true->Bu,false_ne_true->BQ,or_eq_true->Cx,and_false->CE,eq_iff_iff->CW,or_eq_true_iff->Dt,noConfusion->DU,or_false->Ew,not_eq_true'->EO,or_true->FT,eq_false_iff->GU
open PySem.Calls renaming spliced_cons->AJ,spliced_nil->Bn,evalArgs_plain->CB,callWith_builtin->C1,callWith_function->DZ,Name_function_global->EF,Constant_str->Fo
open List.cons renaming inj->AN,injEq->EG
open List.Pairwise renaming nil->AW,map->CO,imp->Fw
open PySem.Expr renaming Name->A0,Tuple->El
open PySem.Builtin.Str renaming strSliceIndices->Bk,occurrences->EX
open PySem.Sem renaming bind_eq_wrap'->Bx,wrap_wrap->BS,wrap->FE,onRaise_eq_wrap->Gy
open PySem.PyData renaming eqv->BI,depthAll->CR,keyHash->CY,canLay0->D8,int->Em,list->FR,canLayAll0->Gj
open Prod.mk renaming injEq->BL
open ForInStep renaming yield->BM
open PySem.Heap.SameBut renaming update->Ce
open PySem.W renaming instObj->Cj,findIn->Dr,handedIn->Fe,lookIn->FC,specialIn->Gv
open PySem.Txt renaming split->Ck,contains->Du,find->Ei,replace->Gi
open PySem.Code renaming builtin->CM
open PySem.Heap.IsCell renaming keeps->CU
open PySem.F renaming plainAttrs_str->CX,slot_str_translate->E0,slot_str_getitem->Fj,slot_list_extend->Fk,plainAttrs_list->Fq,slot_str_split->FF,slot_str_join->FH,slot_list_pop->FL
open List.Nodup renaming length_le_of_subset->C0
open PySem.Frame renaming guarded->Di,where_->EH
open Nat.succ renaming inj->DK
open PySem.Builtin.Generator renaming genWake->Ed
open PyProof.Rows renaming isTrue_plain->Ef,Attribute_any_->EI,step_dedup->FV
open Classical renaming not_not->Ek
open Iff renaming rfl->Er
open Ne renaming symm->Et
open PySem.Str renaming ofString->FP
open PySem.Heap.DictOf renaming new->FS
open PySem.StrLaws renaming found_one->Gb
open PyProof.Rows.Copied renaming erase_last_eq_pop->GJ
open PySem PySem.W PySem.Calls PyProof.Rows
section
set_option maxHeartbeats 4000000
namespace Mine
set_option hygiene false in
local macro_rules |`(tactic| o_head $_:term)=>`(tactic| exact h)
theorem kSeed (h:PySem.Challenge.rw_wb0058_01.row.Holds):PySem.Challenge.rw_wb0058_01.row.Holds:=by km_head
noncomputable abbrev q1:Program:=view PySem.Challenge.pw_wb0058_01 [1,2,4,5,6,7,8,9,11,12,13,14,15,16,18,19,20,21,22,23,24,25,26,27,28,29,30,31]
noncomputable abbrev loose1:List Str:=[Str.ofString "_SelectorContext", Str.ofString "_special_chars_map"]
noncomputable abbrev as1:List Addr:=[2,3,16,20,22,23,25,26,27,29,30,32,33,34,36,37,39,40,41,43,44,46,47,48,50,51,53,54,55,57,58,60,61,69,71,72,74,75,76,77,78,79,80,83,85,86,88,89,90,92,93,95,96,97,99,100,102,103,104,106,107,109,110,111,113,114,116,117,118,120,121,123,124,125,127,128,130,131,132,134,135,137,138,139,141,142,144,145,146,148,149,151,152,153,156,157,158,160,161,163,164,165,168,169,170,172,173,175,176,177,180,181,182,184,185,187,188,189,191,192,194,195,196,199,200,201,204,205,206,208,209,211,212]
noncomputable abbrev k1:Params->Frag:=kSeed.heap_1
theorem as1_eq:∀P,as1=(k1 P).map (·.1):=fun P=>by kernel_rfl
noncomputable abbrev H1:Hook:=kmHook k1 as1 as1_eq [42,49,56,190]
noncomputable abbrev r1:OpenRow:=PySem.Challenge.rw_wb0058_01.row
noncomputable abbrev X1 (s:Shared):Bool:=xlAt q1 [] s&&recOk (RowW.records r1.toRowW) s
noncomputable def P1 (w:World):Prop:=(openEnds treeTable r1.prog w 6000).map (fun s=>(openSeen q1 loose1 (importedModules r1.prog.main.body) X1 true s,Hook.obs H1 s))=some (openGood q1 loose1,Hook.val H1 w)
theorem left4 {P:World->Prop}(n1 n2:String)(h1:∀w:World,P ((w.withFollow n1 false).withFollow n2 false))(h2:∀w:World,P ((w.withFollow n1 false).withFollow n2 true))
  (h3:∀w:World,P ((w.withFollow n1 true).withFollow n2 false)) (h4:∀w:World,P ((w.withFollow n1 true).withFollow n2 true)) (w:World):P w:=
 byRow2 n2 (P:=P) (byRow2 n1 (P:=fun w=>P (w.withFollow n2 false)) h1 h3) (byRow2 n1 (P:=fun w=>P (w.withFollow n2 true)) h2 h4) w
theorem leaf1 (w:World):P1 ((w.withFollow "comprehension-iter-twice" false).withFollow "special-get-raises" false):=by
 delta P1 openEnds fencedOpening topFrom
 rewrite [PySem.W.Fast.te14082659384304107361,PySem.W.Fast.te10274390034422433532,PySem.W.Fast.te14289696077712309145,PySem.W.Fast.te4187177175401517315,PySem.W.Fast.te1435165496053646825,PySem.W.Fast.te14364793385576792824]
 kernel_rfl
theorem leaf2 (w:World):P1 ((w.withFollow "comprehension-iter-twice" false).withFollow "special-get-raises" true):=by
 delta P1 openEnds fencedOpening topFrom
 rewrite [PySem.W.Fast.te14082659384304107361,PySem.W.Fast.te10274390034422433532,PySem.W.Fast.te14289696077712309145,PySem.W.Fast.te4187177175401517315,PySem.W.Fast.te1435165496053646825,PySem.W.Fast.te14364793385576792824]
 kernel_rfl
theorem leaf3 (w:World):P1 ((w.withFollow "comprehension-iter-twice" true).withFollow "special-get-raises" false):=by
 delta P1 openEnds fencedOpening topFrom
 rewrite [PySem.W.Fast.te14082659384304107361,PySem.W.Fast.te10274390034422433532,PySem.W.Fast.te14289696077712309145,PySem.W.Fast.te4187177175401517315,PySem.W.Fast.te1435165496053646825,PySem.W.Fast.te14364793385576792824]
 kernel_rfl
theorem leaf4 (w:World):P1 ((w.withFollow "comprehension-iter-twice" true).withFollow "special-get-raises" true):=by
 delta P1 openEnds fencedOpening topFrom
 rewrite [PySem.W.Fast.te14082659384304107361,PySem.W.Fast.te10274390034422433532,PySem.W.Fast.te14289696077712309145,PySem.W.Fast.te4187177175401517315,PySem.W.Fast.te1435165496053646825,PySem.W.Fast.te14364793385576792824]
 kernel_rfl
theorem leftAll:∀w,P1 w:=left4 (P:=P1) "comprehension-iter-twice" "special-get-raises" leaf1 leaf2 leaf3 leaf4
theorem law_said:PySem.Challenge.rw_wb0058_01.wellSaid=true:=by
 rewrite [PySem.W.Fast.te9446332074065402090]
 kernel_rfl
theorem hd (walk:∀(w:World)(s₀ s₁:Shared)(mg mb:Str->Option Value),Ground q1 loose1 r1.toRowW.records (XL q1 []) w s₀ mg mb s₁.heap->H1.says w s₁.heap->∀a,mg (Str.ofString "law")=some (.ref a)->s₁.gens=#[]->
  ∀(args:List WData) (vals:List Value) (as:List Addr),r1.toRowW.claim.pre args=true->WData.layableAll args=true->ReadsAllW r1.toRowW.records (classAt s₀.heap) s₁.heap vals args as->WellAll w.params s₁.heap vals args->(∀a∈as,(a==sysModules)=false)->
   wpAny (model r1.toRowW.prog w) callerA (PySem.call (.ref a) vals) (fun v s'=>GoodWG r1.toRowW.claim (classAt s₀.heap) (ExcName.means s₀.heap) args s₁ (.ok (.ret v)) s')
    (fun e s'=>GoodWG r1.toRowW.claim (classAt s₀.heap) (ExcName.means s₀.heap) args s₁ (.error e) s') s₁):PySem.Challenge.rw_wb0058_01.Holds:=by
 refine holds_law law_said fun said=>?_;refine holds_open (q:=q1) (loose:=loose1) (Xt:=X1) (XP:=XL q1 []) (Yf:=Hook.obs H1) (Ya:=Hook.val H1) (YP:=Hook.says H1) (N:=6000) leftAll (Hook.of H1) (Hook.keeps H1) (fun s e=>xl_of s (Bool.and_eq_true_iff.mp e).1) XL.keeps (by rfl) (by rfl) (by rfl) (fun s e=>recFacts_of (Bool.and_eq_true_iff.mp e).2) (by rfl) (by first|assumption|decide +kernel) (by decide +kernel) ⟨rfl,rfl,rfl,rfl,rfl,by decide +kernel⟩ ?hw ?hc
 case hw=>w_witness2
 case hc=>exact fun w s₀ s₁ mg mb G Y a o pm cd doc dV kV _ _ _ _ hmg hg=>walk w s₀ s₁ mg mb G Y a hmg hg
end Mine
end
namespace Mine
noncomputable abbrev VS:=Value->Shared->Prop
noncomputable abbrev AP:=Addr->Prop
noncomputable abbrev LK:=List (Nat×NameKind)
noncomputable abbrev qq (l a b:Nat):Pos:=⟨l,a,l,b⟩
theorem aS  {A1 A2:Prop}{P:Prop}(h:A1/\A2)(k:A1->A2->P):P:=by obtain⟨h1,h2⟩:=h;exact k h1 h2
theorem x1 {α1:Sort _}{A1:α1->Prop}{P:Prop}(h:∃a1:α1,A1 a1)(k:∀a1:α1,A1 a1->P):P:=by obtain⟨a1,h1⟩:=h;exact k a1 h1
theorem vx  {A1 A2 A3:Prop}{P:Prop}(h:A1/\A2/\A3)(k:A1->A2->A3->P):P:=by obtain⟨h1,h2,h3⟩:=h;exact k h1 h2 h3
theorem rY {α1:Sort _}{A1:Prop}{A2:α1->Prop}{P:Prop}(h:A1/\∃a1:α1,A2 a1)(k:A1->∀a1:α1,A2 a1->P):P:=by obtain⟨h1,a1,h2⟩:=h;exact k h1 a1 h2
theorem am {α1:Sort _}{A1 A2:α1->Prop}{P:Prop}(h:∃a1:α1,A1 a1/\A2 a1)(k:∀a1:α1,A1 a1->A2 a1->P):P:=by obtain⟨a1,h1,h2⟩:=h;exact k a1 h1 h2
theorem x2 {α1:Sort _}{α2:Sort _}{A1:α1->α2->Prop}{P:Prop}(h:∃a1:α1,∃a2:α2,A1 a1 a2)(k:∀a1:α1,∀a2:α2,A1 a1 a2->P):P:=by obtain⟨a1,a2,h1⟩:=h;exact k a1 a2 h1
theorem x03  {A1 A2 A3 A4:Prop}{P:Prop}(h:A1/\A2/\A3/\A4)(k:A1->A2->A3->A4->P):P:=by obtain⟨h1,h2,h3,h4⟩:=h;exact k h1 h2 h3 h4
theorem x0111 {α1:Sort _}{A1:Prop}{A2 A3:α1->Prop}{P:Prop}(h:A1/\∃a1:α1,A2 a1/\A3 a1)(k:A1->∀a1:α1,A2 a1->A3 a1->P):P:=by obtain⟨h1,a1,h2,h3⟩:=h;exact k h1 a1 h2 h3
theorem oQ {α1:Sort _}{A1 A2 A3:α1->Prop}{P:Prop}(h:∃a1:α1,A1 a1/\A2 a1/\A3 a1)(k:∀a1:α1,A1 a1->A2 a1->A3 a1->P):P:=by obtain⟨a1,h1,h2,h3⟩:=h;exact k a1 h1 h2 h3
theorem vw {α1:Sort _}{α2:Sort _}{A1 A2:α1->α2->Prop}{P:Prop}(h:∃a1:α1,∃a2:α2,A1 a1 a2/\A2 a1 a2)(k:∀a1:α1,∀a2:α2,A1 a1 a2->A2 a1 a2->P):P:=by obtain⟨a1,a2,h1,h2⟩:=h;exact k a1 a2 h1 h2
theorem x3 {α1:Sort _}{α2:Sort _}{α3:Sort _}{A1:α1->α2->α3->Prop}{P:Prop}(h:∃a1:α1,∃a2:α2,∃a3:α3,A1 a1 a2 a3)(k:∀a1:α1,∀a2:α2,∀a3:α3,A1 a1 a2 a3->P):P:=by obtain⟨a1,a2,a3,h1⟩:=h;exact k a1 a2 a3 h1
theorem x04  {A1 A2 A3 A4 A5:Prop}{P:Prop}(h:A1/\A2/\A3/\A4/\A5)(k:A1->A2->A3->A4->A5->P):P:=by obtain⟨h1,h2,h3,h4,h5⟩:=h;exact k h1 h2 h3 h4 h5
theorem x031 {α1:Sort _}{A1 A2 A3:Prop}{A4:α1->Prop}{P:Prop}(h:A1/\A2/\A3/\∃a1:α1,A4 a1)(k:A1->A2->A3->∀a1:α1,A4 a1->P):P:=by obtain⟨h1,h2,h3,a1,h4⟩:=h;exact k h1 h2 h3 a1 h4
theorem x0112 {α1:Sort _}{A1:Prop}{A2 A3 A4:α1->Prop}{P:Prop}(h:A1/\∃a1:α1,A2 a1/\A3 a1/\A4 a1)(k:A1->∀a1:α1,A2 a1->A3 a1->A4 a1->P):P:=by obtain⟨h1,a1,h2,h3,h4⟩:=h;exact k h1 a1 h2 h3 h4
theorem x013 {α1:Sort _}{α2:Sort _}{α3:Sort _}{A1:Prop}{A2:α1->α2->α3->Prop}{P:Prop}(h:A1/\∃a1:α1,∃a2:α2,∃a3:α3,A2 a1 a2 a3)(k:A1->∀a1:α1,∀a2:α2,∀a3:α3,A2 a1 a2 a3->P):P:=by obtain⟨h1,a1,a2,a3,h2⟩:=h;exact k h1 a1 a2 a3 h2
theorem x13 {α1:Sort _}{A1 A2 A3 A4:α1->Prop}{P:Prop}(h:∃a1:α1,A1 a1/\A2 a1/\A3 a1/\A4 a1)(k:∀a1:α1,A1 a1->A2 a1->A3 a1->A4 a1->P):P:=by obtain⟨a1,h1,h2,h3,h4⟩:=h;exact k a1 h1 h2 h3 h4
theorem ke {α1:Sort _}{α2:Sort _}{A1:α1->Prop}{A2 A3:α1->α2->Prop}{P:Prop}(h:∃a1:α1,A1 a1/\∃a2:α2,A2 a1 a2/\A3 a1 a2)(k:∀a1:α1,A1 a1->∀a2:α2,A2 a1 a2->A3 a1 a2->P):P:=by obtain⟨a1,h1,a2,h2,h3⟩:=h;exact k a1 h1 a2 h2 h3
theorem lM {α1:Sort _}{α2:Sort _}{A1 A2 A3:α1->α2->Prop}{P:Prop}(h:∃a1:α1,∃a2:α2,A1 a1 a2/\A2 a1 a2/\A3 a1 a2)(k:∀a1:α1,∀a2:α2,A1 a1 a2->A2 a1 a2->A3 a1 a2->P):P:=by obtain⟨a1,a2,h1,h2,h3⟩:=h;exact k a1 a2 h1 h2 h3
theorem x31 {α1:Sort _}{α2:Sort _}{α3:Sort _}{A1 A2:α1->α2->α3->Prop}{P:Prop}(h:∃a1:α1,∃a2:α2,∃a3:α3,A1 a1 a2 a3/\A2 a1 a2 a3)(k:∀a1:α1,∀a2:α2,∀a3:α3,A1 a1 a2 a3->A2 a1 a2 a3->P):P:=by obtain⟨a1,a2,a3,h1,h2⟩:=h;exact k a1 a2 a3 h1 h2
theorem x14 {α1:Sort _}{A1 A2 A3 A4 A5:α1->Prop}{P:Prop}(h:∃a1:α1,A1 a1/\A2 a1/\A3 a1/\A4 a1/\A5 a1)(k:∀a1:α1,A1 a1->A2 a1->A3 a1->A4 a1->A5 a1->P):P:=by obtain⟨a1,h1,h2,h3,h4,h5⟩:=h;exact k a1 h1 h2 h3 h4 h5
theorem x1211 {α1:Sort _}{α2:Sort _}{A1 A2:α1->Prop}{A3 A4:α1->α2->Prop}{P:Prop}(h:∃a1:α1,A1 a1/\A2 a1/\∃a2:α2,A3 a1 a2/\A4 a1 a2)(k:∀a1:α1,A1 a1->A2 a1->∀a2:α2,A3 a1 a2->A4 a1 a2->P):P:=by obtain⟨a1,h1,h2,a2,h3,h4⟩:=h;exact k a1 h1 h2 a2 h3 h4
theorem x23 {α1:Sort _}{α2:Sort _}{A1 A2 A3 A4:α1->α2->Prop}{P:Prop}(h:∃a1:α1,∃a2:α2,A1 a1 a2/\A2 a1 a2/\A3 a1 a2/\A4 a1 a2)(k:∀a1:α1,∀a2:α2,A1 a1 a2->A2 a1 a2->A3 a1 a2->A4 a1 a2->P):P:=by obtain⟨a1,a2,h1,h2,h3,h4⟩:=h;exact k a1 a2 h1 h2 h3 h4
theorem wL {α1:Sort _}{α2:Sort _}{α3:Sort _}{A1 A2 A3:α1->α2->α3->Prop}{P:Prop}(h:∃a1:α1,∃a2:α2,∃a3:α3,A1 a1 a2 a3/\A2 a1 a2 a3/\A3 a1 a2 a3)(k:∀a1:α1,∀a2:α2,∀a3:α3,A1 a1 a2 a3->A2 a1 a2 a3->A3 a1 a2 a3->P):P:=by obtain⟨a1,a2,a3,h1,h2,h3⟩:=h;exact k a1 a2 a3 h1 h2 h3
theorem iR {α1:Sort _}{α2:Sort _}{α3:Sort _}{A1:α1->Prop}{A2:α1->α2->Prop}{A3 A4:α1->α2->α3->Prop}{P:Prop}(h:∃a1:α1,A1 a1/\∃a2:α2,A2 a1 a2/\∃a3:α3,A3 a1 a2 a3/\A4 a1 a2 a3)(k:∀a1:α1,A1 a1->∀a2:α2,A2 a1 a2->∀a3:α3,A3 a1 a2 a3->A4 a1 a2 a3->P):P:=by obtain⟨a1,h1,a2,h2,a3,h3,h4⟩:=h;exact k a1 h1 a2 h2 a3 h3 h4
theorem x24 {α1:Sort _}{α2:Sort _}{A1 A2 A3 A4 A5:α1->α2->Prop}{P:Prop}(h:∃a1:α1,∃a2:α2,A1 a1 a2/\A2 a1 a2/\A3 a1 a2/\A4 a1 a2/\A5 a1 a2)(k:∀a1:α1,∀a2:α2,A1 a1 a2->A2 a1 a2->A3 a1 a2->A4 a1 a2->A5 a1 a2->P):P:=by obtain⟨a1,a2,h1,h2,h3,h4,h5⟩:=h;exact k a1 a2 h1 h2 h3 h4 h5
theorem x33 {α1:Sort _}{α2:Sort _}{α3:Sort _}{A1 A2 A3 A4:α1->α2->α3->Prop}{P:Prop}(h:∃a1:α1,∃a2:α2,∃a3:α3,A1 a1 a2 a3/\A2 a1 a2 a3/\A3 a1 a2 a3/\A4 a1 a2 a3)(k:∀a1:α1,∀a2:α2,∀a3:α3,A1 a1 a2 a3->A2 a1 a2 a3->A3 a1 a2 a3->A4 a1 a2 a3->P):P:=by obtain⟨a1,a2,a3,h1,h2,h3,h4⟩:=h;exact k a1 a2 a3 h1 h2 h3 h4
theorem x42 {α1:Sort _}{α2:Sort _}{α3:Sort _}{α4:Sort _}{A1 A2 A3:α1->α2->α3->α4->Prop}{P:Prop}(h:∃a1:α1,∃a2:α2,∃a3:α3,∃a4:α4,A1 a1 a2 a3 a4/\A2 a1 a2 a3 a4/\A3 a1 a2 a3 a4)(k:∀a1:α1,∀a2:α2,∀a3:α3,∀a4:α4,A1 a1 a2 a3 a4->A2 a1 a2 a3 a4->A3 a1 a2 a3 a4->P):P:=by obtain⟨a1,a2,a3,a4,h1,h2,h3⟩:=h;exact k a1 a2 a3 a4 h1 h2 h3
theorem x6 {α1:Sort _}{α2:Sort _}{α3:Sort _}{α4:Sort _}{α5:Sort _}{α6:Sort _}{A1:α1->α2->α3->α4->α5->α6->Prop}{P:Prop}(h:∃a1:α1,∃a2:α2,∃a3:α3,∃a4:α4,∃a5:α5,∃a6:α6,A1 a1 a2 a3 a4 a5 a6)(k:∀a1:α1,∀a2:α2,∀a3:α3,∀a4:α4,∀a5:α5,∀a6:α6,A1 a1 a2 a3 a4 a5 a6->P):P:=by obtain⟨a1,a2,a3,a4,a5,a6,h1⟩:=h;exact k a1 a2 a3 a4 a5 a6 h1
theorem x25 {α1:Sort _}{α2:Sort _}{A1 A2 A3 A4 A5 A6:α1->α2->Prop}{P:Prop}(h:∃a1:α1,∃a2:α2,A1 a1 a2/\A2 a1 a2/\A3 a1 a2/\A4 a1 a2/\A5 a1 a2/\A6 a1 a2)(k:∀a1:α1,∀a2:α2,A1 a1 a2->A2 a1 a2->A3 a1 a2->A4 a1 a2->A5 a1 a2->A6 a1 a2->P):P:=by obtain⟨a1,a2,h1,h2,h3,h4,h5,h6⟩:=h;exact k a1 a2 h1 h2 h3 h4 h5 h6
theorem x2122 {α1:Sort _}{α2:Sort _}{α3:Sort _}{α4:Sort _}{A1:α1->α2->Prop}{A2 A3 A4:α1->α2->α3->α4->Prop}{P:Prop}(h:∃a1:α1,∃a2:α2,A1 a1 a2/\∃a3:α3,∃a4:α4,A2 a1 a2 a3 a4/\A3 a1 a2 a3 a4/\A4 a1 a2 a3 a4)(k:∀a1:α1,∀a2:α2,A1 a1 a2->∀a3:α3,∀a4:α4,A2 a1 a2 a3 a4->A3 a1 a2 a3 a4->A4 a1 a2 a3 a4->P):P:=by obtain⟨a1,a2,h1,a3,a4,h2,h3,h4⟩:=h;exact k a1 a2 h1 a3 a4 h2 h3 h4
theorem x34 {α1:Sort _}{α2:Sort _}{α3:Sort _}{A1 A2 A3 A4 A5:α1->α2->α3->Prop}{P:Prop}(h:∃a1:α1,∃a2:α2,∃a3:α3,A1 a1 a2 a3/\A2 a1 a2 a3/\A3 a1 a2 a3/\A4 a1 a2 a3/\A5 a1 a2 a3)(k:∀a1:α1,∀a2:α2,∀a3:α3,A1 a1 a2 a3->A2 a1 a2 a3->A3 a1 a2 a3->A4 a1 a2 a3->A5 a1 a2 a3->P):P:=by obtain⟨a1,a2,a3,h1,h2,h3,h4,h5⟩:=h;exact k a1 a2 a3 h1 h2 h3 h4 h5
theorem x43 {α1:Sort _}{α2:Sort _}{α3:Sort _}{α4:Sort _}{A1 A2 A3 A4:α1->α2->α3->α4->Prop}{P:Prop}(h:∃a1:α1,∃a2:α2,∃a3:α3,∃a4:α4,A1 a1 a2 a3 a4/\A2 a1 a2 a3 a4/\A3 a1 a2 a3 a4/\A4 a1 a2 a3 a4)(k:∀a1:α1,∀a2:α2,∀a3:α3,∀a4:α4,A1 a1 a2 a3 a4->A2 a1 a2 a3 a4->A3 a1 a2 a3 a4->A4 a1 a2 a3 a4->P):P:=by obtain⟨a1,a2,a3,a4,h1,h2,h3,h4⟩:=h;exact k a1 a2 a3 a4 h1 h2 h3 h4
theorem nM {α1:Sort _}{α2:Sort _}{α3:Sort _}{α4:Sort _}{A1:α1->Prop}{A2:α1->α2->Prop}{A3:α1->α2->α3->Prop}{A4 A5:α1->α2->α3->α4->Prop}{P:Prop}(h:∃a1:α1,A1 a1/\∃a2:α2,A2 a1 a2/\∃a3:α3,A3 a1 a2 a3/\∃a4:α4,A4 a1 a2 a3 a4/\A5 a1 a2 a3 a4)(k:∀a1:α1,A1 a1->∀a2:α2,A2 a1 a2->∀a3:α3,A3 a1 a2 a3->∀a4:α4,A4 a1 a2 a3 a4->A5 a1 a2 a3 a4->P):P:=by obtain⟨a1,h1,a2,h2,a3,h3,a4,h4,h5⟩:=h;exact k a1 h1 a2 h2 a3 h3 a4 h4 h5
theorem x35 {α1:Sort _}{α2:Sort _}{α3:Sort _}{A1 A2 A3 A4 A5 A6:α1->α2->α3->Prop}{P:Prop}(h:∃a1:α1,∃a2:α2,∃a3:α3,A1 a1 a2 a3/\A2 a1 a2 a3/\A3 a1 a2 a3/\A4 a1 a2 a3/\A5 a1 a2 a3/\A6 a1 a2 a3)(k:∀a1:α1,∀a2:α2,∀a3:α3,A1 a1 a2 a3->A2 a1 a2 a3->A3 a1 a2 a3->A4 a1 a2 a3->A5 a1 a2 a3->A6 a1 a2 a3->P):P:=by obtain⟨a1,a2,a3,h1,h2,h3,h4,h5,h6⟩:=h;exact k a1 a2 a3 h1 h2 h3 h4 h5 h6
theorem x27 {α1:Sort _}{α2:Sort _}{A1 A2 A3 A4 A5 A6 A7 A8:α1->α2->Prop}{P:Prop}(h:∃a1:α1,∃a2:α2,A1 a1 a2/\A2 a1 a2/\A3 a1 a2/\A4 a1 a2/\A5 a1 a2/\A6 a1 a2/\A7 a1 a2/\A8 a1 a2)(k:∀a1:α1,∀a2:α2,A1 a1 a2->A2 a1 a2->A3 a1 a2->A4 a1 a2->A5 a1 a2->A6 a1 a2->A7 a1 a2->A8 a1 a2->P):P:=by obtain⟨a1,a2,h1,h2,h3,h4,h5,h6,h7,h8⟩:=h;exact k a1 a2 h1 h2 h3 h4 h5 h6 h7 h8
theorem du {α1:Sort _}{α2:Sort _}{α3:Sort _}{α4:Sort _}{α5:Sort _}{A1:α1->Prop}{A2:α1->α2->Prop}{A3:α1->α2->α3->Prop}{A4:α1->α2->α3->α4->Prop}{A5 A6:α1->α2->α3->α4->α5->Prop}{P:Prop}(h:∃a1:α1,A1 a1/\∃a2:α2,A2 a1 a2/\∃a3:α3,A3 a1 a2 a3/\∃a4:α4,A4 a1 a2 a3 a4/\∃a5:α5,A5 a1 a2 a3 a4 a5/\A6 a1 a2 a3 a4 a5)(k:∀a1:α1,A1 a1->∀a2:α2,A2 a1 a2->∀a3:α3,A3 a1 a2 a3->∀a4:α4,A4 a1 a2 a3 a4->∀a5:α5,A5 a1 a2 a3 a4 a5->A6 a1 a2 a3 a4 a5->P):P:=by obtain⟨a1,h1,a2,h2,a3,h3,a4,h4,a5,h5,h6⟩:=h;exact k a1 h1 a2 h2 a3 h3 a4 h4 a5 h5 h6
theorem x91 {α1:Sort _}{α2:Sort _}{α3:Sort _}{α4:Sort _}{α5:Sort _}{α6:Sort _}{α7:Sort _}{α8:Sort _}{α9:Sort _}{A1 A2:α1->α2->α3->α4->α5->α6->α7->α8->α9->Prop}{P:Prop}(h:∃a1:α1,∃a2:α2,∃a3:α3,∃a4:α4,∃a5:α5,∃a6:α6,∃a7:α7,∃a8:α8,∃a9:α9,A1 a1 a2 a3 a4 a5 a6 a7 a8 a9/\A2 a1 a2 a3 a4 a5 a6 a7 a8 a9)(k:∀a1:α1,∀a2:α2,∀a3:α3,∀a4:α4,∀a5:α5,∀a6:α6,∀a7:α7,∀a8:α8,∀a9:α9,A1 a1 a2 a3 a4 a5 a6 a7 a8 a9->A2 a1 a2 a3 a4 a5 a6 a7 a8 a9->P):P:=by obtain⟨a1,a2,a3,a4,a5,a6,a7,a8,a9,h1,h2⟩:=h;exact k a1 a2 a3 a4 a5 a6 a7 a8 a9 h1 h2
theorem x29 {α1:Sort _}{α2:Sort _}{A1 A2 A3 A4 A5 A6 A7 A8 A9 A10:α1->α2->Prop}{P:Prop}(h:∃a1:α1,∃a2:α2,A1 a1 a2/\A2 a1 a2/\A3 a1 a2/\A4 a1 a2/\A5 a1 a2/\A6 a1 a2/\A7 a1 a2/\A8 a1 a2/\A9 a1 a2/\A10 a1 a2)(k:∀a1:α1,∀a2:α2,A1 a1 a2->A2 a1 a2->A3 a1 a2->A4 a1 a2->A5 a1 a2->A6 a1 a2->A7 a1 a2->A8 a1 a2->A9 a1 a2->A10 a1 a2->P):P:=by obtain⟨a1,a2,h1,h2,h3,h4,h5,h6,h7,h8,h9,h10⟩:=h;exact k a1 a2 h1 h2 h3 h4 h5 h6 h7 h8 h9 h10
theorem x0c  {A1 A2 A3 A4 A5 A6 A7 A8 A9 A10 A11 A12 A13:Prop}{P:Prop}(h:A1/\A2/\A3/\A4/\A5/\A6/\A7/\A8/\A9/\A10/\A11/\A12/\A13)(k:A1->A2->A3->A4->A5->A6->A7->A8->A9->A10->A11->A12->A13->P):P:=by obtain⟨h1,h2,h3,h4,h5,h6,h7,h8,h9,h10,h11,h12,h13⟩:=h;exact k h1 h2 h3 h4 h5 h6 h7 h8 h9 h10 h11 h12 h13
theorem x94 {α1:Sort _}{α2:Sort _}{α3:Sort _}{α4:Sort _}{α5:Sort _}{α6:Sort _}{α7:Sort _}{α8:Sort _}{α9:Sort _}{A1 A2 A3 A4 A5:α1->α2->α3->α4->α5->α6->α7->α8->α9->Prop}{P:Prop}(h:∃a1:α1,∃a2:α2,∃a3:α3,∃a4:α4,∃a5:α5,∃a6:α6,∃a7:α7,∃a8:α8,∃a9:α9,A1 a1 a2 a3 a4 a5 a6 a7 a8 a9/\A2 a1 a2 a3 a4 a5 a6 a7 a8 a9/\A3 a1 a2 a3 a4 a5 a6 a7 a8 a9/\A4 a1 a2 a3 a4 a5 a6 a7 a8 a9/\A5 a1 a2 a3 a4 a5 a6 a7 a8 a9)(k:∀a1:α1,∀a2:α2,∀a3:α3,∀a4:α4,∀a5:α5,∀a6:α6,∀a7:α7,∀a8:α8,∀a9:α9,A1 a1 a2 a3 a4 a5 a6 a7 a8 a9->A2 a1 a2 a3 a4 a5 a6 a7 a8 a9->A3 a1 a2 a3 a4 a5 a6 a7 a8 a9->A4 a1 a2 a3 a4 a5 a6 a7 a8 a9->A5 a1 a2 a3 a4 a5 a6 a7 a8 a9->P):P:=by obtain⟨a1,a2,a3,a4,a5,a6,a7,a8,a9,h1,h2,h3,h4,h5⟩:=h;exact k a1 a2 a3 a4 a5 a6 a7 a8 a9 h1 h2 h3 h4 h5
theorem ai {α:Type _}{a:α}{P:Prop}(h:none=some a):P:=nomatch h
theorem jG {α:Type _}{a:α}{P:Prop}(h:some a=none):P:=nomatch h
theorem bG {P:Prop}(h:false=true):P:=nomatch h
theorem nots {P:Prop}(h:true=false):P:=nomatch h
theorem aG {α:Type _}{a:α}{P:Prop}(h:a∈([]:List α)):P:=nomatch h
theorem sG {α β:Type}{o:Option α}{f:α->Option β}{b:β}{P:Prop}(h:o.bind f=some b)(k:∀a,o=some a->f a=some b->P):P:=by
 obtain⟨a,h1,h2⟩:=zO.mp h;exact k a h1 h2
theorem omk {α β:Type}{o:Option α}{f:α->β}{b:β}{P:Prop}(h:o.map f=some b)(k:∀a,o=some a->f a=b->P):P:=by
 obtain⟨a,h1,h2⟩:=Aa.mp h;exact k a h1 h2
theorem ifk {α:Type}{c:Prop} [Decidable c]{a z:α}{P:Prop}(h:(if c then some a else none)=some z)(k:c->a=z->P):P:=by
 by_cases hc:c
 ·rw[if_pos hc] at h;exact k hc (zG h)
 ·rw[if_neg hc] at h;exact ai h
theorem mA {α:Type}{c:Prop} [Decidable c]{a:Option α}{z:α}{P:Prop}(h:(if c then a else none)=some z)(k:c->a=some z->P):P:=by
 by_cases hc:c
 ·rw[if_pos hc] at h;exact k hc h
 ·rw[if_neg hc] at h;exact ai h
end Mine
namespace Mine
theorem cps {G:Prop}(h:∀P:Prop,(G->P)->P):G:=h G id
theorem Runs.size_le {M:Model}{Γ:FM}{p:Pos}{t:Sem Fin}{fs:List Frame}{s s':zL}{e:End}(h:Runs M Γ p t fs s e s'):s.heap.objs.size<=s'.heap.objs.size:=by
 induction h<;>(try simp only[zL.setGen,Heap.size_update,Aq] at *)<;>lia
theorem Returns.size_le {M:Model}{Γ:FM}{p:Pos}{s s':zL}{r:CI}(h:Returns M Γ p s r s'):s.heap.objs.size<=s'.heap.objs.size:=Runs.size_le h
theorem Wakes.size_le {M:Model}{Γ:FM}{p:Pos}{g:Nat}{r:Resume}{s s':zL}{res:GenResult}(h:Wakes M Γ p g r s res s'):s.heap.objs.size<=s'.heap.objs.size:=by
 unfold Wakes at h
 split at h
 ·exact h.elim
 ·split at h
  ·refine x23 h fun e₁ s₁ hr J J e91=>?_
   subst e91;exact(Runs.size_le hr:(s.setGen g .running).heap.objs.size<=s₁.heap.objs.size)
  ·refine zF h.2 ?_;exact zW _
  ·refine zF h.2 ?_;exact zW _
 ·refine x23 h fun e₁ s₁ hr J J e91=>?_
  subst e91;exact(Runs.size_le hr:(s.setGen g .running).heap.objs.size<=s₁.heap.objs.size)
 ·refine zF h.2 ?_;exact zW _
 ·refine zF h.2 ?_;exact zW _
theorem wp_size {α:Type}(M:Model)(Γ:FM) (n:Nat)(t:Sem α):∀(Q:α->Pos->zL->Prop)(E:Value->Pos->zL->Prop)(p:Pos)(s:zL),n<=s.heap.objs.size->Sem.wp M Γ t Q E p s->
  Sem.wp M Γ t (fun a p' s'=>n<=s'.heap.objs.size/\Q a p' s') (fun e p' s'=>n<=s'.heap.objs.size/\E e p' s') p s:=by
 induction t with
 |pure a=>intro Q E p s hn h;exact⟨hn,h⟩
 |raise e=>intro Q E p s hn h;exact⟨hn,h⟩
 |unsupported _=>intro Q E p s J h;exact h
 |finish _=>intro Q E p s J h;exact h
 |rule _ k ih=>intro Q E p s hn h;exact ih () Q E p s hn h
 |«at» p' k ih=>intro Q E p s hn h;exact ih () Q E p' s hn h
 |load a _ k ih=>intro Q E p s hn h;refine am h fun o ho h=>?_;exact⟨o,ho,ih o Q E p s hn h⟩
 |update a _ f k ih=>intro Q E p s hn h;exact⟨h.1,ih () Q E p _ (by show n<=(s.heap.update a f).objs.size;refine zF (Heap.size_update _ _ _) ?_;exact hn) h.2⟩
 |loadIfAlive a k ih=>intro Q E p s hn h;exact ih _ Q E p s hn h
 |point _ k ih=>intro Q E p s hn h;exact ih () Q E p s hn h
 |register _ _=>intro Q E p s J h;exact h
 |alloc o k ih=>intro Q E p s hn h;exact ih _ Q E p _ (by show n<=(s.heap.push o).objs.size;refine zF (Aq _ _) ?_;lia) h
 |fresh k ih=>intro Q E p s hn h;exact ih _ Q E p _ hn h
 |ask k ih=>intro Q E p s hn h;exact ih _ Q E p s hn h
 |choose src m k ih=>intro Q E p s hn h;exact⟨h.1,ih _ Q E p _ hn h.2⟩
 |os q _ k ih=>intro Q E p s hn h;exact ih _ Q E p _ hn h
 |call c hd _ _ k ih=>intro Q E p s hn h;refine vw h fun r s' hr h=>?_;exact⟨r,s',hr,ih r Q E p s' (zH hn (Returns.size_le hr)) h⟩
 |handled own k ih=>intro Q E p s hn h;exact ih _ Q E p s hn h
 |genState g k ih=>intro Q E p s hn h;refine am h fun st hs h=>?_;exact⟨st,hs,ih _ Q E p s hn h⟩
 |newGen c k ih=>intro Q E p s hn h;exact ih _ Q E p _ hn h
 |resume g r _ k ih=>intro Q E p s hn h;refine vw h fun res s' hw h=>?_;exact⟨res,s',hw,ih res Q E p s' (zH hn (Wakes.size_le hw)) h⟩
 |yield _ _ _ _=>intro Q E p s J h;exact h
 |stack k ih=>intro Q E p s hn h;exact ih _ Q E p s hn h
 |fork _ _=>intro Q E p s J h;exact h
 |thread k ih=>intro Q E p s hn h;exact ih _ Q E p s hn h
 |await _ _ _ _ _=>intro Q E p s J h;exact h
theorem rZ {α:Type}{M:Model}{A:Av}{s:zL}{t:Sem α}{Q:α->zL->Prop}{E:VS}
  (h:wpAny M A t (fun a s'=>s.heap.objs.size<=s'.heap.objs.size->Q a s') (fun e s'=>s.heap.objs.size<=s'.heap.objs.size->E e s') s):wpAny M A t Q E s:=by
 have h':wpAny M A t (fun a s'=>s.heap.objs.size<=s'.heap.objs.size/\(s.heap.objs.size<=s'.heap.objs.size->Q a s')) (fun e s'=>s.heap.objs.size<=s'.heap.objs.size/\(s.heap.objs.size<=s'.heap.objs.size->E e s')) s:=
  fun Γ p hΓ=>wp_size M Γ _ t _ _ p s (zW _) (h Γ p hΓ)
 exact Ak h' (fun J J x=>x.2 x.1) (fun J J x=>x.2 x.1)
noncomputable def fL {α:Type}:List (Nat×α)->Nat->Option α
 |[],_=>none
 |q::r,f=>if f=q.1 then some q.2 else fL r f
theorem bj {α:Type}{P:Nat->α->Prop}:∀{l:List (Nat×α)},(∀q∈l,P q.1 q.2)->∀f t,fL l f=some t->P f t
 |[],_,_,_,e=>ai e
 |q::r,h,f,t,e=>by
  by_cases hf:f=q.1
  ·subst hf
   have e':(if q.1=q.1 then some q.2 else fL r q.1)=some t:=e;rw[if_pos rfl] at e';obtain rfl:=zG e';exact h q zU
  ·have e':(if f=q.1 then some q.2 else fL r f)=some t:=e
   rw[if_neg hf] at e';exact bj (fun x hx=>h x (zT _ hx)) f t e'
noncomputable abbrev lim:Nat:=1048576
inductive D where
 |nil
 |bool (b:Bool)
 |int (i:Int)
 |str (l:List Nat)
 |list (l:List D)
 |tup (l:List D)
 |dict (ks vs:List D)
 |thing (ns:List Nat) (vs:List D)
 |lam (id:Nat) (caps:List D)
 |bi (n:Nat)
 |cx (d:D)
structure fq where
 params:Arguments
 body:Fn
 scope:Scope
 qual:Str
 fr:List Nat
structure Lz where
 a:Addr
 dx:Addr
 r:Addr
 ks:List (List Nat)
 vs:List (List Nat)
structure Bs where
 prog:Program
 w:World
 h₀:Heap
 mg:Str->Option Value
 mb:Str->Option Value
 C:Addr
 nm:Nat->Str
 CT:Nat->Option (Addr×Addr)
 qf:Nat->Str
 pq:Nat->Str
 LS:Nat->Option fq
 X:Option Lz
noncomputable def kU (o:Obj):Prop:=o.cls=.type "code" /\ ∃vs,o.data=.fields vs
noncomputable def cz (l:List Nat):Str:=⟨l.toArray⟩
inductive Bs.TabO (B:Bs)(o:Obj):Prop
 |mk (x:Lz) (es:Array DictEntry) (n:Nat) (kvs:List (Str×Value)) (e:B.X=some x) (c:o.ExactDict) (d:o.data=.dict es n) (k:KeysOf (AQ B.prog B.w) es) (p:Pairs (AQ B.prog B.w) es.toList kvs) (hk:kvs.map (·.1)=x.ks.map cz) (nd:(kvs.map (·.1)).Nodup) (v:∀(i:Nat) (y:List Nat),x.vs[i]?=some y->∃(q:Str×Value) (t:Tok),kvs[i]?=some q/\q.2=.str (cz y) t) (hl:x.vs.length=x.ks.length) (ne:x.ks[0]?=some [9000])
noncomputable def Bs.KO (B:Bs)(o:Obj):Prop:=kU o\/B.TabO o
noncomputable def Bs.cd (B:Bs) (f:Nat):Value:=match B.CT f with
 |some p=>.ref p.1
 |none=>.none
noncomputable def Bs.T (B:Bs)(P:Addr):Prop:=(∃f c,B.CT f=some (c,P))\/∃x,B.X=some x/\x.dx=P
inductive gU (h:Heap)(v:Value)(q:Str):Prop
 |mk (c:Addr) (o:Obj) (vs:Array Value) (t:Tok) (e:v=.ref c) (g:h.get? c=some o) (ic:kU o) (d:o.data=.fields vs) (x:vs[1]?=some (.str q t))
noncomputable def keyOf (P:DB):Value->Int
 |.str x _=>CY P x
 |.int i _=>reduceHash i
 |_=>0
noncomputable def fF (P:DB)(kv dv:List Value):List DictEntry:=(kv.zip dv).map fun p=>⟨keyOf P p.1,p.1,p.2⟩
inductive Bs.LzOk (B:Bs)(x:Lz)(h:Heap):Prop
 |raw (t:Tok) (n:Nat) (g:h.get? x.dx=some { cls:=.type "dict", dict:=none,data:=.dict (fF B.w.params [.str (B.nm 19) t] [.ref x.r]).toArray n,slots:=#[] })
 |made (t t':Tok) (n:Nat) (q:Addr) (o:Obj) (g:h.get? x.dx=some { cls:=.type "dict", dict:=none,data:=.dict (fF B.w.params [.str (B.nm 19) t,.str (B.nm 21) t'] [.ref x.r,.ref q]).toArray n,slots:=#[] }) (nt:¬B.T q) (go:h.get? q=some o) (k:B.TabO o) (sy:(q==Cg)=false)
noncomputable def Bs.TI (B:Bs)(h:Heap):Prop:=(∀x,B.X=some x->B.LzOk x h)/\∀f c P,B.CT f=some (c,P)->∃ps,h.get? P=some (PySem.W.tabObj ps)/\TriplesOk ps.toList/\∀pos v,EJ pos ps.toList=some v->gU h v (B.qf f)
structure vo (B:Bs)(L:fq)(cv:List Value)(h:Heap)(W:AP)(fd:BD):Prop where
 params:fd.params=L.params
 body:fd.body=L.body
 scope:fd.scope=L.scope
 glob:fd.globals=AE
 blt:fd.builtins=Bq
 dfl:fd.defaults=.none/\fd.kwdefaults=.none
 qual:fd.qualname=L.qual
 code:gU h fd.code L.qual
 len:cv.length=L.fr.length
 only:∀x c,fd.closure.lookup (B.nm x)=some c->x∈L.fr
 keys:(fd.closure.map (·.1)).Nodup
 nms:∀z∈fd.closure,∃x,z.1=B.nm x
 apart:fd.closure.Pairwise fun x y=>x.2≠y.2
 cells:∀(i x:Nat) (v:Value),L.fr[i]?=some x->cv[i]?=some v->∃c,fd.closure.lookup (B.nm x)=some c/\¬W c/\h.IsCell c (some v)
inductive Bs.Lam (B:Bs) (id:Nat)(cv:List Value)(h:Heap)(W:AP)(a:Addr):Prop
 |mk (L:fq) (fo:Obj) (fd:BD) (ls:B.LS id=some L) (g:h.get? a=some fo) (d:fo.data=.func fd) (w:¬W a) (l:vo B L cv h W fd)
variable (B:Bs)
noncomputable abbrev Bs.M:Model:=model B.prog B.w
inductive zy (T:String)(h:Heap)(W:AP) (len:Nat)(v:Value)(P:List Value->Prop):Prop
 |mk (a:Addr) (vs:Array Value) (n:Nat) (e:v=.ref a) (w:¬W a) (g:h.get? a=some { cls:=.type T,dict:=none,data:=.seq vs n,slots:=#[] }) (l:len<=lim) (r:P vs.toList)
inductive zv (h:Heap)(ks vs:List D)(v:Value):Prop
 |mk (x:Lz) (a:Addr) (o:Obj) (e:B.X=some x) (ev:v=.ref a) (nt:¬B.T a) (g:h.get? a=some o) (k:B.TabO o) (sy:(a==Cg)=false) (hk:ks=x.ks.map .str) (hv:vs=x.vs.map .str) (l:∀y∈x.vs,y.length<=lim)
noncomputable def dX:Nat->Option Value:=fL [(0,.builtin "len"),(1,.builtin "chr"),(2,.builtin "ord"),(5,.type "range"),(6,.builtin "isinstance"),(7,.type "str"),(8,.type "set")]
noncomputable def famD:D->List (List Nat)
 |.str l=>[l]
 |_=>[]
noncomputable def D.fams:D->List (List Nat)
 |.thing _ [_,.lam _ [.list l]]=>l.flatMap famD
 |_=>[]
noncomputable def kJ (d:D):List (List Nat):=d.fams.flatMap fun p=>p.map fun c=>[c]
noncomputable def mZ (d:D):List (List Nat):=d.fams.flatMap fun p=>p.map fun _=>p
inductive CxRep (h:Heap)(W:AP)(d:D)(v:Value)(P:Value->Prop):Prop
 |mk (x:Lz) (e:B.X=some x) (ev:v=.ref x.a) (w:¬W x.a) (g:h.get? x.a=some (Cj B.C x.dx)) (hk:x.ks=kJ d) (hv:x.vs=mZ d) (p:P (.ref x.r))
inductive zu (h:Heap)(W:AP)(ns:List Nat) (len:Nat)(v:Value)(P:List Value->Prop):Prop
 |mk (a dx:Addr) (n:Nat) (ts:List Tok) (dv:List Value) (e:v=.ref a) (w:¬W a) (g:h.get? a=some (Cj B.C dx)) (wx:¬W dx)
   (gx:h.get? dx=some { cls:=.type "dict", dict:=none,data:=.dict (fF B.w.params ((ns.zip ts).map fun p=>Value.str (B.nm p.1) p.2) dv).toArray n,slots:=#[] }) (l1:ts.length=ns.length) (l2:len=ns.length) (r:P dv)
inductive LamRep (h:Heap)(W:AP) (id:Nat)(v:Value)(P:List Value->Prop):Prop
 |mk (a:Addr) (cv:List Value) (e:v=.ref a) (w:¬W a) (l:B.Lam id cv h W a) (r:P cv)
inductive ConsRep (vs:List Value)(P:Value->Prop)(Q:List Value->Prop):Prop
 |mk (v:Value) (r:List Value) (e:vs=v::r) (p:P v) (q:Q r)
mutual
noncomputable def av (h:Heap)(W:AP):D->Value->Prop
 |.nil,v=>v=.none
 |.bool b,v=>v=.bool b
 |.int i,v=>∃t,v=.int i t
 |.str l,v=>(∃t,v=.str ⟨l.toArray⟩ t)/\l.length<=lim
 |.list ds,v=>zy "list" h W ds.length v (aa h W ds)
 |.tup ds,v=>zy "tuple" h W ds.length v (aa h W ds)
 |.dict ks ds,v=>zv B h ks ds v
 |.thing ns ds,v=>zu B h W ns ds.length v (aa h W ds)
 |.lam id caps,v=>LamRep B h W id v (aa h W caps)
 |.bi n,v=>dX n=some v
 |.cx d,v=>CxRep B h W d v (av h W d)
noncomputable def aa (h:Heap)(W:AP):List D->List Value->Prop
 |[],vs=>vs=[]
 |d::ds,vs=>ConsRep vs (av h W d) (aa h W ds)
end
structure az (s s':zL):Prop where
 keep:∀b o,¬B.T b->s.heap.get? b=some o->s'.heap.get? b=some o
 ck:∀b o,B.KO o->s.heap.get? b=some o->s'.heap.get? b=some o
 size:s.heap.objs.size<=s'.heap.objs.size
 ti:B.TI s.heap->B.TI s'.heap
 gens:∀(i:Nat) (x:Dx),s.gens[i]?=some x->s'.gens[i]?=some x
 bare:AllBare s.gens->AllBare s'.gens
 os:s'.os=s.os
structure aJ (s:zL):Prop where
 base:∀b o,¬B.T b->B.h₀.get? b=some o->s.heap.get? b=some o
 size:B.h₀.objs.size<=s.heap.objs.size
 ti:B.TI s.heap
 tlt:∀b,B.T b->b < s.heap.objs.size
noncomputable def Bs.Hi (B:Bs)(b:Addr):Prop:=B.h₀.objs.size<=b/\¬B.T b
structure aB (A:Av) (k:Nat):Prop where
 handled:A.handled=none
 depth:A.depth+k < 950
 units:A.units+3 * k+300 < cLine
inductive dL where
 |fz (d:D)
 |sealed (d:D)
 |own (l:List D)
 |own2 (l:List (List D))
 |ownD (ks:List (List Nat))
 |ptr (v:Value)
noncomputable abbrev ac:=Nat->Option dL
noncomputable def dL.isS:dL->Bool
 |.sealed _=>true
 |_=>false
theorem sH {e:dL}{d:D}{P:Prop}(k:e.isS=false)(h:e=.sealed d):P:=nots ((congrArg dL.isS h).symm.trans k)
theorem nkk {a b:NameKind}{P:Prop}(h:some a=some b)(n:a≠b):P:=absurd (zG h) n
theorem nozs {n:Nat}{P:Prop}(h:0=n+1):P:=nomatch h
theorem nosz {n:Nat}{P:Prop}(h:n+1=0):P:=nomatch h
structure ah where
 k:Nat->Option NameKind
 f:Nat
noncomputable instance:CoeFun ah fun _=>Nat->Option NameKind:=⟨ah.k⟩
inductive LocL (pe:Env)(h:Heap) (x:Nat)(v:Value):Prop
 |mk (k:pe.kindOf (B.nm x)=some .local) (m:Str->Option Value) (n:h.Ns pe.locals m) (e:m (B.nm x)=some v)
inductive LocC (pe:Env)(h:Heap) (x:Nat)(v:Value):Prop
 |mk (k:pe.kindOf (B.nm x)=some .cell\/pe.kindOf (B.nm x)=some .free) (c:Addr) (e:pe.cells.lookup (B.nm x)=some c) (hc:h.IsCell c (some v))
noncomputable def cP (pe:Env)(h:Heap) (x:Nat)(v:Value):Prop:=LocL B pe h x v\/LocC B pe h x v
inductive pY (h:Heap)(Wc W:AP)(l:List D)(v:Value):Prop
 |mk (a:Addr) (vs:Array Value) (n:Nat) (e:v=.ref a) (w:W a) (wc:¬Wc a) (g:h.get? a=some { cls:=.type "list", dict:=none,data:=.seq vs n,slots:=#[] }) (hl:l.length<=lim) (r:aa B h W l vs.toList)
inductive OwnDRep (L:Addr)(h:Heap)(Wc W:AP)(ks:List (List Nat))(v:Value):Prop
 |mk (a:Addr) (e:v=.ref a) (w:W a) (wc:¬Wc a) (ne:a≠L) (sm:(a==Cg)=false) (d:h.DictOf (AQ B.prog B.w) a (ks.map fun k=>(cz k,Value.none)))
inductive Own2Rep (h:Heap)(Wc W:AP)(ll:List (List D))(v:Value):Prop
 |mk (c:Addr) (bs:List Addr) (n:Nat) (e:v=.ref c) (w:¬W c) (g:h.get? c=some { cls:=.type "list", dict:=none,data:=.seq (bs.map Value.ref).toArray n,slots:=#[] }) (nd:bs.Nodup) (len:bs.length=ll.length) (hl:ll.length<=lim) (r:∀(i:Nat) (b:Addr) (l:List D),bs[i]?=some b->ll[i]?=some l->pY B h Wc W l (.ref b))
noncomputable def aR (L:Addr)(h:Heap)(Wc W:AP):dL->Value->Prop
 |.fz d,v=>av B h W d v
 |.sealed d,v=>av B h W d v
 |.own l,v=>pY B h Wc W l v
 |.own2 l,v=>Own2Rep B h Wc W l v
 |.ownD ks,v=>OwnDRep B L h Wc W ks v
 |.ptr u,v=>v=u
noncomputable def aM (h:Heap):dL->Value->Addr->Prop
 |.own _,v,b=>v=.ref b
 |.ownD _,v,b=>v=.ref b
 |.own2 _,v,b=>∃(c:Addr) (bs:List Addr) (n:Nat),v=.ref c/\h.get? c=some { cls:=.type "list", dict:=none,data:=.seq (bs.map Value.ref).toArray n,slots:=#[] }/\b∈bs
 |_,_,_=>False
noncomputable def aq (ρ:ac) (x:Nat):Prop:=∃d,ρ x=some (.sealed d)
structure Ctx (Γ:ah)(Wc W:AP)(pe:Env)(ρ:ac)(s:zL):Prop where
 good:aJ B s
 fn:pe.scope.kind=.function
 glob:pe.globals=AE
 blt:pe.builtins=Bq
 tW:∀b,B.T b->Wc b
 cW:∀b,Wc b->W b
 wlt:∀b,W b->b < s.heap.objs.size
 loc:∃m,s.heap.Ns pe.locals m/\m (cz [9000])=none
 locW:W pe.locals/\¬Wc pe.locals
 ow:∀b,W b->¬Wc b->B.Hi b
 code:Γ.f=0\/(pe.code=B.cd Γ.f/\pe.qual=B.pq Γ.f)
 kinds:∀x k,Γ x=some k->pe.kindOf (B.nm x)=some k/\(k=.cell\/k=.free->∃c,pe.cells.lookup (B.nm x)=some c)
 cells:∀x c,pe.cells.lookup (B.nm x)=some c->(∃v,s.heap.IsCell c v)/\¬B.T c
 apart:pe.cells.Pairwise fun x y=>x.2≠y.2
 cellW:∀x c,pe.cells.lookup (B.nm x)=some c->aq ρ x\/(W c/\¬Wc c)
 vars:∀x e,ρ x=some e->∃v,cP B pe s.heap x v/\aR B pe.locals s.heap Wc W e v
 sealedW:∀x,aq ρ x->∃c,pe.cells.lookup (B.nm x)=some c/\¬W c
 owns:∀x y e e' v v' b,ρ x=some e->ρ y=some e'->cP B pe s.heap x v->cP B pe s.heap y v'->aM s.heap e v b->aM s.heap e' v' b->x=y
inductive Tg where
 |name (x:Nat) (p:Pos)
set_option genCtorIdx false in
mutual
inductive E where
 |int (i:Int) (p:Pos)
 |str (l:List Nat) (p:Pos)
 |nil (p:Pos)
 |bool (b:Bool) (p:Pos)
 |name (x:Nat) (p:Pos)
 |bin (a:E) (op:CS) (b:E) (p:Pos)
 |cmp (a:E) (op:CmpOp) (b:E) (p:Pos)
 |cmp2 (a:E) (o1:CmpOp) (b:E) (o2:CmpOp) (c:E) (p:Pos)
 |bop (op:DE) (es:List E) (p:Pos)
 |neg (i:Int) (cp p:Pos)
 |ife (t a b:E) (p:Pos)
 |idx (a i:E) (p:Pos)
 |slc (a:E) (lo hi:Option E) (sp p:Pos)
 |list (es:List E) (p:Pos)
 |tup (es:List E) (k:Nat) (p:Pos)
 |attr (a:E) (f:Nat) (p:Pos)
 |comp (elt:E) (gs:List Gn) (sc:LK) (p:Pos)
 |bi (n:Nat) (p:Pos)
 |call (f:Nat) (es:List E) (fp p:Pos)
 |calle (f:E) (es:List E) (p:Pos)
 |blt (f:Nat) (es:List E) (fp p:Pos)
 |blt2 (f:Nat) (a b:E) (fp p:Pos)
 |meth (a:E) (m:Nat) (es:List E) (ap p:Pos)
 |lam (id f:Nat) (ps:List (Nat×Pos)) (body:E) (sc:LK) (p:Pos)
 |lens (a:E) (fp1 fp2 p2 p:Pos)
inductive Gn where
 |mk (t:Tg) (it:E) (ifs:List E)
end
set_option genCtorIdx false in
inductive St where
 |asg (x:Nat) (e:E) (xp p:Pos)
 |own (x:Nat) (e:E) (xp p:Pos)
 |asgT (xs:List (Nat×Pos)) (ms:List Nat) (k:Nat) (e:E) (tp p:Pos)
 |augN (x:Nat) (op:CS) (e:E) (xp p:Pos)
 |augI (x:Nat) (i:E) (op:CS) (e:E) (xp sp p:Pos)
 |asgU (xs:List (Nat×Pos)) (k:Nat) (e:E) (tp p:Pos)
 |app (x:Nat) (e:E) (xp ap cp p:Pos)
 |raw (ss:List Stmt)
 |defS (x id f:Nat) (ps:List (Nat×Pos)) (body:List Stmt) (sc:LK) (gen:Bool) (p:Pos)
 |forS (t:Tg) (it:E) (body:List St) (p:Pos)
 |whl (c:E) (body:List St) (p:Pos)
 |ifS (c:E) (a b:List St) (p:Pos)
 |ret (e:E) (p:Pos)
 |tryS (body:List St) (hs:List ExceptHandler) (p:Pos)
 |frz (x:Nat)
 |seal (x:Nat)
 |sub (x:Nat) (a b:List Nat) (q1 q2 q3 q4 q5 q6 q7 q8 q9 q10 q11:Pos)
 |ext (x:Nat) (e:E) (xp ap cp p:Pos)
 |ext2 (x:Nat) (i e:E) (xp sp ap cp p:Pos)
 |seti (x:Nat) (i e:E) (xp sp p:Pos)
 |popU (x:Nat) (xs:List (Nat×Pos)) (k:Nat) (xp ap cp tp p:Pos)
 |pick (x y z g c t1 t2:Nat) (e pre elt1 elt2:E) (sc1 sc2:LK) (q1 q2 q3 q4 q5 q6 q7 q8 q9 q10 q11 q12 q13 q14 q15 q16:Pos)
section
variable (nm:Nat->Str)
noncomputable def bA (sc:LK)(more:List (Str×Const):=[]):Scope:={ kind:=.function,names:=sc.map fun q=>(nm q.1,q.2),isGenerator:=false,isCoroutine:=false,more:=more }
noncomputable def Tg.py:Tg->Es
 |.name x p=>.Name (nm x) p
noncomputable def aP (ps:List (Nat×Pos)):Arguments:={ posonlyargs:=[],args:=ps.map fun q=>{ arg:=nm q.1,annotation:=none,pos:=q.2 },vararg:=none,kwonlyargs:=[],kw_defaults:=[],kwarg:=none,defaults:=[] }
mutual
noncomputable def E.py:E->Es
 |.int i p=>.Constant (.int i) 0 p
 |.str l p=>.Constant (.str ⟨l.toArray⟩) 0 p
 |.nil p=>.Constant .none 0 p
 |.bool b p=>.Constant (.bool b) 0 p
 |.name x p=>.Name (nm x) p
 |.bin a op b p=>.BinOp a.py op b.py p
 |.cmp a op b p=>.Compare a.py [op] [b.py] p
 |.cmp2 a o1 b o2 c p=>.Compare a.py [o1,o2] [b.py,c.py] p
 |.bop op es p=>.BoolOp op (eN es) p
 |.neg i cp p=>.UnaryOp .USub (.Constant (.int i) 0 cp) p
 |.ife t a b p=>.IfExp t.py a.py b.py p
 |.idx a i p=>.Subscript a.py i.py p
 |.slc a lo hi sp p=>.Subscript a.py (.Slice (pyO lo) (pyO hi) none sp) p
 |.list es p=>.List (eN es) p
 |.tup es k p=>.Tuple (eN es) k p
 |.attr a f p=>.Attribute a.py (nm f) p
 |.comp elt gs sc p=>.ListComp elt.py (pf gs) (bA nm sc) p
 |.bi n p=>.Name (nm n) p
 |.call f es fp p=>.Call (.Name (nm f) fp) (eN es) [] p
 |.calle f es p=>.Call f.py (eN es) [] p
 |.blt f es fp p=>.Call (.Name (nm f) fp) (eN es) [] p
 |.blt2 f a b fp p=>.Call (.Name (nm f) fp) [a.py,b.py] [] p
 |.meth a m es ap p=>.Call (.Attribute a.py (nm m) ap) (eN es) [] p
 |.lam _ _ ps body sc p=>.Lambda (aP nm ps) body.py (bA nm sc) p
 |.lens a fp1 fp2 p2 p=>.Call (.Name (nm 0) fp1) [.Call (.Name (nm 8) fp2) [a.py] [] p2] [] p
noncomputable def eN:List E->List Es
 |[]=>[]
 |e::r=>e.py::eN r
noncomputable def pyO:Option E->Option Es
 |none=>none
 |some e=>some e.py
noncomputable def pf:List Gn->List D7
 |[]=>[]
 |.mk t it ifs::r=>{ target:=t.py nm,iter:=it.py,ifs:=eN ifs,is_async:=0 }::pf r
end
mutual
noncomputable def St.py:St->List Stmt
 |.asg x e xp p=>[.Assign [.Name (nm x) xp] (e.py nm) p]
 |.own x e xp p=>[.Assign [.Name (nm x) xp] (e.py nm) p]
 |.asgT xs _ k e tp p=>[.Assign [.Tuple (xs.map fun q=>.Name (nm q.1) q.2) k tp] (e.py nm) p]
 |.augN x op e xp p=>[.AugAssign (.Name (nm x) xp) op (e.py nm) p]
 |.augI x i op e xp sp p=>[.AugAssign (.Subscript (.Name (nm x) xp) (i.py nm) sp) op (e.py nm) p]
 |.asgU xs k e tp p=>[.Assign [.Tuple (xs.map fun q=>.Name (nm q.1) q.2) k tp] (e.py nm) p]
 |.app x e xp ap cp p=>[.Expr (.Call (.Attribute (.Name (nm x) xp) (Str.ofString "append") ap) [e.py nm] [] cp) p]
 |.raw ss=>ss
 |.defS x id f ps body sc gen p=>[.FunctionDef (nm x) (aP nm ps) body [] none [] { bA nm sc with isGenerator:=gen } none (nm x) p]
 |.forS t it body p=>[.For (t.py nm) (it.py nm) (eZ body) [] p]
 |.whl c body p=>[.While (c.py nm) (eZ body) [] p]
 |.ifS c a b p=>[.If (c.py nm) (eZ a) (eZ b) p]
 |.ret e p=>[.Return (some (e.py nm)) p]
 |.tryS body hs p=>[.Try (eZ body) hs [] [] p]
 |.frz _=>[]
 |.seal _=>[]
 |.sub x a b q1 q2 q3 q4 q5 q6 q7 q8 q9 q10 q11=>[.If (.Compare (.Constant (.str ⟨a.toArray⟩) 0 q1) [.In] [.Name (nm x) q2] q3)
   [.Assign [.Name (nm x) q4] (.Call (.Attribute (.Name (nm x) q5) (Str.ofString "replace") q6) [.Constant (.str ⟨a.toArray⟩) 0 q7,.Constant (.str ⟨b.toArray⟩) 0 q8] [] q9) q10] [] q11]
 |.ext x e xp ap cp p=>[.Expr (.Call (.Attribute (.Name (nm x) xp) (Str.ofString "extend") ap) [e.py nm] [] cp) p]
 |.ext2 x i e xp sp ap cp p=>[.Expr (.Call (.Attribute (.Subscript (.Name (nm x) xp) (i.py nm) sp) (Str.ofString "extend") ap) [e.py nm] [] cp) p]
 |.seti x i e xp sp p=>[.Assign [.Subscript (.Name (nm x) xp) (i.py nm) sp] (e.py nm) p]
 |.popU x xs k xp ap cp tp p=>[.Assign [.Tuple (xs.map fun q=>.Name (nm q.1) q.2) k tp] (.Call (.Attribute (.Name (nm x) xp) (Str.ofString "pop") ap) [] [] cp) p]
 |.pick x y z g c t1 t2 e pre elt1 elt2 sc1 sc2 q1 q2 q3 q4 q5 q6 q7 q8 q9 q10 q11 q12 q13 q14 q15 q16=>
  [.Assign [.Name (nm x) q1] (e.py nm) q2,
   .Assign [.Name (nm y) q3] (.Call (.Name (nm g) q4) [.Name (nm c) q5,.BinOp (pre.py nm) .Add (.ListComp (elt1.py nm) [{ target:=.Name (nm t1) q6,iter:=.Name (nm x) q7,ifs:=[],is_async:=0 }] (bA nm sc1) q8) q9] [] q10) q11,
   .Assign [.Name (nm z) q12] (.ListComp (elt2.py nm) [{ target:=.Name (nm t2) q13,iter:=.Name (nm y) q14,ifs:=[],is_async:=0 }] (bA nm sc2) q15) q16]
noncomputable def eZ:List St->List Stmt
 |[]=>[]
 |s::r=>s.py++eZ r
end
end
inductive EK where
 |no
 |nm (x:Nat) (p:Pos)
 |str (l:List Nat) (p:Pos)
 |idx (a i:E) (p:Pos)
 |bin (a:E) (op:CS) (b:E) (p:Pos)
 |lst (es:List E) (p:Pos)
 |cmp (elt:E) (gs:List Gn) (sc:LK) (p:Pos)
 |cal (f:E) (es:List E) (p:Pos)
 |fcl (f:Nat) (es:List E) (q p:Pos)
noncomputable def E.k:E->EK
 |.name x p=>.nm x p
 |.str l p=>.str l p
 |.idx a i p=>.idx a i p
 |.bin a op b p=>.bin a op b p
 |.list es p=>.lst es p
 |.comp elt gs sc p=>.cmp elt gs sc p
 |.calle f es p=>.cal f es p
 |.call f es q p=>.fcl f es q p
 |_=>.no
noncomputable def EK.Of (e:E):EK->Prop
 |.no=>True
 |.nm x p=>e=.name x p
 |.str l p=>e=.str l p
 |.idx a i p=>e=.idx a i p
 |.bin a op b p=>e=.bin a op b p
 |.lst es p=>e=.list es p
 |.cmp elt gs sc p=>e=.comp elt gs sc p
 |.cal f es p=>e=.calle f es p
 |.fcl f es q p=>e=.call f es q p
theorem E.k_of (e:E):EK.Of e e.k:=by cases e<;>first|exact rfl|exact trivial
noncomputable def EK.isName (k:EK):Bool:=k.ctorIdx==1
noncomputable def EK.isBase (k:EK):Bool:=decide (1<=k.ctorIdx/\k.ctorIdx<=4)
noncomputable def EK.isCall (k:EK):Bool:=k.ctorIdx==8
noncomputable def E.isName (e:E):Bool:=e.k.isName
noncomputable def E.isBase (e:E):Bool:=e.k.isBase
noncomputable def E.isCall (e:E):Bool:=e.k.isCall
noncomputable def E.isCp:E->Bool
 |.comp ..=>true
 |_=>false
inductive R where
 |d (x:D)
 |own (l:List D)
 |it (l:List D)
noncomputable def R.asD:R->Option D
 |.d x=>some x
 |_=>none
noncomputable def R.asB:R->Option D
 |.d x=>some x
 |.own l=>some (.list l)
 |_=>none
noncomputable def R.asI:R->Option (List D)
 |.d (.list l)=>some l
 |.d (.tup l)=>some l
 |.d (.str l)=>some (l.map fun c=>.str [c])
 |.it l=>some l
 |_=>none
structure bq where
 call:Nat->List D->Option D
 lam:Nat->List D->Option D
 gen:Nat->List D->Option (List D)
noncomputable def ac.set (ρ:ac) (x:Nat)(e:dL):ac:=fun y=>if y=x then some e else ρ y
noncomputable def vf:Tg->D->ac->Option ac
 |.name x _,d,ρ=>some (ρ.set x (.fz d))
noncomputable def Tg.fit (sc:LK)(ρ:ac):Tg->Bool
 |.name x _=>(sc.lookup x==some .local||sc.lookup x==some .cell)&&(ρ x).isNone
noncomputable def dI {α:Type}(sc:LK)(t:Tg)(body:ac->Option (List α))(ρ:ac):List D->Option (List α)
 |[]=>some []
 |d::r=>if t.fit sc ρ then do
  let ρ' <-vf t d ρ
  let x <-body ρ'
  let y <-dI sc t body ρ r
  some (x++y)
  else none
noncomputable def D.pd:Nat->D->Option FZ
 |0,_=>none
 |n+1,d=>match d with
  |.nil=>some .none
  |.bool b=>some (.bool b)
  |.int i=>some (.int i)
  |.str l=>if l.all (· < 1114112) then some (.str (cz l)) else none
  |.list l=>(l.mapM (D.pd n)).map .list
  |.tup l=>(l.mapM (D.pd n)).map .tuple
  |_=>none
noncomputable def D.int?:D->Option Int
 |.int i=>some i
 |_=>none
noncomputable def D.str?:D->Option (List Nat)
 |.str l=>some l
 |_=>none
noncomputable def D.list?:D->Option (List D)
 |.list l=>some l
 |_=>none
theorem int?_eq {d:D}{i:Int}(h:d.int?=some i):d=.int i:=by cases d<;>first|(obtain rfl:=zG h;rfl)|exact ai h
theorem str?_eq {d:D}{l:List Nat}(h:d.str?=some l):d=.str l:=by cases d<;>first|(obtain rfl:=zG h;rfl)|exact ai h
theorem list?_eq {d:D}{l:List D}(h:d.list?=some l):d=.list l:=by cases d<;>first|(obtain rfl:=zG h;rfl)|exact ai h
theorem af {α β:Type}{x:Option α}{f:α->Option β}{b:β}(h:x.bind f=some b):∃a,x=some a/\f a=some b:=zO.mp h
theorem aK {α β:Type}{x:Option α}{f:α->β}{b:β}(h:x.map f=some b):∃a,x=some a/\f a=b:=Aa.mp h
theorem aE {α:Type}{c:Prop} [Decidable c]{a z:α}(h:(if c then some a else none)=some z):c/\a=z:=by
 by_cases hc:c
 ·rw[if_pos hc] at h;exact⟨hc,zG h⟩
 ·rw[if_neg hc] at h;exact ai h
theorem aY {α:Type}{c:Prop} [Decidable c]{a:Option α}{z:α}(h:(if c then a else none)=some z):c/\a=some z:=by
 by_cases hc:c
 ·rw[if_pos hc] at h;exact⟨hc,h⟩
 ·rw[if_neg hc] at h;exact ai h
noncomputable def D.isN:D->Bool
 |.nil=>true
 |_=>false
noncomputable def D.eq (a b:D):Option Bool:=match a.str? with
 |some x=>(match b.str? with
  |some y=>some (x==y)
  |none=>if b.isN then some false else none)
 |none=>(match b.str? with
  |some _=>if a.isN then some false else none
  |none=>(D.pd 5 a).bind fun p=>(D.pd 5 b).bind fun q=>some (BI p q))
noncomputable def D.isIn (x:D)(l:List D):Option Bool:=do
 let p <-D.pd 5 x
 let q <-l.mapM (D.pd 4)
 some (q.any fun y=>BI y p)
noncomputable def isSub (x:List Nat):List Nat->Bool
 |[]=>x.isEmpty
 |c::r=>x.isPrefixOf (c::r)||isSub x r
noncomputable def D.isStr (k:List Nat):D->Bool
 |.str x=>x==k
 |_=>false
noncomputable def D.dget (ks vs:List D)(k:List Nat):Option D:=((ks.zip vs).find? fun q=>q.1.isStr k).map (·.2)
noncomputable def D.isNil:D->Option Bool
 |.nil=>some true
 |.lam ..=>none
 |.thing ..=>none
 |.bi _=>none
 |.cx _=>none
 |_=>some false
noncomputable def D.memb (a b:D):Option Bool:=match b with
 |.list l=>D.isIn a l
 |.tup l=>D.isIn a l
 |.dict ks vs=>a.str?.map fun x=>(D.dget ks vs x).isSome
 |_=>none
noncomputable def D.nmem (a b:D):Option Bool:=match b with
 |.list l=>(D.isIn a l).map (!·)
 |.tup l=>(D.isIn a l).map (!·)
 |_=>none
noncomputable def D.cmp (op:CmpOp)(a b:D):Option Bool:=match op with
 |.Eq=>D.eq a b
 |.NotEq=>(D.eq a b).map (!·)
 |.Lt=>a.int?.bind fun x=>b.int?.map fun y=>decide (x < y)
 |.LtE=>a.int?.bind fun x=>b.int?.map fun y=>decide (x<=y)
 |.In=>D.memb a b
 |.NotIn=>D.nmem a b
 |.Gt=>a.int?.bind fun x=>b.int?.map fun y=>decide (y < x)
 |.GtE=>a.int?.bind fun x=>b.int?.map fun y=>decide (y<=x)
 |.Is=>if b.isN then D.isNil a else none
 |.IsNot=>if b.isN then(D.isNil a).map (!·) else none
noncomputable def mkS (l:List Nat):Option D:=if l.length<=lim then some (.str l) else none
noncomputable def uD (l:List D):Option D:=if l.length<=lim then some (.list l) else none
noncomputable def D.add (a b:D):Option D:=match a with
 |.int x=>b.int?.map fun y=>.int (x+y)
 |.str x=>b.str?.bind fun y=>mkS (x++y)
 |.list x=>b.list?.bind fun y=>uD (x++y)
 |_=>none
noncomputable def D.bin (op:CS)(a b:D):Option D:=match op with
 |.Add=>D.add a b
 |.Sub=>a.int?.bind fun x=>b.int?.bind fun y=>some (.int (x - y))
 |.FloorDiv=>a.int?.bind fun x=>b.int?.bind fun y=>if 0 < y/\y < 1073741824 then some (.int (Gp x y)) else none
 |.Mod=>a.int?.bind fun x=>b.int?.bind fun y=>if 0 < y then some (.int (Gm x y)) else none
 |.Pow=>a.int?.bind fun x=>b.int?.bind fun n=>if 0<=x/\x<=16/\0<=n/\n<=16 then some (.int (x ^ n.toNat)) else none
 |_=>none
noncomputable def eR (n:Nat) (i:Int):Option Nat:=if 0<=i then(if i < n then some i.toNat else none) else(if 0<=i+n then some (i+n).toNat else none)
noncomputable def gL {α:Type}(lo hi:Option Int)(l:List α):List α:=(l.drop (lo.elim 0 (Dk l.length))).take (hi.elim l.length (Dk l.length) - lo.elim 0 (Dk l.length))
noncomputable def D.item (a i:D):Option D:=match a with
 |.list l=>i.int?.bind fun i=>(eR l.length i).bind (l[·]?)
 |.tup l=>i.int?.bind fun i=>(eR l.length i).bind (l[·]?)
 |.str l=>i.int?.bind fun i=>((eR l.length i).bind (l[·]?)).map fun c=>.str [c]
 |.dict ks vs=>i.str?.bind fun k=>D.dget ks vs k
 |_=>none
noncomputable def D.bnd:Option D->Option (Option Int)
 |none=>some none
 |some (.int i)=>if -(lim:Int)<=i/\i<=lim then some (some i) else none
 |_=>none
noncomputable def D.cut (l h:Option Int):D->Option D
 |.list x=>some (.list (gL l h x))
 |.str x=>some (.str (gL l h x))
 |_=>none
noncomputable def D.slice (a:D)(lo hi:Option D):Option D:=(D.bnd lo).bind fun l=>(D.bnd hi).bind fun h=>D.cut l h a
noncomputable def D.len (a:D):Option Nat:=match a with
 |.list l=>some l.length
 |.tup l=>some l.length
 |.str l=>some l.length
 |_=>none
noncomputable def D.fld (f:Nat):D->Option D
 |.thing ns vs=>if ns.length=vs.length/\(f=19\/f=20\/f=21) then((ns.zip vs).find? (fun q=>q.1==f)).map (·.2) else none
 |_=>none
noncomputable def D.truth:D->Option Bool
 |.bool b=>some b
 |_=>none
noncomputable def D.chr (a:D):Option D:=a.int?.bind fun i=>if 0<=i/\i < 55296 then some (.str [i.toNat]) else none
noncomputable def oneOf:List Nat->Option Nat
 |[c]=>some c
 |_=>none
noncomputable def D.ord (a:D):Option D:=a.str?.bind fun l=>(oneOf l).map fun(c:Nat)=>.int (c:Int)
noncomputable def bltF:Nat->Option (D->Option D):=fL [(0,fun a=>a.len.map fun(n:Nat)=>D.int (n:Int)),(1,D.chr),(2,D.ord)]
noncomputable def D.builtin (f:Nat)(as:List D):Option D:=match as with
 |[a]=>(bltF f).bind fun g=>g a
 |_=>none
noncomputable def D.mfind (a b:D):Option D:=a.str?.bind fun x=>b.str?.map fun y=>.int (Ei ⟨x.toArray⟩ ⟨y.toArray⟩)
noncomputable def D.msplit (a b:D):Option D:=a.str?.bind fun x=>b.str?.bind fun y=>if y.length=1/\x.length < 1000 then some (.list ((Ck ⟨x.toArray⟩ ⟨y.toArray⟩).map fun z=>.str z.cps.toList)) else none
noncomputable def D.mjoin (a b:D):Option D:=a.str?.bind fun x=>b.list?.bind fun l=>(l.mapM D.str?).bind fun ls=>if x=[]/\2<=ls.length/\ls.flatten.length<=lim then some (.str ls.flatten) else none
noncomputable def metF:Nat->Option (D->D->Option D):=fL [(10,D.mfind),(11,D.msplit),(12,D.mjoin)]
noncomputable def D.method (a:D) (m:Nat)(as:List D):Option D:=match as with
 |[b]=>(metF m).bind fun g=>g a b
 |_=>none
noncomputable def lst1 {α:Type}:List α->Option α
 |[a]=>some a
 |_=>none
noncomputable def lst2 {α:Type}:List α->Option (α×α)
 |[a,b]=>some (a,b)
 |_=>none
theorem uG {α:Type}{l:List α}{a:α}(h:lst1 l=some a):l=[a]:=by
 cases l with
 |nil=>exact ai h
 |cons x r=>cases r with
  |nil=>exact congrArg (fun x=>[x]) (zG h)
  |cons=>exact ai h
theorem lst2_eq {α:Type}{l:List α}{q:α×α}(h:lst2 l=some q):l=[q.1,q.2]:=by
 cases l with
 |nil=>exact ai h
 |cons x r=>cases r with
  |nil=>exact ai h
  |cons y r=>cases r with
   |nil=>exact congrArg (fun q:α×α=>[q.1,q.2]) (zG h)
   |cons=>exact ai h
noncomputable def D.is7:D->Bool
 |.bi n=>n==7
 |_=>false
noncomputable def D.sn:D->Option Bool
 |.str _=>some true
 |.tup _=>some false
 |_=>none
noncomputable def D.many (a:D):Option D:=a.list?.bind fun l=>if l.length < 4000 then(l.mapM D.int?).map fun ns=>.int ((firstMet (fun i=>ns.getD i 0) l.length).length:Int) else none
noncomputable def isiD (l:List D):Option Bool:=(lst2 l).bind fun q=>if q.2.is7 then q.1.sn else none
noncomputable def ay (Γ:ah)(sc:LK):ah:=⟨fun x=>(sc.lookup x).map fun k=>if k=.free/\Γ x=some .cell then .cell else k,Γ.f⟩
noncomputable def em (Γ:ah)(sc:LK):Bool:=decide ((sc.map (·.1)).Nodup)&&sc.all fun q=>match q.2 with
 |.free=>Γ q.1==some .cell||Γ q.1==some .free
 |.local=>true
 |.cell=>true
 |.globalImplicit=>true
 |_=>false
noncomputable def ac.cut (ρ:ac)(sc:LK):ac:=fun x=>if sc.lookup x=some .free then ρ x else none
noncomputable def aD (sc:LK):List Nat:=(sc.filter fun q=>q.2==.free).map (·.1)
section
variable (Φ:bq)
mutual
noncomputable def ev (Γ:ah)(ρ:ac):E->Option R
 |.int i _=>some (.d (.int i))
 |.str l _=>(mkS l).map .d
 |.nil _=>some (.d .nil)
 |.bool b _=>some (.d (.bool b))
 |.name x _=>match ρ x with
  |some (.fz d)=>some (.d d)
  |some (.sealed d)=>some (.d d)
  |some (.own l)=>some (.own l)
  |_=>none
 |.bin a op b _=>do
  let x <-(<-ev Γ ρ a).asB
  let y <-(<-ev Γ ρ b).asB
  (D.bin op x y).map .d
 |.cmp a op b _=>do
  let x <-(<-ev Γ ρ a).asB
  let y <-(<-ev Γ ρ b).asB
  (D.cmp op x y).map fun c=>.d (.bool c)
 |.cmp2 a o1 b o2 c _=>do
  let x <-(<-ev Γ ρ a).asB
  let y <-(<-ev Γ ρ b).asB
  let t <-D.cmp o1 x y
  if t then do
   let z <-(<-ev Γ ρ c).asB
   (D.cmp o2 y z).map fun c=>.d (.bool c)
  else some (.d (.bool false))
 |.bop op es _=>rS Γ ρ op es
 |.neg i _ _=>some (.d (.int (-i)))
 |.ife t a b _=>do
  let c <-e7 Γ ρ t
  if c then ev Γ ρ a else ev Γ ρ b
 |.idx a i _=>do
  let x <-(<-ev Γ ρ a).asB
  let y <-(<-ev Γ ρ i).asD
  (D.item x y).map .d
 |.slc a lo hi _ _=>do
  let x <-(<-ev Γ ρ a).asB
  let l <-yU Γ ρ lo
  let h <-yU Γ ρ hi
  (D.slice x l h).map .d
 |.bi n _=>if Γ n=some .globalImplicit/\(n=6\/n=7) then some (.d (.bi n)) else none
 |.list es _=>do
  let l <-iJ Γ ρ es
  (uD l).map .d
 |.tup es _ _=>do
  let l <-iJ Γ ρ es
  if l.length<=lim then some (.d (.tup l)) else none
 |.attr a f _=>if a.isName then do
  let x <-(<-ev Γ ρ a).asD
  (D.fld f x).map .d
  else none
 |.comp elt gs sc _=>if em Γ sc then match gs with
   |.mk t it ifs::r=>do
    let items <-(<-ev Γ ρ it).asI
    let l <-dI sc t (fun ρ'=>do
     let c <-uR (ay Γ sc) ρ' ifs
     if c then evG sc (ay Γ sc) r (fun ρ''=>do (<-ev (ay Γ sc) ρ'' elt).asD) ρ' else some []) (ρ.cut sc) items
    (uD l).map .d
   |[]=>none
  else none
 |.call f es _ _=>do
  let l <-iJ Γ ρ es
  if Γ f=some .globalImplicit then(Φ.call f l).map .d else none
 |.calle _ _ _=>none
 |.blt f es _ _=>if Γ f=some .globalImplicit then(match f,es with
   |5,[e]=>do
    let d <-(<-ev Γ ρ e).asD
    match d with
    |.int n=>if 0<=n/\n<=lim then some (.it ((z6 n.toNat).map fun(i:Nat)=>.int (i:Int))) else none
    |_=>none
   |4,[_]=>none
   |f,[e]=>do
    let x <-(<-ev Γ ρ e).asB
    (D.builtin f [x]).map .d
   |_,_=>none) else none
 |.blt2 _ _ _ _ _=>none
 |.meth a m es ap p=>if a.isBase&&ap.endLine==p.line then match es with
  |[e]=>do
   let x <-(<-ev Γ ρ a).asD
   let y <-(<-ev Γ ρ e).asD
   (D.method x m [y]).map .d
  |_=>none
  else none
 |.lam id f _ _ sc _=>if em Γ sc/\f≠0/\Γ.f=f then do
   let caps <-(aD sc).mapM fun x=>match ρ x with|some (.sealed d)=>some d|_=>none
   some (.d (.lam id caps))
  else none
 |.lens a _ _ _ _=>if Γ 0=some .globalImplicit/\Γ 8=some .globalImplicit then do
   let x <-(<-ev Γ ρ a).asD
   x.many.map .d
  else none
noncomputable def iJ (Γ:ah)(ρ:ac):List E->Option (List D)
 |[]=>some []
 |e::r=>do
  let x <-(<-ev Γ ρ e).asD
  let y <-iJ Γ ρ r
  some (x::y)
noncomputable def rS (Γ:ah)(ρ:ac)(op:DE):List E->Option R
 |[]=>none
 |e::r=>do
  let x <-(<-ev Γ ρ e).asD
  let t <-x.truth
  if r.isEmpty||t==(op==.Or) then some (.d (.bool t)) else rS Γ ρ op r
noncomputable def yU (Γ:ah)(ρ:ac):Option E->Option (Option D)
 |none=>some none
 |some e=>do
  let x <-(<-ev Γ ρ e).asD
  some (some x)
noncomputable def e7 (Γ:ah)(ρ:ac):E->Option Bool
 |.cmp a op b _=>do
  let x <-(<-ev Γ ρ a).asB
  let y <-(<-ev Γ ρ b).asB
  D.cmp op x y
 |.bop op es _=>wN Γ ρ op es
 |.name x _=>match ρ x with
  |some (.fz d)=>d.truth
  |_=>none
 |.call f es _ _=>do
  let l <-iJ Γ ρ es
  if Γ f=some .globalImplicit then(match Φ.call f l with
   |some (.bool b)=>some b
   |_=>none) else none
 |.blt2 f a b _ _=>if f=6/\Γ f=some .globalImplicit then do
   let x <-(<-ev Γ ρ a).asD
   let y <-(<-ev Γ ρ b).asD
   isiD [x,y]
  else none
 |.idx a i _=>do
  let x <-(<-ev Γ ρ a).asB
  let y <-(<-ev Γ ρ i).asD
  (D.item x y).bind D.truth
 |_=>none
noncomputable def wN (Γ:ah)(ρ:ac)(op:DE):List E->Option Bool
 |[]=>some (op==.And)
 |e::r=>do
  let t <-e7 Γ ρ e
  match op,t with
  |.And,false=>some false
  |.Or,true=>some true
  |_,_=>wN Γ ρ op r
noncomputable def uR (Γ:ah)(ρ:ac):List E->Option Bool
 |[]=>some true
 |e::r=>do
  let t <-e7 Γ ρ e
  if t then uR Γ ρ r else some false
noncomputable def evG (sc:LK)(Γ:ah):List Gn->(ac->Option D)->ac->Option (List D)
 |[],emit,ρ=>(emit ρ).map fun d=>[d]
 |.mk t it ifs::r,emit,ρ=>do
  let items <-(<-ev Γ ρ it).asI
  dI sc t (fun ρ'=>do
   let c <-uR Γ ρ' ifs
   if c then evG sc Γ r emit ρ' else some []) ρ items
end
end
theorem jt {nm:Nat->Str} {elt gs sc p}:(E.comp elt gs sc p).py nm=.ListComp (elt.py nm) (pf nm gs) (bA nm sc) p:=rfl
theorem rW {nm:Nat->Str} {f es p}:(E.calle f es p).py nm=.Call (f.py nm) (eN nm es) [] p:=rfl
section
variable {Φ:bq}{Γ:ah}{ρ:ac}
theorem nJ  : iJ Φ Γ ρ []=(some []):=rfl
theorem lJ {e r}:iJ Φ Γ ρ (e::r)=(do
  let x <-(<-ev Φ Γ ρ e).asD
  let y <-iJ Φ Γ ρ r
  some (x::y)):=rfl
theorem lI  : yU Φ Γ ρ none=(some none):=rfl
theorem lH {e}:yU Φ Γ ρ (some e)=(do
  let x <-(<-ev Φ Γ ρ e).asD
  some (some x)):=rfl
theorem x_evV_nil {op}:rS Φ Γ ρ op []=none:=rfl
theorem iy {op e r}:rS Φ Γ ρ op (e::r)=(do
  let x <-(<-ev Φ Γ ρ e).asD
  let t <-x.truth
  if r.isEmpty||t==(op==.Or) then some (.d (.bool t)) else rS Φ Γ ρ op r):=rfl
theorem nK {op }:wN Φ Γ ρ op []=(some (op==.And)):=rfl
theorem iB {op e r}:wN Φ Γ ρ op (e::r)=(do
  let t <-e7 Φ Γ ρ e
  match op,t with
  |.And,false=>some false
  |.Or,true=>some true
  |_,_=>wN Φ Γ ρ op r):=rfl
theorem eM  : uR Φ Γ ρ []=(some true):=rfl
theorem lL {e r}:uR Φ Γ ρ (e::r)=(do
  let t <-e7 Φ Γ ρ e
  if t then uR Φ Γ ρ r else some false):=rfl
theorem fC {sc ρ emit}:evG Φ sc Γ [] emit ρ=((emit ρ).map fun d=>[d]):=rfl
theorem lK {sc ρ t it ifs r emit}:evG Φ sc Γ (.mk t it ifs::r) emit ρ=(do
  let items <-(<-ev Φ Γ ρ it).asI
  dI sc t (fun ρ'=>do
   let c <-uR Φ Γ ρ' ifs
   if c then evG Φ sc Γ r emit ρ' else some []) ρ items):=rfl
theorem iP {α:Type} {sc t ρ}{body:ac->Option (List α)}:dI sc t body ρ []=some []:=rfl
theorem fu {α:Type} {sc t ρ d r}{body:ac->Option (List α)}:dI sc t body ρ (d::r)=(if t.fit sc ρ then do
  let ρ' <-vf t d ρ
  let x <-body ρ'
  let y <-dI sc t body ρ r
  some (x++y)
  else none):=rfl
theorem x_pyL_nil {nm:Nat->Str}:eN nm []=[]:=rfl
theorem aU {nm:Nat->Str} {e r}:eN nm (e::r)=e.py nm::eN nm r:=rfl
theorem qo {i u1}:ev Φ Γ ρ (.int i u1)=(some (.d (.int i))):=rfl
theorem qi {l u1}:ev Φ Γ ρ (.str l u1)=((mkS l).map .d):=rfl
theorem qk {u1}:ev Φ Γ ρ (.nil u1)=(some (.d .nil)):=rfl
theorem nC {b u1}:ev Φ Γ ρ (.bool b u1)=(some (.d (.bool b))):=rfl
theorem eL {x u1}:ev Φ Γ ρ (.name x u1)=(match ρ x with
  |some (.fz d)=>some (.d d)
  |some (.sealed d)=>some (.d d)
  |some (.own l)=>some (.own l)
  |_=>none):=rfl
theorem qu {a op b u1}:ev Φ Γ ρ (.bin a op b u1)=(do
  let x <-(<-ev Φ Γ ρ a).asB
  let y <-(<-ev Φ Γ ρ b).asB
  (D.bin op x y).map .d):=rfl
theorem qs {a op b u1}:ev Φ Γ ρ (.cmp a op b u1)=(do
  let x <-(<-ev Φ Γ ρ a).asB
  let y <-(<-ev Φ Γ ρ b).asB
  (D.cmp op x y).map fun c=>.d (.bool c)):=rfl
theorem nB {a o1 b o2 c u1}:ev Φ Γ ρ (.cmp2 a o1 b o2 c u1)=(do
  let x <-(<-ev Φ Γ ρ a).asB
  let y <-(<-ev Φ Γ ρ b).asB
  let t <-D.cmp o1 x y
  if t then do
   let z <-(<-ev Φ Γ ρ c).asB
   (D.cmp o2 y z).map fun c=>.d (.bool c)
  else some (.d (.bool false))):=rfl
theorem gn {op es u1}:ev Φ Γ ρ (.bop op es u1)=rS Φ Γ ρ op es:=rfl
theorem ql {i u1 u2}:ev Φ Γ ρ (.neg i u1 u2)=(some (.d (.int (-i)))):=rfl
theorem qr {t a b u1}:ev Φ Γ ρ (.ife t a b u1)=(do
  let c <-e7 Φ Γ ρ t
  if c then ev Φ Γ ρ a else ev Φ Γ ρ b):=rfl
theorem ld {a i u1}:ev Φ Γ ρ (.idx a i u1)=(do
  let x <-(<-ev Φ Γ ρ a).asB
  let y <-(<-ev Φ Γ ρ i).asD
  (D.item x y).map .d):=rfl
theorem qj {a lo hi u1 u2}:ev Φ Γ ρ (.slc a lo hi u1 u2)=(do
  let x <-(<-ev Φ Γ ρ a).asB
  let l <-yU Φ Γ ρ lo
  let h <-yU Φ Γ ρ hi
  (D.slice x l h).map .d):=rfl
theorem x_ev_bi {n u1}:ev Φ Γ ρ (.bi n u1)=(if Γ n=some .globalImplicit/\(n=6\/n=7) then some (.d (.bi n)) else none):=rfl
theorem ju {es u1}:ev Φ Γ ρ (.list es u1)=(do
  let l <-iJ Φ Γ ρ es
  (uD l).map .d):=rfl
theorem qh {es u1 u2}:ev Φ Γ ρ (.tup es u1 u2)=(do
  let l <-iJ Φ Γ ρ es
  if l.length<=lim then some (.d (.tup l)) else none):=rfl
theorem nE {a f u1}:ev Φ Γ ρ (.attr a f u1)=(if a.isName then do
  let x <-(<-ev Φ Γ ρ a).asD
  (D.fld f x).map .d
  else none):=rfl
theorem fB {elt gs sc u1}:ev Φ Γ ρ (.comp elt gs sc u1)=(if em Γ sc then match gs with
   |.mk t it ifs::r=>do
    let items <-(<-ev Φ Γ ρ it).asI
    let l <-dI sc t (fun ρ'=>do
     let c <-uR Φ (ay Γ sc) ρ' ifs
     if c then evG Φ sc (ay Γ sc) r (fun ρ''=>do (<-ev Φ (ay Γ sc) ρ'' elt).asD) ρ' else some []) (ρ.cut sc) items
    (uD l).map .d
   |[]=>none
  else none):=by rcases gs with J|⟨⟨t,it,ifs⟩,r⟩<;>rfl
theorem jv {f es u1 u2}:ev Φ Γ ρ (.call f es u1 u2)=(do
  let l <-iJ Φ Γ ρ es
  if Γ f=some .globalImplicit then(Φ.call f l).map .d else none):=rfl
theorem lh {f es u1 u2}:ev Φ Γ ρ (.blt f es u1 u2)=(if Γ f=some .globalImplicit then(match f,es with
   |5,[e]=>do
    let d <-(<-ev Φ Γ ρ e).asD
    match d with
    |.int n=>if 0<=n/\n<=lim then some (.it ((z6 n.toNat).map fun(i:Nat)=>.int (i:Int))) else none
    |_=>none
   |4,[_]=>none
   |f,[e]=>do
    let x <-(<-ev Φ Γ ρ e).asB
    (D.builtin f [x]).map .d
   |_,_=>none) else none):=by rcases es with J|⟨e,J|⟨e2,r⟩⟩<;>rcases f with J|J|J|J|J|J|f<;>rfl
theorem vt {a m es ap p}:ev Φ Γ ρ (.meth a m es ap p)=(if a.isBase&&ap.endLine==p.line then match es with
  |[e]=>do
   let x <-(<-ev Φ Γ ρ a).asD
   let y <-(<-ev Φ Γ ρ e).asD
   (D.method x m [y]).map .d
  |_=>none
  else none):=by rcases es with J|⟨e,J|⟨e2,r⟩⟩<;>rfl
theorem qm {id f u1 u2 sc u3}:ev Φ Γ ρ (.lam id f u1 u2 sc u3)=(if em Γ sc/\f≠0/\Γ.f=f then do
   let caps <-(aD sc).mapM fun x=>match ρ x with|some (.sealed d)=>some d|_=>none
   some (.d (.lam id caps))
  else none):=rfl
theorem nH {a op b u1}:e7 Φ Γ ρ (.cmp a op b u1)=(do
  let x <-(<-ev Φ Γ ρ a).asB
  let y <-(<-ev Φ Γ ρ b).asB
  D.cmp op x y):=rfl
theorem nI {op es u1}:e7 Φ Γ ρ (.bop op es u1)=(wN Φ Γ ρ op es):=rfl
theorem vv {a i u1}:e7 Φ Γ ρ (.idx a i u1)=(do
  let x <-(<-ev Φ Γ ρ a).asB
  let y <-(<-ev Φ Γ ρ i).asD
  (D.item x y).bind D.truth):=rfl
theorem lr {x u1}:e7 Φ Γ ρ (.name x u1)=(match ρ x with
  |some (.fz d)=>d.truth
  |_=>none):=rfl
theorem lu {f es u1 u2}:e7 Φ Γ ρ (.call f es u1 u2)=(do
  let l <-iJ Φ Γ ρ es
  if Γ f=some .globalImplicit then(match Φ.call f l with
   |some (.bool b)=>some b
   |_=>none) else none):=rfl
theorem nD {e u1 u2}:ev Φ Γ ρ (.blt 5 [e] u1 u2)=(if Γ 5=some .globalImplicit then(do
    let d <-(<-ev Φ Γ ρ e).asD
    match d with
    |.int n=>if 0<=n/\n<=lim then some (.it ((z6 n.toNat).map fun(i:Nat)=>.int (i:Int))) else none
    |_=>none) else none):=rfl
theorem vu {e u1 u2}:ev Φ Γ ρ (.blt 4 [e] u1 u2)=none:=ite_self none
theorem jw {f e u1 u2}(h4:f≠4)(h5:f≠5):ev Φ Γ ρ (.blt f [e] u1 u2)=if Γ f=some .globalImplicit then(do let x <-(<-ev Φ Γ ρ e).asB;(D.builtin f [x]).map .d) else none:=by
 refine zF lh ?_;rcases f with J|J|J|J|J|J|f<;>first|rfl|exact absurd rfl h4|exact absurd rfl h5
theorem qt {f es u1 u2}(h:∀e,es≠[e]):ev Φ Γ ρ (.blt f es u1 u2)=none:=by
 rcases es with J|⟨e,J|⟨e2,r⟩⟩
 ·refine zF lh ?_;rcases f with J|J|J|J|J|J|f<;>exact ite_self none
 ·exact absurd rfl (h e)
 ·refine zF lh ?_;rcases f with J|J|J|J|J|J|f<;>exact ite_self none
theorem rX {a m e ap p}:ev Φ Γ ρ (.meth a m [e] ap p)=(if a.isBase&&ap.endLine==p.line then(do
   let x <-(<-ev Φ Γ ρ a).asD
   let y <-(<-ev Φ Γ ρ e).asD
   (D.method x m [y]).map .d)
  else none):=rfl
theorem ix {elt t it ifs r sc u1}:ev Φ Γ ρ (.comp elt (.mk t it ifs::r) sc u1)=(if em Γ sc then(do
    let items <-(<-ev Φ Γ ρ it).asI
    let l <-dI sc t (fun ρ'=>do
     let c <-uR Φ (ay Γ sc) ρ' ifs
     if c then evG Φ sc (ay Γ sc) r (fun ρ''=>do (<-ev Φ (ay Γ sc) ρ'' elt).asD) ρ' else some []) (ρ.cut sc) items
    (uD l).map .d)
  else none):=rfl
end
end Mine
namespace Mine
variable {B:Bs}
noncomputable def mName:Nat->Option String:=fL [(10, "find"),(11, "split"),(12, "join"),(13, "replace"),(14, "translate"),(15, "endswith"),(16, "append"),(17, "extend"),(18, "pop")]
structure Bs.Ok (B:Bs):Prop where
 inj:∀x y,B.nm x=B.nm y->x=y
 nA:∀x,B.nm x≠cz [9000]
 hd:∀f c P,B.CT f=some (c,P)->CodeHd B.h₀ c P/\¬B.T c/\AE≠P/\B.h₀.BuiltinsAt B.mg P/\(∀bm,B.mg "__builtins__" = some (.ref bm)->¬B.T bm)
 ctinj:∀f f' c c' P,B.CT f=some (c,P)->B.CT f'=some (c',P)->f=f'/\c=c'
 g:B.h₀.Ns AE B.mg
 b:B.h₀.Ns Bq B.mb
 gT:¬B.T AE
 bT:¬B.T Bq
 nolimit:B.h₀.NoLimit
 csT:¬B.T cStatics
 sysm:Cg < B.h₀.objs.size
 blts:∀f v,dX f=some v->B.mg (B.nm f)=none/\B.mb (B.nm f)=some v
 mnm:∀m x,mName m=some x->B.nm m=Str.ofString x
 dbg:∀x,(B.nm x==("__debug__" : Str))=false
 cld:∀x,(B.nm x==("__classdict__" : Str))=false
 xk:∀x,B.X=some x->B.h₀.objs.size<=x.dx/\x.ks.Nodup/\x.ks[0]?=some [9000]/\x.vs.length=x.ks.length/\x.ks.length<=lim/\∀y∈x.vs,y.length<=lim
 attr:∀(A:Av) (s:zL) (a dx:Addr) (n:Nat) (ns:List Nat) (ts:List Tok) (dv:List Value) (f:Nat) (v:Value) (E:VS) (Q:VS),aJ B s->s.heap.get? a=some (Cj B.C dx)->
  s.heap.get? dx=some { cls:=.type "dict", dict:=none,data:=.dict (fF B.w.params ((ns.zip ts).map fun p=>Value.str (B.nm p.1) p.2) dv).toArray n,slots:=#[] }->ts.length=ns.length->dv.length=ns.length->
  ((ns.zip dv).find? fun q=>q.1==f)=some (f,v)->((f=19\/f=20\/f=21)\/f=22)->Fe v=true->(∀t,Q v { s with toks:=t })->wpAny B.M A (getAttr (.ref a) (B.nm f) true) Q E s
theorem gU.keep {h h':Heap}{v:Value}{q:Str}(x:gU h v q)(k:∀b o,B.KO o->h.get? b=some o->h'.get? b=some o):gU h' v q:=
 let ⟨c,o,vs,t,e,g,ic,d,r⟩:=x;⟨c,o,vs,t,e,k c o (.inl ic) g,ic,d,r⟩
theorem yr {o:Obj}(h:B.KO o):o.cls=.type "code" \/ o.cls=.type "dict" := h.imp (fun h=>h.1) fun h=>by obtain⟨J,J,J,J,J,h,J⟩:=h;exact h.1
theorem yq {o:Obj}{T:String}(h:B.KO o)(c:o.cls=.type T)(n:(T == "code" || T == "dict")=false):False:=by
 rcases h with h|⟨J,J,J,J,J,h,J⟩
 ·have e:Value.type T=.type "code" := c.symm.trans h.1
  cases e;exact DU (show true=false from n)
 ·have e:Value.type T=.type "dict" := c.symm.trans h.1
  cases e;exact DU (show true=false from n)
theorem Bs.Ok.tikeep (O:B.Ok)(h h':Heap)(x:B.TI h)(k:∀b o,(B.T b\/B.KO o)->h.get? b=some o->h'.get? b=some o):B.TI h':=by
 refine⟨fun z e=>?_,fun f c P e=>?_⟩
 ·obtain⟨t,n,g⟩|⟨t,t',n,q,o,g,nt,go,ko,sy⟩:=x.1 z e
  ·exact .raw t n (k _ _ (.inl (.inr ⟨z,e,rfl⟩)) g)
  ·exact .made t t' n q o (k _ _ (.inl (.inr ⟨z,e,rfl⟩)) g) nt (k _ _ (.inr (.inr ko)) go) ko sy
 refine oQ (x.2 f c P e) fun ps h1 h2 h3=>?_;exact⟨ps,k _ _ (.inl (.inl ⟨f,c,e⟩)) h1,h2,fun pos v q=>(h3 pos v q).keep (B:=B) fun b o ic=>k b o (.inr ic)⟩
theorem Bs.Ok.lamkeep (O:B.Ok) (id:Nat)(cv:List Value)(h:Heap)(W:AP)(a:Addr)(h':Heap)(W':AP)(x:B.Lam id cv h W a)(k:∀b o,(¬W b\/B.KO o)->h.get? b=some o->h'.get? b=some o)(kW:∀b,W' b->W b\/h.get? b=none):B.Lam id cv h' W' a:=by
 obtain⟨L,fo,fd,e,g,d,nw,l⟩:=x;refine⟨L,fo,fd,e,k _ _ (.inl nw) g,d,fun q=>(kW a q).elim nw fun z=>(by rw[g] at z;exact jG z),l.params,l.body,l.scope,l.glob,l.blt,l.dfl,l.qual,l.code.keep (B:=B) fun b o ic=>k b o (.inr ic),l.len,l.only,l.keys,l.nms,l.apart,fun i x v h1 h2=>?_⟩;refine x1211 (l.cells i x v h1 h2) fun c h3 h4 o h5 h6=>?_;exact⟨c,h3,fun q=>(kW c q).elim h4 fun z=>(by rw[h5] at z;exact jG z),o,k _ _ (.inl h4) h5,h6⟩
theorem Bs.Ok.lamthere (O:B.Ok) (id:Nat)(cv:List Value)(h:Heap)(W:AP)(a:Addr)(x:B.Lam id cv h W a):(h.get? a).isSome:=by
 obtain⟨L,fo,fd,e,g,J⟩:=x;refine zF g ?_;rfl
theorem Bs.Ok.lamfun (O:B.Ok) (id:Nat)(cv:List Value)(h:Heap)(W:AP)(a:Addr)(x:B.Lam id cv h W a):∃fo fd,h.get? a=some fo/\fo.data=.func fd:=by
 obtain⟨L,fo,fd,e,g,d,J⟩:=x;exact⟨fo,fd,g,d⟩
section
variable (O:B.Ok)
include O
mutual
theorem av.move {h h':Heap}{W W':AP}(k:∀b o,(¬W b\/B.KO o)->h.get? b=some o->h'.get? b=some o)(kW:∀b,W' b->W b\/h.get? b=none):∀(d:D)(v:Value),av B h W d v->av B h' W' d v
 |.nil,_,r=>r
 |.bool _,_,r=>r
 |.int _,_,r=>r
 |.str _,_,r=>r
 |.list ds,v,r=>by
  simp only[av] at r ⊢;obtain⟨a,vs,n,e,hw,hg,hl,ha⟩:=r;exact⟨a,vs,n,e,fun q=>(kW a q).elim hw fun z=>(by rw[hg] at z;exact jG z),k a _ (.inl hw) hg,hl,aa.move k kW ds _ ha⟩
 |.tup ds,v,r=>by
  simp only[av] at r ⊢;obtain⟨a,vs,n,e,hw,hg,hl,ha⟩:=r;exact⟨a,vs,n,e,fun q=>(kW a q).elim hw fun z=>(by rw[hg] at z;exact jG z),k a _ (.inl hw) hg,hl,aa.move k kW ds _ ha⟩
 |.dict ks ds,v,r=>by
  simp only[av] at r ⊢;obtain⟨x,a,o,e,ev,nt,g,ko,sy,hk,hv,hl⟩:=r;exact⟨x,a,o,e,ev,nt,k a o (.inr (.inr ko)) g,ko,sy,hk,hv,hl⟩
 |.thing ns ds,v,r=>by
  simp only[av] at r ⊢;obtain⟨a,dx,n,ts,dv,e,hw,hg,hw2,hg2,h1,h2,h3⟩:=r;exact⟨a,dx,n,ts,dv,e,fun q=>(kW a q).elim hw fun z=>(by rw[hg] at z;exact jG z),k a _ (.inl hw) hg,fun q=>(kW dx q).elim hw2 fun z=>(by rw[hg2] at z;exact jG z),k dx _ (.inl hw2) hg2,h1,h2,aa.move k kW ds _ h3⟩
 |.lam id caps,v,r=>by
  simp only[av] at r ⊢;obtain⟨a,cv,e,hw,hl,hc⟩:=r;refine⟨a,cv,e,fun q=>(kW a q).elim hw fun z=>?_,O.lamkeep _ _ _ _ _ _ _ hl k kW,aa.move k kW caps _ hc⟩;have:=O.lamthere _ _ _ _ _ hl;rw[z] at this;exact bG this
 |.bi n,_,r=>r
 |.cx d,v,r=>by
  simp only[av] at r ⊢;obtain⟨x,e,ev,hw,hg,h1,h2,h3⟩:=r;exact⟨x,e,ev,fun q=>(kW x.a q).elim hw fun z=>(by rw[hg] at z;exact jG z),k x.a _ (.inl hw) hg,h1,h2,av.move k kW d _ h3⟩
theorem aa.move {h h':Heap}{W W':AP}(k:∀b o,(¬W b\/B.KO o)->h.get? b=some o->h'.get? b=some o)(kW:∀b,W' b->W b\/h.get? b=none):∀(ds:List D)(vs:List Value),aa B h W ds vs->aa B h' W' ds vs
 |[],_,r=>r
 |d::ds,vs,r=>by
  simp only[aa] at r ⊢;obtain⟨v,t,e,h1,h2⟩:=r;exact⟨v,t,e,av.move k kW d v h1,aa.move k kW ds t h2⟩
end
end
theorem aa.length {h:Heap}{W:AP}:∀{ds:List D}{vs:List Value},aa B h W ds vs->vs.length=ds.length
 |[],_,r=>by simp only[aa] at r;subst r;rfl
 |d::ds,vs,r=>by
  simp only[aa] at r;obtain⟨v,t,rfl,J,h2⟩:=r;exact zF AB<|zF AB<|zF (aa.length h2) rfl
theorem aa.nil {h:Heap}{W:AP}:aa B h W [] []:=by simp[aa]
theorem aa.cons {h:Heap}{W:AP}{d:D}{ds:List D}{v:Value}{vs:List Value}(a:av B h W d v)(b:aa B h W ds vs):aa B h W (d::ds) (v::vs):=by
 simp only[aa];exact⟨v,vs,rfl,a,b⟩
theorem aa.append {h:Heap}{W:AP}:∀{ds es:List D}{vs us:List Value},aa B h W ds vs->aa B h W es us->aa B h W (ds++es) (vs++us)
 |[],_,_,_,r,q=>by simp only[aa] at r;subst r;exact q
 |d::ds,es,vs,us,r,q=>by
  simp only[aa] at r;obtain⟨v,t,rfl,h1,h2⟩:=r;exact aa.cons h1 (aa.append h2 q)
theorem aa.get {h:Heap}{W:AP}:∀{ds:List D}{vs:List Value}{i:Nat}{d:D},aa B h W ds vs->ds[i]?=some d->∃v,vs[i]?=some v/\av B h W d v
 |[],_,_,_,_,e=>by simp at e
 |d::ds,vs,0,d',r,e=>by
  simp only[aa] at r;obtain⟨v,t,rfl,h1,h2⟩:=r;simp only[DT,zV] at e;subst e;exact⟨v,rfl,h1⟩
 |d::ds,vs,i+1,d',r,e=>by
  simp only[aa] at r;obtain⟨v,t,rfl,h1,h2⟩:=r;exact aa.get (i:=i) h2 (e)
theorem aa.drop {h:Heap}{W:AP}:∀{ds:List D}{vs:List Value}(k:Nat),aa B h W ds vs->aa B h W (ds.drop k) (vs.drop k)
 |_,_,0,r=>r
 |[],vs,k+1,r=>by simp only[aa] at r;subst r;simp[aa]
 |d::ds,vs,k+1,r=>by
  simp only[aa] at r;obtain⟨v,t,rfl,h1,h2⟩:=r
  simpa using aa.drop k h2
theorem aa.take {h:Heap}{W:AP}:∀{ds:List D}{vs:List Value}(k:Nat),aa B h W ds vs->aa B h W (ds.take k) (vs.take k)
 |_,_,0,_=>by simp[aa]
 |[],vs,k+1,r=>by simp only[aa] at r;subst r;simp[aa]
 |d::ds,vs,k+1,r=>by
  simp only[aa] at r;obtain⟨v,t,rfl,h1,h2⟩:=r;exact aa.cons h1 (aa.take k h2)
theorem wF {n:Nat}{v:Value}(h:dX n=some v):Fe v=true:=bj (P:=fun J v=>Fe v=true) (by decide +kernel) n v h
theorem av.handed {h:Heap}{W:AP}{d:D}{v:Value}(r:av B h W d v):Fe v=true:=by
 cases d<;>simp only[av] at r
 case nil=>subst r;rfl
 case bool=>subst r;rfl
 case int=>refine x1 r fun J e91=>?_;subst e91;rfl
 case str=>refine aS r fun p91 J=>?_;obtain⟨J,rfl⟩:=p91;rfl
 case list=>obtain⟨J,J,J,rfl,J⟩:=r;rfl
 case tup=>obtain⟨J,J,J,rfl,J⟩:=r;rfl
 case dict=>obtain⟨J,J,J,J,rfl,J⟩:=r;rfl
 case thing=>obtain⟨J,J,J,J,J,rfl,J⟩:=r;rfl
 case lam=>obtain⟨J,J,rfl,J⟩:=r;rfl
 case cx=>obtain⟨J,J,rfl,J⟩:=r;rfl
 case bi=>exact wF r
theorem i0 {h:Heap}{W:AP}{i:Int}{t:Tok}:av B h W (.int i) (.int i t):=⟨t,rfl⟩
theorem md {h:Heap}{W:AP}{l:List Nat}{t:Tok}(hl:l.length<=lim):av B h W (.str l) (.str ⟨l.toArray⟩ t):=⟨⟨t,rfl⟩,hl⟩
theorem nf {h:Heap}{W:AP}{i:Int}{v:Value}(r:av B h W (.int i) v):∃t,v=.int i t:=r
theorem iD {h:Heap}{W:AP}{l:List Nat}{v:Value}(r:av B h W (.str l) v):∃t,v=.str ⟨l.toArray⟩ t/\l.length<=lim:=let ⟨⟨t,e⟩,hl⟩:=r;⟨t,e,hl⟩
theorem az.refl (s:zL):az B s s:=⟨fun _ _ _ e=>e,fun _ _ _ e=>e,zW _,id,fun _ _ e=>e,id,rfl⟩
theorem az.trans {s s' s'':zL}(a:az B s s')(b:az B s' s''):az B s s'':=
 ⟨fun x o t e=>b.keep x o t (a.keep x o t e),fun x o t e=>b.ck x o t (a.ck x o t e),zH a.size b.size,fun t=>b.ti (a.ti t),fun i x e=>b.gens i x (a.gens i x e),fun t=>b.bare (a.bare t),b.os.trans a.os⟩
theorem az.toks {s:zL}(t:Nat):az B s { s with toks:=t }:=⟨fun _ _ _ e=>e,fun _ _ _ e=>e,zW _,id,fun _ _ e=>e,id,rfl⟩
theorem az.heap (O:B.Ok){s:zL}{h':Heap}(t:Nat)(k:∀b o,s.heap.get? b=some o->h'.get? b=some o)(hs:s.heap.objs.size<=h'.objs.size):az B s { s with heap:=h',toks:=t }:=
 ⟨fun b o _ e=>k b o e,fun b o _ e=>k b o e,hs,fun x=>O.tikeep _ _ x fun b o _ e=>k b o e,fun _ _ e=>e,id,rfl⟩
theorem az.push (O:B.Ok){s:zL}(o:Obj) (t:Nat):az B s { s with heap:=s.heap.push o,toks:=t }:=
 az.heap O t (fun J J e=>z9 o e) (by refine zF (Aq _ _) ?_;lia)
theorem az.kW {s s':zL}{W:AP}(e:az B s s')(tW:∀b,B.T b->W b):∀b o,(¬W b\/B.KO o)->s.heap.get? b=some o->s'.heap.get? b=some o:=
 fun b o n q=>n.elim (fun n=>e.keep b o (fun t=>n (tW b t)) q) fun n=>e.ck b o n q
theorem aJ.move {s s':zL}(g:aJ B s)(e:az B s s'):aJ B s':=
 ⟨fun b o t x=>e.keep b o t (g.base b o t x),zH g.size e.size,e.ti g.ti,fun b t=>zI (g.tlt b t) e.size⟩
theorem aJ.hi {s:zL}(g:aJ B s){b:Addr}(h:s.heap.objs.size<=b):B.Hi b:=⟨zH g.size h,fun t=>zJ _ (zI (g.tlt b t) h)⟩
theorem av.eff (O:B.Ok){s s':zL}{W:AP}{d:D}{v:Value}(tW:∀b,B.T b->W b)(r:av B s.heap W d v)(e:az B s s'):av B s'.heap W d v:=
 av.move O (e.kW tW) (fun _ q=>.inl q) d v r
theorem aa.eff (O:B.Ok){s s':zL}{W:AP}{d:List D}{v:List Value}(tW:∀b,B.T b->W b)(r:aa B s.heap W d v)(e:az B s s'):aa B s'.heap W d v:=
 aa.move O (e.kW tW) (fun _ q=>.inl q) d v r
theorem av.less (O:B.Ok){h:Heap}{W W':AP}{d:D}{v:Value}(r:av B h W d v)(k:∀b,W' b->W b):av B h W' d v:=
 av.move O (fun _ _ _ x=>x) (fun b q=>.inl (k b q)) d v r
theorem aa.less (O:B.Ok){h:Heap}{W W':AP}{d:List D}{v:List Value}(r:aa B h W d v)(k:∀b,W' b->W b):aa B h W' d v:=
 aa.move O (fun _ _ _ x=>x) (fun b q=>.inl (k b q)) d v r
theorem BO.moved {h h':Heap}{a:Addr}{m:Str->Option Value}(n:h.Ns a m)(k:∀o,h.get? a=some o->h'.get? a=some o):h'.Ns a m:=
 let ⟨o,es,ep,e,r⟩:=n;⟨o,es,ep,k _ e,r⟩
theorem B5.moved {h h':Heap}{a:Addr}{v:Option Value}(n:h.IsCell a v)(k:∀o,h.get? a=some o->h'.get? a=some o):h'.IsCell a v:=
 let ⟨o,e,r⟩:=n;⟨o,k _ e,r⟩
theorem Ns.uniq {h:Heap}{a:Addr}{m m':Str->Option Value}(n:h.Ns a m)(n':h.Ns a m'):m=m':=by
 refine x33 n fun o es ep e hd J hm=>?_;refine x33 n' fun o' es' ep' e' hd' J hm'=>?_;obtain rfl:=zG (e.symm.trans e');replace hd':=hd▸hd';cases hd'
 funext x;exact zF (AM (hm _))<|zF (AM (hm' _)) rfl
theorem IsCell.uniq {h:Heap}{a:Addr}{m m':Option Value}(n:h.IsCell a m)(n':h.IsCell a m'):m=m':=by
 refine am n fun o e hd=>?_;refine am n' fun o' e' hd'=>?_;obtain rfl:=zG (e.symm.trans e');replace hd':=hd▸hd';cases hd';rfl
theorem cP.uniq {pe:Env}{h:Heap}{x:Nat}{v v':Value}(l:cP B pe h x v)(l':cP B pe h x v'):v=v':=by
 rcases l with⟨k,m,n,e⟩|⟨k,c,e,hc⟩<;>rcases l' with⟨k',m',n',e'⟩|⟨k',c',e',hc'⟩
 ·rw[Ns.uniq n n'] at e;obtain rfl:=zG (e.symm.trans e');rfl
 ·rw[k] at k';rcases k' with k'|k'<;>cases k'
 ·rw[k'] at k;rcases k with k|k<;>cases k
 ·obtain rfl:=zG (e.symm.trans e')
  have:=IsCell.uniq hc hc';obtain rfl:=zG this;rfl
theorem i4 {bs bs':List Addr}{n n':Nat}{h:Heap}{c:Addr}(a:h.get? c=some { cls:=.type "list", dict:=none,data:=.seq (bs.map Value.ref).toArray n,slots:=#[] }) (b:h.get? c=some { cls:=.type "list", dict:=none,data:=.seq (bs'.map Value.ref).toArray n',slots:=#[] }):bs=bs':=by
 have:=zG (a.symm.trans b)
 injection this with _ _ q _
 injection q with q _
 have q:=congrArg Array.toList q;exact(List.map_inj_right (fun x y e=>by injection e)).mp q
theorem aM.back {L:Addr}{h h':Heap}{Wc W:AP}{en:dL}{v:Value}{b:Addr}(r:aR B L h Wc W en v)(k:∀c o,¬W c->h.get? c=some o->h'.get? c=some o)(o:aM h' en v b):aM h en v b:=by
 cases en with
 |fz d=>exact o
 |sealed d=>exact o
 |own l=>exact o
 |ownD l=>exact o
 |ptr u=>exact o
 |own2 l=>
  obtain⟨c,bs,n,rfl,w,g,J⟩:=r;refine wL o fun c' bs' n' e g' m=>?_;obtain rfl:=Value.ref.inj e;obtain rfl:=i4 (k c _ w g) g';exact⟨c,bs,n,rfl,g,m⟩
noncomputable def fH (B:Bs)(L:Addr)(h:Heap)(b:Addr):Prop:=(∃vs n,h.get? b=some { cls:=.type "list", dict:=none,data:=.seq vs n,slots:=#[] })\/b≠L/\∃kvs:List (Str×Value),h.DictOf (AQ B.prog B.w) b kvs/\∀q∈kvs,q.2=.none
theorem aM.w {L:Addr}{h:Heap}{Wc W:AP}{en:dL}{v:Value}{b:Addr}(r:aR B L h Wc W en v)(o:aM h en v b):(W b/\¬Wc b)/\fH B L h b:=by
 cases en with
 |fz d=>exact o.elim
 |sealed d=>exact o.elim
 |ptr u=>exact o.elim
 |own l=>
  obtain⟨a,vs,n,rfl,h1,h2,h3,J⟩:=r;obtain rfl:=Value.ref.inj o;exact⟨⟨h1,h2⟩,.inl ⟨vs,n,h3⟩⟩
 |ownD l=>
  obtain⟨a,rfl,h1,h2,h3,J,h4⟩:=r;obtain rfl:=Value.ref.inj o;exact⟨⟨h1,h2⟩,.inr ⟨h3,_,h4,fun q m=>by refine am (Ac.mp m) fun J J e91=>?_;subst e91;rfl⟩⟩
 |own2 l=>
  obtain⟨c,bs,n,rfl,w,g,J,len,J,r⟩:=r;refine wL o fun c' bs' n' e g' m=>?_;obtain rfl:=Value.ref.inj e;obtain rfl:=i4 g g';obtain⟨i,hi,rfl⟩:=List.mem_iff_getElem.mp m;obtain⟨a,vs,n,e,h1,h2,h3,J⟩:=r i bs[i] (l[i]'(len▸hi)) (Am hi) (Am _);obtain rfl:=Value.ref.inj e;exact⟨⟨h1,h2⟩,.inl ⟨vs,n,h3⟩⟩
theorem aR.map {L L':Addr}{h h':Heap}{Wc W Wc' W':AP}{en:dL}{v:Value}(r:aR B L h Wc W en v)(up:∀d u,av B h W d u->av B h' W' d u)(upA:∀d u,aa B h W d u->aa B h' W' d u)(kc:∀c o,¬W c->h.get? c=some o->h'.get? c=some o/\¬W' c)
  (ko:∀b,aM h en v b->W b->¬Wc b->fH B L h b->(W' b/\¬Wc' b)/\∀o,h.get? b=some o->h'.get? b=some o) (hL:∀b,W b->b≠L->b≠L'):aR B L' h' Wc' W' en v:=by
 have k1:∀{l u b},pY B h Wc W l u->u=.ref b->aM h en v b->pY B h' Wc' W' l u:=fun{l u b} r hu o=>by
  obtain⟨a,vs,n,rfl,h1,h2,h3,h4,h5⟩:=r;obtain rfl:=Value.ref.inj hu;obtain⟨⟨w,wc⟩,k⟩:=ko a o h1 h2 (.inl ⟨vs,n,h3⟩);exact⟨a,vs,n,rfl,w,wc,k _ h3,h4,upA _ _ h5⟩
 cases en with
 |fz d=>exact up d v r
 |sealed d=>exact up d v r
 |ptr u=>exact r
 |own l=>
  have r':=r;obtain⟨a,vs,n,e,J⟩:=r;exact k1 r' e e
 |ownD l=>
  obtain⟨a,rfl,h1,h2,h3,hs,h4⟩:=r;obtain⟨⟨w,wc⟩,k⟩:=ko a rfl h1 h2 (.inr ⟨h3,_,h4,fun q m=>by refine am (Ac.mp m) fun J J e91=>?_;subst e91;rfl⟩);exact⟨a,rfl,w,wc,hL a h1 h3,hs,PySem.Heap.DictOf.at h4 fun o q=>k o q⟩
 |own2 l=>
  obtain⟨c,bs,n,rfl,w,g,nd,len,hl,r⟩:=r;refine aS (kc c _ w g) fun g' w'=>?_;exact⟨c,bs,n,rfl,w',g',nd,len,hl,fun i b l hb hl=>k1 (r i b l hb hl) rfl ⟨c,bs,n,rfl,g,BK hb⟩⟩
section
variable {Γ:ah}{Wc W:AP}{pe:Env}{ρ:ac}{s s':zL}
theorem Ctx.owns' {h':Heap}{pe':Env}(X:Ctx B Γ Wc W pe ρ s)(mv:∀y w,cP B pe s.heap y w->cP B pe' h' y w)(k:∀c o,¬W c->s.heap.get? c=some o->h'.get? c=some o):∀x y e e' v v' b,ρ x=some e->ρ y=some e'->cP B pe' h' x v->cP B pe' h' y v'->aM h' e v b->aM h' e' v' b->x=y:=by
 intro x y e e' v v' b hx hy lx ly o1 o2;refine am (X.vars x _ hx) fun u l1 r1=>?_;refine am (X.vars y _ hy) fun u' l2 r2=>?_;obtain rfl:=cP.uniq lx (mv _ _ l1);obtain rfl:=cP.uniq ly (mv _ _ l2);exact X.owns x y _ _ _ _ b hx hy l1 l2 (aM.back r1 k o1) (aM.back r2 k o2)
theorem Ctx.cellT (X:Ctx B Γ Wc W pe ρ s){x:Nat}{c:Addr}(e:pe.cells.lookup (B.nm x)=some c):¬B.T c:=by
 rcases X.cellW x c e with q|q
 ·refine am (X.sealedW x q) fun c' e' hw=>?_
  obtain rfl:=zG (e.symm.trans e');exact fun t=>hw (X.cW _ (X.tW _ t))
 ·exact fun t=>q.2 (X.tW _ t)
theorem Ctx.locmove (X:Ctx B Γ Wc W pe ρ s)(e:az B s s'){x:Nat}{v:Value}(l:cP B pe s.heap x v):cP B pe s'.heap x v:=by
 rcases l with⟨k,m,n,q⟩|⟨k,c,q,hc⟩
 ·exact .inl ⟨k,m,BO.moved n fun o y=>e.keep _ _ (fun t=>X.locW.2 (X.tW _ t)) y,q⟩
 ·exact .inr ⟨k,c,q,B5.moved hc fun o y=>e.keep _ _ (X.cellT q) y⟩
theorem Ctx.move (O:B.Ok)(X:Ctx B Γ Wc W pe ρ s)(e:az B s s'):Ctx B Γ Wc W pe ρ s' where
 good:=X.good.move e
 fn:=X.fn
 glob:=X.glob
 blt:=X.blt
 tW:=X.tW
 cW:=X.cW
 wlt:=fun b q=>zI (X.wlt b q) e.size
 loc:=let ⟨m,n,z⟩:=X.loc;⟨m,BO.moved n fun o y=>e.keep _ _ (fun t=>X.locW.2 (X.tW _ t)) y,z⟩
 locW:=X.locW
 ow:=X.ow
 code:=X.code
 kinds:=X.kinds
 cells:=fun x c q=>let ⟨⟨v,hv⟩,ht⟩:=X.cells x c q;⟨⟨v,B5.moved hv fun o y=>e.keep _ _ ht y⟩,ht⟩
 apart:=X.apart
 cellW:=X.cellW
 vars:=fun x en q=>by
  refine am (X.vars x en q) fun v l r=>?_;refine⟨v,X.locmove e l,?_⟩;exact r.map (fun d u r=>av.eff O (fun b t=>X.cW _ (X.tW _ t)) r e) (fun d u r=>aa.eff O (fun b t=>X.cW _ (X.tW _ t)) r e) (fun c o w q=>⟨e.keep c o (fun t=>w (X.cW _ (X.tW _ t))) q,w⟩) (fun b J w wc J=>⟨⟨w,wc⟩,fun o q=>e.keep b o (fun t=>wc (X.tW _ t)) q⟩) fun J J q=>q
 sealedW:=X.sealedW
 owns:=X.owns' (fun J J l=>X.locmove e l) fun c o w q=>e.keep c o (fun t=>w (X.cW _ (X.tW _ t))) q
end
end Mine
namespace Mine
variable {B:Bs}{K:Nat}
inductive SeqB (h:Heap) (len:Nat)(v:Value)(P:List Value->Prop):Prop
 |mk (a:Addr) (vs:Array Value) (n:Nat) (e:v=.ref a) (g:h.get? a=some { cls:=.type "list", dict:=none,data:=.seq vs n,slots:=#[] }) (l:len<=lim) (r:P vs.toList)
noncomputable def bE (B:Bs)(h:Heap)(W:AP)(d:D)(v:Value):Prop:=match d with
 |.list ds=>SeqB h ds.length v (aa B h W ds)
 |d=>av B h W d v
theorem av.b {h:Heap}{W:AP}{d:D}{v:Value}(r:av B h W d v):bE B h W d v:=by
 cases d with
 |list ds=>simp only[av] at r;obtain⟨a,vs,n,e,J,g,l,q⟩:=r;exact⟨a,vs,n,e,g,l,q⟩
 |_=>exact r
theorem pC {h:Heap}{W:AP}{i:Int}{v:Value}(r:bE B h W (.int i) v):∃t,v=.int i t:=r
theorem gy {h:Heap}{W:AP}{l:List Nat}{v:Value}(r:bE B h W (.str l) v):∃t,v=.str ⟨l.toArray⟩ t/\l.length<=lim:=iD (B:=B) (h:=h) (W:=W) r
theorem bE.eff (O:B.Ok){s s':zL}{W:AP}{d:D}{v:Value}(tW:∀b,B.T b->W b)(hT:∀a,v=.ref a->¬B.T a)(r:bE B s.heap W d v)(e:az B s s'):bE B s'.heap W d v:=by
 cases d with
 |list ds=>
  obtain⟨a,vs,n,rfl,g,l,ra⟩:=r;exact⟨a,vs,n,rfl,e.keep _ _ (hT a rfl) g,l,aa.eff O tW ra e⟩
 |_=>exact av.eff O tW r e
structure Pv where
 a:Addr->Prop
 g:Nat->Prop
structure ao (B:Bs)(p:Pv)(s s':zL):Prop where
 keep:∀b o,¬B.T b->¬p.a b->s.heap.get? b=some o->s'.heap.get? b=some o
 ck:∀b o,B.KO o->s.heap.get? b=some o->s'.heap.get? b=some o
 size:s.heap.objs.size<=s'.heap.objs.size
 ti:B.TI s.heap->B.TI s'.heap
 gens:∀(i:Nat) (x:Dx),¬p.g i->s.gens[i]?=some x->s'.gens[i]?=some x
 gsize:s.gens.size<=s'.gens.size
 bare:AllBare s.gens->AllBare s'.gens
 os:s'.os=s.os
noncomputable def xZ (T:String):Bool:=["list_iterator", "tuple_iterator", "str_iterator", "str_ascii_iterator", "range_iterator", "generator"].contains T
structure be (B:Bs) (K:Nat)(F:AP)(it:Addr)(I:List D->Pv->zL->Prop):Prop where
 sub:∀l p s,I l p s->∀b,p.a b->¬F b/\¬B.T b/\b < s.heap.objs.size
 subg:∀l p s,I l p s->∀i,p.g i->i < s.gens.size
 ft:∀l p s,I l p s->∀b,F b->¬B.T b
 stay:∀l p s s',I l p s->(∀b o,¬B.T b->(F b\/p.a b)->s.heap.get? b=some o->s'.heap.get? b=some o)->(∀b o,B.KO o->s.heap.get? b=some o->s'.heap.get? b=some o)->s.heap.objs.size<=s'.heap.objs.size->
  (∀(i:Nat) (x:Dx),p.g i->s.gens[i]?=some x->s'.gens[i]?=some x)->aJ B s'->I l p s'
 next:∀d l p s A E (Q:Option Value->zL->Prop),I (d::l) p s->aJ B s->aB A (K - 4)->
  (∀v s' p',ao B p s s'->(∀b,p.a b->p'.a b)->(∀b,p'.a b->p.a b\/s.heap.objs.size<=b)->p'.g=p.g->av B s'.heap (fun b=>¬F b) d v->I l p' s'->Q (some v) s')->
  wpAny B.M A (Do (.ref it)) Q E s
 done:∀p s A E (Q:Option Value->zL->Prop),I [] p s->aJ B s->aB A (K - 4)->(∀s',ao B p s s'->Q none s')->wpAny B.M A (Do (.ref it)) Q E s
 self:∀l p s A E (Q:VS),I l p s->aJ B s->aB A (K - 4)->Q (.ref it) s->wpAny B.M A (FB (.ref it)) Q E s
inductive zA (W:AP)(v:Value)(l:List D)(s':zL):Prop
 |mk (r:Addr) (lo n:Int) (t u z:Tok) (e:v=.ref r) (w:¬W r) (h:IsRange s'.heap r lo n 1 t u z) (hs:(-(lim:Int)<=lo/\lo<=lim)/\-(lim:Int)<=n/\n<=lim) (hl:(n - lo).toNat<=lim) (el:l=(z6 (n - lo).toNat).map fun(i:Nat)=>D.int (lo+i))
inductive eY (B:Bs) (K:Nat)(s:zL)(W:AP)(v:Value)(l:List D)(s':zL):Prop
 |mk (a:Addr) (F:AP) (p:Pv) (I:List D->Pv->zL->Prop) (e:v=.ref a) (ty:∀l p s,I l p s->s.TypeIs (.ref a) "generator") (ok:be B K F a I) (i:I l p s') (f:∀b,F b->¬W b/\b < s'.heap.objs.size) (pa:∀b,p.a b->s.heap.objs.size<=b) (pg:∀i,p.g i->s.gens.size<=i) (hl:l.length<=lim)
noncomputable def ItRep (B:Bs) (K:Nat)(s:zL)(W:AP)(v:Value)(l:List D)(s':zL):Prop:=zA W v l s'\/eY B K s W v l s'
noncomputable def cu (B:Bs) (K:Nat)(s:zL)(W:AP)(r:R)(v:Value)(s':zL):Prop:=match r with
 |.d x=>av B s'.heap W x v
 |.own l=>bE B s'.heap W (.list l) v/\∀a,v=.ref a->¬B.T a
 |.it l=>ItRep B K s W v l s'
noncomputable abbrev hY:Value->zL->Prop:=fun J J=>False
inductive ch (B:Bs) (K:Nat) (f:Nat)(args:List D)(d:D):Prop
 |mk (fa:Addr) (fo:Obj) (fd:BD) (m:B.mg (B.nm f)=some (.ref fa)) (t:¬B.T fa) (g:B.h₀.get? fa=some fo) (e:fo.data=.func fd) (r:∀A s W vals,aJ B s->aB A K->(∀b,B.T b->W b)->(∀b,W b->b < s.heap.objs.size)->aa B s.heap W args vals->
   BZ B.M A (.call (.ref fa) ⟨vals,[]⟩) (fun r s'=>∃v,r=.ok (.ret v)/\az B s s'/\av B s'.heap W d v) s)
noncomputable def c7 (B:Bs) (K:Nat) (id:Nat)(caps args:List D)(d:D):Prop:=
 ∀fa cv A s W vals,aJ B s->aB A K->(∀b,B.T b->W b)->(∀b,W b->b < s.heap.objs.size)->B.Lam id cv s.heap W fa->aa B s.heap W caps cv->aa B s.heap W args vals->
  BZ B.M A (.call (.ref fa) ⟨vals,[]⟩) (fun r s'=>∃v,r=.ok (.ret v)/\az B s s'/\av B s'.heap W d v) s
noncomputable def eP (B:Bs) (K:Nat) (id:Nat)(caps args:List D)(l:List D):Prop:=
 ∀fa cv A s W vals,aJ B s->aB A K->(∀b,B.T b->W b)->(∀b,W b->b < s.heap.objs.size)->B.Lam id cv s.heap W fa->aa B s.heap W caps cv->aa B s.heap W args vals->
  BZ B.M A (.call (.ref fa) ⟨vals,[]⟩) (fun r s'=>∃v,r=.ok (.ret v)/\az B s s'/\eY B K s W v l s') s
structure bx (B:Bs) (K:Nat)(Φ:bq):Prop where
 call:∀f args d,Φ.call f args=some d->ch B K f args d
 lam:∀id caps args d,Φ.lam id (caps++args)=some d->c7 B K id caps args d
 gen:∀id caps args l,Φ.lam id (caps++args)=none->Φ.gen id (caps++args)=some l->eP B K id caps args l
noncomputable def aW (B:Bs) (K:Nat)(Φ:bq)(e:E):Prop:=∀Γ ρ r,ev Φ Γ ρ e=some r->∀Wc W pe A s,Ctx B Γ Wc W pe ρ s->aB A K->
 wpAny B.M A (eval (e.py B.nm) pe) (fun v s'=>az B s s'/\cu B K s W r v s') hY s
noncomputable def eJ (B:Bs) (K:Nat)(Φ:bq)(e:E):Prop:=∀Γ ρ b,e7 Φ Γ ρ e=some b->∀Wc W pe A s,Ctx B Γ Wc W pe ρ s->aB A K->
 wpAny B.M A (EC (e.py B.nm) pe (eval (e.py B.nm) pe)) (fun c s'=>az B s s'/\c=b) hY s
theorem Ctx.tW' {Γ:ah}{Wc W:AP}{pe:Env}{ρ:ac}{s:zL}(X:Ctx B Γ Wc W pe ρ s):∀b,B.T b->W b:=fun b t=>X.cW b (X.tW b t)
theorem zi {n:Nat}{a:Addr}(h:dX n=some (.ref a)):False:=DU (show false=true from bj (P:=fun(_:Nat)(v:Value)=>(match v with|.ref _=>false|_=>true)=true) (by decide) n (.ref a) h)
theorem av.notT {h:Heap}{W:AP}(tW:∀b,B.T b->W b){d:D}{v:Value}(r:av B h W d v):∀a,v=.ref a->¬B.T a:=by
 intro a e t;subst e
 cases d<;>simp only[av] at r
 case nil=>exact nomatch r
 case bool=>exact nomatch r
 case int=>obtain⟨J,q⟩:=r;exact nomatch q
 case str=>refine aS r fun p91 J=>?_;obtain⟨J,q⟩:=p91;exact nomatch q
 case list=>obtain⟨J,J,J,q,hw,J⟩:=r;cases q;exact hw (tW _ t)
 case tup=>obtain⟨J,J,J,q,hw,J⟩:=r;cases q;exact hw (tW _ t)
 case dict=>obtain⟨J,J,J,J,q,nt,J⟩:=r;cases q;exact nt t
 case thing=>obtain⟨J,J,J,J,J,q,hw,J⟩:=r;cases q;exact hw (tW _ t)
 case lam=>obtain⟨J,J,q,hw,J⟩:=r;cases q;exact hw (tW _ t)
 case bi=>exact zi r
 case cx=>obtain⟨J,J,q,hw,J⟩:=r;cases q;exact hw (tW _ t)
theorem cu.asB {s s':zL}{W:AP}(tW:∀b,B.T b->W b){r:R}{v:Value}{x:D}(e:r.asB=some x)(p:cu B K s W r v s'):bE B s'.heap W x v/\∀a,v=.ref a->¬B.T a:=by
 cases r with
 |d y=>obtain rfl:=zG e;exact⟨av.b p,av.notT tW p⟩
 |own l=>obtain rfl:=zG e;exact p
 |it l=>exact ai e
theorem cu.asD {s s':zL}{W:AP}{r:R}{v:Value}{x:D}(e:r.asD=some x)(p:cu B K s W r v s'):av B s'.heap W x v:=by
 cases r with
 |d y=>obtain rfl:=zG e;exact p
 |own l=>exact ai e
 |it l=>exact ai e
section
variable {Φ:bq}{K:Nat}(O:B.Ok)
include O
theorem snd_int {i:Int}{p:Pos}:aW B K Φ (.int i p):=by
 intro Γ ρ r h Wc W pe A s X R;simp only[qo,zV] at h;subst h;exact wpAny_Constant_int ⟨az.toks _,by simp only[cu,av];exact⟨_,rfl⟩⟩
theorem snd_str {l:List Nat}{p:Pos}:aW B K Φ (.str l p):=by
 intro Γ ρ r h Wc W pe A s X R;simp only[qi,mkS,Aa] at h;obtain⟨d,h,rfl⟩:=h
 split at h
 ·obtain rfl:=zG h
  refine Fo ⟨az.toks _,?_⟩;exact⟨⟨_,rfl⟩,by assumption⟩
 ·exact ai h
theorem snd_nil {p:Pos}:aW B K Φ (.nil p):=by
 intro Γ ρ r h Wc W pe A s X R;simp only[qk,zV] at h;subst h;show wpAny _ _ (pure Value.none) _ _ _;exact zR ⟨az.refl _,by simp only[cu,av]⟩
theorem Ctx.name {Γ:ah}{Wc W:AP}{pe:Env}{ρ:ac}{s:zL}{A:Av}{E:VS}(X:Ctx B Γ Wc W pe ρ s){x:Nat}{v:Value}{Q:VS}(l:cP B pe s.heap x v)(h:Q v s)
  (hd:(B.nm x==("__classdict__" : Str))=false):wpAny B.M A (loadName pe (B.nm x)) Q E s:=by
 rcases l with⟨k,m,n,q⟩|⟨k|k,c,q,hc⟩
 ·exact Af X.fn k n q h
 ·exact wpAny_loadName_cell X.fn k q hc h
 ·exact wpAny_loadName_free X.fn k q hc h hd
end
end Mine
namespace Mine
variable {B:Bs}
theorem mapM_nil {α β:Type}{f:α->Option β}:([]:List α).mapM f=some []:=by simp
theorem dG {α β:Type}{f:α->Option β}{a:α}{l:List α}{r:List β}(h:(a::l).mapM f=some r):∃b t,f a=some b/\l.mapM f=some t/\r=b::t:=by
 rw[CC] at h
 cases hb:f a with
 |none=>rw[hb] at h;exact ai h
 |some b=>
  replace h:=hb▸h
  cases ht:l.mapM f with
  |none=>rw[ht] at h;exact ai h
  |some t=>rw[ht] at h;obtain rfl:=zG h;exact⟨b,t,rfl,rfl,rfl⟩
theorem fP {h:Heap}{W:AP}{f:D->Option FZ}(hf:∀d p v,f d=some p->av B h W d v->(∃as,Reads h v p as)/\p.canLay0=true):∀{l:List D}{ps:List FZ}{vs:List Value},l.mapM f=some ps->aa B h W l vs->(∃as,ReadsAll h vs ps as)/\Gj ps=true
 |[],ps,vs,e,r=>by
  obtain rfl:=zG (mapM_nil.symm.trans e);simp only[aa] at r;subst r;exact⟨⟨_,.nil⟩,rfl⟩
 |d::l,ps,vs,e,r=>by
  refine lM (dG e) fun p t e1 e2 e91=>?_;subst e91;simp only[aa] at r;obtain⟨v,u,rfl,r1,r2⟩:=r;refine aS (hf d p v e1 r1) fun p91 c1=>?_;obtain⟨as,ra⟩:=p91;refine aS (fP hf e2 r2) fun p91 c2=>?_;obtain⟨bs,rb⟩:=p91;exact⟨⟨_,.cons ra rb⟩,by simp[Gj,c1,c2]⟩
theorem f6 {f:D->Option FZ}{n:Nat}(hf:∀d p,f d=some p->p.depth<=n):∀{l:List D}{ps:List FZ},l.mapM f=some ps->CR ps<=n
 |[],ps,e=>by obtain rfl:=zG (mapM_nil.symm.trans e);simp[CR]
 |d::l,ps,e=>by
  refine lM (dG e) fun p t e1 e2 e91=>?_;subst e91;exact Nat.max_le.mpr ⟨hf d p e1,f6 hf e2⟩
set_option tactic.hygienic true in
theorem d0:∀(n:Nat)(d:D)(p:FZ),D.pd n d=some p->p.depth<=n
 |0,_,_,e=>ai (show none=some _ from e)
 |n+1,d,p,e=>by
  cases d
  case nil=>cases e;exact Ae _
  case bool=>cases e;exact Ae _
  case int=>cases e;exact Ae _
  case str=>refine aS (aE e) fun J e91=>?_;subst e91;exact Ae _
  case list l=>
   refine am (aK e) fun ps e1 e91=>?_;subst e91;exact B9 (f6 (fun d p h=>d0 n d p h) e1)
  case tup l=>
   refine am (aK e) fun ps e1 e91=>?_;subst e91;exact B9 (f6 (fun d p h=>d0 n d p h) e1)
  all_goals exact ai e
theorem str_ok {l:List Nat}(h:l.all (· < 1114112)=true):(FZ.str (cz l)).canLay0=true:=by
 show((l.toArray).all (· < 0x110000))=true;refine zF List.all_toArray ?_;exact h
set_option tactic.hygienic true in
theorem bU {h:Heap}{W:AP}:∀(n:Nat)(d:D)(p:FZ)(v:Value),D.pd n d=some p->bE B h W d v->(∃as,Reads h v p as)/\p.canLay0=true
 |0,_,_,_,e,_=>ai (show none=some _ from e)
 |n+1,d,p,v,e,r=>by
  cases d
  case nil=>cases e;cases(show v=.none from r);exact⟨⟨_,.none⟩,rfl⟩
  case bool=>cases e;cases(show v=.bool _ from r);exact⟨⟨_,.bool _⟩,rfl⟩
  case int=>cases e;refine x1 (pC r) fun t e91=>?_;subst e91;exact⟨⟨_,.int _ _⟩,rfl⟩
  case str l=>refine aS (aE e) fun h e91=>?_;subst e91;refine am (gy r) fun t e91=>?_;subst e91;intro J;exact⟨⟨_,.str _ _⟩,str_ok h⟩
  case list l=>
   refine am (aK e) fun ps e1 e91=>?_;subst e91;obtain⟨a,vs,m,rfl,g,J,ra⟩:=r;refine aS (fP (fun d p v h1 h2=>bU n d p v h1 (av.b h2)) e1 ra) fun p91 c=>?_;obtain⟨as,rd⟩:=p91;exact⟨⟨_,.list g rfl rfl rd⟩,c⟩
  case tup l=>
   refine am (aK e) fun ps e1 e91=>?_;subst e91;simp only[bE,av] at r;obtain⟨a,vs,m,rfl,J,g,J,ra⟩:=r;refine aS (fP (fun d p v h1 h2=>bU n d p v h1 (av.b h2)) e1 ra) fun p91 c=>?_;obtain⟨as,rd⟩:=p91;exact⟨⟨_,.tuple g rfl rfl rd⟩,c⟩
  all_goals exact ai e
section
variable {A:Av}{s:zL}{W:AP}{K:Nat}(O:B.Ok)
include O
omit O in
theorem qD (k:List Nat):∀(ks vs:List (List Nat))(kvs:List (Str×Value)),kvs.map (·.1)=ks.map cz->vs.length=ks.length->(∀(i:Nat)(y:List Nat),vs[i]?=some y->∃(q:Str×Value)(t:Tok),kvs[i]?=some q/\q.2=.str (cz y) t)->
  match D.dget (ks.map .str) (vs.map .str) k with
  |some d=>∃y t,d=.str y/\y∈vs/\Dj kvs ⟨k.toArray⟩=some (.str (cz y) t)
  |none=>Dj kvs ⟨k.toArray⟩=none
 |[],_,[],_,_,_=>by simp[D.dget,Dj]
 |[],_,_::_,h,_,_=>nomatch h
 |_::_,_,[],h,_,_=>nomatch h
 |_::_,[],_,_,h,_=>nomatch h
 |x::ks,y::vs,(x',v)::kvs,h,hl,hv=>by
  simp only[z8,EG] at h;refine aS h fun e91=>?_;subst e91;intro h;refine vw (hv 0 y rfl) fun q t h0 h1=>?_;obtain rfl:=zG h0;have ih:=qD k ks vs kvs h (DK hl) fun i z e=>hv (i+1) z e
  by_cases e:x=k
  ·subst e
   simp only[D.dget,z8,AY,BC,D.isStr,beq_self_eq_true,Cd,Dj,cz,decide_true];exact⟨y,t,rfl,zU,congrArg some h1⟩
  ·have e1:(x==k)=false:=beq_eq_false_iff_ne.mpr e
   have e2:decide (cz x=⟨k.toArray⟩)=false:=decide_eq_false fun q=>e (by have:=congrArg (fun z:Str=>z.cps.toList) q;simpa [cz] using this);have e3:D.dget ((x::ks).map .str) ((y::vs).map .str) k=D.dget (ks.map .str) (vs.map .str) k:=by simp only[D.dget,z8,AY,BC,D.isStr,e1]
   have e4:Dj ((cz x,v)::kvs) ⟨k.toArray⟩=Dj kvs ⟨k.toArray⟩:=by simp only[Dj,BC,e2]
   refine zF e3<|zF e4 ?_
   cases hd:D.dget (ks.map .str) (vs.map .str) k with
   |some d=>rw[hd] at ih;refine lM ih fun y' t' h2 h3 h4=>?_;exact⟨y',t',h2,zT _ h3,h4⟩
   |none=>rw[hd] at ih;exact ih
set_option tactic.hygienic true in
theorem w5 {h:Heap}{ks vs:List D}{v:Value}(r:zv B h ks vs v):∃(kvs:List (Str×Value))(a:Addr),v=.ref a/\h.DictOf (AQ B.prog B.w) a kvs/\(a==Cg)=false/\
  ∀k,match D.dget ks vs k with
  |some d=>∃y t,d=.str y/\y.length<=lim/\Dj kvs ⟨k.toArray⟩=some (.str (cz y) t)
  |none=>Dj kvs ⟨k.toArray⟩=none:=by
 obtain⟨x,a,o,e,rfl,nt,g,⟨x',es,n,kvs,e',c,d,hk1,hp,hk,nd,hv,hl,J⟩,sy,rfl,rfl,l⟩:=r;obtain rfl:=zG (e.symm.trans e');refine⟨kvs,a,rfl,⟨o,es,n,g,c,d,hk1,hp,nd⟩,sy,fun k=>?_⟩;have:=qD k x.ks x.vs kvs hk hl hv
 split
 ·rename_i d hd
  rw[hd] at this;refine lM this fun y t h1 h2 h3=>?_;exact⟨y,t,h1,l y h2,h3⟩
 ·rename_i hd
  rw[hd] at this;exact this
omit O in
theorem pB {x:D}(h:x.isN=true):x=.nil:=by cases x<;>first|rfl|exact bG h
omit O in
theorem yY {x y:D}{b:Bool}(h:D.eq x y=some b):((∃a,x=.str a/\y=.nil/\false=b)\/(∃a,x=.nil/\y=.str a/\false=b)\/∃a c,x=.str a/\y=.str c/\(a==c)=b)\/∃p q,D.pd 5 x=some p/\D.pd 5 y=some q/\BI p q=b:=by
 unfold D.eq at h
 cases hx:x.str? with
 |some a=>
  rw[hx] at h
  cases hy:y.str? with
  |some c=>rw[hy] at h;exact .inl (.inr (.inr ⟨a,c,str?_eq hx,str?_eq hy,zG h⟩))
  |none=>rw[hy] at h;refine aS (aE h) fun hn e=>?_;exact .inl (.inl ⟨a,str?_eq hx,pB hn,e⟩)
 |none=>
  rw[hx] at h
  cases hy:y.str? with
  |some c=>rw[hy] at h;refine aS (aE h) fun hn e=>?_;exact .inl (.inr (.inl ⟨c,pB hn,str?_eq hy,e⟩))
  |none=>
   rw[hy] at h;refine am (af h) fun p hp h=>?_;refine am (af h) fun q hq h=>?_;exact .inr ⟨p,q,hp,hq,zG h⟩
theorem cmp_eq {x y:D}{b:Bool}{u v:Value}(h:D.eq x y=some b)(rx:bE B s.heap W x u)(ry:bE B s.heap W y v)(R:aB A K){Q:VS}(hQ:Q (.bool b) s):
  wpAny B.M A (FD .Eq u v) Q hY s:=by
 rcases yY h with(⟨a,rfl,rfl,rfl⟩|⟨a,rfl,rfl,rfl⟩|⟨a,c,rfl,rfl,rfl⟩)|⟨p,q,e1,e2,rfl⟩
 ·refine am (gy rx) fun t e91=>?_
  subst e91;intro J
  cases(show v=.none from ry)
  exact SeqAt.RcAt.str_none _ t B.prog B.w _ Q hQ
 ·cases(show u=.none from rx)
  refine am (gy ry) fun t e91=>?_;subst e91;intro J;exact SeqAt.RcAt.none_str _ t B.prog B.w _ Q hQ
 ·refine am (gy rx) fun t e91=>?_
  subst e91;intro J;refine am (gy ry) fun t' e91=>?_;subst e91;intro J;exact P.eq_str (by simpa using hQ)
 ·refine aS (bU 5 x p u e1 rx) fun p91 c1=>?_
  obtain⟨as,ra⟩:=p91;refine aS (bU 5 y q v e2 ry) fun p91 c2=>?_;obtain⟨bs,rb⟩:=p91;exact SeqAt.compareEq_reads ra rb c1 c2 (by have:=d0 5 x p e1;have:=R.units;have:min p.depth q.depth<=p.depth:=Fl _ _;lia) hQ
theorem cmp_ne {x y:D}{b:Bool}{u v:Value}(h:D.eq x y=some b)(rx:bE B s.heap W x u)(ry:bE B s.heap W y v)(R:aB A K){Q:VS}(hQ:Q (.bool (!b)) s):
  wpAny B.M A (FD .NotEq u v) Q hY s:=by
 rcases yY h with(⟨a,rfl,rfl,rfl⟩|⟨a,rfl,rfl,rfl⟩|⟨a,c,rfl,rfl,rfl⟩)|⟨p,q,e1,e2,rfl⟩
 ·refine am (gy rx) fun t e91=>?_
  subst e91;intro J
  cases(show v=.none from ry)
  exact SeqAt.RcNeAt.str_none _ t B.prog B.w _ Q hQ
 ·cases(show u=.none from rx)
  refine am (gy ry) fun t e91=>?_;subst e91;intro J;exact SeqAt.RcNeAt.none_str _ t B.prog B.w _ Q hQ
 ·refine am (gy rx) fun t e91=>?_
  subst e91;intro J;refine am (gy ry) fun t' e91=>?_;subst e91;intro J;exact P.ne_str (by simpa [bne] using hQ)
 ·refine aS (bU 5 x p u e1 rx) fun p91 c1=>?_
  obtain⟨as,ra⟩:=p91;refine aS (bU 5 y q v e2 ry) fun p91 c2=>?_;obtain⟨bs,rb⟩:=p91;exact SeqAt.compareNe_reads ra rb c1 c2 (by have:=d0 5 x p e1;have:=R.units;have:min p.depth q.depth<=p.depth:=Fl _ _;lia) hQ
omit O in
theorem pQ {f:Int->Int->Bool}{x y:D}{b:Bool}{u v:Value}(h:(x.int?.bind fun i=>y.int?.map fun j=>f i j)=some b)(rx:bE B s.heap W x u)(ry:bE B s.heap W y v):
  ∃i j t t',u=.int i t/\v=.int j t'/\f i j=b:=by
 refine am (af h) fun i hi h1=>?_;refine am (aK h1) fun j hj h2=>?_;have:=int?_eq hi;subst this;have:=int?_eq hj;subst this;refine x1 (pC rx) fun t e=>?_;refine x1 (pC ry) fun t' e'=>?_;exact⟨i,j,t,t',e,e',h2⟩
omit O in
theorem jj {x:D}{l:List D}{b:Bool}(h:D.isIn x l=some b):∃p q,D.pd 5 x=some p/\D.pd 5 (.list l)=some (.list q)/\D.pd 5 (.tup l)=some (.tuple q)/\(q.any fun y=>BI y p)=b:=by
 refine am (af h) fun p hp h=>?_;refine am (af h) fun q hq h=>?_;exact⟨p,q,hp,(show(List.mapM (D.pd 4) l).map _=_ from congrArg (Option.map FR) hq),(show(List.mapM (D.pd 4) l).map _=_ from congrArg (Option.map FZ.tuple) hq),zG h⟩
set_option tactic.hygienic true in
theorem cmp_in {x y:D}{b:Bool}{u v:Value}(h:D.memb x y=some b)(rx:bE B s.heap W x u)(ry:bE B s.heap W y v)(R:aB A K){Q:VS}(hQ:∀t,Q (.bool b) { s with toks:=t }):
  wpAny B.M A (FD .In u v) Q hY s:=by
 cases y
 case list l=>
  refine x23 (jj h) fun p q e1 e2 J e91=>?_;subst e91;refine aS (bU 5 x p u e1 rx) fun p91 c1=>?_;obtain⟨as,ra⟩:=p91;refine aS (bU 5 (.list l) (.list q) v e2 ry) fun p91 c2=>?_;obtain⟨bs,rb⟩:=p91;exact SeqAt.in_list_reads rb ra (by simpa [D8] using c2) c1 (by have:=d0 5 x p e1;have:=R.units;have:min (CR q) p.depth<=p.depth:=BR _ _;lia) (hQ s.toks)
 case tup l=>
  refine x23 (jj h) fun p q e1 J e2 e91=>?_;subst e91;refine aS (bU 5 x p u e1 rx) fun p91 c1=>?_;obtain⟨as,ra⟩:=p91;refine aS (bU 5 (.tup l) (.tuple q) v e2 ry) fun p91 c2=>?_;obtain⟨bs,rb⟩:=p91;exact SeqAt.in_tuple_reads rb ra (by simpa [D8] using c2) c1 (by have:=d0 5 x p e1;have:=R.units;have:min (CR q) p.depth<=p.depth:=BR _ _;lia) (hQ s.toks)
 case dict ks vs=>
  refine am (aK h) fun k hk e91=>?_;subst e91;have:=str?_eq hk;subst this;refine am (gy rx) fun t e91=>?_;subst e91;intro J;simp only[bE,av] at ry;refine x23 (w5 O ry) fun kvs a e91=>?_;subst e91;intro hd nsys hv;refine wpAny_in_of (knd:=AQ B.prog B.w) (k:=⟨k.toArray⟩) (by simp[AQ,Value.isStrOf]) nsys hd.mapOf ?_;have e:(Dj kvs ⟨k.toArray⟩).isSome=(D.dget ks vs k).isSome:=by
   have:=hv k
   split at this
   ·rename_i d e;refine lM this fun y t J J h3=>?_;refine zF h3<|zF e ?_;rfl
   ·rename_i e;refine zF this<|zF e ?_;rfl
  refine zF e ?_;exact hQ _
 all_goals exact ai h
theorem cmp_nin {x y:D}{b:Bool}{u v:Value}(h:D.nmem x y=some b)(rx:bE B s.heap W x u)(ry:bE B s.heap W y v)(R:aB A K){Q:VS}(hQ:∀t,Q (.bool b) { s with toks:=t }):
  wpAny B.M A (FD .NotIn u v) Q hY s:=by
 cases y
 case list=>
  refine am (aK h) fun c h' e91=>?_;subst e91;refine x23 (jj h') fun p q e1 e2 J e91=>?_;subst e91;refine aS (bU 5 x p u e1 rx) fun p91 c1=>?_;obtain⟨as,ra⟩:=p91;refine aS (bU 5 (.list l) (.list q) v e2 ry) fun p91 c2=>?_;obtain⟨bs,rb⟩:=p91;exact SeqAt.notIn_list_reads rb ra (by simpa [D8] using c2) c1 (by have:=d0 5 x p e1;have:=R.units;have:min (CR q) p.depth<=p.depth:=BR _ _;lia) (hQ s.toks)
 case tup=>
  refine am (aK h) fun c h' e91=>?_;subst e91;refine x23 (jj h') fun p q e1 J e2 e91=>?_;subst e91;refine aS (bU 5 x p u e1 rx) fun p91 c1=>?_;obtain⟨as,ra⟩:=p91;refine aS (bU 5 (.tup l) (.tuple q) v e2 ry) fun p91 c2=>?_;obtain⟨bs,rb⟩:=p91;exact SeqAt.notIn_tuple_reads rb ra (by simpa [D8] using c2) c1 (by have:=d0 5 x p e1;have:=R.units;have:min (CR q) p.depth<=p.depth:=BR _ _;lia) (hQ s.toks)
 all_goals exact ai h
omit O in
theorem mw {x:D}{b:Bool}{u:Value}(h:D.isNil x=some b)(rx:bE B s.heap W x u):FX u .none=pure b:=by
 cases x
 case nil=>obtain rfl:=zG h;cases(show u=.none from rx);rfl
 case bool=>obtain rfl:=zG h;cases(show u=.bool _ from rx);rfl
 case int=>obtain rfl:=zG h;refine x1 (pC rx) fun J e91=>?_;subst e91;rfl
 case str=>obtain rfl:=zG h;refine am (gy rx) fun J e91=>?_;subst e91;intro J;rfl
 case list=>obtain rfl:=zG h;obtain⟨J,J,J,rfl,J⟩:=rx;rfl
 case tup=>obtain rfl:=zG h;simp only[bE,av] at rx;obtain⟨J,J,J,rfl,J⟩:=rx;rfl
 case dict=>obtain rfl:=zG h;simp only[bE,av] at rx;obtain⟨J,J,J,J,rfl,J⟩:=rx;rfl
 all_goals exact ai h
theorem pP {op:CmpOp}{x y:D}{b:Bool}{u v:Value}(h:D.cmp op x y=some b)(rx:bE B s.heap W x u)(ry:bE B s.heap W y v)(R:aB A K){Q:VS}(hQ':∀t,Q (.bool b) { s with toks:=t }):
  wpAny B.M A (FD op u v) Q hY s:=by
 cases op
 case Eq=>exact cmp_eq O h rx ry R (hQ' s.toks)
 case NotEq=>
  refine am (aK h) fun c h' e91=>?_;subst e91;exact cmp_ne O h' rx ry R (hQ' s.toks)
 case Lt=>
  refine x42 (pQ h rx ry) fun i j t t' e91=>?_;subst e91;intro e92;subst e92;intro e93;subst e93;exact P.lt_int (hQ' s.toks)
 case LtE=>
  refine x42 (pQ h rx ry) fun i j t t' e91=>?_;subst e91;intro e92;subst e92;intro e93;subst e93;exact P.le_int (hQ' s.toks)
 case In=>exact cmp_in O h rx ry R hQ'
 case Gt=>
  refine x42 (pQ (f:=fun i j=>decide (j < i)) h rx ry) fun i j t t' e91=>?_;subst e91;intro e92;subst e92;intro e93;subst e93;exact P.gt_int (hQ' s.toks)
 case GtE=>
  refine x42 (pQ (f:=fun i j=>decide (j<=i)) h rx ry) fun i j t t' e91=>?_;subst e91;intro e92;subst e92;intro e93;subst e93;exact P.ge_int (hQ' s.toks)
 case Is=>
  refine aS (aY h) fun hn h1=>?_;have:=pB hn;subst this
  cases(show v=.none from ry)
  show wpAny _ _ (FX u .none >>= fun c=>pure (Value.bool c)) _ _ _;refine zF (mw h1 rx) ?_;exact zK (zR (zR (hQ' s.toks)))
 case IsNot=>
  refine aS (aY h) fun hn h0=>?_;refine am (aK h0) fun c h1 e91=>?_;subst e91;have:=pB hn;subst this
  cases(show v=.none from ry)
  show wpAny _ _ (FX u .none >>= fun c=>pure (Value.bool (!c))) _ _ _;refine zF (mw h1 rx) ?_;exact zK (zR (zR (hQ' s.toks)))
 case NotIn=>exact cmp_nin O h rx ry R hQ'
end
end Mine
namespace Mine
variable {B:Bs}
theorem aA (nm:Nat->Str)(e:E)(r:List Es)(pe:Env):B8 (e.py nm::r) pe=(false,eval (e.py nm) pe)::B8 r pe:=by
 cases e<;>rfl
theorem ax {n:Nat}(h:n<=lim):n<=sizeLine:=by
 have:sizeLine=16777216:=by decide
 unfold lim at h;lia
theorem tU (a b:List Nat):(⟨a.toArray⟩++⟨b.toArray⟩:Str)=⟨(a++b).toArray⟩:=by
 show Str.mk (a.toArray++b.toArray)=_;simp
section
variable {A:Av}{s:zL}{W:AP}{K:Nat}(O:B.Ok)
include O
theorem cQ {h:Heap}(tW:∀b,W b->b < h.objs.size){ds:List D}{vs:Array Value}(r:aa B h W ds vs.toList)(hl:ds.length<=lim):
  av B (h.push { cls:=.type "list", data:=.seq vs }) W (.list ds) (.ref h.objs.size):=by
 exact⟨_,vs,0,rfl,fun q=>zJ _ (tW _ q),Aj _ rfl,hl,aa.move O (fun b o J e=>z9 _ e) (fun b q=>.inl q) _ _ r⟩
theorem qM {h:Heap}(tW:∀b,W b->b < h.objs.size){ds:List D}{vs:Array Value}(r:aa B h W ds vs.toList)(hl:ds.length<=lim):
  av B (h.push { cls:=.type "tuple", data:=.seq vs }) W (.tup ds) (.ref h.objs.size):=by
 exact⟨_,vs,0,rfl,fun q=>zJ _ (tW _ q),Aj _ rfl,hl,aa.move O (fun b o J e=>z9 _ e) (fun b q=>.inl q) _ _ r⟩
theorem pW {f:Int->Int->Option D}{x y z:D}{u v:Value}(h:(x.int?.bind fun i=>y.int?.bind fun j=>f i j)=some z)(rx:bE B s.heap W x u)(ry:bE B s.heap W y v):
  ∃i j t t',u=.int i t/\v=.int j t'/\f i j=some z:=by
 refine am (af h) fun i hi h1=>?_;refine am (af h1) fun j hj h2=>?_;have:=int?_eq hi;subst this;have:=int?_eq hj;subst this;refine x1 (pC rx) fun t e=>?_;refine x1 (pC ry) fun t' e'=>?_;exact⟨i,j,t,t',e,e',h2⟩
set_option tactic.hygienic true in
theorem add_ok {x y z:D}{u v:Value}(h:D.add x y=some z)(rx:bE B s.heap W x u)(ry:bE B s.heap W y v)(tW:∀b,W b->b < s.heap.objs.size):
  wpAny B.M A (binaryOp .Add u v) (fun r s'=>az B s s'/\av B s'.heap W z r) hY s:=by
 cases x
 case int i=>
  refine am (aK h) fun j hj e=>?_;have:=int?_eq hj;subst this;subst e;refine x1 (pC rx) fun t e91=>?_;subst e91;refine x1 (pC ry) fun t' e91=>?_;subst e91;exact wpAny_add_int ⟨az.toks _,i0⟩
 case str a=>
  refine am (af h) fun b hj e=>?_;refine aS (aE e) fun hl e91=>?_;subst e91;have:=str?_eq hj;subst this;refine am (gy rx) fun t e91=>?_;subst e91;intro J;refine am (gy ry) fun t' e91=>?_;subst e91;intro J;exact SB.add (fun t' k=>⟨az.toks _,by refine zF (tU _ _) ?_;exact md hl⟩) (ax (by simpa [Str.length] using hl))
 case list a=>
  refine am (af h) fun b hj e=>?_;refine aS (aE e) fun hl e91=>?_;subst e91;have:=list?_eq hj;subst this;obtain⟨p,xs,n,rfl,g1,l1,r1⟩:=rx;obtain⟨q,ys,m,rfl,g2,l2,r2⟩:=ry;refine P.add_list g1 g2 ⟨az.push O _ _,cQ O tW (by refine zF CP ?_;exact aa.append r1 r2) hl⟩ (ax ?_);have e:=aa.length (aa.append r1 r2);rw[zM,An,An] at e;exact e▸hl
 all_goals exact ai h
theorem zh {op:CS}{x y z:D}{u v:Value}(h:D.bin op x y=some z)(rx:bE B s.heap W x u)(ry:bE B s.heap W y v)(R:aB A K)(tW:∀b,W b->b < s.heap.objs.size):
  wpAny B.M A (binaryOp op u v) (fun r s'=>az B s s'/\av B s'.heap W z r) hY s:=by
 cases op
 case Add=>exact add_ok O h rx ry tW
 case Sub=>
  refine x42 (pW O h rx ry) fun i j t t' e91=>?_;subst e91;intro e92;subst e92;intro h1;obtain rfl:=zG h1;exact PyProof.Rows.sub_int ⟨az.toks _,i0⟩
 case FloorDiv=>
  refine x42 (pW O h rx ry) fun i j t t' e91=>?_;subst e91;intro e92;subst e92;intro h1;refine aS (aE h1) fun hc e91=>?_;subst e91;exact floordiv_int (Int.ne_of_gt hc.1) ⟨az.toks _,i0⟩ (.inl (PyProof.noPylong_small (BW.mp (by refine zF (Gl (Int.le_of_lt hc.1)) ?_;exact hc.2))))
 case Mod=>
  refine x42 (pW O h rx ry) fun i j t t' e91=>?_;subst e91;intro e92;subst e92;intro h1;refine aS (aE h1) fun hc e91=>?_;subst e91;exact mod_int' (Int.ne_of_gt hc) ⟨az.toks _,i0⟩
 case Pow=>
  refine x42 (pW O h rx ry) fun i j t t' e91=>?_;subst e91;intro e92;subst e92;intro h1;refine aS (aE h1) fun hc e91=>?_;subst e91;exact pow_int_small hc.2.2.1 (Dw hc.2.2.2 (by decide)) (BW.mp (by refine zF (Gl hc.1) ?_;exact DD hc.2.1 (by decide))) ⟨az.toks _,i0⟩
 all_goals exact ai h
end
end Mine
namespace Mine
variable {B:Bs}{K:Nat}
theorem nU (lo hi:Option Int) (n:Nat):Bk lo hi 1 n=sliceRange ((lo.elim 0 (Dk n):Nat):Int) ((hi.elim n (Dk n):Nat):Int) 1:=by
 have h:=sliceBounds_plain lo hi n;unfold sliceBounds at h;simp only[EM,BL,show(1:Int) > 0 by decide,if_true,and_true] at h;unfold Bk;simp only[show(1:Int) > 0 by decide,if_true];refine zF (AM h.1)<|zF (AM h.2) ?_
 cases lo<;>cases hi<;>rfl
theorem oe (xs:Array Nat) (a:Nat):∀k:Nat,((z6 k).map (a+·)).filterMap (xs[·]?)=(xs.toList.drop a).take k
 |0=>by simp
 |k+1=>by
  refine zF E8<|zF Br<|zF List.filterMap_append<|zF (oe xs a k)<|zF List.take_add_one ?_
  congr 1
  simp only[z8,CL,List.getElem?_drop,BP]
  cases h:xs[a+k]?<;>simp[h]
theorem mi (l:List Nat)(lo hi:Option Int):(Bk lo hi 1 l.length).filterMap (l.toArray[·]?)=gL lo hi l:=by
 refine zF (nU _ _ _)<|zF (sliceRange_one _ _)<|zF (oe _ _ _) ?_
 rfl
theorem pN {α:Type}(lo hi:Option Int)(l:List α):(gL lo hi l).length<=l.length:=by
 unfold gL;refine zF DR<|zF B6 ?_
 exact zH (BR _ _) (CJ _ _)
theorem io (c:Array Nat):∀(is:List Nat),(∀i∈is,i < c.size)->(is.filterMap (c[·]?)).length=is.length
 |[],_=>rfl
 |i::is,h=>by
  have hi:i < c.size:=h i zU;refine zF Ep ?_;simp only[Fy hi,AB];exact zF (io c is fun j hj=>h j (zT _ hj)) rfl
theorem qA {α:Type}{l:List α}(a b:Nat)(h:((l.drop a).take b).length=l.length):(l.drop a).take b=l:=by
 replace h:=B6▸DR▸h
 by_cases h0:l=[]
 ·subst h0;simp
 ·have:0 < l.length:=List.length_pos_iff.mpr h0
  have ha:a=0:=Nat.eq_zero_of_not_pos fun q=>zJ _ (Ay (zH (Ax h.symm) (BR _ _)) (Nat.sub_lt this q));subst ha;refine zF List.drop_zero ?_;exact Cu (zH (Ax h.symm) (Fl _ _))
theorem o4 (lo hi:Option Int)(l:List Nat):(Bk lo hi 1 l.length).length=(gL lo hi l).length:=by
 refine zF (AM (mi l lo hi)) ?_;refine(io _ _ fun i hi=>?_).symm;rw[nU,sliceRange_one] at hi;simp only[Ac,BH] at hi;refine am hi fun k hk e91=>?_;subst e91;have h1:∀o:Option Int,o.elim l.length (Dk l.length)<=l.length:=fun o=>by
  cases o with
  |none=>exact zW _
  |some i=>exact C5.mp (show((Dk l.length i:Nat):Int)<=l.length by refine zF (clipAt_cast _ _) ?_;exact Int.max_le.mpr ⟨Ar _,Int.min_le_right _ _⟩)
 have:=h1 ‹_›;refine zF Bp ?_
 omega
theorem oZ (l:List Nat)(t:Tok)(lo hi:Option (Int×Tok)){Q:VS}{s:zL}(hl:l.length<=lim)
  (h:∀t' k,Q (.str ⟨(gL (lo.map (·.1)) (hi.map (·.1)) l).toArray⟩ t') { s with toks:=k }):(sliceMade ⟨l.toArray⟩ t lo hi none).post Q s:=by
 have e:slicePicked ⟨l.toArray⟩ lo hi none=Bk (lo.map (·.1)) (hi.map (·.1)) 1 l.length:=by
  unfold slicePicked;rw[Str.length];simp
 have hlen:(⟨l.toArray⟩:Str).length=l.length:=by simp[Str.length]
 unfold sliceMade;refine zF e<|zF hlen<|zF (o4 _ _ _) ?_
 split
 ·rename_i hc
  simp only[Bu,beq_iff_eq] at hc;have:gL (lo.map (·.1)) (hi.map (·.1)) l=l:=qA _ _ hc.2;replace h:=this▸h;exact h t s.toks
 ·show(Made.str _).post Q s
  have e2:((Bk (lo.map (·.1)) (hi.map (·.1)) 1 l.length).filterMap ((⟨l.toArray⟩:Str).cps[·]?))=gL (lo.map (·.1)) (hi.map (·.1)) l:=mi l _ _;refine zF e2 ?_
  exact⟨ax (by
   have:=pN (lo.map (·.1)) (hi.map (·.1)) l
   simp only[Str.length,Bp];lia),h _ _⟩
theorem yu {l:List Nat}{y z:D}(h:D.item (.str l) y=some z):∃i c,y=.int i/\(eR l.length i).bind (l[·]?)=some c/\z=.str [c]:=by
 refine sG h fun i hi h1=>?_;refine omk h1 fun c h2 h3=>?_;exact⟨i,c,int?_eq hi,h2,h3.symm⟩
section
variable {Φ:bq}{K:Nat}(O:B.Ok)
include O
variable {Γ:ah}{ρ:ac}{Wc W:AP}{pe:Env}{A:Av}{s:zL}
theorem iS {e:E}{r:R}{x:D}(hS:aW B K Φ e)(h:ev Φ Γ ρ e=some r)(hx:r.asB=some x)(X:Ctx B Γ Wc W pe ρ s)(R:aB A K){E:VS}{Q:VS}
  (k:∀v s',az B s s'->Ctx B Γ Wc W pe ρ s'->bE B s'.heap W x v->(∀a,v=.ref a->¬B.T a)->Q v s'):wpAny B.M A (eval (e.py B.nm) pe) Q E s:=
 Ak (hS Γ ρ r h Wc W pe A s X R) (fun v s' h'=>let q:=cu.asB X.tW' hx h'.2;k v s' h'.1 (X.move O h'.1) q.1 q.2) fun J J f=>f.elim
theorem ci {e:E}{r:R}{x:D}(hS:aW B K Φ e)(h:ev Φ Γ ρ e=some r)(hx:r.asD=some x)(X:Ctx B Γ Wc W pe ρ s)(R:aB A K){E:VS}{Q:VS}
  (k:∀v s',az B s s'->Ctx B Γ Wc W pe ρ s'->av B s'.heap W x v->Q v s'):wpAny B.M A (eval (e.py B.nm) pe) Q E s:=
 Ak (hS Γ ρ r h Wc W pe A s X R) (fun v s' h'=>k v s' h'.1 (X.move O h'.1) (cu.asD hx h'.2)) fun J J f=>f.elim
theorem se {e:E}{b:Bool}(hS:eJ B K Φ e)(h:e7 Φ Γ ρ e=some b)(X:Ctx B Γ Wc W pe ρ s)(R:aB A K){E:VS}{Q:Bool->zL->Prop}
  (k:∀s',az B s s'->Ctx B Γ Wc W pe ρ s'->Q b s'):wpAny B.M A (EC (e.py B.nm) pe (eval (e.py B.nm) pe)) Q E s:=
 Ak (hS Γ ρ b h Wc W pe A s X R) (fun v s' h'=>by refine aS h' fun h1 e91=>?_;subst e91;exact k s' h1 (X.move O h1)) fun J J f=>f.elim
theorem mh (nm:Nat->Str)(e:E)(op:CmpOp):behindInMarks op (e.py nm)=false:=by cases e<;>rfl
theorem lZ {x:Nat}{p:Pos}:aW B K Φ (.name x p):=by
 intro Γ ρ r h Wc W pe A s X R;have key:∀en,ρ x=some en->∃v,cP B pe s.heap x v/\aR B pe.locals s.heap Wc W en v:=X.vars x;refine Aw ?_ (O.dbg x);rw[eL] at h
 cases hr:ρ x with
 |none=>rw[hr] at h;exact ai h
 |some en=>
  rw[hr] at h;refine am (key _ hr) fun v l rv=>?_
  cases en with
  |fz d=>
   obtain rfl:=zG h;exact Ctx.name O X l ⟨az.refl _,rv⟩ (O.cld x)
  |sealed d=>
   obtain rfl:=zG h;exact Ctx.name O X l ⟨az.refl _,rv⟩ (O.cld x)
  |own d=>
   obtain rfl:=zG h;refine Ctx.name O X l ⟨az.refl _,?_⟩ (O.cld x);obtain⟨a,vs,n,rfl,hw,hc,hg,hl,ha⟩:=rv;exact⟨⟨a,vs,n,rfl,hg,hl,ha⟩,fun b e t=>by cases e;exact hc (X.tW _ t)⟩
  |_=>exact ai h
theorem snd_bin {a b:E}{op:CS}{p:Pos}(ha:aW B K Φ a)(hb:aW B K Φ b):aW B K Φ (.bin a op b p):=by
 intro Γ ρ r h Wc W pe A s X R;simp only[qu,zQ,zO,Aa] at h;refine du h fun r1 h1 x hx r2 h2 y hy z hz e91=>?_;subst e91;refine wpAny_BinOp (iS O ha h1 hx X R fun u s1 e1 X1 q1 t1=>iS O hb h2 hy X1 R fun v s2 e2 X2 q2 t2=>?_);refine Ak (zh O hz (bE.eff O X.tW' t1 q1 e2) q2 R X2.wlt) (fun z s3 h3=>⟨(e1.trans e2).trans h3.1,h3.2⟩) fun J J f=>f
theorem snd_cmp {a b:E}{op:CmpOp}{p:Pos}(ha:aW B K Φ a)(hb:aW B K Φ b):aW B K Φ (.cmp a op b p):=by
 intro Γ ρ r h Wc W pe A s X R;simp only[qs,zQ,zO,Aa] at h;refine du h fun r1 h1 x hx r2 h2 y hy z hz e91=>?_;subst e91;refine wpAny_Compare1 (iS O ha h1 hx X R fun u s1 e1 X1 q1 t1=>iS O hb h2 hy X1 R fun v s2 e2 X2 q2 t2=>?_) (mh O _ _ _);exact pP O hz (bE.eff O X.tW' t1 q1 e2) q2 R fun t=>⟨(e1.trans e2).trans (az.toks t),by simp only[cu,av]⟩
theorem xC {a b:E}{op:CmpOp}{p:Pos}(ha:aW B K Φ a)(hb:aW B K Φ b):eJ B K Φ (.cmp a op b p):=by
 intro Γ ρ r h Wc W pe A s X R;rw[nH] at h;refine sG h fun r1 h1 h97=>?_;refine sG h97 fun x hx h97=>?_;refine sG h97 fun r2 h2 h97=>?_;refine sG h97 fun y hy hz=>?_;refine CG (iS O ha h1 hx X R fun u s1 e1 X1 q1 t1=>iS O hb h2 hy X1 R fun v s2 e2 X2 q2 t2=>?_) (mh O _ _ _);exact pP O hz (bE.eff O X.tW' t1 q1 e2) q2 R fun t=>AZ ⟨(e1.trans e2).trans (az.toks t),rfl⟩
theorem vR (nm:Nat->Str)(a b:E)(o1 o2:CmpOp):lastMarks [o1,o2] [a.py nm,b.py nm]=false:=by
 exact mh O nm b o2
theorem xu {a b c:E}{o1 o2:CmpOp}{p:Pos}(ha:aW B K Φ a)(hb:aW B K Φ b)(hc:aW B K Φ c):aW B K Φ (.cmp2 a o1 b o2 c p):=by
 intro Γ ρ r h Wc W pe A s X R;simp only[nB,zQ,zO,Aa] at h;refine du h fun r1 h1 x hx r2 h2 y hy t ht h=>?_;refine Compare_chain (iS O ha h1 hx X R fun u s1 e1 X1 q1 t1=>chain_link (iS O hb h2 hy X1 R fun v s2 e2 X2 q2 t2=>?_)) (vR O _ _ _ _ _);refine Ak (pP O ht (bE.eff O X.tW' t1 q1 e2) q2 R (Q:=fun c s'=>c=.bool t/\∃k,s'={ s2 with toks:=k }) fun k=>⟨rfl,k,rfl⟩) ?_ fun J J f=>f;rintro J J ⟨rfl,tk,rfl⟩;have e2:=e2.trans (az.toks tk);have q2:=bE.eff O X.tW' t2 q2 (az.toks tk);have X2:=X2.move O (az.toks tk);refine AZ ?_
 cases t with
 |false=>
  simp only[AK,if_false] at h ⊢;obtain rfl:=zG h;exact⟨e1.trans e2,by simp only[cu,av]⟩
 |true=>
  simp only[if_true,zO,Aa] at h ⊢;refine iR h fun r3 h3 z hz t' ht' e91=>?_;subst e91;refine chain_last (iS O hc h3 hz X2 R fun w s3 e3 X3 q3 t3=>?_);exact pP O ht' (bE.eff O X.tW' t2 q2 e3) q3 R fun t=>⟨((e1.trans e2).trans e3).trans (az.toks t),by simp only[cu,av]⟩
theorem az.gsize {s s':zL}(e:az B s s'):s.gens.size<=s'.gens.size:=by
 rcases Dv s'.gens.size s.gens.size with h|h
 ·have:=e.gens s'.gens.size s.gens[s'.gens.size] (by simp[h])
  simp at this
 ·exact h
theorem cu.back {s s1 s':zL}{W:AP}{r:R}{v:Value}(e:az B s s1)(q:cu B K s1 W r v s'):cu B K s W r v s':=by
 cases r with
 |d x=>exact q
 |own l=>exact q
 |it l=>
  rcases q with q|⟨a,F,p,I,h0,h1,h2,h3,h4,h5,h6,h7⟩
  ·exact .inl q
  ·exact .inr ⟨a,F,p,I,h0,h1,h2,h3,h4,fun b hb=>zH e.size (h5 b hb),fun i hi=>zH (az.gsize O e) (h6 i hi),h7⟩
theorem snd_ife {t a b:E}{p:Pos}(ht:eJ B K Φ t)(ha:aW B K Φ a)(hb:aW B K Φ b):aW B K Φ (.ife t a b p):=by
 intro Γ ρ r h Wc W pe A s X R;simp only[qr,zQ,zO] at h;refine am h fun c h1 h=>?_;refine IfExp_ (se O ht h1 X R fun s1 e1 X1=>?_)
 cases c with
 |true=>exact Ak (ha _ _ _ (h) _ _ _ _ _ X1 R) (fun v s' h'=>⟨e1.trans h'.1,cu.back O e1 h'.2⟩) fun J J f=>f
 |false=>exact Ak (hb _ _ _ (h) _ _ _ _ _ X1 R) (fun v s' h'=>⟨e1.trans h'.1,cu.back O e1 h'.2⟩) fun J J f=>f
theorem qK {n:Nat}{i:Int}:eR n i=seqIndex? i n:=by
 unfold eR seqIndex?
 by_cases h:0<=i
 ·have h':¬i < 0:=by lia
  simp[h,h']
 ·have h':i < 0:=by lia
  simp only[h,if_false,h',if_true]
  by_cases h2:0<=i+n
  ·have:i+n < n:=by lia
   simp[h2,this]
  ·simp[h2]
theorem l6 {n j:Nat}{i:Int}(h:eR n i=some j):j < n/\-(n:Int)<=i/\i < n/\(0<=i->j=i.toNat)/\(i < 0->j=(i+n).toNat):=by
 unfold eR at h;have hn:(0:Int)<=n:=Ar n
 by_cases h0:0<=i
 ·rw[if_pos h0] at h
  refine ifk h fun h1 e97=>?_;subst e97;exact⟨(F9 h0).mpr h1,Dw (DO hn) h0,h1,fun _=>rfl,fun q=>absurd h0 (GS.mpr q)⟩
 ·rw[if_neg h0] at h
  refine ifk h fun h1 e97=>?_;subst e97;have h2:i < 0:=GS.mp h0;exact⟨(F9 h1).mpr (by omega),by omega,Int.lt_of_lt_of_le h2 hn,fun q=>absurd q h0,fun _=>rfl⟩
theorem Str.len_mk (l:List Nat):(⟨l.toArray⟩:Str).length=l.length:=by simp[Str.length]
set_option tactic.hygienic true in
theorem item_ok {x y z:D}{u v:Value}(h:D.item x y=some z)(rx:bE B s.heap W x u)(ry:av B s.heap W y v):
  (∃T id,s.TypeIs u T/\typeLookup (.type T) "__getitem__" = pure (some (.builtin id)))/\wpAny B.M A (getItem u v) (fun r s'=>az B s s'/\av B s'.heap W z r) hY s:=by
 cases x
 case list l=>
  refine sG h fun i hi h1=>?_;refine sG h1 fun j hj hz=>?_;have:=int?_eq hi;subst this;obtain⟨a,vs,n,rfl,hg,hl,ra⟩:=rx;refine x1 (nf ry) fun t e91=>?_;subst e91;refine am (aa.get ra hz) fun w hw rw=>?_;have hsz:=aa.length ra;replace hsz:=An▸hsz;have L:s.heap.IsList a vs:=⟨_,hg,rfl,n,rfl⟩;refine x04 (l6 O hj) fun q1 q2 q3 q4 q5=>?_;have hl':(l.length:Int)<=1048576:=by unfold lim at hl;lia
  refine⟨⟨_,_,L.typeIs,Fd.lookup⟩,?_⟩;rw[BP] at hw
  by_cases h0:0<=i
  ·exact EZ L h0 (by lia) (by refine zF (AM (q4 h0)) ?_;exact hw) ⟨az.refl _,rw⟩
  ·exact wpAny_getItem_list_neg L (by lia) (by lia) (by lia) (by refine zF hsz<|zF (AM (q5 (by lia))) ?_;exact hw) ⟨az.refl _,rw⟩
 case tup l=>
  refine sG h fun i hi h1=>?_;refine sG h1 fun j hj hz=>?_;have:=int?_eq hi;subst this;obtain⟨a,vs,n,rfl,hw,hg,hl,ra⟩:=rx;refine x1 (nf ry) fun t e91=>?_;subst e91;refine am (aa.get ra hz) fun w hw rw=>?_;have hsz:=aa.length ra;rw[An] at hsz;have L:IsTup s.heap a vs:=⟨_,hg,rfl,n,rfl⟩;refine x04 (l6 O hj) fun q1 q2 q3 q4 q5=>?_;have hl':(l.length:Int)<=1048576:=by unfold lim at hl;lia
  refine⟨⟨_,_,L.typeIs,slot_tuple_getitem.lookup⟩,?_⟩;rw[BP] at hw;exact PyProof.Rows.getItem_tuple L (by lia) (by lia) (by refine zF hsz<|zF (AM (qK O)) ?_;exact hj) hw ⟨az.refl _,rw⟩
 case str l=>
  refine am (gy rx) fun t e91=>?_;subst e91;intro hl;obtain⟨i,c,rfl,h2,rfl⟩:=yu h;refine sG h2 fun j hj hz=>?_;refine x1 (nf ry) fun t' e91=>?_;subst e91;refine x04 (l6 O hj) fun q1 q2 q3 q4 q5=>?_;have hl':(l.length:Int)<=1048576:=by unfold lim at hl;lia
  refine⟨⟨_,_,Cz _ _ _,Fj.lookup⟩,P.getItem_str (c:=c) ?_ ?_ ⟨az.toks _,md (l:=[c]) (show 1<=lim by decide)⟩⟩
  ·refine zF (decide_eq_false (by lia))<|zF (decide_eq_false (by lia)) ?_;rfl
  ·refine zF (Str.len_mk O _)<|zF (AM (qK O))<|zF hj ?_
   simpa using hz
 case dict ks vs=>
  refine sG h fun k hk h1=>?_;have:=str?_eq hk;subst this;refine am (iD ry) fun t e91=>?_;subst e91;intro J;refine x23 (w5 O rx) fun kvs a e91=>?_;subst e91;intro hd J hv;have hv:=hv k;replace hv:=h1▸hv;refine lM hv fun y t' e91=>?_;subst e91;intro hl hv;refine⟨⟨_,_,hd.typeIs,slot_dict_getitem.lookup⟩,?_⟩;exact wpAny_getItem_of (knd:=AQ B.prog B.w) (k:=⟨k.toArray⟩) (by simp[AQ,Value.isStrOf]) hd.mapOf hv ⟨az.toks _,md hl⟩
 all_goals exact ai h
theorem xR (nm:Nat->Str)(e:E)(o i:Value):subscripted (e.py nm) false o i=operate [o,i] (getItem o i):=by cases e<;>rfl
theorem t6 {a i:E}{p:Pos}(ha:aW B K Φ a)(hi:aW B K Φ i):aW B K Φ (.idx a i p):=by
 intro Γ ρ r h Wc W pe A s X R;replace h:=ld▸h;refine sG h fun r1 h1 h97=>?_;refine sG h97 fun x hx h97=>?_;refine sG h97 fun r2 h2 h97=>?_;refine sG h97 fun y hy h97=>?_;refine omk h97 fun z hz e96=>?_;subst e96;refine Subscript_ (iS O ha h1 hx X R fun u s1 e1 X1 q1 t1=>ci O hi h2 hy X1 R fun v s2 e2 X2 q2=>?_);refine aS (item_ok (A:=A) O hz (bE.eff O X.tW' t1 q1 e2) q2) fun p91 hw=>?_;obtain⟨T,id,hT,hl⟩:=p91;exact tail_any hT hl (Ak hw (fun z s3 h3=>⟨(e1.trans e2).trans h3.1,h3.2⟩) fun J J f=>f) (xR O _ _ _ _)
theorem snd_neg {i:Int}{cp p:Pos}:aW B K Φ (.neg i cp p):=by
 intro Γ ρ r h Wc W pe A s X R;simp only[ql,zV] at h;subst h;exact UnaryOp_ (wpAny_Constant_int (P.neg_int ⟨⟨fun J J J e=>e,fun J J J e=>e,zW _,id,fun J J e=>e,id,rfl⟩,by simp only[cu,av];exact⟨_,rfl⟩⟩))
theorem uO {h:Heap}{f:Nat}{z:D}:∀(ns:List Nat)(vs:List D)(dv:List Value) (g:Nat),aa B h W vs dv->((ns.zip vs).find? fun q=>q.1==f)=some (g,z)->
  ∃v,((ns.zip dv).find? fun q=>q.1==f)=some (f,v)/\av B h W z v
 |[],_,_,_,_,e=>by simp at e
 |_::_,[],_,_,_,e=>by simp at e
 |n::ns,v::vs,dv,g,r,e=>by
  simp only[aa] at r;obtain⟨v',dv',rfl,rv,ra⟩:=r;simp only[AY,BC] at e ⊢
  cases hn:n==f with
  |true=>
   have:n=f:=by simpa using hn
   subst this;simp only[hn,zV,BL] at e ⊢;refine aS e fun J e91=>?_;subst e91;exact⟨v',⟨trivial,rfl⟩,rv⟩
  |false=>
   simp only[hn] at e ⊢;exact uO ns vs dv' g ra e
omit O in
theorem ek_nm {a:E}:∀{k:EK},k.isName=true->k.Of a->∃x p,a=.name x p:=fun{k} h q=>by
 cases k with
 |nm x p=>exact⟨x,p,q⟩
 |_=>exact bG h
omit O in
theorem sV {a:E}(h:a.isName=true):∃x p,a=.name x p:=ek_nm h a.k_of
set_option tactic.hygienic true in
omit O in
theorem fld_inv {f:Nat}{z:D}:∀{x:D},D.fld f x=some z->∃ns vs,x=.thing ns vs/\ns.length=vs.length/\(f=19\/f=20\/f=21)/\(ns.zip vs).find? (fun q=>q.1==f)=some (f,z):=fun{x} h=>by
 cases x
 case thing ns vs=>
  refine mA h fun p91 h3=>?_;obtain⟨h1,h2⟩:=p91;refine omk h3 fun p91 hf e92=>?_;subst e92;obtain⟨f',z'⟩:=p91;have hff:f'=f:=by simpa using D6 hf
  subst hff;exact⟨ns,vs,rfl,h1,h2,hf⟩
 all_goals exact ai h
theorem xA {a:E}{f:Nat}{p:Pos}(ha:aW B K Φ a):aW B K Φ (.attr a f p):=by
 intro Γ ρ r h Wc W pe A s X R;replace h:=nE▸h;refine mA h fun hn h=>?_;refine x2 (sV hn) fun xn pn e91=>?_;subst e91;simp only[zQ,zO,Aa] at h;refine iR h fun r1 h1 x hx z hz e91=>?_;subst e91;refine x23 (fld_inv hz) fun ns vs e91=>?_;subst e91;intro hlen hfr hf;refine EI (ci O ha h1 hx X R fun u s1 e1 X1 q1=>?_) (by with_unfolding_all rfl);simp only[av] at q1;obtain⟨a,dx,n,ts,dv,rfl,hw,hg,hwx,hgx,l1,l2,ra⟩:=q1;refine am (uO O ns vs dv f ra hf) fun v hv rv=>?_;exact O.attr A s1 a dx n ns ts dv f v _ _ X1.good hg hgx l1 ((aa.length ra).trans hlen.symm) hv (.inl hfr) (av.handed rv) fun t=>⟨e1.trans (az.toks t),rv⟩
end
end Mine
namespace Mine
variable {B:Bs}{K:Nat}
section
variable {Φ:bq}{K:Nat}(O:B.Ok)
include O
variable {Γ:ah}{ρ:ac}{Wc W:AP}{pe:Env}{A:Av}{s:zL}
theorem useO {o:Option E}{d:Option D}{x:Option Int}(hS:∀e,o=some e->aW B K Φ e)(h:yU Φ Γ ρ o=some d)(hx:D.bnd d=some x)(X:Ctx B Γ Wc W pe ρ s)(R:aB A K){E:VS}{Q:VS}
  (k:∀(v:Option (Int×Tok)) s',az B s s'->Ctx B Γ Wc W pe ρ s'->v.map (·.1)=x->Q (partValue v) s'):wpAny B.M A (evalPart (pyO B.nm o) pe) Q E s:=by
 cases o with
 |none=>
  simp only[lI,zV] at h;subst h;simp only[D.bnd,zV] at hx;subst hx;exact zR (k none s (az.refl _) X rfl)
 |some e=>
  simp only[lH,zQ,zO,zV] at h;refine ke h fun r h1 y hy e91=>?_;subst e91;refine ci O (hS e rfl) h1 hy X R fun v s' e' X' q=>?_
  cases y with
  |int i=>
   refine ifk hx fun J e95=>?_;subst e95;refine x1 q fun t e91=>?_;subst e91;exact k (some (_,t)) s' e' X' rfl
  |_=>exact ai hx
theorem uw (v:Option (Int×Tok)):IsPart (partValue v) (v.map (·.1)):=by
 cases v with
 |none=>exact .none
 |some q=>exact .int _ _
set_option tactic.hygienic true in
omit O in
theorem cut_inv {l h:Option Int}{z:D}:∀{x:D},D.cut l h x=some z->(∃y,x=.list y/\z=.list (gL l h y))\/∃y,x=.str y/\z=.str (gL l h y):=fun{x} e=>by
 cases x
 case list y=>obtain rfl:=zG e;exact .inl ⟨y,rfl,rfl⟩
 case str y=>obtain rfl:=zG e;exact .inr ⟨y,rfl,rfl⟩
 all_goals exact ai e
theorem snd_slc {a:E}{lo hi:Option E}{sp p:Pos}(ha:aW B K Φ a)(hlo:∀e,lo=some e->aW B K Φ e)(hhi:∀e,hi=some e->aW B K Φ e):aW B K Φ (.slc a lo hi sp p):=by
 intro Γ ρ r h Wc W pe A s X R;simp only[qj,zQ,zO,Aa] at h;refine du h fun r1 h1 x hx dl hl dh hh z hz e91=>?_;subst e91;refine am (af hz) fun il hil hz1=>?_;refine am (af hz1) fun ih hih hz2=>?_;have hz:=cut_inv hz2;refine Subscript_ (iS O ha h1 hx X R fun u s1 e1 X1 q1 t1=>wpAny_Slice (useO O hlo hl hil X1 R fun vl s2 e2 X2 p2=>useO O hhi hh hih X2 R fun vh s3 e3 X3 p3=>?_));dsimp only[evalPart_none];refine zR ?_;have e13:=e2.trans e3;have q3:=bE.eff O X.tW' t1 q1 e13;have eff:=(e1.trans e13);rcases hz with⟨l,rfl,rfl⟩|⟨l,rfl,rfl⟩
 ·obtain⟨a,vs,n,rfl,hg,hlim,ra⟩:=q3
  have L:∀o,(s3.heap.push o).IsList a vs:=fun o=>⟨_,z9 _ hg,rfl,n,rfl⟩;have hsz:=aa.length ra;dsimp only[An] at hsz;refine tail_any (L _).typeIs Fd.lookup (wpAny_getItem_list_slice (L _) (Heap.IsSliceOf.new ..) (uw O vl) (uw O vh) .none (by simp) ?_ (ax (by omega))) rfl;refine zF p2<|zF p3<|zF (slicePick_plain _ _ _) ?_
  refine⟨eff.trans ((az.push O _ s3.toks).trans (az.push O _ s3.toks)),?_⟩;refine cQ O (fun b hb=>by rw[Aq];exact By (X3.wlt b hb)) ?_ (zH (pN _ _ _) hlim);refine zF hsz ?_;exact aa.move O (fun b o J e=>z9 _ e) (fun b q=>.inl q) _ _ (aa.take _ (aa.drop _ ra))
 ·refine am (gy q3) fun t e91=>?_
  subst e91;intro hlim;refine tail_any (Cz _ _ _) Fj.lookup (wpAny_getItem_str_slice (l:=vl) (u:=vh) (st:=none) ⟨_,Aj _ rfl,rfl,rfl⟩ rfl ?_) rfl;refine oZ l t vl vh hlim fun t' k=>?_;refine⟨eff.trans (az.push O _ _),?_⟩;refine zF p2<|zF p3 ?_
  exact md (B:=B) (h:=s3.heap) (W:=W) (zH (pN _ _ _) hlim)
noncomputable def iN (B:Bs) (K:Nat)(Φ:bq)(es:List E):Prop:=∀Γ ρ l,iJ Φ Γ ρ es=some l->∀Wc W pe A s,Ctx B Γ Wc W pe ρ s->aB A K->
 wpAny B.M A (Fc (B8 (eN B.nm es) pe)) (fun vs s'=>az B s s'/\aa B s'.heap W l vs) hY s
theorem bO (nm:Nat->Str)(p:Pos)(pe:Env):∀es:List E,D2 p (B8 (eN nm es) pe)=B8 (eN nm es) pe
 |[]=>rfl
 |e::r=>by
  refine zF aU<|zF (aA _ _ _ _) ?_
  have ih:=bO nm p pe r;unfold D2 at ih ⊢;refine zF z8<|zF ih ?_;rfl
theorem vA {es:List E}{l:List D}(hS:iN B K Φ es)(h:iJ Φ Γ ρ es=some l)(X:Ctx B Γ Wc W pe ρ s)(R:aB A K){E:VS}{Q:List Value->zL->Prop}
  (k:∀vs s',az B s s'->Ctx B Γ Wc W pe ρ s'->aa B s'.heap W l vs->Q vs s'):wpAny B.M A (Fc (B8 (eN B.nm es) pe)) Q E s:=
 Ak (hS Γ ρ l h Wc W pe A s X R) (fun v s' h'=>k v s' h'.1 (X.move O h'.1) h'.2) fun J J f=>f.elim
theorem xF:iN B K Φ []:=by
 intro Γ ρ l h Wc W pe A s X R;simp only[nJ,zV] at h;subst h;exact zR ⟨az.refl _,aa.nil⟩
theorem vH {e:E}{es:List E}(he:aW B K Φ e)(hs:iN B K Φ es):iN B K Φ (e::es):=by
 intro Γ ρ l h Wc W pe A s X R;simp only[lJ,zQ,zO,zV] at h;refine iR h fun r h1 x hx y hy e91=>?_;subst e91;refine zF aU<|zF (aA _ _ _ _) ?_
 exact AJ (ci O he h1 hx X R fun v s1 e1 X1 q1=>vA O hs hy X1 R fun vs s2 e2 X2 q2=>⟨e1.trans e2,aa.cons (av.eff O X.tW' q1 e2) q2⟩)
theorem xq {es:List E}{p:Pos}(hs:iN B K Φ es):aW B K Φ (.list es p):=by
 intro Γ ρ r h Wc W pe A s X R;simp only[ju,uD,zQ,zO,Aa] at h;refine ke h fun l h1 d hd e91=>?_;subst e91;refine ifk hd fun hl e95=>?_;subst e95;refine List_ ?_;refine zF (bO O _ _ _ _) ?_;refine vA O hs h1 X R fun vs s1 e1 X1 q1=>?_;exact Bz ⟨e1.trans (az.push O _ _),cQ O X1.wlt (q1) hl⟩ (by show vs.toArray.size<=sizeLine;refine zF Bp<|zF (aa.length q1) ?_;exact ax hl)
theorem snd_tup {es:List E}{k:Nat}{p:Pos}(hs:iN B K Φ es):aW B K Φ (.tup es k p):=by
 intro Γ ρ r h Wc W pe A s X R;simp only[qh,zQ,zO] at h;refine am h fun l h1 h=>?_;refine ifk h fun hl e95=>?_;subst e95;refine Tuple_ ?_;refine zF (bO O _ _ _ _) ?_;refine vA O hs h1 X R fun vs s1 e1 X1 q1=>?_;exact Bz ⟨e1.trans (az.push O _ _),qM O X1.wlt (q1) hl⟩ (by show vs.toArray.size<=sizeLine;refine zF Bp<|zF (aa.length q1) ?_;exact ax hl)
omit O in
theorem lR {x:D}{t:Bool}(h:x.truth=some t):x=.bool t:=by cases x<;>first|(obtain rfl:=zG h;rfl)|exact ai h
theorem vD {x:Nat}{p:Pos}:eJ B K Φ (.name x p):=by
 intro Γ ρ b h Wc W pe A s X R;rw[lr] at h
 cases hr:ρ x with
 |none=>rw[hr] at h;exact ai h
 |some en=>
 rw[hr] at h
 cases en with
 |fz d=>
  obtain rfl:=lR h;refine Ef (e:=.Name (B.nm x) p) (ci O (lZ O (Φ:=Φ) (K:=K) (x:=x) (p:=p)) (x:=.bool _) (r:=.d (.bool _)) (by simp only[eL,hr];rfl) rfl X R fun v s1 e1 X1 q1=>?_);simp only[av] at q1;subst q1;exact AZ ⟨e1,rfl⟩
 |_=>exact ai h
theorem xB {a i:E}{p:Pos}(hS:aW B K Φ (.idx a i p)):eJ B K Φ (.idx a i p):=by
 intro Γ ρ b h Wc W pe A s X R;replace h:=(show((ev Φ Γ ρ a).bind fun r=>r.asB.bind fun x=>(ev Φ Γ ρ i).bind fun r=>r.asD.bind fun y=>(D.item x y).bind D.truth)=some b from h);refine am (af h) fun r1 h1 g1=>?_;refine am (af g1) fun x hx g2=>?_;refine am (af g2) fun r2 h2 g3=>?_;refine am (af g3) fun y hy g4=>?_;refine am (af g4) fun z hz ht=>?_;obtain rfl:=lR ht;have he:ev Φ Γ ρ (.idx a i p)=some (.d (.bool b)):=by
  refine zF ld<|zF h1 ?_
  simp only[zQ,Ad,hx,h2,hy,hz,Cd]
 refine Ef (e:=.Subscript (a.py B.nm) (i.py B.nm) p) (ci O hS he rfl X R fun v s1 e1 X1 q1=>?_);simp only[av] at q1;subst q1;exact AZ ⟨e1,rfl⟩
noncomputable def zx (B:Bs) (K:Nat)(Φ:bq)(op:DE)(es:List E):Prop:=∀Γ ρ b,wN Φ Γ ρ op es=some b->∀Wc W pe A s p whole,Ctx B Γ Wc W pe ρ s->aB A K->
 wpAny B.M A (EC (.BoolOp op (eN B.nm es) p) pe whole) (fun c s'=>az B s s'/\c=b) hY s
theorem xG {op:DE}:zx B K Φ op []:=by
 intro Γ ρ b h Wc W pe A s p whole X R;simp only[nK,zV] at h;subst h
 cases op
 ·exact isTrue_and_nil ⟨az.refl _,rfl⟩
 ·exact isTrue_or_nil ⟨az.refl _,rfl⟩
theorem vJ {op:DE}{e:E}{es:List E}(he:eJ B K Φ e)(hs:zx B K Φ op es):zx B K Φ op (e::es):=by
 intro Γ ρ b h Wc W pe A s p whole X R;simp only[iB,zQ,zO] at h;refine am h fun t h1 h=>?_;dsimp only[aU]
 cases op
 ·refine isTrue_and (se O he h1 X R fun s1 e1 X1=>?_)
  cases t
  ·obtain rfl:=zG h;exact⟨e1,rfl⟩
  ·exact Ak (hs Γ ρ b h Wc W pe A s1 p whole X1 R) (fun c s' h'=>⟨e1.trans h'.1,h'.2⟩) fun J J f=>f
 ·refine isTrue_or (se O he h1 X R fun s1 e1 X1=>?_)
  cases t
  ·exact Ak (hs Γ ρ b h Wc W pe A s1 p whole X1 R) (fun c s' h'=>⟨e1.trans h'.1,h'.2⟩) fun J J f=>f
  ·obtain rfl:=zG h;exact⟨e1,rfl⟩
theorem xD {op:DE}{es:List E}{p:Pos}(hs:zx B K Φ op es):eJ B K Φ (.bop op es p):=by
 intro Γ ρ b h Wc W pe A s X R;simp only[nI] at h;exact hs Γ ρ b h Wc W pe A s p _ X R
theorem t7 {op:DE}{p:Pos}:∀{es:List E},(∀e∈es,aW B K Φ e)->aW B K Φ (.bop op es p)
 |[],_=>fun Γ ρ r h=>by dsimp only[gn] at h;exact ai h
 |e::es,hes=>by
  intro Γ ρ r h Wc W pe A s X R;dsimp only[gn] at h;refine am (af h) fun r1 h1 h2=>?_;refine am (af h2) fun x hx h3=>?_;refine am (af h3) fun t ht h4=>?_;have:=lR ht;subst this
  cases es with
  |nil=>
   obtain rfl:=zG h4;exact BoolOp_one (ci O (hes e zU) h1 hx X R fun v s1 e1 X1 q1=>⟨e1,q1⟩)
  |cons e2 es=>
   have tl:rS Φ Γ ρ op (e2::es)=some r->∀s1,az B s s1->Ctx B Γ Wc W pe ρ s1->wpAny B.M A (eval (.BoolOp op (eN B.nm (e2::es)) p) pe) (fun v s'=>az B s s'/\cu B K s W r v s') hY s1:=fun h5 s1 e1 X1=>
    Ak (t7 (fun z hz=>hes z (zT _ hz)) Γ ρ r ((gn (u1:=p)).trans h5) Wc W pe A s1 X1 R) (fun v s' h'=>⟨e1.trans h'.1,cu.back O e1 h'.2⟩) fun J J f=>f
   cases op
   ·refine BoolOp_and (ci O (hes e zU) h1 hx X R fun v s1 e1 X1 q1=>?_)
    cases(show v=.bool t from q1)
    refine AZ ?_
    cases t
    ·obtain rfl:=zG h4;exact⟨e1,rfl⟩
    ·exact tl h4 s1 e1 X1
   ·refine BoolOp_or (ci O (hes e zU) h1 hx X R fun v s1 e1 X1 q1=>?_)
    cases(show v=.bool t from q1)
    refine AZ ?_
    cases t
    ·exact tl h4 s1 e1 X1
    ·obtain rfl:=zG h4;exact⟨e1,rfl⟩
noncomputable def jT (B:Bs) (K:Nat)(Φ:bq)(es:List E):Prop:=∀Γ ρ b,uR Φ Γ ρ es=some b->∀Wc W pe A s,Ctx B Γ Wc W pe ρ s->aB A K->
 wpAny B.M A (forIn (eN B.nm es) true fun c r=>if r=true then do let ok <-EC c pe (eval c pe);pure (BM ok) else pure (BM r)) (fun c s'=>az B s s'/\c=b) hY s
theorem kA:∀(es:List Expr)(pe:Env)(f:Expr->Sem Bool),(forIn es false fun c r=>if r=true then do let ok <-f c;pure (BM ok) else pure (BM r))=(pure false:Sem Bool)
 |[],_,_=>rfl
 |e::es,pe,f=>by
  rw[D5];exact kA es pe f
theorem qH:jT B K Φ []:=by
 intro Γ ρ b h Wc W pe A s X R;simp only[eM,zV] at h;subst h;exact zR ⟨az.refl _,rfl⟩
theorem vI {e:E}{es:List E}(he:eJ B K Φ e)(hs:jT B K Φ es):jT B K Φ (e::es):=by
 intro Γ ρ b h Wc W pe A s X R;simp only[lL,zQ,zO] at h;refine am h fun t h1 h=>?_
 (refine zF aU ?_;rw[D5])
 simp only[if_true];refine zK (zK (se O he h1 X R fun s1 e1 X1=>zR ?_))
 cases t
 ·simp only[AK,if_false,zV] at h
  subst h;dsimp only;refine zF (kA O _ pe (fun c=>EC c pe (eval c pe))) ?_;exact zR ⟨e1,rfl⟩
 ·simp only[if_true] at h
  exact Ak (hs Γ ρ b h Wc W pe A s1 X1 R) (fun c s' h'=>⟨e1.trans h'.1,h'.2⟩) fun J J f=>f
end
end Mine
namespace Mine
variable {B:Bs}{K:Nat}
theorem jl {M:Model}{A:Av}{E:VS}{s:zL}{f:Value}{ts:List (Bool×Sem Value)}{Q:Args->zL->Prop}(hp:∀x∈ts,x.1=false)
  (h:wpAny M A (Fc ts) (fun vs s'=>Q ⟨vs,[]⟩ s') E s):wpAny M A (evalArgs f true ts []) Q E s:=by
 cases ts with
 |nil=>
  unfold evalArgs;show wpAny M A (Fc [] >>= _) Q E s;refine zK (Ak h (fun vs s' h'=>?_) fun J J x=>x);refine BE ?_;exact zK (zR (zK (zR (zR h'))))
 |cons x r=>
  obtain⟨b,t⟩:=x;have:b=false:=hp _ zU;subst this;exact evalArgs_plain h
theorem qP (nm:Nat->Str)(pe:Env):∀es:List E,∀x∈B8 (eN nm es) pe,x.1=false
 |[],x,h=>aG (show x∈([]:List (Bool×Sem Value)) from h)
 |e::r,x,h=>by
  replace h:=(aA _ _ _ _)▸aU▸h;rcases Ab.mp h with rfl|h
  ·rfl
  ·exact qP nm pe r x h
section
variable {Φ:bq}{K:Nat}(O:B.Ok)
include O
variable {Γ:ah}{ρ:ac}{Wc W:AP}{pe:Env}{A:Av}{s:zL}
theorem Ctx.ns (X:Ctx B Γ Wc W pe ρ s):s.heap.Ns pe.globals B.mg:=by
 refine zF X.glob ?_;exact BO.moved O.g fun o e=>X.good.base _ _ O.gT e
theorem Ctx.nb (X:Ctx B Γ Wc W pe ρ s):s.heap.Ns pe.builtins B.mb:=by
 refine zF X.blt ?_;exact BO.moved O.b fun o e=>X.good.base _ _ O.bT e
theorem gE {f:Nat}{v:Value}{p:Pos}{E:VS}{Q:VS}(X:Ctx B Γ Wc W pe ρ s)(hk:Γ f=some .globalImplicit)(hb:dX f=some v)(h:Q v s):
  wpAny B.M A (eval (.Name (B.nm f) p) pe) Q E s:=
 EF X.fn (X.kinds _ _ hk).1 (loadGlobal_builtin (X.ns O) (O.blts _ _ hb).1 (X.nb O) (O.blts _ _ hb).2 h) (O.dbg f)
theorem mt {f:Nat}{v:Value}{p:Pos}{E:VS}{Q:VS}(X:Ctx B Γ Wc W pe ρ s)(hk:Γ f=some .globalImplicit)(hb:B.mg (B.nm f)=some v)(h:Q v s):
  wpAny B.M A (eval (.Name (B.nm f) p) pe) Q E s:=
 EF X.fn (X.kinds _ _ hk).1 (loadGlobal_global (X.ns O) hb h) (O.dbg f)
theorem vd {fa:Addr}{fo:Obj}{fd:BD}{es:List E}{l:List D}{p:Pos}{E:VS}{Q:VS}(hS:iN B K Φ es)(hl:iJ Φ Γ ρ es=some l)(X:Ctx B Γ Wc W pe ρ s)(R:aB A K)
  (hT:¬B.T fa) (hg:s.heap.get? fa=some fo) (hd:fo.data=.func fd)
  (k:∀vs s',az B s s'->Ctx B Γ Wc W pe ρ s'->aa B s'.heap W l vs->BZ B.M A (.call (.ref fa) ⟨vs,[]⟩) (fun r s''=>∃v,r=.ok (.ret v)/\Q v s'') s'):
  wpAny B.M A (callWith p (.ref fa) [] (D2 p (B8 (eN B.nm es) pe)) []) Q E s:=by
 refine zF (bO O _ _ _ _) ?_;refine DZ (o:=fo) (fd:=fd) (jl (qP _ _ _) (vA O hS hl X R fun vs s1 e1 X1 q1=>⟨⟨e1.keep _ _ hT hg,hd⟩,?_⟩));refine C4 (CV (k vs s1 e1 X1 q1) ?_);rintro r s2 ⟨v,rfl,hv⟩;exact hv
theorem qG {f:Nat}{es:List E}{fp p:Pos}(P:bx B K Φ)(hS:iN B K Φ es):aW B K Φ (.call f es fp p):=by
 intro Γ ρ r h Wc W pe A s X R;simp only[jv,zQ,zO] at h;refine am h fun l hl h=>?_;refine mA h fun hk h=>?_;replace h:=Aa.mp h;refine am h fun d hd e91=>?_;subst e91;obtain⟨fa,fo,fd,h1,h2,h3,h4,c⟩:=P.call _ _ _ hd;refine Bc (mt O X hk h1 ?_);refine vd O hS hl X R h2 (X.good.base _ _ h2 h3) h4 fun vs s1 e1 X1 q1=>?_;refine CV (c A s1 W vs X1.good R X1.tW' X1.wlt q1) ?_;rintro r s2 ⟨v,rfl,e2,q2⟩;exact⟨v,rfl,e1.trans e2,q2⟩
theorem vE {f:Nat}{es:List E}{fp p:Pos}(P:bx B K Φ)(hS:iN B K Φ es):eJ B K Φ (.call f es fp p):=by
 intro Γ ρ b h Wc W pe A s X R;simp only[lu,zQ,zO] at h;refine am h fun l hl h=>?_;refine mA h fun hk h=>?_
 cases hb:Φ.call f l with
 |none=>rw[hb] at h;exact ai h
 |some d=>
 rw[hb] at h
 cases d with
 |bool b'=>
  obtain rfl:=zG h;refine Ef (e:=.Call (.Name (B.nm f) fp) (eN B.nm es) [] p) (ci O (qG O (Φ:=Φ) P hS (f:=f) (fp:=fp) (p:=p)) (r:=.d (.bool b')) (x:=.bool b') (by simp only[jv,hl,zQ,Ad,hk,if_true,hb,Cd]) rfl X R fun v s1 e1 X1 q1=>?_) rfl;simp only[av] at q1;subst q1;exact AZ ⟨e1,rfl⟩
 |_=>exact ai h
theorem ek_call {f:E}:∀{k:EK},k.isCall=true->k.Of f->∃g es q p,f=.call g es q p:=fun{k} h q=>by
 cases k with
 |fcl g es r p=>exact⟨g,es,r,p,q⟩
 |_=>exact bG h
theorem wG {f:E}(hf:f.isCall=true)(es:List E)(p:Pos)(pe:Env)(nm:Nat->Str):eval (.Call (f.py nm) (eN nm es) [] p) pe=(do callWith p (<-eval (f.py nm) pe) [] (D2 p (B8 (eN nm es) pe)) []):=by
 obtain⟨g,es',q',p',rfl⟩:=ek_call O hf f.k_of
 rfl
end
end Mine
namespace Mine
variable {B:Bs}{K:Nat}
theorem ao.refl (p:Pv)(s:zL):ao B p s s:=⟨fun J J J J e=>e,fun J J J e=>e,zW _,id,fun J J J e=>e,zW _,id,rfl⟩
theorem ao.trans {p p':Pv}{s s' s'':zL}(a:ao B p s s')(b:ao B p' s' s'')(ha:∀x,p'.a x->p.a x\/s.heap.objs.size<=x)(hg:∀i,p'.g i->p.g i\/s.gens.size<=i):ao B p s s'' where
 keep:=fun x o t n e=>b.keep x o t (fun q=>(ha x q).elim n fun z=>absurd (Al e) (D3.mpr z)) (a.keep x o t n e)
 ck:=fun x o t e=>b.ck x o t (a.ck x o t e)
 size:=zH a.size b.size
 ti:=fun t=>b.ti (a.ti t)
 gens:=fun i x n e=>b.gens i x (fun q=>(hg i q).elim n fun z=>by
  have:=(BA.mp e).1;lia) (a.gens i x n e)
 gsize:=zH a.gsize b.gsize
 bare:=fun t=>b.bare (a.bare t)
 os:=b.os.trans a.os
theorem az.toP {s s':zL}(e:az B s s')(p:Pv):ao B p s s' where
 keep:=fun x o t J q=>e.keep x o t q
 ck:=e.ck
 size:=e.size
 ti:=e.ti
 gens:=fun i x J q=>e.gens i x q
 gsize:=by
  rcases Dv s'.gens.size s.gens.size with h|h
  ·have:=e.gens s'.gens.size s.gens[s'.gens.size] (by simp[h])
   simp at this
  ·exact h
 bare:=e.bare
 os:=e.os
theorem ao.mono {p p':Pv}{s s':zL}(e:ao B p s s')(ha:∀b,p.a b->p'.a b)(hg:∀i,p.g i->p'.g i):ao B p' s s':=
 ⟨fun b o t n q=>e.keep b o t (fun x=>n (ha b x)) q,e.ck,e.size,e.ti,fun i x n q=>e.gens i x (fun y=>n (hg i y)) q,e.gsize,e.bare,e.os⟩
theorem ao.toEff {p:Pv}{s₀ s s':zL}(a:az B s₀ s)(e:ao B p s s')(ha:∀b,p.a b->s₀.heap.objs.size<=b)(hg:∀i,p.g i->s₀.gens.size<=i):az B s₀ s' where
 keep:=fun b o t q=>e.keep b o t (fun x=>absurd (Al q) (D3.mpr (ha b x))) (a.keep b o t q)
 ck:=fun b o t q=>e.ck b o t (a.ck b o t q)
 size:=zH a.size e.size
 ti:=fun t=>e.ti (a.ti t)
 gens:=fun i x q=>e.gens i x (fun y=>by have:=(BA.mp q).1;have:=hg i y;lia) (a.gens i x q)
 bare:=fun t=>e.bare (a.bare t)
 os:=e.os.trans a.os
theorem ao.kW {p:Pv}{s s':zL}{W:AP}(e:ao B p s s')(tW:∀b,B.T b->W b)(hp:∀b,p.a b->W b):∀b o,(¬W b\/B.KO o)->s.heap.get? b=some o->s'.heap.get? b=some o:=
 fun b o n q=>n.elim (fun n=>e.keep b o (fun t=>n (tW b t)) (fun z=>n (hp b z)) q) fun n=>e.ck b o n q
theorem aJ.moveP {p:Pv}{s s':zL}(g:aJ B s)(e:ao B p s s')(h:∀b,p.a b->B.Hi b):aJ B s':=
 ⟨fun b o t x=>e.keep b o t (fun q=>absurd (Al x) (D3.mpr (h b q).1)) (g.base b o t x),zH g.size e.size,e.ti g.ti,fun b t=>zI (g.tlt b t) e.size⟩
theorem uz {T:String}(ok:xZ T=true):(T == "code" || T == "dict")=false:=by
 unfold xZ at ok;simp only[Dy,List.contains_nil,Ew,Cx,beq_iff_eq] at ok;rcases ok with rfl|rfl|rfl|rfl|rfl|rfl<;>decide
theorem gD {A:Av}{E:VS}{s:zL}{x:Str}{pos:Pos}{it v:Value}{Q:Unit->zL->Prop}(hQ:Q () s):wpAny B.M A (Cq (.Name x pos) it v) Q E s:=zR hQ
structure WkI (B:Bs)(F:AP)(I:Addr)(fp:List Addr) (n:Nat)(P:Nat->Value->Prop)(St:Nat->Heap->Prop)(ds:List D)(l:List D)(p:Pv)(s:zL):Prop where
 at':∃i,i<=n/\l=ds.drop i/\St i s.heap
 pa:p.a=fun b=>b=I
 pg:p.g=fun J=>False
 fp:∀b∈fp,b=I\/F b
 low:I < s.heap.objs.size/\¬B.T I/\¬F I
 ft:∀b,F b->¬B.T b
 len:ds.length=n
 its:∀j v d,ds[j]?=some d->P j v->av B s.heap (fun b=>¬F b) d v
section
variable (O:B.Ok)
include O
theorem wk_ok {F:AP}{I:Addr}{fp:List Addr}{n:Nat}{P:Nat->Value->Prop}{St:Nat->Heap->Prop}{ds:List D}(W:∀A:Av,A.handled=none->Walks B.prog B.w A I fp [I] n P St)
  (hty:∀i h,St i h->∃o T,h.get? I=some o/\o.cls=.type T/\xZ T=true):be B K F I (WkI B F I fp n P St ds) where
 sub:=fun l p s h b hb=>by rw[h.pa] at hb;subst hb;exact⟨h.low.2.2,h.low.2.1,h.low.1⟩
 subg:=fun l p s h i hi=>by rw[h.pg] at hi;exact hi.elim
 ft:=fun l p s h=>h.ft
 stay:=fun l p s s' h k ck hs J g=>by
  have kf:∀b∈fp,∀o,s.heap.get? b=some o->s'.heap.get? b=some o:=fun b hb o e=>by
   rcases h.fp b hb with rfl|hF
   ·exact k _ _ h.low.2.1 (.inr (by exact zF h.pa rfl)) e
   ·exact k _ _ (h.ft b hF) (.inl hF) e
  refine⟨?_,h.pa,h.pg,h.fp,⟨zI h.low.1 hs,h.low.2⟩,h.ft,h.len,fun j v d e q=>?_⟩
  ·refine oQ h.at' fun i hi hl st=>?_
   exact⟨i,hi,hl,(W {} rfl).frame _ _ _ st kf⟩
  ·exact av.move O (fun b o hb e=>hb.elim (fun hb=>k b o (h.ft b (Ek.mp hb)) (.inl (Ek.mp hb)) e) fun hb=>ck b o hb e) (fun b q=>.inl q) d v (h.its j v d e q)
 next:=fun d l p s A E Q h g R k=>by
  refine oQ h.at' fun i hi hl st=>?_;have hd:ds[i]?=some d:=by
   have:=congrArg GB hl;rw[D4] at this;refine zF (AM this) ?_;rfl
  have hlt:i < n:=by
   refine zF (AM h.len) ?_;exact(Ap.mp hd).1
  refine Mine.rZ ((W A R.handled).item i s _ _ hlt st fun v h' tk hP st' hk hsz=>?_);have keep:∀b o,b≠I->s.heap.get? b=some o->h'.get? b=some o:=fun b o hb e=>hk b o (by simpa using hb) e;have nc:∀b o,B.KO o->s.heap.get? b=some o->b≠I:=fun b o hc e q=>by
   subst q;refine lM (hty _ _ st) fun oI T hoI hcl hok=>?_;obtain rfl:=zG (hoI.symm.trans e);exact yq hc hcl (uz hok)
  have hrep:∀j v d,ds[j]?=some d->P j v->av B h' (fun b=>¬F b) d v:=fun j v d e q=>
   av.move O (fun b o hb e=>keep b o (fun x=>hb.elim (fun hb=>h.low.2.2 (x▸Ek.mp hb)) fun hb=>nc b o hb e x) e) (fun b q=>.inl q) d v (h.its j v d e q)
  refine k v _ p ⟨fun b o t n e=>keep b o (fun x=>n (by refine zF h.pa ?_;exact x)) e,fun b o hc e=>keep b o (nc b o hc e) e,hsz,fun t=>?_,fun J J J e=>e,zW _,id,rfl⟩ (fun J q=>q) (fun J q=>.inl q) rfl (hrep i v d hd hP) ?_
  ·exact O.tikeep _ _ t fun b o tb e=>keep b o (fun x=>tb.elim (fun tb=>h.low.2.1 (x▸tb)) fun hc=>nc b o hc e x) e
  ·refine⟨⟨i+1,hlt,?_,st'⟩,h.pa,h.pg,h.fp,⟨zI h.low.1 hsz,h.low.2⟩,h.ft,h.len,hrep⟩
   have:=congrArg List.tail hl;rw[List.tail_drop] at this;exact this
 done:=fun p s A E Q h g R k=>by
  refine oQ h.at' fun i hi hl st=>?_;have:i=n:=by
   have:=congrArg CD hl;rw[B6,Cw,h.len] at this
   lia
  subst this;refine Mine.rZ ((W A R.handled).done s _ _ st fun h' tk hk hsz=>?_);have keep:∀b o,b≠I->s.heap.get? b=some o->h'.get? b=some o:=fun b o hb e=>hk b o (by simpa using hb) e;have nc:∀b o,B.KO o->s.heap.get? b=some o->b≠I:=fun b o hc e q=>by
   subst q;refine lM (hty _ _ st) fun oI T hoI hcl hok=>?_;obtain rfl:=zG (hoI.symm.trans e);exact yq hc hcl (uz hok)
  refine k _ ⟨fun b o t n e=>keep b o (fun x=>n (by refine zF h.pa ?_;exact x)) e,fun b o hc e=>keep b o (nc b o hc e) e,hsz,fun t=>?_,fun J J J e=>e,zW _,id,rfl⟩;exact O.tikeep _ _ t fun b o tb e=>keep b o (fun x=>tb.elim (fun tb=>h.low.2.1 (x▸tb)) fun hc=>nc b o hc e x) e
 self:=fun l p s A E Q h g R hQ=>by
  refine oQ h.at' fun i J J st=>?_;exact(W A R.handled).self i s Q E st hQ
end
end Mine
namespace Mine
variable {B:Bs}{K:Nat}
theorem sD (lo n:Int):Builtin.Range.rangeSize lo n 1=(n - lo).toNat:=by
 refine zF (rangeSize_one _ _) ?_
 by_cases h:lo < n
 ·exact zF (if_pos h)<|zF (GC (Int.sub_nonneg_of_le (Int.le_of_lt h))) rfl
 ·refine zF (if_neg h)<|zF (Int.toNat_of_nonpos (Int.sub_nonpos_of_le (GQ.mp h))) ?_;rfl
theorem qN {lo n:Int}(h:(-1048576<=lo/\lo<=1048576)/\-1048576<=n/\n<=1048576):Builtin.Range.small lo n 1=true:=by
 exact small_one (Dw (by decide) h.1.1) (DD h.1.2 (by decide)) (Dw (by decide) h.2.1) (DD h.2.2 (by decide))
noncomputable abbrev Fz (W:AP)(h:Heap):Addr->Prop:=fun b=>¬W b/\b < h.objs.size
noncomputable def ItAt (B:Bs) (K:Nat)(s₀:zL)(W:AP)(it:Addr)(F:AP)(p:Pv)(I:List D->Pv->zL->Prop)(items:List D)(s:zL):Prop:=
 be B K F it I/\I items p s/\(∀b,F b->¬W b/\b < s.heap.objs.size)/\(∀b,p.a b->s₀.heap.objs.size<=b)/\(∀i,p.g i->s₀.gens.size<=i)
section
variable (O:B.Ok)
include O
variable {Γ:ah}{ρ:ac}{Wc W:AP}{pe:Env}{A:Av}{s₀ s:zL}
theorem aa.frozen {ds:List D}{vs:List Value}{W:AP}{h:Heap}(r:aa B h W ds vs):aa B h (fun b=>¬Fz W h b) ds vs:=
 aa.move O (fun J J J e=>e) (fun b q=>by
  by_cases w:W b
  ·exact .inl w
  ·refine .inr (AG ?_)
   rcases Dv b h.objs.size with z|z
   ·exact absurd ⟨w,z⟩ q
   ·exact z) _ _ r
theorem yt {o:Obj}{fp:List Addr}{n:Nat}{P:Nat->Value->Prop}{St:Nat->Heap->Prop}{items:List D}{T:String}(W':∀A:Av,A.handled=none->Walks B.prog B.w A s.heap.objs.size fp [s.heap.objs.size] n P St)
  (hty:∀i h,St i h->∃o T,h.get? s.heap.objs.size=some o/\o.cls=.type T/\xZ T=true) (tW:∀b,B.T b->W b) (wlt:∀b,W b->b < s.heap.objs.size) (e₀:az B s₀ s)
  (hfp:∀b∈fp,b=s.heap.objs.size\/(¬W b/\b < s.heap.objs.size)) (hst:St 0 (s.heap.push o)) (hlen:items.length=n)
  (hits:∀j v d,items[j]?=some d->P j v->av B s.heap (fun b=>¬Fz W s.heap b) d v):
  ∃F p I,ItAt B K s₀ W s.heap.objs.size F p I items { s with heap:=s.heap.push o }:=by
 refine⟨Fz W s.heap,⟨fun b=>b=s.heap.objs.size,fun J=>False⟩,WkI B (Fz W s.heap) s.heap.objs.size fp n P St items,wk_ok O W' hty,?_,?_,?_,?_⟩
 ·refine⟨⟨0,Ae _,rfl,hst⟩,rfl,rfl,hfp,⟨by refine zF (Aq _ _) ?_;exact AL _,fun t=>zJ _ (wlt _ (tW _ t)),fun q=>zJ _ q.2⟩,fun b q t=>q.1 (tW _ t),hlen,fun j v d e q=>?_⟩
  exact av.move O (fun b o J e=>z9 _ e) (fun b q=>.inl q) d v (hits j v d e q)
 ·intro b q
  exact⟨q.1,by refine zF (Aq _ _) ?_;exact By q.2⟩
 ·intro b q
  subst q;exact e₀.size
 ·intro i q
  exact q.elim
theorem gY {o:Obj}{fp:List Addr}{n:Nat}{P:Nat->Value->Prop}{St:Nat->Heap->Prop}{items:List D}(W':∀A:Av,A.handled=none->Walks B.prog B.w A s.heap.objs.size fp [s.heap.objs.size] n P St)
  (hty:∀i h,St i h->∃o T,h.get? s.heap.objs.size=some o/\o.cls=.type T/\xZ T=true) (tW:∀b,B.T b->W b) (wlt:∀b,W b->b < s.heap.objs.size)
  (hfp:∀b∈fp,b=s.heap.objs.size\/(¬W b/\b < s.heap.objs.size)) (hst:St 0 (s.heap.push o)) (hlen:items.length=n)
  (hits:∀j v d,items[j]?=some d->P j v->av B s.heap (fun b=>¬Fz W s.heap b) d v):
  ∃I,be B K (Fz W s.heap) s.heap.objs.size I/\I items ⟨fun b=>b=s.heap.objs.size,fun J=>False⟩ { s with heap:=s.heap.push o }:=by
 refine⟨WkI B (Fz W s.heap) s.heap.objs.size fp n P St items,wk_ok O W' hty,?_⟩;refine⟨⟨0,Ae _,rfl,hst⟩,rfl,rfl,hfp,⟨by refine zF (Aq _ _) ?_;exact AL _,fun t=>zJ _ (wlt _ (tW _ t)),fun q=>zJ _ q.2⟩,fun b q t=>q.1 (tW _ t),hlen,fun j v d e q=>?_⟩;exact av.move O (fun b o J e=>z9 _ e) (fun b q=>.inl q) d v (hits j v d e q)
theorem it_at {it:Addr}{s':zL}{I:List D->Pv->zL->Prop}{items:List D}(e₀:az B s₀ s)(hit:it=s.heap.objs.size)(e:az B s s')(ok:be B K (Fz W s.heap) it I)(hI:I items ⟨fun b=>b=it,fun J=>False⟩ s'):
  ItAt B K s₀ W it (Fz W s.heap) ⟨fun b=>b=it,fun J=>False⟩ I items s':=
 ⟨ok,hI,fun b q=>⟨q.1,zI q.2 e.size⟩,fun b q=>by subst q;refine zF hit ?_;exact e₀.size,fun i q=>q.elim⟩
set_option tactic.hygienic true in
omit O in
theorem asI_inv {items:List D}:∀{x:D},(Mine.R.d x).asI=some items->(∃l,x=.list l/\l=items)\/(∃l,x=.tup l/\l=items)\/∃l,x=.str l/\(l.map fun c=>D.str [c])=items:=fun{x} h=>by
 cases x
 case list l=>exact .inl ⟨l,rfl,zG h⟩
 case tup l=>exact .inr (.inl ⟨l,rfl,zG h⟩)
 case str l=>exact .inr (.inr ⟨l,rfl,zG h⟩)
 all_goals exact ai h
theorem ji {x:D}{v:Value}{items:List D}{E:VS}{Q:VS}(h:(Mine.R.d x).asI=some items)(tW:∀b,B.T b->W b)(wlt:∀b,W b->b < s.heap.objs.size)(rp:av B s.heap W x v)
  (k:∀I s',be B K (Fz W s.heap) s.heap.objs.size I->I items ⟨fun b=>b=s.heap.objs.size,fun J=>False⟩ s'->items.length<=lim->az B s s'->Q (.ref s.heap.objs.size) s'):wpAny B.M A (FB v) Q E s:=by
  rcases asI_inv h with⟨ds,rfl,rfl⟩|⟨ds,rfl,rfl⟩|⟨l,rfl,rfl⟩
  case inl=>
   simp only[av] at rp;obtain⟨a,vs,n,rfl,hw,hg,hl,ra⟩:=rp;have hlt:=Al hg;have L:s.heap.IsList a vs:=⟨_,hg,rfl,n,rfl⟩;refine wpAny_pyIter_list L ?_;obtain⟨I,ok,hI⟩:=gY O (K:=K) (s:=s) (W:=W) (o:={ cls:=.type "list_iterator", data:=.fields #[.ref a,.int 0 0] }) (fun A hA=>Walks.list hA s.heap.objs.size a (CN hlt) vs)
    (fun i h st=>by refine aS st fun p91 J=>?_;obtain⟨o,h1,h2,J⟩:=p91;exact⟨o,_,h1,h2,by decide⟩) tW wlt (items:=ds) (by
     intro b hb;rcases Ab.mp hb with rfl|hb
     ·exact .inl rfl
     ·rcases Ab.mp hb with rfl|hb
      ·exact .inr ⟨hw,hlt⟩
      ·exact aG hb) ⟨⟨_,Aj _ rfl,rfl,rfl⟩,L.push _⟩ (by have:=aa.length ra;simpa using this.symm) (fun j v d e q=>by
     refine am (aa.get (aa.frozen O ra) e) fun v' hv rv=>?_;rw[BP] at hv
     obtain rfl:=zG (hv.symm.trans q);exact rv)
   exact k I _ ok hI hl (az.push O _ _)
  case inr.inl=>
   simp only[av] at rp;obtain⟨a,vs,n,rfl,hw,hg,hl,ra⟩:=rp;have hlt:=Al hg;have L:s.heap.IsTuple a vs:=⟨_,hg,rfl,n,rfl⟩;refine wpAny_pyIter_tuple L ?_;obtain⟨I,ok,hI⟩:=gY O (K:=K) (s:=s) (W:=W) (o:={ cls:=.type "tuple_iterator", data:=.fields #[.ref a,.int 0 0] }) (fun A hA=>Walks.tuple hA s.heap.objs.size a (CN hlt) vs)
    (fun i h st=>by refine aS st fun p91 J=>?_;obtain⟨o,h1,h2,J⟩:=p91;exact⟨o,_,h1,h2,by decide⟩) tW wlt (items:=ds) (by
     intro b hb;rcases Ab.mp hb with rfl|hb
     ·exact .inl rfl
     ·rcases Ab.mp hb with rfl|hb
      ·exact .inr ⟨hw,hlt⟩
      ·exact aG hb) ⟨⟨_,Aj _ rfl,rfl,rfl⟩,⟨_,z9 _ hg,rfl,n,rfl⟩⟩ (by have:=aa.length ra;simpa using this.symm) (fun j v d e q=>by
     refine am (aa.get (aa.frozen O ra) e) fun v' hv rv=>?_;rw[BP] at hv
     obtain rfl:=zG (hv.symm.trans q);exact rv)
   exact k I _ ok hI hl (az.push O _ _)
  case inr.inr=>
   simp only[av] at rp;refine aS rp fun p91 hl=>?_;obtain⟨t,rfl⟩:=p91;have hsz:(⟨l.toArray⟩:Str).cps.size=l.length:=by simp
   have its:∀(j:Nat) (v:Value) (d:D),(l.map fun c=>D.str [c])[j]?=some d->SignAt ⟨l.toArray⟩ j v->av B s.heap (fun b=>¬Fz W s.heap b) d v:=by
    rintro j v d e ⟨c,u,hc,rfl⟩;simp only[AR,Aa] at e;refine am e fun c' hc' e91=>?_;subst e91;simp only[F7] at hc;obtain rfl:=zG (hc'.symm.trans hc);exact⟨⟨_,rfl⟩,by simp[lim]⟩
   cases ha:(⟨l.toArray⟩:Str).cps.all (· < 128)
   ·refine wpAny_pyIter_wide ha ?_
    obtain⟨I,ok,hI⟩:=gY O (K:=K) (s:=s) (W:=W) (o:={ cls:=.type "str_iterator", data:=.fields #[.str ⟨l.toArray⟩ t,.int 0 0] }) (fun A hA=>Walks.strWide hA s.heap.objs.size _ t)
     (fun i h st=>by refine oQ st fun o h1 h2 J=>?_;exact⟨o,_,h1,h2,by decide⟩) tW wlt (items:=l.map fun c=>D.str [c]) (by
      intro b hb;rcases Ab.mp hb with rfl|hb
      ·exact .inl rfl
      ·exact aG hb) ⟨_,Aj _ rfl,rfl,rfl⟩ (by simp) its
    exact k I _ ok hI (by simpa using hl) (az.push O _ _)
   ·refine wpAny_pyIter_ascii ha ?_
    obtain⟨I,ok,hI⟩:=gY O (K:=K) (s:=s) (W:=W) (o:={ cls:=.type "str_ascii_iterator", data:=.fields #[.str ⟨l.toArray⟩ t,.int 0 0] }) (fun A hA=>Walks.strAscii hA s.heap.objs.size _ t)
     (fun i h st=>by refine oQ st fun o h1 h2 J=>?_;exact⟨o,_,h1,h2,by decide⟩) tW wlt (items:=l.map fun c=>D.str [c]) (by
      intro b hb;rcases Ab.mp hb with rfl|hb
      ·exact .inl rfl
      ·exact aG hb) ⟨_,Aj _ rfl,rfl,rfl⟩ (by simp) its
    exact k I _ ok hI (by simpa using hl) (az.push O _ _)
theorem pA {r:Mine.R}{v:Value}{items:List D}{E:VS}{Q:VS}(h:r.asI=some items)(tW:∀b,B.T b->W b)(wlt:∀b,W b->b < s.heap.objs.size)(g:aJ B s)(R:aB A (K - 4))(e₀:az B s₀ s)(rp:cu B K s₀ W r v s)
  (k:∀it F p I s',ItAt B K s₀ W it F p I items s'->items.length<=lim->az B s s'->Q (.ref it) s'):wpAny B.M A (FB v) Q E s:=by
 cases r with
 |own l=>exact ai h
 |d x=>
  simp only[cu] at rp;exact ji O (K:=K) h tW wlt rp fun I s' ok hI hl e=>k _ _ _ _ _ (it_at O e₀ rfl e ok hI) hl e
 |it l=>
  obtain rfl:=zG h;rcases rp with⟨r,lo,n,t,u,z,rfl,hw,hr,h0,hl,rfl⟩|⟨a,F,p,I,rfl,hty,ok,hI,hF,hp,hg,hl⟩
  ·have hrs:=sD lo n
   refine wpAny_pyIter_range hr (qN h0) ?_;refine zF hrs ?_;obtain⟨F,p,I,hI⟩:=yt O (s₀:=s₀) (s:=s) (W:=W) (o:={ cls:=.type "range_iterator", data:=.fields #[Dz lo,Dz ((n - lo).toNat:Int),Dz 1] }) (T := "") (fun A hA=>Walks.range hA s.heap.objs.size lo 1 (n - lo).toNat)
    (fun i h st=>⟨_,_,st,rfl,by decide⟩) tW wlt e₀ (items:=(z6 (n - lo).toNat).map fun(i:Nat)=>D.int (lo+i)) (by
     intro b hb;rcases Ab.mp hb with rfl|hb
     ·exact .inl rfl
     ·exact aG hb) (by show IsRangeIter _ _ _ _ _;simpa using Aj _ rfl) (by simp) (by
     rintro j v d e ⟨t,rfl⟩;simp only[AR,Aa] at e;refine am e fun i hi e91=>?_;subst e91;have:i=j:=by
      have:=Ap.mp hi;refine x1 this fun h1 h2=>?_
      simpa using h2.symm
     subst this
     exact⟨t,by simp⟩)
   exact k _ _ _ _ _ hI (by simpa using hl) (az.push O _ _)
  ·exact ok.self _ _ _ _ _ _ hI g R (k a F p I s ⟨ok,hI,hF,hp,hg⟩ hl (az.refl _))
end
end Mine
namespace Mine
variable {B:Bs}
noncomputable abbrev d3 (W Wc:AP):Pv:=⟨fun b=>W b/\¬Wc b,fun J=>False⟩
noncomputable abbrev zP (B:Bs)(pe:Env) (x:Nat):Pv:=⟨fun b=>b=pe.locals\/pe.cells.lookup (B.nm x)=some b,fun J=>False⟩
theorem ml {h:Heap}{a b:Addr}{m:Str->Option Value}{vs:Array Value}{n:Nat}(x:h.Ns a m)(y:h.get? b=some { cls:=.type "list", dict:=none,data:=.seq vs n,slots:=#[] }):b≠a:=by
 rintro rfl;refine wL x fun o es ep e hd J=>?_;obtain rfl:=zG (y.symm.trans e);cases hd
theorem gV {o:Obj}(h:B.TabO o):∃(es:Array DictEntry) (n:Nat)(e:DictEntry)(v:Value),o.data=.dict es n/\es.find? (fun e=>Value.isStr e.key (cz [9000]))=some e/\es.toList.find? (fun e=>Value.isStrOf (cz [9000]) e.key)=some e/\e.val=v/\v≠.none:=by
 obtain⟨x,es,n,kvs,e,c,d,hk1,hp,hk,nd,hv,hl,ne⟩:=h
 cases hp':es.toList with
 |nil=>
  replace hp:=hp'▸hp
  cases hp
  have:x.ks=[]:=by cases hx:x.ks<;>simp_all
  rw[this] at ne;exact ai ne
 |cons e0 r=>
  replace hp:=hp'▸hp
  cases hp with
  |@cons _ kv _ kvs' h1 h2 h3=>
   have hk0:kv.1=cz [9000]:=by
    cases hx:x.ks with
    |nil=>rw[hx] at ne;exact ai ne
    |cons y ys=>
     rw[hx] at ne hk;obtain rfl:=zG ne;simp only[z8,EG] at hk;exact hk.1
   have h1':Value.isStrOf (cz [9000]) e0.key=true:=hk0▸h1;refine x1 (Value.isStrOf_shape h1') fun t ht=>?_;have hf:es.toList.find? (fun e=>Value.isStrOf (cz [9000]) e.key)=some e0:=by exact zF hp'<|zF (BC)<|zF h1' rfl
   have hf2:es.find? (fun e=>Value.isStr e.key (cz [9000]))=some e0:=by
    refine zF (AM (Ey))<|zF hp'<|zF (BC) ?_
    have:Value.isStr e0.key (cz [9000])=true:=by refine zF ht ?_;simp[Value.isStr]
    exact zF this rfl
   refine⟨es,n,e0,e0.val,d,hf2,hf,rfl,fun z=>?_⟩;have hl0:x.vs≠[]:=fun z=>by
    rw[z] at hl
    cases hx:x.ks with
    |nil=>rw[hx] at ne;exact ai ne
    |cons y ys=>rw[hx] at hl;exact nozs hl
   refine x2 (List.exists_cons_of_ne_nil hl0) fun y ys hy=>?_;refine vw (hv 0 y (by refine zF hy ?_;rfl)) fun q t hq hq2=>?_;obtain rfl:=zG hq;rw[h2,hq2] at z;exact nomatch z
theorem hV {h:Heap}{a:Addr}{m:Str->Option Value}(x:h.Ns a m)(z:m (cz [9000])=none):∀o,h.get? a=some o->¬B.KO o:=by
 rintro o e (⟨_,vs,hv⟩|q)
 ·refine wL x fun o' es ep e' hd J=>?_
  obtain rfl:=zG (e.symm.trans e');rw[hv] at hd;exact nomatch hd
 ·refine x33 x fun o' es ep e' hd J hm=>?_
  obtain rfl:=zG (e.symm.trans e');obtain⟨es',n,e0,v,hd',hf,J⟩:=gV q;rw[hd] at hd'
  injection hd' with hd'
  subst hd';have:=hm (cz [9000]);unfold nsFind findBy at this;rw[hf,z] at this;exact jG this
theorem va {h:Heap}{a:Addr}{v:Option Value}(x:h.IsCell a v):∀o,h.get? a=some o->¬B.KO o:=by
 rintro o e (⟨_,vs,hv⟩|q)
 ·refine am x fun o' e' hd=>?_
  obtain rfl:=zG (e.symm.trans e');rw[hv] at hd;exact nomatch hd
 ·refine am x fun o' e' hd=>?_
  obtain rfl:=zG (e.symm.trans e');obtain⟨es',n,e0,v,hd',J⟩:=gV q;rw[hd] at hd';exact nomatch hd'
theorem uI {h:Heap}{a:Addr}{vs:Array Value}{n:Nat}(x:h.get? a=some { cls:=.type "list", dict:=none,data:=.seq vs n,slots:=#[] }):∀o,h.get? a=some o->¬B.KO o:=by
 rintro o e q;obtain rfl:=zG (x.symm.trans e);exact yq q rfl rfl
theorem kT {o:Obj}{es:Array DictEntry}{n:Nat}(d:o.data=.dict es n)(c:o.cls≠.type "code") (h:∀e∈es.toList,Value.isStrOf (cz [9000]) e.key=false):¬B.KO o:=by
 rintro(q|q)
 ·exact c q.1
 ·obtain⟨es',n',e0,v,hd',J,hf,J⟩:=gV q
  rw[d] at hd'
  injection hd' with hd'
  subst hd';have h1:=D6 hf;have h2:=h e0 (Cf hf);rw[h1] at h2;exact nots h2
theorem ux {h:Heap}{a:Addr}{kvs:List (Str×Value)}(x:h.DictOf (AQ B.prog B.w) a kvs)(z:∀q∈kvs,q.2=.none):∀o,h.get? a=some o->¬B.KO o:=by
 rintro o e (q|q)
 ·refine wL x fun o' es ep e' hx J=>?_
  obtain rfl:=zG (e.symm.trans e');have e:Value.type "dict" = .type "code" := hx.1.symm.trans q.1
  injection e with e
  exact absurd e (by decide)
 ·refine x35 x fun o' es ep e' hx hd J hp J=>?_
  obtain rfl:=zG (e.symm.trans e');obtain⟨es',n,e0,v,hd',J,hf,rfl,hv⟩:=gV q;rw[hd] at hd'
  injection hd' with hd'
  subst hd';have:=hp.find (cz [9000]);rw[show(es.toList.find? fun e=>(AQ B.prog B.w).is (cz [9000]) e.key)=some e0 from hf] at this;unfold Dj at this
  cases hk:kvs.find? (fun kv=>decide (kv.1=cz [9000])) with
  |none=>rw[hk] at this;exact jG this
  |some kv=>
   rw[hk] at this;exact hv ((zG this).trans (z kv (Cf hk)))
theorem pS {h:Heap}{a b:Addr}{m:Option Value}{vs:Array Value}{n:Nat}(x:h.IsCell a m)(y:h.get? b=some { cls:=.type "list", dict:=none,data:=.seq vs n,slots:=#[] }):b≠a:=by
 rintro rfl;refine am x fun o e hd=>?_;obtain rfl:=zG (y.symm.trans e);cases hd
theorem mK {K:Type} [DecidableEq K]{prog:Program}{w:World}{knd:KeyKind prog w K}{h:Heap}{a b:Addr}{kvs:List (K×Value)}{v:Option Value}(x:h.DictOf knd a kvs)(y:h.IsCell b v):a≠b:=by
 rintro rfl;refine x33 x fun o es ep e J hd J=>?_;refine am y fun o' e' hd'=>?_;obtain rfl:=zG (e.symm.trans e');rw[hd] at hd';exact nomatch hd'
theorem fS {h:Heap}{a b:Addr}{m:Str->Option Value}{v:Option Value}(x:h.Ns a m)(y:h.IsCell b v):b≠a:=by
 rintro rfl;refine wL x fun o es ep e hd J=>?_;refine am y fun o' e' hd'=>?_;obtain rfl:=zG (e.symm.trans e');rw[hd] at hd';exact nomatch hd'
section
variable (O:B.Ok)
include O
variable {Γ:ah}{ρ:ac}{Wc W:AP}{pe:Env}{A:Av}{s:zL}
theorem cg {h':Heap}{t:Nat}{a:Addr}(ha:¬B.T a)(hc:∀o,s.heap.get? a=some o->¬B.KO o)(hs:Cm a s.heap h'):ao B ⟨fun b=>b=a,fun J=>False⟩ s { s with heap:=h',toks:=t }:=
 ⟨fun b o J n e=>hs.extBut b o n e,fun b o n e=>hs.extBut b o (fun q=>hc o (q▸e) n) e,by refine zF hs.1 ?_;exact zW _,fun x=>O.tikeep _ _ x fun b o tb e=>hs.extBut b o (fun q=>tb.elim (fun tb=>ha (q▸tb)) fun n=>hc o (q▸e) n) e,fun J J J e=>e,zW _,id,rfl⟩
theorem aJ.own {s':zL}(g:aJ B s)(ow:∀b,W b->¬Wc b->B.Hi b)(e:ao B (d3 W Wc) s s'):aJ B s':=g.moveP e fun b q=>ow b q.1 q.2
theorem Ctx.change {ρ':ac}{h':Heap}{t:Nat}{a:Addr}(X:Ctx B Γ Wc W pe ρ s)(ha:W a/\¬Wc a)(hnc:∀o,s.heap.get? a=some o->¬B.KO o)(hs:Cm a s.heap h')
  (hl:∃m,h'.Ns pe.locals m/\m (cz [9000])=none) (hc:∀x c,pe.cells.lookup (B.nm x)=some c->∃v,h'.IsCell c v)
  (hv:∀x e,ρ' x=some e->∃v,cP B pe h' x v/\aR B pe.locals h' Wc W e v) (hse:∀x,aq ρ' x↔aq ρ x)
  (hown:∀x y e e' v v' b,ρ' x=some e->ρ' y=some e'->cP B pe h' x v->cP B pe h' y v'->aM h' e v b->aM h' e' v' b->x=y):Ctx B Γ Wc W pe ρ' { s with heap:=h',toks:=t } where
 good:=aJ.own O X.good X.ow ((cg O (fun t=>ha.2 (X.tW _ t)) hnc hs).mono (fun b q=>q▸ha) fun i q=>q)
 fn:=X.fn
 glob:=X.glob
 blt:=X.blt
 tW:=X.tW
 cW:=X.cW
 wlt:=fun b q=>by refine zF (show({ s with heap:=h',toks:=t }:zL).heap.objs.size=s.heap.objs.size from hs.1) ?_;exact X.wlt b q
 loc:=hl
 locW:=X.locW
 ow:=X.ow
 code:=X.code
 kinds:=X.kinds
 cells:=fun x c q=>⟨hc x c q,(X.cells x c q).2⟩
 apart:=X.apart
 cellW:=fun x c q=>by
  rcases X.cellW x c q with z|z
  ·exact .inl ((hse x).mpr z)
  ·exact .inr z
 vars:=hv
 sealedW:=fun x q=>X.sealedW x ((hse x).mp q)
 owns:=hown
theorem aR.keep {h h':Heap}{L:Addr}{e:dL}{v:Value}(r:aR B L h Wc W e v)(k:∀b o,(¬W b\/B.KO o)->h.get? b=some o->h'.get? b=some o)(ko:∀b,aM h e v b->W b->¬Wc b->fH B L h b->∀o,h.get? b=some o->h'.get? b=some o):aR B L h' Wc W e v:=
 r.map (fun d u r=>av.move O k (fun b q=>.inl q) d u r) (fun d u r=>aa.move O k (fun b q=>.inl q) d u r) (fun c o w q=>⟨k c o (.inl w) q,w⟩) (fun b o w wc t=>⟨⟨w,wc⟩,ko b o w wc t⟩) fun J J q=>q
theorem fH.ne_loc {L:Addr}{h:Heap}{b:Addr}{m:Str->Option Value}(t:fH B L h b)(n:h.Ns L m):b≠L:=t.elim (fun⟨J,J2,z⟩=>ml n z) fun z=>z.1
theorem fH.ne_cell {L:Addr}{h:Heap}{b c:Addr}{v:Option Value}(t:fH B L h b)(n:h.IsCell c v):b≠c:=t.elim (fun⟨J,J2,z⟩=>pS n z) fun⟨J,J2,z,J3⟩=>mK z n
theorem fH.nc {L:Addr}{h:Heap}{b:Addr}(t:fH B L h b):∀o,h.get? b=some o->¬B.KO o:=t.elim (fun⟨J,J2,z⟩=>uI z) fun⟨J,J2,z,y⟩=>ux z y
theorem ac.set_self (ρ:ac) (x:Nat)(e:dL):ρ.set x e x=some e:=by simp[ac.set]
theorem ac.set_ne (ρ:ac){x y:Nat}(e:dL)(h:y≠x):ρ.set x e y=ρ y:=by simp[ac.set,h]
theorem Ctx.put {x:Nat}{en:dL}{v:Value}{h':Heap}{t:Nat}{c:Addr}(X:Ctx B Γ Wc W pe ρ s)(hs:¬aq ρ x)(hne:∀d,en≠.sealed d)(r:aR B pe.locals s.heap Wc W en v)
  (ho:∀b,aM s.heap en v b->∀y e' w,y≠x->ρ y=some e'->cP B pe s.heap y w->¬aM s.heap e' w b)
  (hcW:W c/\¬Wc c) (hnc:∀o,s.heap.get? c=some o->¬B.KO o) (hs':Cm c s.heap h') (hn':∃m,h'.Ns pe.locals m/\m (cz [9000])=none) (hcell:∀y c',pe.cells.lookup (B.nm y)=some c'->∃v,h'.IsCell c' v)
  (hot:∀b,fH B pe.locals s.heap b->b≠c) (lv:cP B pe h' x v) (mv:∀y w,y≠x->cP B pe s.heap y w->cP B pe h' y w):Ctx B Γ Wc W pe (ρ.set x en) { s with heap:=h',toks:=t }:=by
 have hse:∀y,aq (ρ.set x en) y↔aq ρ y:=by
  intro y
  by_cases hy:y=x
  ·subst hy
   constructor
   ·rintro⟨d',e⟩;rw[ac.set_self O] at e;exact absurd (zG e) (hne d')
   ·intro q;exact absurd q hs
  ·unfold aq;rw[ac.set_ne O _ _ hy]
 have keepW:∀b o,(¬W b\/B.KO o)->s.heap.get? b=some o->h'.get? b=some o:=fun b o hw e=>hs'.extBut b o (fun q=>hw.elim (fun hw=>hw (q▸hcW.1)) fun hc=>hnc o (q▸e) hc) e;have back:∀{e u b w},aR B pe.locals s.heap Wc W e u->aM h' e w b->w=u->aM s.heap e u b:=fun r o e=>by subst e;exact aM.back r (fun c' o w q=>keepW c' o (.inl w) q) o
 refine Ctx.change O X hcW hnc hs' hn' hcell (fun y e hy=>?_) hse (fun y z e e' u u' a hy hz ly lz oy oz=>?_)
 ·by_cases hyx:y=x
  ·subst hyx
   rw[ac.set_self O] at hy;obtain rfl:=zG hy;exact⟨v,lv,aR.keep O r keepW fun b J J J t o q=>hs'.extBut b o (hot b t) q⟩
  ·rw[ac.set_ne O _ _ hyx] at hy
   refine am (X.vars y e hy) fun w lw rw'=>?_;exact⟨w,mv y w hyx lw,aR.keep O rw' keepW fun b J J J t o q=>hs'.extBut b o (hot b t) q⟩
 ·have clash:∀q e' w w',q≠x->ρ q=some e'->cP B pe h' x w->aM h' en w a->cP B pe h' q w'->aM h' e' w' a->False:=fun q e' w w' hqx hq lx o1 lq o2=>by
   refine am (X.vars q _ hq) fun w2 l2 r2=>?_;exact ho a (back r o1 (cP.uniq lx lv)) q e' w2 hqx hq l2 (back r2 o2 (cP.uniq lq (mv q w2 hqx l2)))
  by_cases hyx:y=x
  ·by_cases hzx:z=x
   ·exact zF hyx<|zF hzx rfl
   ·rw[hyx,ac.set_self O] at hy
    rw[ac.set_ne O _ _ hzx] at hz;obtain rfl:=zG hy;exact(clash z e' u u' hzx hz (hyx▸ly) oy lz oz).elim
  ·by_cases hzx:z=x
   ·rw[hzx,ac.set_self O] at hz
    rw[ac.set_ne O _ _ hyx] at hy;obtain rfl:=zG hz;exact(clash y e u' u hyx hy (hzx▸lz) oz ly oy).elim
   ·replace hy:=(ac.set_ne O _ _ hyx)▸hy
    replace hz:=(ac.set_ne O _ _ hzx)▸hz;refine am (X.vars y _ hy) fun w lw rw1=>?_;refine am (X.vars z _ hz) fun w' lw' rw2=>?_;exact X.owns y z e e' w w' a hy hz lw lw' (back rw1 oy (cP.uniq ly (mv y w hyx lw))) (back rw2 oz (cP.uniq lz (mv z w' hzx lw')))
theorem Ctx.storeE' {x:Nat}{en:dL}{v:Value}{E:VS}{Q:Unit->zL->Prop}(X:Ctx B Γ Wc W pe ρ s)(hk:Γ x=some .local\/Γ x=some .cell)(hs:¬aq ρ x)(hne:∀d,en≠.sealed d)(r:aR B pe.locals s.heap Wc W en v)
  (ho:∀b,aM s.heap en v b->∀y e' w,y≠x->ρ y=some e'->cP B pe s.heap y w->¬aM s.heap e' w b)
  (h:∀s',Ctx B Γ Wc W pe (ρ.set x en) s'->ao B (zP B pe x) s s'->s'.heap.objs.size=s.heap.objs.size->cP B pe s'.heap x v/\(∀y w,y≠x->cP B pe s.heap y w->cP B pe s'.heap y w)->Q () s'):wpAny B.M A (C6 pe (B.nm x) v) Q E s:=by
 rcases hk with hk|hk
 ·refine aS (X.kinds _ _ hk) fun kk J=>?_
  refine am X.loc fun m n hz=>?_;refine CF kk n (fun h' hn' hs'=>?_) (by refine zF X.fn ?_;rfl);have mv:∀y w,y≠x->cP B pe s.heap y w->cP B pe h' y w:=by
   rintro y w hy (⟨k,m',n',e⟩|⟨k,c,e,hc⟩)
   ·have:=Ns.uniq n n';subst this
    refine .inl ⟨k,_,hn',?_⟩;refine zF (if_neg (fun q=>hy (O.inj _ _ q))) ?_;exact e
   ·exact .inr ⟨k,c,e,B5.moved hc fun o z=>hs'.extBut _ o (fS n hc) z⟩
  refine h _ (Ctx.put O X hs hne r ho X.locW (hV n hz) hs' ⟨_,hn',by refine zF (if_neg (fun q=>O.nA _ q.symm)) ?_;exact hz⟩ (fun y c e=>?_) (fun b t=>fH.ne_loc O t n) (.inl ⟨kk,_,hn',by simp⟩) mv) ((cg O (fun q=>X.locW.2 (X.tW _ q)) (hV n hz) hs').mono (fun b q=>.inl q) fun i q=>q) hs'.1 ⟨.inl ⟨kk,_,hn',by simp⟩,mv⟩;refine aS (X.cells y c e) fun p91 J=>?_;obtain⟨w,hw⟩:=p91;exact⟨w,B5.moved hw fun o z=>hs'.extBut _ o (fS n hw) z⟩
 ·refine aS (X.kinds _ _ hk) fun kk hcell=>?_
  refine x1 (hcell (.inl rfl)) fun c hc=>?_;refine aS (X.cells _ _ hc) fun p91 J=>?_;obtain⟨w₀,hw₀⟩:=p91;have hcW:W c/\¬Wc c:=(X.cellW x c hc).resolve_left hs;refine am X.loc fun m n hz=>?_;refine wpAny_storeName_cell X.fn kk hc hw₀ (fun h' hc' hs'=>?_);have hcl:c≠pe.locals:=fS n hw₀;have hn':h'.Ns pe.locals m:=n.sameBut hs' (Et hcl);have cne:∀y c',B.nm y≠B.nm x->pe.cells.lookup (B.nm y)=some c'->c'≠c:=by
   rintro y c' hne e rfl;exact hne (GE X.apart (mem_of_lookup e) (mem_of_lookup hc))
  have mv:∀y w,y≠x->cP B pe s.heap y w->cP B pe h' y w:=by
   rintro y w hy (⟨k,m',n',e⟩|⟨k,c',e,hc'⟩)
   ·have:=Ns.uniq n n';subst this
    exact .inl ⟨k,_,hn',e⟩
   ·exact .inr ⟨k,c',e,B5.moved hc' fun o z=>hs'.extBut _ o (cne y c' (fun q=>hy (O.inj _ _ q)) e) z⟩
  have ts:({ s with heap:=h' }:zL)={ s with heap:=h',toks:=s.toks }:=rfl;refine zF ts ?_;refine h _ (Ctx.put O X hs hne r ho hcW (va hw₀) hs' ⟨_,hn',hz⟩ (fun y c' e=>?_) (fun b t=>fH.ne_cell O t hw₀) (.inr ⟨.inl kk,c,hc,hc'⟩) mv) ((cg O (fun q=>hcW.2 (X.tW _ q)) (va hw₀) hs').mono (fun b q=>.inr (q▸hc)) fun i q=>q) hs'.1 ⟨.inr ⟨.inl kk,c,hc,hc'⟩,mv⟩
  by_cases hcc:c'=c
  ·subst hcc;exact⟨_,hc'⟩
  ·refine aS (X.cells y c' e) fun p91 J=>?_
   obtain⟨w,hw⟩:=p91;exact⟨w,B5.moved hw fun o z=>hs'.extBut _ o hcc z⟩
theorem Ctx.storeE {x:Nat}{en:dL}{v:Value}{E:VS}{Q:Unit->zL->Prop}(X:Ctx B Γ Wc W pe ρ s)(hk:Γ x=some .local\/Γ x=some .cell)(hs:¬aq ρ x)(hne:∀d,en≠.sealed d)(r:aR B pe.locals s.heap Wc W en v)
  (ho:∀b,aM s.heap en v b->∀y e' w,y≠x->ρ y=some e'->cP B pe s.heap y w->¬aM s.heap e' w b)
  (h:∀s',Ctx B Γ Wc W pe (ρ.set x en) s'->ao B (zP B pe x) s s'->Q () s'):wpAny B.M A (C6 pe (B.nm x) v) Q E s:=
 Ctx.storeE' O X hk hs hne r ho fun s' X' e' J J=>h s' X' e'
theorem Ctx.store {x:Nat}{d:D}{v:Value}{E:VS}{Q:Unit->zL->Prop}(X:Ctx B Γ Wc W pe ρ s)(hk:Γ x=some .local\/Γ x=some .cell)(hs:¬aq ρ x)(r:av B s.heap W d v)
  (h:∀s',Ctx B Γ Wc W pe (ρ.set x (.fz d)) s'->ao B (zP B pe x) s s'->Q () s'):wpAny B.M A (C6 pe (B.nm x) v) Q E s:=
 Ctx.storeE O X hk hs (fun J e=>sH rfl e) (en:=.fz d) r (fun J e=>e.elim) h
theorem Ctx.moveP' {p:Pv}{s':zL}(X:Ctx B Γ Wc W pe ρ s)(e:ao B p s s')(hp:∀b,p.a b->Wc b)(g':aJ B s'):Ctx B Γ Wc W pe ρ s':=by
 have kO:∀b o,¬Wc b->s.heap.get? b=some o->s'.heap.get? b=some o:=fun b o n q=>e.keep b o (fun t=>n (X.tW _ t)) (fun t=>n (hp _ t)) q;have kW:=e.kW X.tW' (fun b q=>X.cW b (hp b q));have cWc:∀x c,pe.cells.lookup (B.nm x)=some c->¬Wc c:=fun x c q=>by
  rcases X.cellW x c q with z|z
  ·refine am (X.sealedW x z) fun c' e' hw=>?_
   obtain rfl:=zG (q.symm.trans e');exact fun t=>hw (X.cW _ t)
  ·exact z.2
 have mv:∀y w,cP B pe s.heap y w->cP B pe s'.heap y w:=by
  rintro y w (⟨k,m',n',q⟩|⟨k,c',q,hc'⟩)
  ·exact .inl ⟨k,_,BO.moved n' fun o z=>kO _ o X.locW.2 z,q⟩
  ·exact .inr ⟨k,c',q,B5.moved hc' fun o z=>kO _ o (cWc y c' q) z⟩
 exact{
  good:=g'
  fn:=X.fn
  glob:=X.glob
  blt:=X.blt
  tW:=X.tW
  cW:=X.cW
  wlt:=fun b q=>zI (X.wlt b q) e.size
  loc:=let ⟨m,n,z⟩:=X.loc;⟨m,BO.moved n fun o y=>kO _ o X.locW.2 y,z⟩
  locW:=X.locW
  ow:=X.ow
  code:=X.code
  kinds:=X.kinds
  cells:=fun x c q=>let ⟨⟨v,hv⟩,ht⟩:=X.cells x c q;⟨⟨v,B5.moved hv fun o y=>kO _ o (cWc x c q) y⟩,ht⟩
  apart:=X.apart
  cellW:=X.cellW
  vars:=fun x en q=>by
   refine am (X.vars x en q) fun v l r=>?_;exact⟨v,mv _ _ l,r.map (fun d u r=>av.move O kW (fun b q=>.inl q) d u r) (fun d u r=>aa.move O kW (fun b q=>.inl q) d u r) (fun c o w q=>⟨kW c o (.inl w) q,w⟩) (fun b J w wc J=>⟨⟨w,wc⟩,fun o q=>kO b o wc q⟩) fun J J q=>q⟩
  sealedW:=X.sealedW
  owns:=X.owns' mv fun c o w q=>kW c o (.inl w) q }
theorem Ctx.moveP {p:Pv}{s':zL}(X:Ctx B Γ Wc W pe ρ s)(e:ao B p s s')(hp:∀b,p.a b->Wc b)(h0:∀b,p.a b->B.Hi b):Ctx B Γ Wc W pe ρ s':=
 Ctx.moveP' O X e hp (X.good.moveP e h0)
end
end Mine
namespace Mine
variable {B:Bs}
noncomputable abbrev bB (W N:AP):Addr->Prop:=fun b=>W b\/N b
section
variable (O:B.Ok)
include O
variable {Γ:ah}{ρ:ac}{Wc W:AP}{pe:Env}{A:Av}{s:zL}
theorem Ctx.grow' {p:Pv}{s':zL}{N:AP}(X:Ctx B Γ Wc W pe ρ s)(e:ao B p s s')(hp:∀b,p.a b->Wc b)(g':aJ B s')(hN:∀b,N b->s.heap.objs.size<=b/\b < s'.heap.objs.size):Ctx B Γ (bB Wc N) (bB W N) pe ρ s':=by
 have X':=Ctx.moveP' O X e hp g';have kW:=e.kW X.tW' (fun b q=>X.cW b (hp b q));have nN:∀b,b < s.heap.objs.size->¬N b:=fun b h n=>zJ _ (zI h (hN b n).1);have up:∀d v,av B s.heap W d v->av B s'.heap (bB W N) d v:=fun d v r=>av.move O kW (fun b q=>q.elim .inl fun n=>.inr (AG (hN b n).1)) d v r;have cell_lt:∀x c,pe.cells.lookup (B.nm x)=some c->c < s.heap.objs.size:=fun x c q=>by
  refine aS (X.cells x c q) fun p91 J=>?_;obtain⟨v,hv⟩:=p91;exact hv.lt
 exact{
  good:=X'.good
  fn:=X.fn
  glob:=X.glob
  blt:=X.blt
  tW:=fun b t=>.inl (X.tW b t)
  cW:=fun b q=>q.elim (fun z=>.inl (X.cW b z)) .inr
  wlt:=fun b q=>q.elim (fun z=>X'.wlt b z) fun n=>(hN b n).2
  loc:=X'.loc
  locW:=⟨.inl X.locW.1,fun q=>q.elim X.locW.2 (nN _ (X.wlt _ X.locW.1))⟩
  ow:=fun b q n=>q.elim (fun z=>X.ow b z fun w=>n (.inl w)) fun z=>absurd (.inr z) n
  code:=X.code
  kinds:=X.kinds
  cells:=X'.cells
  apart:=X.apart
  cellW:=fun x c q=>(X.cellW x c q).imp_right fun z=>⟨.inl z.1,fun w=>w.elim z.2 (nN _ (cell_lt x c q))⟩
  vars:=fun x en q=>by
   refine am (X'.vars x en q) fun v l r=>?_;refine am (X.vars x en q) fun v₀ l₀ r₀=>?_;have kO:∀b o,¬Wc b->s.heap.get? b=some o->s'.heap.get? b=some o:=fun b o n q=>e.keep b o (fun t=>n (X.tW _ t)) (fun t=>n (hp _ t)) q;have:v=v₀:=by
    refine cP.uniq l ?_;rcases l₀ with⟨k,m',n',q'⟩|⟨k,c',q',hc'⟩
    ·exact .inl ⟨k,_,BO.moved n' fun o z=>kO _ o X.locW.2 z,q'⟩
    ·refine .inr ⟨k,c',q',B5.moved hc' fun o z=>kO _ o ?_ z⟩
     rcases X.cellW x c' q' with z|z
     ·refine am (X.sealedW x z) fun c'' e' hw=>?_
      obtain rfl:=zG (q'.symm.trans e');exact fun t=>hw (X.cW _ t)
     ·exact z.2
   subst this;refine⟨v,l,?_⟩;exact r₀.map up (fun d v r=>aa.move O kW (fun b q=>q.elim .inl fun n=>.inr (AG (hN b n).1)) d v r) (fun c o w q=>⟨kW c o (.inl w) q,fun z=>z.elim w (nN _ (Al q))⟩) (fun b J w wc J=>⟨⟨.inl w,fun z=>z.elim wc (nN _ (X.wlt _ w))⟩,fun o q=>kO b o wc q⟩) fun J J q=>q
  sealedW:=fun x q=>let ⟨c,h1,h2⟩:=X.sealedW x q;⟨c,h1,fun w=>w.elim h2 (nN _ (cell_lt x c h1))⟩
  owns:=X'.owns }
theorem Ctx.grow {p:Pv}{s':zL}{N:AP}(X:Ctx B Γ Wc W pe ρ s)(e:ao B p s s')(hp:∀b,p.a b->Wc b)(h0:∀b,p.a b->B.Hi b)(hN:∀b,N b->s.heap.objs.size<=b/\b < s'.heap.objs.size):Ctx B Γ (bB Wc N) (bB W N) pe ρ s':=
 Ctx.grow' O X e hp (X.good.moveP e h0) hN
theorem Ctx.weaken {ρ':ac}(X:Ctx B Γ Wc W pe ρ s)(h:∀y e,ρ' y=some e->ρ y=some e)(hs:∀y,aq ρ y->aq ρ' y):Ctx B Γ Wc W pe ρ' s:=
 { X with
  cellW:=fun x c q=>(X.cellW x c q).imp_left (hs x)
  vars:=fun x e q=>X.vars x e (h x e q)
  sealedW:=fun x q=>X.sealedW x (let ⟨d,e⟩:=q;⟨d,h x _ e⟩)
  owns:=fun x y e e' v v' b hx hy=>X.owns x y e e' v v' b (h x _ hx) (h y _ hy) }
theorem fD {s s':zL}(k:∀b o,s.heap.get? b=some o->s'.heap.get? b=some o)(hs:s.heap.objs.size<=s'.heap.objs.size)(g:s'.gens=s.gens)(os:s'.os=s.os):az B s s':=
 ⟨fun b o J e=>k b o e,fun b o J e=>k b o e,hs,fun t=>O.tikeep _ _ t fun b o J e=>k b o e,fun i x e=>by refine zF g ?_;exact e,fun t=>by refine zF g ?_;exact t,os⟩
theorem ao.own_trans {p:Pv}{s' s'':zL}(a:ao B p s s')(b:ao B p s' s''):ao B p s s'':=a.trans b (fun J q=>.inl q) (fun J q=>.inl q)
noncomputable def tI (B:Bs)(pe:Env)(ρ:ac)(h:Heap)(b:Addr):Prop:=∀y e w,ρ y=some e->cP B pe h y w->¬aM h e w b
noncomputable def fc (l:List ((Nat×Pos)×dL))(ρ:ac):ac:=l.foldl (fun ρ q=>ρ.set q.1.1 q.2) ρ
theorem ph {Z:AP}(hZW:∀b,Z b->W b){st:Nat×Pos->Value->Sem Unit}(hst:∀q v (Q:Unit->zL->Prop)(E:VS) s,wpAny B.M A (C6 pe (B.nm q.1) v) Q E s->wpAny B.M A (st q v) Q E s):
  ∀(l:List ((Nat×Pos)×dL×Value)) (ρ:ac) (s:zL) (Q:Unit->zL->Prop) (E:VS),Ctx B Γ Wc W pe ρ s->
  (∀q∈l,(Γ q.1.1=some .local\/Γ q.1.1=some .cell)/\¬aq ρ q.1.1)->(∀q∈l,∀b,(zP B pe q.1.1).a b->Z b)->
  (∀q∈l,aR B pe.locals s.heap Wc W q.2.1 q.2.2/\(∀d,q.2.1≠.sealed d)/\∀b,aM s.heap q.2.1 q.2.2 b->tI B pe ρ s.heap b)->l.Pairwise (fun p q=>∀b,aM s.heap p.2.1 p.2.2 b->¬aM s.heap q.2.1 q.2.2 b)->
  (∀s',Ctx B Γ Wc W pe (fc (l.map fun q=>(q.1,q.2.1)) ρ) s'->ao B ⟨Z,fun J=>False⟩ s s'->Q () s')->
  wpAny B.M A (Gh (l.map fun q=>st q.1) (l.map (·.2.2))) Q E s
 |[],ρ,s,Q,E,X,_,_,_,_,k=>by
  show wpAny _ _ (pure ()) _ _ _;exact zR (k s X (ao.refl _ _))
 |⟨q,en,v⟩::l,ρ,s,Q,E,X,hx,hz,r,hp,k=>by
  show wpAny _ _ (do GG (l.map (·.2.2)) (st q v);Gh (l.map fun q=>st q.1) (l.map (·.2.2))) _ _ _;have h1:=hx _ zU;refine vx (r _ zU) fun r1 r2 r3=>?_;refine aS (BB.mp hp) fun p1 p2=>?_;refine zK (BE (hst q v _ _ _ (Ctx.storeE' O X h1.1 h1.2 r2 r1 (fun b o y e' w hy hρ hl=>r3 b o y e' w hρ hl) fun s1 X1 ez J hm=>?_)));have e1:ao B ⟨Z,fun J=>False⟩ s s1:=ez.mono (hz _ zU) fun i q=>q;have kW:=e1.kW X.tW' hZW;have kc:∀c o,¬W c->s.heap.get? c=some o->s1.heap.get? c=some o:=fun c o w q=>kW c o (.inl w) q
  have keep:∀{e w},aR B pe.locals s.heap Wc W e w->aR B pe.locals s1.heap Wc W e w:=fun r=>aR.keep O r kW fun b o w wc t ob g=>ez.keep b ob (fun u=>wc (X.tW b u)) (fun z=>by
   refine am X.loc fun m n J=>?_;rcases z with rfl|z
   ·exact fH.ne_loc O t n rfl
   ·refine aS (X.cells _ _ z) fun p91 J=>?_
    obtain⟨u,hu⟩:=p91
    exact fH.ne_cell O t hu rfl) g
  refine ph hZW hst l _ s1 Q E X1 (fun q' hq=>⟨(hx q' (zT _ hq)).1,?_⟩) (fun q hq=>hz q (zT _ hq)) (fun q' hq=>?_) (p2.imp_of_mem fun{a b} ha hb h c oa ob=>h c (aM.back (r a (zT _ ha)).1 kc oa) (aM.back (r b (zT _ hb)).1 kc ob)) fun s2 X2 e2=>k s2 X2 (e1.own_trans O e2)
  ·have h2:=(hx q' (zT _ hq)).2
   by_cases hqx:q'.1.1=q.1
   ·rintro⟨d',e⟩;rw[hqx,ac.set_self O] at e;exact absurd (zG e) (r2 d')
   ·rintro⟨d',e⟩;rw[ac.set_ne O _ _ hqx] at e;exact h2 ⟨d',e⟩
  ·refine vx (r q' (zT _ hq)) fun s1' s2' s3'=>?_
   refine⟨keep s1',s2',fun b o y e w hy hl o'=>?_⟩;have ob:=aM.back s1' kc o
   by_cases hyx:y=q.1
   ·subst hyx
    rw[ac.set_self O] at hy;obtain rfl:=zG hy;obtain rfl:=cP.uniq hl hm.1;exact p1 q' hq b (aM.back r1 kc o') ob
   ·replace hy:=(ac.set_ne O _ _ hyx)▸hy
    refine am (X.vars y _ hy) fun w0 l0 r0=>?_;obtain rfl:=cP.uniq hl (hm.2 y w0 hyx l0);exact s3' b ob y _ _ hy l0 (aM.back r0 kc o')
omit O in
theorem zip3 {α β γ:Type}:∀(xs:List α)(es:List β)(vs:List γ),xs.length=es.length->es.length=vs.length->(xs.zip (es.zip vs)).map (·.2.2)=vs/\(xs.zip (es.zip vs)).map (fun q=>(q.1,q.2.1))=xs.zip es/\(xs.zip (es.zip vs)).map (·.1)=xs
 |[],[],[],_,_=>⟨rfl,rfl,rfl⟩
 |x::xs,e::es,v::vs,h1,h2=>by
  refine vx (zip3 xs es vs (DK h1) (DK h2)) fun a b c=>?_;exact⟨congrArg (v::·) a,congrArg ((x,e)::·) b,congrArg (x::·) c⟩
 |[],_::_,_,h,_=>nozs h
 |_::_,[],_,h,_=>nosz h
 |_,[],_::_,_,h=>nozs h
 |_,_::_,[],_,h=>nosz h
structure k9 (B:Bs)(pe:Env)(ρ:ac)(Wc W:AP)(h:Heap)(es:List dL)(vs:List Value):Prop where
 len:es.length=vs.length
 at':∀q∈es.zip vs,aR B pe.locals h Wc W q.1 q.2/\(∀d,q.1≠.sealed d)/\∀b,aM h q.1 q.2 b->tI B pe ρ h b
 pair:(es.zip vs).Pairwise fun p q=>∀b,aM h p.1 p.2 b->¬aM h q.1 q.2 b
omit O in
theorem uT:∀{ds:List D}{vs:List Value},aa B s.heap W ds vs->k9 B pe ρ Wc W s.heap (ds.map .fz) vs
 |[],[],_=>⟨rfl,fun J h=>(aG h),AW⟩
 |[],_::_,r=>nomatch r
 |d::ds,vs,r=>by
  obtain⟨v,vs,rfl,rv,ra⟩:=r;obtain⟨a,b,c⟩:k9 B pe ρ Wc W s.heap (ds.map .fz) vs:=uT ra;exact⟨congrArg (·+1) a,fun q hq=>(Ab.mp hq).elim (fun e=>by subst e;exact⟨rv,fun J e=>(sH rfl e),fun J o=>o.elim⟩) (b q),BB.mpr ⟨fun J J J o=>o.elim,c⟩⟩
theorem oP (xs:List (Nat×Pos))(ds:List D)(ρ:ac):fc (xs.zip (ds.map .fz)) ρ=(xs.zip ds).foldl (fun ρ q=>ρ.set q.1.1 (.fz q.2)) ρ:=by
 unfold fc;refine zF List.zip_map_right<|zF List.foldl_map ?_;rfl
theorem c0 (nm:Nat->Str)(pe:Env):∀xs:List (Nat×Pos),Ds (xs.map fun q=>A0 (nm q.1) q.2) pe=(xs.map fun q=>A0 (nm q.1) q.2).map fun t=>(false,Ct t pe)
 |[]=>rfl
 |q::r=>by
  show(false,Ct (.Name (nm q.1) q.2) pe)::Ds (r.map fun q=>A0 (nm q.1) q.2) pe=_;refine zF (c0 nm pe r) ?_;rfl
omit O in
theorem mj {α β:Type}{R:β->β->Prop}:∀(xs:List α)(l:List β),l.Pairwise R->(xs.zip l).Pairwise fun p q=>R p.2 q.2
 |[],_,_=>AW
 |_::_,[],_=>AW
 |x::xs,b::l,h=>BB.mpr ⟨fun q hq=>(BB.mp h).1 _ (Ci hq).2,mj xs l (BB.mp h).2⟩
theorem im {α:Type}:∀l:List α,∀f:α->Value->Sem Unit,(l.map fun t=>((false,f t):Bool×(Value->Sem Unit))).findIdx? (·.1)=none
 |[],_=>rfl
 |a::r,f=>by refine zF z8<|zF (List.findIdx?_cons) ?_;simp[im r f]
theorem lQ {Z:AP}{xs:List (Nat×Pos)}{es:List dL}{a:Addr}{vs:Array Value}{k:Nat}{p:Pos}{E:VS}{Q:Unit->zL->Prop}(hh:A.handled=none)(hl:xs.length=es.length)(X:Ctx B Γ Wc W pe ρ s)
  (hx:∀q∈xs,(Γ q.1=some .local\/Γ q.1=some .cell)/\¬aq ρ q.1) (hZW:∀b,Z b->W b) (hz:∀q∈xs,∀b,(zP B pe q.1).a b->Z b) (ht:s.heap.IsTuple a vs) (r:∀h',(∀b o,s.heap.get? b=some o->h'.get? b=some o)->s.heap.objs.size<=h'.objs.size->k9 B pe ρ Wc W h' es vs.toList)
  (kk:∀s',Ctx B Γ Wc W pe (fc (xs.zip es) ρ) s'->ao B ⟨Z,fun J=>False⟩ s s'->Q () s'):
  wpAny B.M A (Ct (.Tuple (xs.map fun q=>.Name (B.nm q.1) q.2) k p) pe (.ref a)) Q E s:=by
 refine zF (arm_assign_Tuple _ _ _ _ _) ?_;refine zK (AS ?_);unfold unpack;have hlen:=(r s.heap (fun J J e=>e) (zW _)).len;have hlen':es.length=vs.size:=by exact zF hlen<|zF An rfl
 have hn:(Ds (xs.map fun q=>A0 (B.nm q.1) q.2) pe).length=vs.size:=by
  refine zF (c0 O _ _ _) ?_;simp only[zX];lia
 refine zF hn<|zF (show(Ds (xs.map fun q=>A0 (B.nm q.1) q.2) pe).findIdx? (·.1)=none by refine zF (c0 O _ _ _) ?_;exact im O _ _) ?_
 refine zK (BE (Mine.rZ (Gq hh ht fun h' he hsz=>?_)));have k:∀b o,s.heap.get? b=some o->h'.get? b=some o:=fun b o e=>he b o (CN (Al e)) e;have e1:az B s { s with heap:=h' }:=fD O k hsz rfl rfl;have R:=r h' k hsz;refine vx (zip3 xs es vs.toList hl hlen) fun z1 z2 z3=>?_;have:(Ds (xs.map fun q=>A0 (B.nm q.1) q.2) pe).map (·.2)=(xs.zip (es.zip vs.toList)).map fun q=>Ct (.Name (B.nm q.1.1) q.1.2) pe:=by
  refine zF (c0 O _ _ _)<|zF AO<|zF AO ?_
  exact(congrArg (DP fun q:Nat×Pos=>Ct (.Name (B.nm q.1) q.2) pe) z3.symm).trans (AO ..)
 refine zF this ?_;have G:=ph O (A:=A) hZW (st:=fun q=>Ct (.Name (B.nm q.1) q.2) pe) (fun q v Q E s h=>BY h) _ ρ _ Q E (X.move O e1) (fun q hq=>hx q.1 (Ci hq).1) (fun q hq=>hz q.1 (Ci hq).1) (fun q hq=>R.at' _ (Ci hq).2) (mj xs (es.zip vs.toList) R.pair) fun s2 X2 e2=>kk s2 (z2▸X2) ((e1.toP _).trans e2 (fun J q=>.inl q) (fun J q=>.inl q));rw[z1] at G;exact G
theorem lP {Z:AP}{xs:List (Nat×Pos)}{ds:List D}{v:Value}{k:Nat}{p:Pos}{E:VS}{Q:Unit->zL->Prop}(hh:A.handled=none)(hl:xs.length=ds.length)(X:Ctx B Γ Wc W pe ρ s)
  (hx:∀q∈xs,(Γ q.1=some .local\/Γ q.1=some .cell)/\¬aq ρ q.1) (hZW:∀b,Z b->W b) (hz:∀q∈xs,∀b,(zP B pe q.1).a b->Z b) (r:av B s.heap W (.tup ds) v)
  (kk:∀s',Ctx B Γ Wc W pe ((xs.zip ds).foldl (fun ρ q=>ρ.set q.1.1 (.fz q.2)) ρ) s'->ao B ⟨Z,fun J=>False⟩ s s'->Q () s'):
  wpAny B.M A (Ct (.Tuple (xs.map fun q=>.Name (B.nm q.1) q.2) k p) pe v) Q E s:=by
 simp only[av] at r;obtain⟨a,vs,n,rfl,hw,hg,hlim,ra⟩:=r;refine lQ O hh (es:=ds.map .fz) (by refine zF (zX _) ?_;exact hl) X hx hZW hz ⟨_,hg,rfl,n,rfl⟩ (fun h' k hs=>uT (s:={ s with heap:=h' }) (aa.move O (fun b o J e=>k b o e) (fun b q=>.inl q) _ _ ra)) fun s' X' e'=>kk s' (oP O xs ds ρ▸X') e'
theorem sT {sc:LK}{x:Nat}(h:sc.lookup x=some .local\/sc.lookup x=some .cell):ay Γ sc x=some .local\/ay Γ sc x=some .cell:=by
 show(sc.lookup x).map _=_\/(sc.lookup x).map _=_;rcases h with h|h<;>refine zF h ?_<;>simp
theorem tg_ok {Z:AP}{t:Tg}{d:D}{v:Value}{sc:LK}{Γ₀:ah}{ρ':ac}{E:VS}{Q:Unit->zL->Prop}(hh:A.handled=none)(hf:t.fit sc ρ=true)(hb:vf t d ρ=some ρ')(X:Ctx B (ay Γ₀ sc) Wc W pe ρ s)
  (hZW:∀b,Z b->W b) (hz:∀x b,sc.lookup x=some .local\/sc.lookup x=some .cell->(zP B pe x).a b->Z b)
  (r:av B s.heap W d v) (k:∀s',Ctx B (ay Γ₀ sc) Wc W pe ρ' s'->(∀y e,ρ y=some e->ρ' y=some e)->(∀y,aq ρ' y->aq ρ y)->ao B ⟨Z,fun J=>False⟩ s s'->Q () s'):
  wpAny B.M A (Ct (t.py B.nm) pe v) Q E s:=by
 cases t with
 |name x p=>
  simp only[Tg.fit,Bu,Cx,beq_iff_eq,Cc] at hf;obtain rfl:=zG hb;have ns:¬aq ρ x:=fun⟨d,e⟩=>by rw[hf.2] at e;exact ai e
  refine BY (Ctx.store O X (sT O hf.1) ns r fun s1 X1 e1=>k s1 X1 (fun y e h=>?_) (fun y h=>?_) (e1.mono (fun b q=>hz x b hf.1 q) fun i q=>q))
  ·have:y≠x:=by rintro rfl;rw[hf.2] at h;exact ai h
   refine zF (ac.set_ne O _ _ this) ?_;exact h
  ·refine x1 h fun d' e=>?_
   by_cases hy:y=x
   ·subst hy;rw[ac.set_self O] at e;exact sH rfl (zG e)
   ·rw[ac.set_ne O _ _ hy] at e;exact⟨d',e⟩
end
end Mine
namespace Mine
variable {B:Bs}{K:Nat}
theorem iu {elt:Expr}{gens:List D7}{scope:Scope}{pos:Pos}{d:Nat}{it acc:Value}{env:Env}{t i:Expr}{fs:List Expr}(h:gens[d]?=some ⟨t,i,fs,0⟩)(h':gens[d+1]?=none):
  Fh (.ListComp elt gens scope pos) d it acc env=(do
   DH i.pos
   match <-Do it with
   |none=>pure (.done .next)
   |some v=>
    Cq t it v
    Ct t env v
    let ok <-forIn fs true fun c r=>if r=true then do let ok <-EC c env (eval c env);pure (BM ok) else pure (BM r)
    if ok then do
     (do let x <-eval elt env;let _ <-call (.builtin "list.append") [acc,x];pure ())
     again (.compLoop (.ListComp elt gens scope pos) d it acc env)
    else again (.compLoop (.ListComp elt gens scope pos) d it acc env)):=by
 unfold Fh;dsimp only;refine zF h<|zF h' ?_
 rfl
theorem iq {elt:Expr}{gens:List D7}{scope:Scope}{pos:Pos}{d:Nat}{it acc:Value}{env:Env}{t i t' i':Expr}{fs fs':List Expr}(h:gens[d]?=some ⟨t,i,fs,0⟩)(h':gens[d+1]?=some ⟨t',i',fs',0⟩):
  Fh (.ListComp elt gens scope pos) d it acc env=(do
   DH i.pos
   match <-Do it with
   |none=>pure (.done .next)
   |some v=>
    Cq t it v
    Ct t env v
    let ok <-forIn fs true fun c r=>if r=true then do let ok <-EC c env (eval c env);pure (BM ok) else pure (BM r)
    if ok then do
     let x <-eval i' env
     DH i'.pos
     let x <-DY i' env x
     let u <-GG [x] (FB x)
     let _ <-runOwn (.compStart (.ListComp elt gens scope pos) (d+1) u acc env) env
     again (.compLoop (.ListComp elt gens scope pos) d it acc env)
    else again (.compLoop (.ListComp elt gens scope pos) d it acc env)):=by
 unfold Fh;dsimp only;refine zF h<|zF h' ?_
 rfl
section
variable (O:B.Ok)
include O
variable {Γ:ah}{ρ:ac}{Wc W:AP}{pe:Env}{A:Av}{s:zL}
theorem kR (nm:Nat->Str)(e:E)(env:Env)(x:Value):DY (e.py nm) env x=pure x:=by cases e<;>rfl
theorem f7 {e:Expr}{d:Nat}{it:Addr}{acc:Value}{env:Env}{R:CI->zL->Prop}{F:AP}{I:List D->Pv->zL->Prop}{l:List D}{p:Pv}{g:D7}
  (hd:(clausesOf e)[d]?=some g) (ha:g.is_async=0) (hf:(Code.compStart e d (.ref it) acc env).isFrame=false) (hu:A.under (.compStart e d (.ref it) acc env)=A) (hq:(Code.compLoop e d (.ref it) acc env).quiet=true)
  (ok:be B K F it I) (hI:I l p s) (g0:aJ B s) (R20:aB A (K - 4))
  (h:BZ B.M A (.compLoop e d (.ref it) acc env) R s):BZ B.M A (.compStart e d (.ref it) acc env) R s:=by
 refine CA ?_;refine zF hu ?_;have hden:B.M.den (.compStart e d (.ref it) acc env)=(compStart e d (.ref it) acc env).onRaise (fun x=>do Dq x env;DH theWindowsPlace):=by
  show(if(Code.compStart e d (.ref it) acc env).isFrame then _ else _)=_;refine zF hf ?_;rfl
 refine zF hden ?_;refine wpAny_notedAt ?_;unfold compStart;refine zF hd ?_;simp only[Option.elim,ha];show wpAny _ _ (ask >>= _) _ _ s;refine zK (wpAny_askSetting (wpAny_ite ?_))
 split
 ·exact zK (zR (zR ⟨hq,h⟩))
 ·exact zK (EY (zK (AS (zK (ok.self _ _ _ _ _ _ hI g0 R20 (zR ⟨hq,h⟩))))))
structure cO (Wc W:AP)(s:zL)(Wc' W':AP):Prop where
 w:∀b,W b->W' b
 c:∀b,Wc b->Wc' b
 new:∀b,W' b->W b\/s.heap.objs.size<=b
 own:∀b,(W' b/\¬Wc' b)↔(W b/\¬Wc b)
theorem cO.refl (Wc W:AP)(s:zL):cO Wc W s Wc W:=⟨fun J q=>q,fun J q=>q,fun J q=>.inl q,fun J=>Er⟩
theorem cO.trans {Wc1 W1 Wc2 W2:AP}{s':zL}(a:cO Wc W s Wc1 W1)(hs:s.heap.objs.size<=s'.heap.objs.size)(b:cO Wc1 W1 s' Wc2 W2):cO Wc W s Wc2 W2:=
 ⟨fun x q=>b.w x (a.w x q),fun x q=>b.c x (a.c x q),fun x q=>(b.new x q).elim (a.new x) fun z=>.inr (zH hs z),fun x=>(b.own x).trans (a.own x)⟩
theorem cO.or {N:AP}(wlt:∀b,W b->b < s.heap.objs.size)(hN:∀b,N b->s.heap.objs.size<=b):cO Wc W s (bB Wc N) (bB W N):=
 ⟨fun J q=>.inl q,fun J q=>.inl q,fun b q=>q.imp_right (hN b),fun b=>⟨fun⟨h1,h2⟩=>⟨h1.elim id fun n=>absurd (.inr n) h2,fun w=>h2 (.inl w)⟩,fun⟨h1,h2⟩=>⟨.inl h1,fun w=>w.elim h2 fun n=>zJ _ (zI (wlt b h1) (hN b n))⟩⟩⟩
theorem i7 (nm:Nat->Str):∀(gs:List Gn) (d:Nat),(pf nm gs)[d]?=(gs[d]?).map fun g=>match g with|.mk t it ifs=>⟨t.py nm,it.py nm,eN nm ifs,0⟩
 |[],d=>by simp[pf]
 |.mk t it ifs::r,0=>by simp[pf]
 |.mk t it ifs::r,d+1=>by simpa [pf] using i7 nm r d
noncomputable abbrev tgt (Z:AP)(p:Pv)(D₀:Addr):Pv:=⟨fun b=>Z b\/p.a b\/b=D₀,p.g⟩
theorem aa.on {Wc' W':AP}{s':zL}{p:Pv}{D₀:Addr}{Z:AP}{ds:List D}{vs:List Value}(hZ:∀b,Z b->W b/\¬Wc b)(X:Ctx B Γ Wc W pe ρ s)(r:aa B s.heap W ds vs)(e:ao B (tgt Z p D₀) s s')(hp:∀b,p.a b->Wc b)(hD:Wc D₀)(g:cO Wc W s Wc' W'):aa B s'.heap W' ds vs:=
 aa.move O (e.kW X.tW' fun b z=>z.elim (fun z=>(hZ _ z).1) fun z=>z.elim (fun z=>X.cW _ (hp _ z)) fun z=>X.cW _ (z▸hD)) (fun b q=>(g.new b q).imp_right fun z=>AG z) _ _ r
noncomputable def iw (B:Bs) (K:Nat)(Φ:bq)(r:List Gn):Prop:=∀t it ifs,Gn.mk t it ifs∈r->aW B K Φ it/\jT B K Φ ifs
theorem pJ {α:Type}{l:List α}{d:Nat}{x:α}{r:List α}(h:l.drop d=x::r):l[d]?=some x/\l.drop (d+1)=r:=by
 have h1:=congrArg GB h;rw[D4] at h1;refine⟨h1,?_⟩;have:=congrArg List.tail h;rw[List.tail_drop] at this;exact this
theorem tV {K:Nat}{Φ:bq}{sc:LK}{Γ₀:ah}{D₀:Addr}{thenC elseC noneC:Sem Fin}{Post:Fin->zL->Prop}{Ex:VS}{ip:Pos}{t:Tg}{ifs:List E}{it:Addr}{F:AP}{I:List D->Pv->zL->Prop}
  {x:D}{rest:List D}{ρ':ac}{c:Bool}{p:Pv}{o:Obj}{Z:AP}(hZ:∀b,Z b->W b/\¬Wc b) (hz:∀x b,sc.lookup x=some .local\/sc.lookup x=some .cell->(zP B pe x).a b->Z b) (RK:aB A K) (R20:aB A (K - 4)) (hifs:jT B K Φ ifs) (ok:be B K F it I) (X:Ctx B (ay Γ₀ sc) Wc W pe ρ s) (hI:I (x::rest) p s) (hF:∀b,F b->¬W b/\b < s.heap.objs.size)
  (hp:∀b,p.a b->Wc b/\B.Hi b) (hfit:t.fit sc ρ=true) (hbind:vf t x ρ=some ρ') (hc:uR Φ (ay Γ₀ sc) ρ' ifs=some c) (hD:s.heap.get? D₀=some o) (hDc:Wc D₀) (hD0:B.Hi D₀) (hDp:¬p.a D₀)
  (k:∀s3 Wc3 W3 p1,Ctx B (ay Γ₀ sc) Wc3 W3 pe ρ' s3->(∀y e,ρ y=some e->ρ' y=some e)->(∀y,aq ρ' y->aq ρ y)->cO Wc W s Wc3 W3->I rest p1 s3->(∀b,p1.a b->p.a b\/s.heap.objs.size<=b)->(∀b,p1.a b->Wc3 b/\B.Hi b)->p1.g=p.g->¬p1.a D₀->
   ao B (tgt Z p D₀) s s3->s3.heap.get? D₀=some o->(c=true->wpAny B.M A thenC Post Ex s3)/\(c=false->wpAny B.M A elseC Post Ex s3)):
  wpAny B.M A (do
   DH ip
   match <-Do (.ref it) with
   |none=>noneC
   |some v=>
    Cq (t.py B.nm) (.ref it) v
    Ct (t.py B.nm) pe v
    let ok <-forIn (eN B.nm ifs) true fun c r=>if r=true then do let ok <-EC c pe (eval c pe);pure (BM ok) else pure (BM r)
    if ok then thenC else elseC) Post Ex s:=by
 have nT:¬B.T D₀:=hD0.2;have hDlt:=Al hD;refine zK (AS (zK (ok.next _ _ _ _ _ _ _ hI X.good R20 fun v s1 p1 e1 hsub hnew hg rv hI1=>?_)));have hN:∀b,(p1.a b/\s.heap.objs.size<=b)->s.heap.objs.size<=b/\b < s1.heap.objs.size:=fun b q=>⟨q.2,(ok.sub _ _ _ hI1 b q.1).2.2⟩;have X1:=Ctx.grow O X e1 (fun b q=>(hp b q).1) (fun b q=>(hp b q).2) hN;have g1:cO Wc W s (bB Wc fun b=>p1.a b/\s.heap.objs.size<=b) (bB W fun b=>p1.a b/\s.heap.objs.size<=b):=cO.or O X.wlt fun b q=>q.2;have hp1:∀b,p1.a b->(bB Wc fun b=>p1.a b/\s.heap.objs.size<=b) b/\B.Hi b:=fun b q=>by
  rcases hnew b q with z|z
  ·exact⟨.inl (hp b z).1,(hp b z).2⟩
  ·exact⟨.inr ⟨q,z⟩,X.good.hi z⟩
 have hDp1:¬p1.a D₀:=fun q=>(hnew _ q).elim hDp fun z=>zJ _ (zI hDlt z);have hF1:∀b,F b->¬(bB W fun b=>p1.a b/\s.heap.objs.size<=b) b:=fun b q z=>z.elim (hF b q).1 fun z=>zJ _ (zI (hF b q).2 z.2);have rv1:av B s1.heap (bB W fun b=>p1.a b/\s.heap.objs.size<=b) x v:=av.less O rv fun b q z=>hF1 b z q;generalize hWc1:(bB Wc fun b=>p1.a b/\s.heap.objs.size<=b)=Wc1 at *;generalize hW1:(bB W fun b=>p1.a b/\s.heap.objs.size<=b)=W1 at *;have let_ok:∀{Q:Unit->zL->Prop},Q () s1->wpAny B.M A (Cq (t.py B.nm) (.ref it) v) Q Ex s1:=fun hQ=>by
  cases t with
  |name y q=>exact gD hQ
 refine zK (let_ok (zK (tg_ok O (Z:=Z) R20.handled hfit hbind X1 (fun b q=>g1.w b (hZ b q).1) hz rv1 fun s2 X2 hmono hseal e2=>?_)));refine zK (Ak (hifs _ _ _ hc _ _ _ _ _ X2 RK) ?_ fun J J f=>f.elim);rintro c' s3 ⟨e3,rfl⟩;have X3:=X2.move O e3;have e13:ao B ⟨Z,fun J=>False⟩ s1 s3:=e2.trans (e3.toP _) (fun J q=>.inl q) (fun J q=>.inl q);have et:ao B (tgt Z p D₀) s s3:=by
  have q1:ao B (tgt Z p D₀) s s1:=e1.mono (fun b q=>.inr (.inl q)) (fun i q=>q);exact q1.trans e13 (fun b q=>.inl (.inl q)) (fun i q=>q.elim)
 have I3:I rest p1 s3:=by
  refine ok.stay _ _ _ _ hI1 (fun b o nt q z=>e13.keep b o nt (fun w=>?_) z) e13.ck e13.size (fun i y q z=>e13.gens i y (fun w=>w.elim) z) X3.good;have w:=(g1.own b).mpr (hZ b w);rcases q with q|q
  ·exact hF1 b q w.1
  ·exact w.2 (hp1 b q).1
 have hD3:s3.heap.get? D₀=some o:=e13.keep D₀ o nT (fun w=>(hZ _ w).2 hDc) (e1.keep D₀ o nT hDp hD);refine aS (k s3 Wc1 W1 p1 X3 hmono hseal g1 I3 hnew hp1 hg hDp1 et hD3) fun kt kf=>?_
 cases c' with
 |true=>exact kt rfl
 |false=>exact kf rfl
theorem eF {elt:Expr}{gens:List D7}{scope:Scope}{pos:Pos}{d:Nat}{it acc:Value}{R:CI->zL->Prop}
  (h:wpAny B.M A (Fh (.ListComp elt gens scope pos) d it acc pe) (fun fin s'=>match fin with|.done f=>R (.ok f) s'|.again c'=>c'.quiet=true/\BZ B.M A c' R s') (notedBy B.M A pe fun e s'=>R (.error e) s') s):
  BZ B.M A (.compLoop (.ListComp elt gens scope pos) d it acc pe) R s:=by
 refine CA ?_;show wpAny _ A ((Fh (.ListComp elt gens scope pos) d it acc pe).onRaise (fun x=>do Dq x pe;Cp x)) _ _ s;exact DV h
theorem fX {D₀:Addr}(h:B.Hi D₀):¬B.T D₀:=h.2
structure AccAt (D₀:Addr)(Wc W:AP)(vs:Array Value) (n:Nat)(s:zL):Prop where
 at':s.heap.get? D₀=some { cls:=.type "list", dict:=none,data:=.seq vs n,slots:=#[] }
 c:Wc D₀
 hi:B.Hi D₀
noncomputable def tH (lo:Nat)(v:Value)(h:Heap):Prop:=∃(b:Addr) (n:Nat),v=.ref b/\lo<=b/\h.get? b=some { cls:=.type "list", dict:=none,data:=.seq #[] n,slots:=#[] }
noncomputable def FrE (B:Bs) (K:Nat)(Φ:bq)(e:E):Prop:=∀Γ ρ r,ev Φ Γ ρ e=some r->∀Wc W pe A s,Ctx B Γ Wc W pe ρ s->aB A K->
 wpAny B.M A (eval (e.py B.nm) pe) (fun v s'=>(az B s s'/\cu B K s W r v s')/\tH s.heap.objs.size v s'.heap) hY s
set_option tactic.hygienic true in
omit O in
theorem asD_rep {r:Mine.R}{d:D}{v:Value}{s':zL}{K:Nat}(hd:r.asD=some d)(h:cu B K s W r v s'):av B s'.heap W d v:=by
 cases r
 case d x=>obtain rfl:=zG hd;exact h
 all_goals exact ai hd
theorem useFr {fr:Bool}{e:E}{d:D}{r:Mine.R}{Φ:bq}{K:Nat}(hS:aW B K Φ e)(hfr:fr=true->FrE B K Φ e)(h:ev Φ Γ ρ e=some r)(hd:r.asD=some d)(X:Ctx B Γ Wc W pe ρ s)(R:aB A K){E:VS}{Q:VS}
  (k:∀v s',az B s s'->Ctx B Γ Wc W pe ρ s'->av B s'.heap W d v->(fr=true->tH s.heap.objs.size v s'.heap)->Q v s'):wpAny B.M A (eval (e.py B.nm) pe) Q E s:=by
 cases fr with
 |false=>exact ci O hS h hd X R fun v s' e X' q=>k v s' e X' q fun z=>bG z
 |true=>
  refine Ak (hfr rfl Γ ρ r h Wc W pe A s X R) (fun v s' h'=>k v s' h'.1.1 (X.move O h'.1.1) ?_ fun J=>h'.2) fun J J f=>f.elim;have:=h'.1.2;exact asD_rep hd this
structure jX (lo:Nat)(vs:List Value)(h:Heap):Prop where
 nd:vs.Pairwise (·≠·)
 at':∀v∈vs,tH lo v h
noncomputable def vm (B:Bs)(fr:Bool)(Z:AP)(sc:LK)(Γ₀:ah)(pe:Env)(D₀:Addr)(ρ:ac)(l:List D)(Wc W:AP)(p:Pv)(vs:Array Value)(R:CI->zL->Prop)(s:zL):Prop:=
 ∀s' Wc' W' vs' n',Ctx B (ay Γ₀ sc) Wc' W' pe ρ s'->cO Wc W s Wc' W'->s'.heap.get? D₀=some { cls:=.type "list", dict:=none,data:=.seq (vs++vs'.toArray) n',slots:=#[] }->aa B s'.heap W' l vs'->
  ao B (tgt Z p D₀) s s'->(fr=true->jX s.heap.objs.size vs' s'.heap)->R (.ok .next) s'
theorem oj {fr:Bool}{Z:AP}{sc:LK}{Γ₀:ah}{D₀:Addr}{R:CI->zL->Prop}{it:Addr}{F:AP}{I:List D->Pv->zL->Prop}{p:Pv}{vs:Array Value}{n:Nat}{ip:Pos}{f:Value->Sem Fin}{Ex:VS}
  (R20:aB A (K - 4)) (ok:be B K F it I) (X:Ctx B (ay Γ₀ sc) Wc W pe ρ s) (hI:I [] p s) (hp:∀b,p.a b->Wc b/\B.Hi b) (hA:AccAt (B:=B) D₀ Wc W vs n s) (hDp:¬p.a D₀) (k:vm B fr Z sc Γ₀ pe D₀ ρ [] Wc W p vs R s):
  wpAny B.M A (do
   DH ip
   match <-Do (.ref it) with
   |none=>pure (.done .next)
   |some v=>f v) (fun fin s'=>match fin with|.done f=>R (.ok f) s'|.again c'=>c'.quiet=true/\BZ B.M A c' R s') Ex s:=by
 refine zK (AS (zK (ok.done _ _ _ _ _ hI X.good R20 fun s1 e1=>zR ?_)));refine k s1 Wc W [] n (Ctx.moveP O X e1 (fun b q=>(hp b q).1) fun b q=>(hp b q).2) (cO.refl O _ _ _) ?_ aa.nil (e1.mono (fun b q=>.inr (.inl q)) fun i q=>q) fun J=>⟨AW,fun J h=>aG h⟩;have:=e1.keep D₀ _ (fX O hA.hi) hDp hA.at'
 simpa using this
theorem fV {fr:Bool}{Z:AP}{sc:LK}{Γ₀:ah}{D₀:Addr}{R:CI->zL->Prop}{p p1:Pv}{vs:Array Value}{l1 l2:List D}{s1:zL}{Wc1 W1:AP}{vsa:List Value}
  (hZ:∀b,Z b->W b/\¬Wc b) (X:Ctx B (ay Γ₀ sc) Wc W pe ρ s) (X1:Ctx B (ay Γ₀ sc) Wc1 W1 pe ρ s1) (g1:cO Wc W s Wc1 W1) (e1:ao B (tgt Z p D₀) s s1) (hp1:∀b,p1.a b->Wc1 b) (hnew:∀b,p1.a b->p.a b\/s.heap.objs.size<=b) (hg:p1.g=p.g) (hDc:Wc D₀)
  (r1:aa B s1.heap W1 l1 vsa) (hfl:fr=true->∃lo,s.heap.objs.size<=lo/\jX lo vsa s1.heap/\(∀b,lo<=b->¬p1.a b)/\D₀ < lo) (k:vm B fr Z sc Γ₀ pe D₀ ρ (l1++l2) Wc W p vs R s):vm B fr Z sc Γ₀ pe D₀ ρ l2 Wc1 W1 p1 (vs++vsa.toArray) R s1:=by
 intro s' Wc' W' vs' n' X' g' hD' r' e' f';refine k s' Wc' W' (vsa++vs') n' X' (g1.trans O e1.size g') (by refine zF hD' ?_;simp) (aa.append (aa.on O (fun b q=>(g1.own b).mpr (hZ b q)) X1 r1 e' hp1 (g1.c _ hDc) g') r') (e1.trans e' (fun b q=>?_) fun i q=>.inl (by refine zF (AM hg) ?_;exact q)) fun hfr=>?_
 ·rcases q with q|q|q
  ·exact .inl (.inl q)
  ·exact(hnew b q).imp (fun z=>.inr (.inl z)) id
  ·exact .inl (.inr (.inr q))
 ·refine x13 (hfl hfr) fun lo hlo p91 p1' d1=>?_
  obtain⟨n1,a1⟩:=p91;obtain⟨n2,a2⟩:=f' hfr;have kp:∀v∈vsa,∃(b:Addr) (n:Nat),v=.ref b/\(lo<=b/\b < s1.heap.objs.size)/\s'.heap.get? b=some { cls:=.type "list", dict:=none,data:=.seq #[] n,slots:=#[] }:=fun v hv=>by
   refine lM (a1 v hv) fun b n e91=>?_;subst e91;intro hb g;refine⟨b,n,rfl,⟨hb,Al g⟩,e'.keep b _ (X.good.hi (zH hlo hb)).2 (fun q=>?_) g⟩;rcases q with q|q|q
   ·exact zJ _ (zI (X.wlt b (hZ b q).1) (zH hlo hb))
   ·exact p1' b hb q
   ·exact zJ _ (zI (q▸d1) hb)
  refine⟨List.pairwise_append.mpr ⟨n1,n2,fun v hv w hw e=>?_⟩,fun v hv=>?_⟩
  ·refine lM (kp v hv) fun b n e1' h1 J=>?_
   refine lM (a2 w hw) fun b' n' e2' h2 J=>?_;replace e:=e2'▸e1'▸e;obtain rfl:=Value.ref.inj e;exact zJ _ (zI h1.2 h2)
  ·rcases z7.mp hv with hv|hv
   ·refine lM (kp v hv) fun b n e1' h1 g=>?_
    exact⟨b,n,e1',zH hlo h1.1,g⟩
   ·refine lM (a2 v hv) fun b n e1' h1 g=>?_
    exact⟨b,n,e1',zH e1.size h1,g⟩
theorem uH {fr:Bool}{Z:AP}{K:Nat}{Φ:bq}{elt:E}{gens:List Gn}{sc:LK}{pos:Pos}{Γ₀:ah}{D₀:Addr}(hz:∀x b,sc.lookup x=some .local\/sc.lookup x=some .cell->(zP B pe x).a b->Z b)(RK:aB A K)(R20:aB A (K - 4))(helt:aW B K Φ elt)(hfr:fr=true->FrE B K Φ elt):
  ∀(r:List Gn),(fr=true->r=[])->iw B K Φ r->∀(t:Tg) (itE:E) (ifs:List E),jT B K Φ ifs->∀(d:Nat),gens.drop d=.mk t itE ifs::r->
  ∀(it:Addr) (F:AP) (I:List D->Pv->zL->Prop),be B K F it I->∀(items:List D) (ρ:ac) (l:List D) (R:CI->zL->Prop) (s:zL) (Wc W:AP) (p:Pv) (vs:Array Value) (n:Nat),
   dI sc t (fun ρ'=>do
     let c <-uR Φ (ay Γ₀ sc) ρ' ifs
     if c then evG Φ sc (ay Γ₀ sc) r (fun ρ''=>do (<-ev Φ (ay Γ₀ sc) ρ'' elt).asD) ρ' else some []) ρ items=some l->
   (∀b,Z b->W b/\¬Wc b)->Ctx B (ay Γ₀ sc) Wc W pe ρ s->I items p s->(∀b,F b->¬W b/\b < s.heap.objs.size)->(∀b,p.a b->Wc b/\B.Hi b)->AccAt (B:=B) D₀ Wc W vs n s->¬p.a D₀->vs.size+l.length<=lim->
   vm B fr Z sc Γ₀ pe D₀ ρ l Wc W p vs R s->
   BZ B.M A (.compLoop (.ListComp (elt.py B.nm) (pf B.nm gens) (bA B.nm sc) pos) d (.ref it) (.ref D₀) pe) R s:=by
 intro r
 induction r with
 |nil=>
  intro J hgs t itE ifs hifs d hdrop it F I ok items;refine aS (pJ O hdrop) fun hd hd1=>?_;have h1:(pf B.nm gens)[d]?=some ⟨t.py B.nm,itE.py B.nm,eN B.nm ifs,0⟩:=by refine zF (i7 O _ _ _)<|zF hd ?_;rfl
  have h2:(pf B.nm gens)[d+1]?=none:=by
   refine zF (i7 O _ _ _) ?_;have:=congrArg GB hd1;rw[D4] at this;refine zF this ?_;rfl
  induction items with
  |nil=>
   intro ρ l R s Wc W p vs n hev hZ X hI hF hp hA hDp hlim k;simp only[iP,zV] at hev;subst hev;refine eF O ?_;refine zF (iu h1 h2) ?_;exact oj O R20 ok X hI hp hA hDp k
  |cons x rest ihi=>
   intro ρ l R s Wc W p vs n hev hZ X hI hF hp hA hDp hlim k;simp only[fu] at hev
   split at hev
   case isFalse=>exact ai hev
   rename_i hfit
   simp only[zQ,zO,zV] at hev;refine iR hev fun ρ' hb l1 p91 l2 hrest e92=>?_;subst e92;obtain⟨c,hc,hbody⟩:=p91;refine eF O ?_;refine zF (iu h1 h2) ?_;refine tV O hZ hz RK R20 hifs ok X hI hF hp hfit hb hc hA.at' hA.c hA.hi hDp fun s3 Wc3 W3 p1 X3 hmono hseal g3 I3 hnew hp1 hg hDp1 e3 hD3=>?_;have X3ρ:=Ctx.weaken O X3 hmono hseal;have F3:∀b,F b->¬W3 b/\b < s3.heap.objs.size:=fun b q=>⟨fun z=>(g3.new b z).elim (hF b q).1 fun z=>zJ _ (zI (hF b q).2 z),zI (hF b q).2 e3.size⟩;refine⟨fun hct=>?_,fun hcf=>?_⟩
   ·subst hct
    simp only[if_true,fC,Aa,zQ,zO] at hbody;refine am hbody fun y p91 e92=>?_;subst e92;obtain⟨re,he,hre⟩:=p91;refine zK (zK (useFr O helt hfr he hre X3 RK fun w s4 e4 X4 q4 f4=>zK (Gr (items:=vs) ⟨n,e4.keep _ _ (fX O hA.hi) hD3⟩ (fun h' hl' hs'=>zR (zR ⟨rfl,?_⟩)) (ax (by simp only[zM,AB,Cw] at hlim;lia)))));refine x1 hl' fun n' hl'=>?_;have ea:ao B ⟨fun b=>b=D₀,fun J=>False⟩ s4 { s4 with heap:=h' }:=
     cg O (t:=s4.toks) (fX O hA.hi) (uI (e4.keep _ _ (fX O hA.hi) hD3)) hs'
    have X4ρ:=X3ρ.move O e4;have X5:Ctx B (ay Γ₀ sc) Wc3 W3 pe ρ { s4 with heap:=h' }:=Ctx.moveP O X4ρ ea (fun b q=>q▸g3.c _ hA.c) (fun b q=>q▸hA.hi);have e35:ao B ⟨fun b=>b=D₀,fun J=>False⟩ s3 { s4 with heap:=h' }:=(e4.toP _).trans ea (fun b q=>.inl q) (fun i q=>.inl q);have e5:ao B (tgt Z p D₀) s { s4 with heap:=h' }:=e3.trans e35 (fun b q=>.inl (.inr (.inr q))) (fun i q=>q.elim);have I5:I rest p1 { s4 with heap:=h' }:=by
     refine ok.stay _ _ _ _ I3 (fun b o nt q z=>e35.keep b o nt (fun w=>?_) z) e35.ck e35.size (fun i y q z=>e35.gens i y (fun w=>w.elim) z) X5.good;subst w;rcases q with q|q
     ·exact(F3 _ q).1 (g3.w _ (X.cW _ hA.c))
     ·exact hDp1 q
    have r5:aa B ({ s4 with heap:=h' }:zL).heap W3 [y] [w]:=by
     exact aa.cons (av.move O (ea.kW X3.tW' fun b z=>z▸g3.w _ (X.cW _ hA.c)) (fun b q=>.inl q) _ _ q4) aa.nil
    have f5:fr=true->∃lo,s.heap.objs.size<=lo/\jX lo [w] ({ s4 with heap:=h' }:zL).heap/\(∀b,lo<=b->¬p1.a b)/\D₀ < lo:=fun z=>by
     refine lM (f4 z) fun b m e91=>?_;subst e91;intro hb g;have hDs:=Al hD3;refine⟨s3.heap.objs.size,e3.size,⟨BX .., fun v hv=>?_⟩,fun b hb q=>zJ _ (zI (ok.sub _ _ _ I3 b q).2.2 hb),hDs⟩;obtain rfl:=zY.mp hv;exact⟨b,m,rfl,hb,hs'.extBut b _ (fun q=>zJ _ (zI (q▸hDs) hb)) g⟩
    refine ihi ρ l2 R _ Wc3 W3 p1 (vs++[w].toArray) n' hrest (fun b q=>(g3.own b).mpr (hZ b q)) X5 I5 (fun b q=>⟨(F3 b q).1,zI (F3 b q).2 e35.size⟩) hp1 ⟨?_,g3.c _ hA.c,hA.hi⟩ hDp1 ?_ (fV O hZ X X5 g3 e5 (fun b q=>(hp1 b q).1) hnew hg hA.c r5 f5 k)
    ·refine zF hl' ?_;simp
    ·simp only[GD,Bp,zM,AB,Cw] at hlim ⊢;lia
   ·subst hcf
    simp only[AK,if_false,zV] at hbody;subst hbody;refine zR ⟨rfl,?_⟩;have:=fV O (l1:=[]) (l2:=l2) (vsa:=[]) hZ X X3ρ g3 e3 (fun b q=>(hp1 b q).1) hnew hg hA.c aa.nil (fun J=>⟨s3.heap.objs.size,e3.size,⟨AW,fun J h=>(aG h)⟩,fun b hb q=>zJ _ (zI (ok.sub _ _ _ I3 b q).2.2 hb),Al hD3⟩) k;refine ihi ρ l2 R _ Wc3 W3 p1 vs n hrest (fun b q=>(g3.own b).mpr (hZ b q)) X3ρ I3 F3 hp1 ⟨hD3,g3.c _ hA.c,hA.hi⟩ hDp1 (by simpa using hlim) ?_
    simpa using this
 |cons g r ihr=>
  obtain⟨t',itE',ifs'⟩:=g;intro hf0 hgs t itE ifs hifs d hdrop it F I ok items;refine aS (pJ O hdrop) fun hd hd1=>?_;refine aS (pJ O hd1) fun hd2 hd3=>?_;have h1:(pf B.nm gens)[d]?=some ⟨t.py B.nm,itE.py B.nm,eN B.nm ifs,0⟩:=by refine zF (i7 O _ _ _)<|zF hd ?_;rfl
  have h2:(pf B.nm gens)[d+1]?=some ⟨t'.py B.nm,itE'.py B.nm,eN B.nm ifs',0⟩:=by refine zF (i7 O _ _ _)<|zF hd2 ?_;rfl
  refine aS (hgs t' itE' ifs' zU) fun hit' hifs'=>?_;have hgs':iw B K Φ r:=fun a b c h=>hgs a b c (zT _ h)
  induction items with
  |nil=>
   intro ρ l R s Wc W p vs n hev hZ X hI hF hp hA hDp hlim k;simp only[iP,zV] at hev;subst hev;refine eF O ?_;refine zF (iq h1 h2) ?_;exact oj O R20 ok X hI hp hA hDp k
  |cons x rest ihi=>
   intro ρ l R s Wc W p vs n hev hZ X hI hF hp hA hDp hlim k;simp only[fu] at hev
   split at hev
   case isFalse=>exact ai hev
   rename_i hfit
   simp only[zQ,zO,zV] at hev;refine iR hev fun ρ' hb l1 p91 l2 hrest e92=>?_;subst e92;obtain⟨c,hc,hbody⟩:=p91;refine eF O ?_;refine zF (iq h1 h2) ?_;refine tV O hZ hz RK R20 hifs ok X hI hF hp hfit hb hc hA.at' hA.c hA.hi hDp fun s3 Wc3 W3 p1 X3 hmono hseal g3 I3 hnew hp1 hg hDp1 e3 hD3=>?_;have X3ρ:=Ctx.weaken O X3 hmono hseal;have F3:∀b,F b->¬W3 b/\b < s3.heap.objs.size:=fun b q=>⟨fun z=>(g3.new b z).elim (hF b q).1 fun z=>zJ _ (zI (hF b q).2 z),zI (hF b q).2 e3.size⟩;refine⟨fun hct=>?_,fun hcf=>?_⟩
   ·subst hct
    simp only[if_true,lK,zQ,zO] at hbody;refine ke hbody fun r4 h4 items' hi4 hloop=>?_;refine zK (Ak (hit' _ _ _ h4 _ _ _ _ _ X3 RK) ?_ fun J J f=>f.elim);rintro v4 s4 ⟨e4,q4⟩;have X4:=X3.move O e4;refine zK (AS ?_);refine zF (kR O _ _ _ _) ?_;refine zK (zR (zK (BE (pA O hi4 X4.tW' X4.wlt X4.good R20 e4 q4 fun it' F' p' I' s5 at5 hlen5 e5=>?_))));refine x04 at5 fun ok' hI' hF' hp' hg'=>?_;have e35:=e4.trans e5;have hN:∀b,p'.a b->s3.heap.objs.size<=b/\b < s5.heap.objs.size:=fun b q=>⟨hp' b q,(ok'.sub _ _ _ hI' b q).2.2⟩;have X5:Ctx B (ay Γ₀ sc) (bB Wc3 p'.a) (bB W3 p'.a) pe ρ' s5:=Ctx.grow O X3 (e35.toP ⟨fun J=>False,fun J=>False⟩) (fun b q=>q.elim) (fun b q=>q.elim) hN;have hD5:=e35.keep _ _ (fX O hA.hi) hD3;have hDp':¬p'.a D₀:=fun q=>zJ _ (zI (Al hD3) (hp' _ q));refine zK (wpAny_runOwn (h:=none) (show BZ B.M A _ _ s5 from ?_));refine f7 O (g:=⟨t'.py B.nm,itE'.py B.nm,eN B.nm ifs',0⟩) (by show(pf B.nm gens)[d+1]?=_;exact h2) rfl rfl rfl rfl ok' hI' X5.good R20 ?_;refine ihr (fun z=>nomatch hf0 z) hgs' t' itE' ifs' hifs' (d+1) hd1 it' F' I' ok' items' ρ' l1 _ s5 _ _ p' vs n hloop (fun b q=>((cO.or O X3.wlt fun b q=>hp' b q).own b).mpr ((g3.own b).mpr (hZ b q))) X5 hI' (fun b q=>⟨fun z=>z.elim (hF' b q).1 fun z=>(ok'.sub _ _ _ hI' b z).1 q,(hF' b q).2⟩) (fun b q=>⟨.inr q,X3.good.hi (hp' b q)⟩) ⟨hD5,.inl (g3.c _ hA.c),hA.hi⟩ hDp' (by simp only[zM] at hlim;grind) ?_;intro s6 Wc6 W6 vsa n6 X6 g6 hD6 r6 e6 J;have X6ρ:=Ctx.weaken O X6 hmono hseal;have g36:cO Wc3 W3 s3 Wc6 W6:=(cO.or O X3.wlt fun b q=>hp' b q).trans O e35.size g6;have g06:cO Wc W s Wc6 W6:=g3.trans O e3.size g36;have e06:ao B (tgt Z p D₀) s s6:=by
     refine(e3.trans (e35.toP ⟨fun J=>False,fun J=>False⟩) (fun b q=>q.elim) (fun i q=>q.elim)).trans e6 (fun b q=>?_) (fun i q=>?_)
     ·rcases q with q|q|q
      ·exact .inl (.inl q)
      ·exact .inr (zH e3.size (hp' b q))
      ·exact .inl (.inr (.inr q))
     ·exact .inr (zH e3.gsize (hg' i q))
    have e36:ao B ⟨fun b=>Z b\/s3.heap.objs.size<=b\/b=D₀,fun i=>s3.gens.size<=i⟩ s3 s6:=by
     refine(e35.toP _).trans e6 (fun b q=>?_) (fun i q=>.inr (hg' i q));rcases q with q|q|q
     ·exact .inl (.inl q)
     ·exact .inr (hp' b q)
     ·exact .inl (.inr (.inr q))
    have I6:I rest p1 s6:=by
     refine ok.stay _ _ _ _ I3 (fun b o nt q z=>e36.keep b o nt (fun w=>?_) z) e36.ck e36.size (fun i y q z=>e36.gens i y (fun w=>?_) z) X6.good
     ·rcases w with w|w|w
      ·have w:=(g3.own b).mpr (hZ b w)
       rcases q with q|q
       ·exact(F3 b q).1 w.1
       ·exact w.2 (hp1 b q).1
      ·rcases q with q|q
       ·exact zJ _ (zI (F3 b q).2 w)
       ·exact zJ _ (zI (ok.sub _ _ _ I3 b q).2.2 w)
      ·subst w
       rcases q with q|q
       ·exact(F3 _ q).1 (g3.w _ (X.cW _ hA.c))
       ·exact hDp1 q
     ·exact zJ _ (zI (ok.subg _ _ _ I3 i q) w)
    refine zR ⟨rfl,?_⟩;refine ihi ρ l2 R _ Wc6 W6 p1 (vs++vsa.toArray) n6 hrest (fun b q=>(g06.own b).mpr (hZ b q)) X6ρ I6 (fun b q=>⟨fun z=>(g06.new b z).elim (hF b q).1 fun z=>zJ _ (zI (hF b q).2 z),zI (hF b q).2 e06.size⟩) (fun b q=>⟨g36.c b (hp1 b q).1,(hp1 b q).2⟩) ⟨hD6,g06.c _ hA.c,hA.hi⟩ hDp1 ?_
     (fV O hZ X X6ρ g06 e06 (fun b q=>g36.c b (hp1 b q).1) hnew hg hA.c r6 (fun z=>nomatch hf0 z) k)
    have:=aa.length r6;simp only[GD,Bp,zM] at hlim ⊢;lia
   ·subst hcf
    simp only[AK,if_false,zV] at hbody;subst hbody;refine zR ⟨rfl,?_⟩;have:=fV O (l1:=[]) (l2:=l2) (vsa:=[]) hZ X X3ρ g3 e3 (fun b q=>(hp1 b q).1) hnew hg hA.c aa.nil (fun z=>nomatch hf0 z) k;refine ihi ρ l2 R _ Wc3 W3 p1 vs n hrest (fun b q=>(g3.own b).mpr (hZ b q)) X3ρ I3 F3 hp1 ⟨hD3,g3.c _ hA.c,hA.hi⟩ hDp1 (by simpa using hlim) ?_
    simpa using this
end
end Mine
namespace Mine
variable {B:Bs}
noncomputable abbrev aL (nm:Nat->Str)(sc:LK):List (Str×NameKind):=sc.map fun q=>(nm q.1,q.2)
section
variable (O:B.Ok)
include O
theorem cX (x:Nat):∀sc:List (Nat×NameKind),(aL B.nm sc).lookup (B.nm x)=sc.lookup x
 |[]=>rfl
 |(y,k)::r=>by
  show B3 (B.nm x) ((B.nm y,k)::aL B.nm r)=_;rw[z5,z5]
  by_cases h:x=y
  ·subst h;simp
  ·have h1:(x==y)=false:=by simpa using h
   have h2:(B.nm x==B.nm y)=false:=by
    rw[beq_eq_false_iff_ne];exact fun q=>h (O.inj _ _ q)
   refine zF h1<|zF h2 ?_;exact cX x r
noncomputable def gN (nm:Nat->Str)(pe:Env):List (Nat×NameKind)->List (Str×Addr)->List (Str×Addr)
 |[],acc=>acc
 |(x,k)::r,acc=>if k==.free then gN nm pe r ((nm x,(pe.cells.lookup (nm x)).getD 0)::acc) else gN nm pe r acc
theorem mU {nm:Nat->Str}{pe:Env}{x:Nat}{k:NameKind}{r:LK}{acc:List (Str×Addr)}:gN nm pe ((x,k)::r) acc=if k==.free then gN nm pe r ((nm x,(pe.cells.lookup (nm x)).getD 0)::acc) else gN nm pe r acc:=rfl
theorem f8 (nm:Nat->Str)(pe:Env)(f:Str×NameKind->List (Str×Addr)->Sem (ForInStep (List (Str×Addr))))(hf:∀n k cs,f (n,k) cs=if k==.free then(do let c <-cellOf pe n;pure (.yield ((n,c)::cs))) else pure (.yield cs)):
  ∀(sc:LK) (acc:List (Str×Addr)),(∀q∈sc,q.2=.free->(pe.cells.lookup (nm q.1)).isSome)->forIn (aL nm sc) acc f=pure (gN nm pe sc acc)
 |[],acc,_=>rfl
 |(x,k)::r,acc,h=>by
  show forIn ((nm x,k)::aL nm r) acc f=_
  (rw[D5];refine zF (hf _ _ _) ?_)
  refine zF (mU O) ?_
  by_cases hk:(k==.free)=true
  ·refine zF (if_pos hk)<|zF (if_pos hk) ?_
   refine x1 (DF.mp (h (x,k) zU (by simpa using hk))) fun c hc=>?_;have:cellOf pe (nm x)=pure c:=by unfold cellOf;exact zF hc rfl
   refine zF this<|zF hc ?_
   exact f8 nm pe f hf r _ fun q hq=>h q (zT _ hq)
  ·refine zF (if_neg hk)<|zF (if_neg hk) ?_
   exact f8 nm pe f hf r _ fun q hq=>h q (zT _ hq)
theorem tv (pe:Env)(sc:LK)(h:∀q∈sc,q.2=.free->(pe.cells.lookup (B.nm q.1)).isSome):Eh (bA B.nm sc) pe=pure (gN B.nm pe sc []):=by
 unfold Eh;have:=f8 O B.nm pe (fun x cs=>match x with|(name,kind)=>if kind==.free then(do let c <-cellOf pe name;pure (.yield ((name,c)::cs))) else pure (.yield cs)) (fun J J J=>rfl) sc [] h;exact(congrArg (fun t:Sem (List (Str×Addr))=>t >>= fun r=>(pure r:Sem (List (Str×Addr))) >>= fun r=>pure r) this).trans rfl
theorem dz (pe:Env) (x:Nat):∀(sc:LK)(acc:List (Str×Addr)),(sc.map (·.1)).Nodup->(gN B.nm pe sc acc).lookup (B.nm x)=if sc.lookup x=some .free then some ((pe.cells.lookup (B.nm x)).getD 0) else acc.lookup (B.nm x)
 |[],acc,_=>by simp[show gN B.nm pe [] acc=acc from rfl]
 |(y,k)::r,acc,hn=>by
  simp only[z8,Bi] at hn;refine zF (mU O) ?_
  by_cases h:x=y
  ·subst h
   have hr:r.lookup x=none:=by
    rw[DQ];intro q hq;rw[bne_iff_ne];rintro rfl;exact hn.1 (Ac.mpr ⟨q,hq,rfl⟩)
   by_cases hk:(k==.free)=true
   ·refine zF (if_pos hk)<|zF (dz pe x r _ hn.2)<|zF hr ?_
    have:k=.free:=by simpa using hk
    subst this;simp[z5]
   ·refine zF (if_neg hk)<|zF (dz pe x r _ hn.2)<|zF hr ?_
    have:k≠.free:=by simpa using hk
    simp[z5,this]
  ·have h1:(x==y)=false:=by simpa using h
   have h2:(B.nm x==B.nm y)=false:=by
    rw[beq_eq_false_iff_ne];exact fun q=>h (O.inj _ _ q)
   by_cases hk:(k==.free)=true
   ·(refine zF (if_pos hk)<|zF (dz pe x r _ hn.2) ?_;rw[z5,z5];exact zF h1<|zF h2 rfl)
   ·(refine zF (if_neg hk)<|zF (dz pe x r _ hn.2) ?_;rw[z5];exact zF h1 rfl)
theorem jp (pe:Env):∀(sc:LK)(acc:List (Str×Addr))(n:Str)(c:Addr),(n,c)∈gN B.nm pe sc acc->(n,c)∈acc\/∃q∈sc,q.2=.free/\n=B.nm q.1/\c=(pe.cells.lookup (B.nm q.1)).getD 0
 |[],acc,n,c,h=>.inl h
 |(y,k)::r,acc,n,c,h=>by
  rw[mU O] at h
  by_cases hk:(k==.free)=true
  ·rw[if_pos hk] at h
   rcases jp pe r _ n c h with h|⟨q,hq,e⟩
   ·rcases Ab.mp h with h|h
    ·cases h
     exact .inr ⟨(y,k),zU,by simpa using hk,rfl,rfl⟩
    ·exact .inl h
   ·exact .inr ⟨q,zT _ hq,e⟩
  ·rw[if_neg hk] at h
   rcases jp pe r _ n c h with h|⟨q,hq,e⟩
   ·exact .inl h
   ·exact .inr ⟨q,zT _ hq,e⟩
theorem jQ (pe:Env):∀(sc:LK)(acc:List (Str×Addr)),(sc.map (·.1)).Nodup->(acc.map (·.1)).Nodup->(∀z∈acc,∀q∈sc,z.1≠B.nm q.1)->((gN B.nm pe sc acc).map (·.1)).Nodup
 |[],acc,_,h,_=>h
 |(y,k)::r,acc,hn,h,ha=>by
  simp only[z8,Bi] at hn;refine zF (mU O) ?_
  by_cases hk:(k==.free)=true
  ·refine zF (if_pos hk) ?_
   refine jQ pe r _ hn.2 ?_ ?_
   ·refine zF z8<|zF (propext Bi) ?_
    refine⟨fun hm=>?_,h⟩;refine am (Ac.mp hm) fun z hz e=>?_;exact ha z hz (y,k) zU e
   ·intro z hz q hq
    rcases Ab.mp hz with rfl|hz
    ·intro e
     exact hn.1 (Ac.mpr ⟨q,hq,(O.inj _ _ e).symm⟩)
    ·exact ha z hz q (zT _ hq)
  ·refine zF (if_neg hk) ?_
   exact jQ pe r _ hn.2 h fun z hz q hq=>ha z hz q (zT _ hq)
theorem f9 {pe:Env}(hp:pe.cells.Pairwise fun x y=>x.2≠y.2):∀(sc:LK)(acc:List (Str×Addr)),(sc.map (·.1)).Nodup->(∀q∈sc,q.2=.free->(pe.cells.lookup (B.nm q.1)).isSome)->
  acc.Pairwise (fun x y=>x.2≠y.2)->(∀z∈acc,∃n,pe.cells.lookup n=some z.2/\∀q∈sc,n≠B.nm q.1)->(gN B.nm pe sc acc).Pairwise fun x y=>x.2≠y.2
 |[],acc,_,_,h,_=>h
 |(y,k)::r,acc,hn,hs,h,ha=>by
  simp only[z8,Bi] at hn;refine zF (mU O) ?_
  by_cases hk:(k==.free)=true
  ·refine zF (if_pos hk) ?_
   refine x1 (DF.mp (hs (y,k) zU (by simpa using hk))) fun c hc=>?_;simp only[hc,EL];refine f9 hp r _ hn.2 (fun q hq=>hs q (zT _ hq)) ?_ ?_
   ·refine BB.mpr ⟨fun z hz e=>?_,h⟩
    refine am (ha z hz) fun n h1 h2=>?_;have e':c=z.2:=e;rw[<-e'] at h1;exact h2 (y,k) zU (GE hp (mem_of_lookup h1) (mem_of_lookup hc))
   ·intro z hz
    rcases Ab.mp hz with rfl|hz
    ·refine⟨B.nm y,hc,fun q hq e=>?_⟩
     exact hn.1 (Ac.mpr ⟨q,hq,(O.inj _ _ e).symm⟩)
    ·refine am (ha z hz) fun n h1 h2=>?_
     exact⟨n,h1,fun q hq=>h2 q (zT _ hq)⟩
  ·refine zF (if_neg hk) ?_
   refine f9 hp r _ hn.2 (fun q hq=>hs q (zT _ hq)) h fun z hz=>?_;refine am (ha z hz) fun n h1 h2=>?_;exact⟨n,h1,fun q hq=>h2 q (zT _ hq)⟩
theorem cK:∀(names:List (Str×NameKind))(h:Heap),h.objs.size<=(Dp h names).objs.size
 |[],_=>zW _
 |(_,k)::r,h=>by
  unfold Dp
  split
  ·exact zH (by refine zF (Aq _ _) ?_;lia) (cK r _)
  ·exact cK r h
theorem cZ (x:Nat):∀(sc:LK)(h:Heap)(acc:List (Str×Addr)),(sc.map (·.1)).Nodup->
  (sc.lookup x=some .cell->∃c,(BJ h.objs.size (aL B.nm sc) acc).lookup (B.nm x)=some c/\h.objs.size<=c/\c < (Dp h (aL B.nm sc)).objs.size/\(Dp h (aL B.nm sc)).IsCell c none)/\
  (sc.lookup x≠some .cell->(BJ h.objs.size (aL B.nm sc) acc).lookup (B.nm x)=acc.lookup (B.nm x))
 |[],h,acc,_=>⟨fun q=>by simp at q,fun J=>rfl⟩
 |(y,k)::r,h,acc,hn=>by
  simp only[z8,Bi] at hn;show(_->∃c,(BJ h.objs.size ((B.nm y,k)::aL B.nm r) acc).lookup (B.nm x)=some c/\_<=c/\c < (Dp h ((B.nm y,k)::aL B.nm r)).objs.size/\(Dp h ((B.nm y,k)::aL B.nm r)).IsCell c none)/\(_->(BJ h.objs.size ((B.nm y,k)::aL B.nm r) acc).lookup (B.nm x)=_);unfold BJ Dp
  by_cases hk:(k==.cell)=true
  ·simp only[if_pos hk]
   have hkc:k=.cell:=by simpa using hk
   subst hkc;have ih:=cZ x r (h.push { cls:=.type "cell", data:=.cell none }) ((B.nm y,h.objs.size)::acc) hn.2
   replace ih:=(Aq _ _)▸ih;have hsz:=cK O (aL B.nm r) (h.push { cls:=.type "cell", data:=.cell none })
   rw[Aq] at hsz
   by_cases hxy:x=y
   ·subst hxy
    have hr:r.lookup x=none:=by
     rw[DQ];intro q hq;rw[bne_iff_ne];rintro rfl;exact hn.1 (Ac.mpr ⟨q,hq,rfl⟩)
    refine⟨fun J=>⟨h.objs.size,?_,zW _,hsz,?_⟩,fun q=>?_⟩
    ·refine zF (ih.2 (by refine zF hr ?_;simp)) ?_;simp[z5]
    ·exact⟨_,DA _ _ _ _ (Aj _ rfl),rfl⟩
    ·simp[z5] at q
   ·have h1:(x==y)=false:=by simpa using hxy
    have h2:(B.nm x==B.nm y)=false:=by
     rw[beq_eq_false_iff_ne];exact fun q=>hxy (O.inj _ _ q)
    refine⟨fun q=>?_,fun q=>?_⟩
    ·rw[z5,h1] at q
     refine x13 (ih.1 q) fun c e1 e2 e3 e4=>?_;exact⟨c,e1,AX e2,e3,e4⟩
    ·rw[z5,h1] at q
     (refine zF (ih.2 q) ?_;rw[z5];exact zF h2 rfl)
  ·simp only[if_neg hk]
   have hkc:k≠.cell:=by simpa using hk
   have ih:=cZ x r h acc hn.2
   by_cases hxy:x=y
   ·subst hxy
    have hr:r.lookup x=none:=by
     rw[DQ];intro q hq;rw[bne_iff_ne];rintro rfl;exact hn.1 (Ac.mpr ⟨q,hq,rfl⟩)
    refine⟨fun q=>?_,fun J=>ih.2 (by refine zF hr ?_;simp)⟩;simp[z5,hkc] at q
   ·have h1:(x==y)=false:=by simpa using hxy
    (rw[z5];refine zF h1 ?_)
    exact ih
theorem dm:∀(names:List (Str×NameKind)) (n:Nat)(acc:List (Str×Addr)),(∀z∈acc,z.2 < n)->acc.Pairwise (fun x y=>x.2≠y.2)->(BJ n names acc).Pairwise fun x y=>x.2≠y.2
 |[],n,acc,_,h=>h
 |(_,k)::r,n,acc,hl,h=>by
  unfold BJ
  split
  ·refine dm r _ _ (fun z hz=>?_) (BB.mpr ⟨fun z hz e=>?_,h⟩)
   ·rcases Ab.mp hz with rfl|hz
    ·exact AL _
    ·exact By (hl z hz)
   ·have e':n=z.2:=e
    exact zJ _ (e'▸hl z hz)
  ·exact dm r _ _ hl h
end
end Mine
namespace Mine
variable {B:Bs}
section
variable (O:B.Ok)
include O
variable {Γ:ah}{ρ:ac}{Wc W:AP}{pe:Env}{A:Av}{s:zL}
set_option tactic.hygienic true in
theorem eU (pe:Env) (x:Nat):∀sc:List (Nat×NameKind),((aL B.nm sc).map fun(n,k)=>if(k==NameKind.free&&pe.scope.kind==.function&&pe.kindOf n==some .cell) then(n,NameKind.cell) else(n,k)).lookup (B.nm x)=
  (sc.lookup x).map fun k=>if(k==NameKind.free&&pe.scope.kind==.function&&pe.kindOf (B.nm x)==some .cell) then .cell else k
 |[]=>rfl
 |(y,k)::r=>by
  show B3 (B.nm x) ((if(k==NameKind.free&&pe.scope.kind==.function&&pe.kindOf (B.nm y)==some .cell)=true then(B.nm y,NameKind.cell) else(B.nm y,k))::_)=_
  by_cases h:x=y
  ·subst h
   rw[C8]
   split
   ·rename_i hc
    refine zF C8 ?_;exact congrArg some (if_pos hc).symm
   ·rename_i hc
    refine zF C8 ?_;exact congrArg some (if_neg hc).symm
  ·have h1:(x==y)=false:=by simpa using h
   have h2:(B.nm x==B.nm y)=false:=by
    rw[beq_eq_false_iff_ne];exact fun q=>h (O.inj _ _ q)
   refine zF (z5 (a:=x))<|zF h1 ?_
   split
   ·(rw[z5];refine zF h2 ?_);exact eU pe x r
   ·(rw[z5];refine zF h2 ?_);exact eU pe x r
theorem b8 {α:Type}:∀{l:List (Nat×α)}{x:Nat}{k:α},l.lookup x=some k->(x,k)∈l
 |[],_,_,h=>by simp at h
 |(y,k')::r,x,k,h=>by
  rw[z5] at h
  cases hb:x==y with
  |true=>rw[hb] at h;obtain rfl:=zG h;refine zF (show x=y by simpa using hb) ?_;exact zU
  |false=>rw[hb] at h;exact zT _ (b8 h)
theorem bp {α:Type}:∀{l:List (Nat×α)}{x:Nat}{k:α},(l.map (·.1)).Nodup->(x,k)∈l->l.lookup x=some k
 |[],_,_,_,h=>by simp at h
 |(y,k')::r,x,k,hn,h=>by
  simp only[z8,Bi] at hn;rcases Ab.mp h with h1|h1
  ·cases h1;simp[z5]
  ·have:x≠y:=by
    rintro rfl;exact hn.1 (Ac.mpr ⟨(x,k),h1,rfl⟩)
   (rw[z5];refine zF (show(x==y)=false by simpa using this) ?_)
   exact bp hn.2 h1
structure jU (Γ:ah)(sc:LK):Prop where
 nd:(sc.map (·.1)).Nodup
 free:∀x,sc.lookup x=some .free->Γ x=some .cell\/Γ x=some .free
 kinds:∀x k,sc.lookup x=some k->k=.free\/k=.local\/k=.cell\/k=.globalImplicit
theorem eS {sc:LK}(h:em Γ sc=true):jU Γ sc:=by
 simp only[em,Bu,decide_eq_true_eq,Ag] at h;refine⟨h.1,fun x hx=>?_,fun x k hx=>?_⟩
 ·have:=h.2 _ (b8 O hx)
  simpa using this
 ·have:=h.2 _ (b8 O hx)
  cases k<;>simp_all
theorem yZ {sc:LK}(hsc:jU Γ sc)(X:Ctx B Γ Wc W pe ρ s):∀x,sc.lookup x=some .free->(pe.kindOf (B.nm x)=some .cell\/pe.kindOf (B.nm x)=some .free)/\∃c,pe.cells.lookup (B.nm x)=some c:=fun x hx=>by
 rcases hsc.free x hx with h|h
 ·exact⟨.inl (X.kinds _ _ h).1,(X.kinds _ _ h).2 (.inl rfl)⟩
 ·exact⟨.inr (X.kinds _ _ h).1,(X.kinds _ _ h).2 (.inr rfl)⟩
theorem env_kin {sc:LK}(hsc:jU Γ sc)(X:Ctx B Γ Wc W pe ρ s):∀x kk,sc.lookup x=some kk->(if(kk==NameKind.free&&pe.scope.kind==.function&&pe.kindOf (B.nm x)==some .cell)=true then NameKind.cell else kk)=(if kk=.free/\Γ x=some .cell then .cell else kk):=fun x kk hx=>by
 by_cases hf:kk=.free
 ·subst hf
  rcases hsc.free x hx with h|h
  ·refine zF ((X.kinds _ _ h).1)<|zF X.fn<|zF h ?_;simp
  ·refine zF ((X.kinds _ _ h).1)<|zF X.fn<|zF h ?_;simp
 ·simp[hf]
theorem env_clo {sc:LK}(hsc:jU Γ sc)(hfk:∀x,sc.lookup x=some .free->(pe.kindOf (B.nm x)=some .cell\/pe.kindOf (B.nm x)=some .free)/\∃c,pe.cells.lookup (B.nm x)=some c):∀x,(gN B.nm pe sc []).lookup (B.nm x)=if sc.lookup x=some .free then pe.cells.lookup (B.nm x) else none:=fun x=>by
 refine zF (dz O pe x sc [] hsc.nd) ?_
 split
 ·rename_i hx
  refine x1 ((hfk x hx).2) fun c hc=>?_;refine zF hc ?_;rfl
 ·rfl
theorem zd {sc:LK}{Q:Env->zL->Prop}{cl:List (Str×Addr)}{h':Heap}(hsc:jU Γ sc)(X:Ctx B Γ Wc W pe ρ s)
  (k:∀s' cenv,Ctx B (ay Γ sc) Wc (bB W fun b=>s.heap.objs.size<=b/\b < s'.heap.objs.size) { cenv with scope:=DI (bA B.nm sc) pe } (ρ.cut sc) s'->az B s s'->(∀x b,sc.lookup x=some .local\/sc.lookup x=some .cell->(zP B { cenv with scope:=DI (bA B.nm sc) pe } x).a b->s.heap.objs.size<=b/\b < s'.heap.objs.size)->s.heap.objs.size<=cenv.locals->Q cenv s')
  (hcl:gN B.nm pe sc []=cl) (hh':Dp (s.heap.push { cls:=.type "dict", data:=.dict #[] }) (aL B.nm sc)=h') (hL:(s.heap.push { cls:=.type "dict", data:=.dict #[] }).objs.size=s.heap.objs.size+1)
  (hfk:∀x,sc.lookup x=some .free->(pe.kindOf (B.nm x)=some .cell\/pe.kindOf (B.nm x)=some .free)/\∃c,pe.cells.lookup (B.nm x)=some c) (hkin:∀x kk,sc.lookup x=some kk->(if(kk==NameKind.free&&pe.scope.kind==.function&&pe.kindOf (B.nm x)==some .cell)=true then NameKind.cell else kk)=(if kk=.free/\Γ x=some .cell then .cell else kk)) (hclo:∀x,cl.lookup (B.nm x)=if sc.lookup x=some .free then pe.cells.lookup (B.nm x) else none):
  Q (newEnv (bA B.nm sc) s.heap.objs.size pe.globals (BJ (s.heap.objs.size+1) (aL B.nm sc) cl) pe.qual none .none (some pe) Bq) { s with heap:=h' }:=by
 have hsz:=cK O (aL B.nm sc) (s.heap.push { cls:=.type "dict", data:=.dict #[] })
 replace hsz:=hh'▸hsz;have keep:∀b o,s.heap.get? b=some o->h'.get? b=some o:=fun b o e=>hh'▸DA _ _ b o (z9 _ e);have eff:az B s { s with heap:=h' }:=fD O keep (by show s.heap.objs.size<=h'.objs.size;lia) rfl rfl;have cf:=fun x=>cZ O x sc (s.heap.push { cls:=.type "dict", data:=.dict #[] }) cl hsc.nd
 replace cf:=hL▸cf;simp only[hh'] at cf;have hcell:∀x c,(BJ (s.heap.objs.size+1) (aL B.nm sc) cl).lookup (B.nm x)=some c->(sc.lookup x=some .cell/\s.heap.objs.size+1<=c/\c < h'.objs.size/\h'.IsCell c none)\/(sc.lookup x=some .free/\pe.cells.lookup (B.nm x)=some c):=fun x c e=>by
  by_cases hx:sc.lookup x=some .cell
  ·refine x13 ((cf x).1 hx) fun c' e1 e2 e3 e4=>?_
   obtain rfl:=zG (e1.symm.trans e);exact .inl ⟨hx,e2,e3,e4⟩
  ·replace e:=(hclo _)▸((cf x).2 hx)▸e
   split at e
   ·exact .inr ⟨by assumption,e⟩
   ·exact ai e
 have nlt:∀b,b < s.heap.objs.size->¬(s.heap.objs.size<=b/\b < h'.objs.size):=fun b q z=>zJ _ (zI q z.1);have clt:∀x c,pe.cells.lookup (B.nm x)=some c->c < s.heap.objs.size:=fun x c e=>by
  refine aS (X.cells x c e) fun p91 J=>?_;obtain⟨v,hv⟩:=p91;exact hv.lt
 have WcLt:∀b,Wc b->b < s.heap.objs.size:=fun b q=>X.wlt b (X.cW b q);have kind:∀x,(DI (bA B.nm sc) pe).names.lookup (B.nm x)=ay Γ sc x:=fun x=>by
  show((aL B.nm sc).map _).lookup (B.nm x)=(sc.lookup x).map _;refine zF (eU O _ _ _) ?_
  cases hx:sc.lookup x with
  |none=>rfl
  |some kk=>simp only[Cd];exact zF (hkin x kk hx) rfl
 have locOut:∀x v,sc.lookup x=some .free->cP B pe s.heap x v->∃c,pe.cells.lookup (B.nm x)=some c/\s.heap.IsCell c (some v):=fun x v hx l=>by
  rcases l with⟨kk,J⟩|⟨kk,c,e,hc⟩
  ·rcases(hfk x hx).1 with h|h<;>(rw[kk] at h;exact nomatch h)
  ·exact⟨c,e,hc⟩
 refine k { s with heap:=h' } (newEnv (bA B.nm sc) s.heap.objs.size pe.globals (BJ (s.heap.objs.size+1) (aL B.nm sc) cl) pe.qual none .none (some pe) Bq) ?_ eff (fun x b hx hb=>by
  rcases hb with rfl|hb
  ·exact⟨zW _,by show s.heap.objs.size < h'.objs.size;lia⟩
  ·rcases hcell x b hb with⟨J,h1,h2,J⟩|⟨hf,J⟩
   ·exact⟨AX h1,h2⟩
   ·rcases hx with hx|hx<;>(rw[hf] at hx;exact nomatch hx)) (zW _)
 have X':=X.move O eff;have up:∀d v,av B s.heap W d v->av B h' (bB W fun b=>s.heap.objs.size<=b/\b < h'.objs.size) d v:=fun d v r=>
  av.move O (fun b o J e=>keep b o e) (fun b q=>q.elim .inl fun z=>.inr (AG z.1)) d v r
 exact{
  good:=X'.good
  fn:=rfl
  glob:=X.glob
  blt:=X.blt
  tW:=X.tW
  cW:=fun b q=>.inl (X.cW b q)
  wlt:=fun b q=>q.elim (fun z=>X'.wlt b z) fun z=>z.2
  loc:=by
   refine⟨_,BO.keeps (BO.new s.heap (.type "dict")) fun b o e=>?_,rfl⟩
   exact hh'▸DA _ _ b o e
  locW:=⟨.inr ⟨zW _,by show s.heap.objs.size < h'.objs.size;lia⟩,fun q=>zJ _ (WcLt _ q)⟩
  ow:=fun b q n=>q.elim (fun z=>X.ow b z n) fun z=>X.good.hi z.1
  code:=X.code
  kinds:=fun x kk hx=>by
   refine⟨by show(DI (bA B.nm sc) pe).names.lookup (B.nm x)=_;exact zF (kind x)<|zF hx rfl,fun hc=>?_⟩;show ∃c,(BJ (s.heap.objs.size+1) (aL B.nm sc) cl).lookup (B.nm x)=some c;replace hx:(sc.lookup x).map _=some kk:=hx
   cases hs:sc.lookup x with
   |none=>replace hx:=hs▸hx;exact ai hx
   |some k0=>
    rw[hs] at hx;simp only[Cd,zV] at hx
    by_cases hf:k0=.free
    ·subst hf
     refine x1 ((hfk x hs).2) fun c hc=>?_;refine⟨c,?_⟩;refine zF ((cf x).2 (by refine zF hs ?_;simp))<|zF (hclo _)<|zF (if_pos hs) ?_;exact hc
    ·simp only[hf,false_and,if_false] at hx
     subst hx;rcases hc with rfl|rfl
     ·refine am ((cf x).1 hs) fun c e J=>?_
      exact⟨c,e⟩
     ·exact absurd rfl hf
  cells:=fun x c e=>by
   rcases hcell x c e with⟨J,h1,h2,h3⟩|⟨J,h1⟩
   ·exact⟨⟨_,h3⟩,fun t=>zJ _ (zI (WcLt _ (X.tW _ t)) (AX h1))⟩
   ·refine aS (X.cells x c h1) fun p91 ht=>?_
    obtain⟨v,hv⟩:=p91;exact⟨⟨v,CU hv keep⟩,ht⟩
  apart:=by
   refine dm O _ _ _ (fun z hz=>?_) ?_
   ·obtain⟨n,c⟩:=z
    replace hz:=(AM hcl)▸hz;rcases jp O pe sc [] n c hz with h|⟨q,hq,hf,rfl,hc⟩
    ·exact aG h
    ·refine x1 ((hfk q.1 (by obtain⟨a,b⟩:=q;cases hf;exact bp O hsc.nd hq)).2) fun c' hc'=>?_
     rw[hc'] at hc;simp only[EL] at hc;subst hc;exact By (clt _ _ hc')
   ·refine zF (AM hcl) ?_
    exact f9 O X.apart sc [] hsc.nd (fun q hq hf=>by
     refine x1 ((hfk q.1 (by obtain⟨a,b⟩:=q;cases hf;exact bp O hsc.nd hq)).2) fun c' hc'=>?_
     refine zF hc' ?_;rfl) AW (fun z hz=>by exact aG hz)
  cellW:=fun x c e=>by
   rcases hcell x c e with⟨J,h1,h2,h3⟩|⟨hf,h1⟩
   ·exact .inr ⟨.inr ⟨AX h1,h2⟩,fun q=>zJ _ (zI (WcLt _ q) (AX h1))⟩
   ·rcases X.cellW x c h1 with⟨d,hd⟩|z
    ·exact .inl ⟨d,by unfold ac.cut;refine zF (if_pos hf) ?_;exact hd⟩
    ·exact .inr ⟨.inl z.1,z.2⟩
  vars:=fun x en hx=>by
   unfold ac.cut at hx
   split at hx
   ·rename_i hf
    refine am (X.vars x en hx) fun v l r=>?_;refine am (locOut x v hf l) fun c hc hv=>?_;refine⟨v,.inr ⟨?_,c,?_,CU hv keep⟩,?_⟩
    ·show(DI (bA B.nm sc) pe).names.lookup (B.nm x)=_\/(DI (bA B.nm sc) pe).names.lookup (B.nm x)=_
     refine zF (kind x) ?_;show(sc.lookup x).map _=_\/(sc.lookup x).map _=_;refine zF hf ?_;simp only[Cd,true_and]
     split<;>simp
    ·show(BJ (s.heap.objs.size+1) (aL B.nm sc) cl).lookup (B.nm x)=some c
     refine zF ((cf x).2 (by refine zF hf ?_;simp))<|zF (hclo _)<|zF (if_pos hf) ?_;exact hc
    ·exact r.map up (fun d u r=>aa.move O (fun b o J e=>keep b o e) (fun b q=>q.elim .inl fun z=>.inr (AG z.1)) d u r) (fun c o w q=>⟨keep c o q,fun z=>z.elim w fun z=>zJ _ (zI (Al q) z.1)⟩) (fun b J w wc J=>⟨⟨.inl w,wc⟩,fun o q=>keep b o q⟩) fun b w J=>CN (X.wlt _ w)
   ·exact ai hx
  sealedW:=fun x hx=>by
   refine x1 hx fun d hx=>?_;unfold ac.cut at hx;refine mA hx fun hf hx=>?_;refine am (X.sealedW x ⟨d,hx⟩) fun c h1 h2=>?_;refine⟨c,?_,fun q=>q.elim h2 (nlt _ (clt _ _ h1))⟩;show(BJ (s.heap.objs.size+1) (aL B.nm sc) cl).lookup (B.nm x)=some c;refine zF ((cf x).2 (by refine zF hf ?_;simp))<|zF (hclo _)<|zF (if_pos hf) ?_;exact h1
  owns:=fun x y e e' u u' a hx hy lx ly o1 o2=>by
   unfold ac.cut at hx hy;refine mA hx fun hfx hx=>?_;refine mA hy fun hfy hy=>?_;refine am (X.vars x _ hx) fun v l1 r1=>?_;refine am (X.vars y _ hy) fun v' l2 r2=>?_;have back:∀z w,sc.lookup z=some .free->cP B pe s.heap z w->∀w',cP B { newEnv (bA B.nm sc) s.heap.objs.size pe.globals (BJ (s.heap.objs.size+1) (aL B.nm sc) cl) pe.qual none .none (some pe) Bq with scope:=DI (bA B.nm sc) pe } h' z w'->w'=w:=by
    intro z w hf l w' l';refine am (locOut z w hf l) fun c hc hv=>?_;refine cP.uniq l' (.inr ⟨?_,c,?_,CU hv keep⟩)
    ·show(DI (bA B.nm sc) pe).names.lookup (B.nm z)=_\/(DI (bA B.nm sc) pe).names.lookup (B.nm z)=_
     refine zF (kind z) ?_;show(sc.lookup z).map _=_\/(sc.lookup z).map _=_;refine zF hf ?_;simp only[Cd,true_and]
     split<;>simp
    ·show(BJ (s.heap.objs.size+1) (aL B.nm sc) cl).lookup (B.nm z)=some c
     refine zF ((cf z).2 (by refine zF hf ?_;simp))<|zF (hclo _)<|zF (if_pos hf) ?_;exact hc
   have e1:=back x v hfx l1 _ lx;have e2:=back y v' hfy l2 _ ly;subst e1;subst e2
   exact X.owns x y e e' _ _ a hx hy l1 l2 (aM.back r1 (fun c o J q=>keep c o q) o1) (aM.back r2 (fun c o J q=>keep c o q) o2) }
theorem rL {sc:LK}{E:VS}{Q:Env->zL->Prop}(hsc:jU Γ sc)(X:Ctx B Γ Wc W pe ρ s)
  (k:∀s' cenv,Ctx B (ay Γ sc) Wc (bB W fun b=>s.heap.objs.size<=b/\b < s'.heap.objs.size) { cenv with scope:=DI (bA B.nm sc) pe } (ρ.cut sc) s'->az B s s'->(∀x b,sc.lookup x=some .local\/sc.lookup x=some .cell->(zP B { cenv with scope:=DI (bA B.nm sc) pe } x).a b->s.heap.objs.size<=b/\b < s'.heap.objs.size)->s.heap.objs.size<=cenv.locals->Q cenv s'):
  wpAny B.M A (FW (bA B.nm sc) pe.globals (gN B.nm pe sc []) [] pe.qual none .none (some pe)) Q E s:=by
 refine zK (show wpAny _ _ (alloc { cls:=.type "dict", data:=.dict #[] }) _ _ _ from wpAny_alloc ?_)
 refine zK (wpAny_layCells _ (fun name kind cells=>by cases hkc:kind==NameKind.cell<;>simp only[hkc]) _ _ _ _ ?_);refine zK (show wpAny _ _ (pure PUnit.unit) _ _ _ from zR (zR ?_));refine zF (show(s.heap.push { cls:=.type "dict", data:=.dict #[] }).objs.size=s.heap.objs.size+1 from Aq ..) ?_
 refine zF (show(bA B.nm sc).names=aL B.nm sc from rfl) ?_;exact zd O hsc X k rfl rfl (Aq ..) (yZ O hsc X) (env_kin O hsc X) (env_clo O hsc (yZ O hsc X))
end
end Mine
namespace Mine
variable {B:Bs}{K:Nat}
section
variable (O:B.Ok)
include O
variable {Γ:ah}{ρ:ac}{Wc W:AP}{pe:Env}{A:Av}{s:zL}
theorem iK {sc:LK}(hsc:jU Γ sc)(X:Ctx B Γ Wc W pe ρ s):Eh (bA B.nm sc) pe=pure (gN B.nm pe sc []):=by
 refine tv O pe sc ?_;rintro⟨x,kk⟩ hq hf
 cases hf
 rcases hsc.free x (bp O hsc.nd hq) with h|h
 ·refine x1 ((X.kinds _ _ h).2 (.inl rfl)) fun c hc=>?_;refine zF hc ?_;rfl
 ·refine x1 ((X.kinds _ _ h).2 (.inr rfl)) fun c hc=>?_;refine zF hc ?_;rfl
theorem kq {sc:LK}(hsc:jU Γ sc):∀x∈(bA B.nm sc).names,x.2=.local->(bA B.nm sc).names.lookup x.1=some .local:=by
 intro y hy hk;refine am (Ac.mp hy) fun q hq e91=>?_;subst e91;show(aL B.nm sc).lookup (B.nm q.1)=_;refine zF (cX O _ _) ?_;obtain⟨x,k⟩:=q
 cases hk
 exact bp O hsc.nd hq
theorem jP {fr:Bool}{K:Nat}{Φ:bq}{elt:E}{t:Tg}{itE:E}{ifs:List E}{r:List Gn}{sc:LK}{p:Pos}{r1:Mine.R}{items l:List D}{use:Option (Value->Sem Unit)}{Ex:VS}{Q:VS}
  (hfr:fr=true->FrE B K Φ elt/\r=[]) (RK:aB A K) (R20:aB A (K - 4)) (helt:aW B K Φ elt) (hit:aW B K Φ itE) (hifs:jT B K Φ ifs) (hr:iw B K Φ r) (hsc:jU Γ sc) (X:Ctx B Γ Wc W pe ρ s) (h1:ev Φ Γ ρ itE=some r1) (hi:r1.asI=some items)
  (hl:dI sc t (fun ρ'=>do
     let c <-uR Φ (ay Γ sc) ρ' ifs
     if c then evG Φ sc (ay Γ sc) r (fun ρ''=>do (<-ev Φ (ay Γ sc) ρ'' elt).asD) ρ' else some []) (ρ.cut sc) items=some l) (hlim:l.length<=lim)
  (k:∀s' a C,az B s s'->Ctx B Γ Wc W pe ρ s'->av B s'.heap (bB W fun b=>b=C) (.list l) (.ref a)->s.heap.objs.size<=a->s.heap.objs.size<=C->(∃m,s'.heap.Ns C m/\m (cz [9000])=none)->C < s'.heap.objs.size->a≠C->(∃vs n,s'.heap.get? a=some { cls:=.type "list", dict:=none,data:=.seq vs n,slots:=#[] }/\aa B s'.heap (fun b=>W b\/b=C\/b=a) l vs.toList/\(fr=true->jX (a+1) vs.toList s'.heap))->compPost B.M A Ex use Q (.ref a) C (.ok .next) s'):
  wpAny B.M A (ET (.ListComp (elt.py B.nm) (pf B.nm (.mk t itE ifs::r)) (bA B.nm sc) p) (bA B.nm sc) pe (Ff (pf B.nm (.mk t itE ifs::r)) p) (newList []) false (eval (itE.py B.nm) pe) use) Q Ex s:=by
 refine Gd (use:=use) (g:=⟨t.py B.nm,itE.py B.nm,eN B.nm ifs,0⟩) (gs:=pf B.nm r) rfl (fun x=>kR O _ _ _ _) (iK O hsc X) rfl (kq O hsc) ?_;refine Ak (hit _ _ _ h1 _ _ _ _ _ X RK) ?_ fun J J f=>f.elim;rintro v1 s1 ⟨e1,q1⟩;have X1:=X.move O e1;refine pA O hi X1.tW' X1.wlt X1.good R20 e1 q1 fun it F pv I s2 at2 hlen2 e2=>?_;refine x04 at2 fun ok hI hF hp hg=>?_;refine Bz ?_;have e03:az B s { s2 with heap:=s2.heap.push { cls:=.type "list", data:=.seq ([]:List Value).toArray } }:=(e1.trans e2).trans (az.push O _ s2.toks)
 have hs3:({ s2 with heap:=s2.heap.push { cls:=.type "list", data:=.seq ([]:List Value).toArray } }:zL).heap.objs.size=s2.heap.objs.size+1:=Aq ..
 have hsub:=ok.sub _ _ _ hI;have hN:∀b,(pv.a b\/b=s2.heap.objs.size)->s.heap.objs.size<=b/\b < ({ s2 with heap:=s2.heap.push { cls:=.type "list", data:=.seq ([]:List Value).toArray } }:zL).heap.objs.size:=fun b q=>by
  refine zF hs3 ?_;rcases q with q|rfl
  ·exact⟨hp b q,By (hsub b q).2.2⟩
  ·exact⟨(e1.trans e2).size,AL _⟩
 have X3:=Ctx.grow O X (e03.toP ⟨fun J=>False,fun J=>False⟩) (fun b q=>q.elim) (fun b q=>q.elim) hN;have hobj:({ s2 with heap:=s2.heap.push { cls:=.type "list", data:=.seq ([]:List Value).toArray } }:zL).heap.get? s2.heap.objs.size=some { cls:=.type "list", dict:=none,data:=.seq #[] 0,slots:=#[] }:=Aj _ rfl
 have e23:az B s2 { s2 with heap:=s2.heap.push { cls:=.type "list", data:=.seq ([]:List Value).toArray } }:=az.push O _ s2.toks
 generalize hS3:({ s2 with heap:=s2.heap.push { cls:=.type "list", data:=.seq ([]:List Value).toArray } }:zL)=s3 at *
 have hhi:B.Hi s2.heap.objs.size:=X.good.hi (e1.trans e2).size;refine rL O hsc X3 fun s4 cenv X4 e34 hz4 hL=>?_;have e24:=e23.trans e34;have e04:=e03.trans e34;have hD4:=e34.keep _ _ (fX O hhi) hobj;have I4:I items pv s4:=ok.stay _ _ _ _ hI (fun b o nt J z=>e24.keep b o nt z) e24.ck e24.size (fun i y J z=>e24.gens i y z) X4.good;have hDp:¬pv.a s2.heap.objs.size:=fun q=>zJ _ (hsub _ q).2.2;refine f7 O (g:=⟨t.py B.nm,itE.py B.nm,eN B.nm ifs,0⟩) rfl rfl rfl rfl rfl ok I4 X4.good R20 ?_;have hs23:s2.heap.objs.size < s3.heap.objs.size:=by refine zF hs3 ?_;exact AL _
 refine uH O (Z:=fun b=>s3.heap.objs.size<=b/\b < s4.heap.objs.size) hz4 RK R20 helt (fun z=>(hfr z).1) r (fun z=>(hfr z).2) hr t itE ifs hifs 0 rfl it F I ok items (ρ.cut sc) l _ s4 _ _ pv #[] 0 hl ?_ X4 I4 ?_ ?_ ⟨hD4,.inr (.inr rfl),hhi⟩ hDp (by simpa using hlim) ?_
 ·intro b q
  refine⟨.inr q,fun w=>?_⟩;exact zJ _ (zI (X3.wlt b (X3.cW b w)) q.1)
 ·intro b q
  refine aS (hF b q) fun f1 f2=>?_;refine⟨fun w=>?_,zI f2 e24.size⟩;rcases w with(w|w|w)|w
  ·exact f1 w
  ·exact(hsub b w).1 q
  ·subst w;exact zJ _ f2
  ·exact zJ _ (zI (BU f2 hs23) w.1)
 ·intro b q
  exact⟨.inr (.inl q),X.good.hi (hp b q)⟩
 ·intro s' Wc' W' vs' n' X' g' hD' r' e' fl'
  have fin:az B s s':=ao.toEff e04 e' (fun b q=>by
   rcases q with q|q|rfl
   ·exact zH e03.size q.1
   ·exact hp b q
   ·exact(e1.trans e2).size) (fun i q=>hg i q)
  have hLW:(bB (bB W fun b=>pv.a b\/b=s2.heap.objs.size) fun b=>s3.heap.objs.size<=b/\b < s4.heap.objs.size) cenv.locals:=X4.locW.1;refine k s' s2.heap.objs.size cenv.locals fin (X.move O fin) ?_ (e1.trans e2).size (zH e03.size hL) X'.loc (X'.wlt _ X'.locW.1) (fun q=>?_) ⟨vs'.toArray,n',by simpa using hD',?_,fun z=>?_⟩
  ·simp only[av]
   refine⟨_,_,n',rfl,fun w=>?_,by simpa using hD',hlim,?_⟩
   ·rcases w with w|w
    ·exact zJ _ (zI (X.wlt _ w) (e1.trans e2).size)
    ·rw[<-w] at hL
     exact zJ _ (zI hs23 hL)
   ·simp only[BG]
    exact aa.less O r' fun b q=>q.elim (fun q=>g'.w b (.inl (.inl q))) fun q=>q▸g'.w _ hLW
  ·replace hL:=(AM q)▸hL
   exact zJ _ (zI hs23 hL)
  ·simp only[BG]
   exact aa.less O r' fun b q=>q.elim (fun q=>g'.w b (.inl (.inl q))) fun q=>q.elim (fun q=>q▸g'.w _ hLW) fun q=>g'.w b (.inl (.inr (.inr q)))
  ·have f:=fl' z
   refine zF BG ?_;refine⟨f.nd,fun v hv=>?_⟩;refine lM (f.at' v hv) fun b m e h1 h2=>?_;exact⟨b,m,e,zH (zH hs23 e34.size) h1,h2⟩
theorem xt {K:Nat}{Φ:bq}{elt:E}{t:Tg}{itE:E}{ifs:List E}{r:List Gn}{sc:LK}{p:Pos}(hK:20<=K)(helt:aW B K Φ elt)(hit:aW B K Φ itE)(hifs:jT B K Φ ifs)(hr:iw B K Φ r):aW B K Φ (.comp elt (.mk t itE ifs::r) sc p):=by
 intro Γ ρ rr h Wc W pe A s X R;have R20:aB A (K - 4):=⟨R.handled,Ay (AA (CJ _ _) _) R.depth,Ay (AD (AA (Bh 3 (CJ _ _)) _) _) R.units⟩;simp only[fB] at h
 split at h
 case isFalse=>exact ai h
 rename_i hsc
 simp only[zQ,zO,Aa,uD] at h;refine nM h fun r1 h1 items hi l hl d hd e91=>?_;subst e91;refine ifk hd fun hlim e95=>?_;subst e95;refine zF jt<|zF (Fi _ _ _ _ _) ?_
 refine jP O (fr:=false) (use:=none) (fun z=>bG z) R R20 helt hit hifs hr (eS O hsc) X h1 hi hl hlim fun s' a C e X' ra ha hC hns hlt hne J=>?_;refine am hns fun m hm hz=>?_;refine⟨m,hm,fun h' hs'=>?_⟩;have ec:ao B ⟨fun b=>b=C,fun J=>False⟩ s' { s' with heap:=h' }:=by
  have:=cg O (s:=s') (h':=h') (t:=s'.toks) (a:=C) (fun t=>zJ _ (zI (X.wlt _ (X.tW' _ t)) hC)) (hV hm hz) hs';exact this
 have ef:az B s { s' with heap:=h' }:=ao.toEff e ec (fun b q=>q▸hC) (fun i q=>q.elim);refine⟨ef,?_⟩;refine av.move O (ec.kW (fun b t=>.inl (X.tW' _ t)) fun b w=>.inr w) (fun b q=>.inl (.inl q)) _ _ ra
end
end Mine
namespace Mine
variable {B:Bs}
theorem nu {pos:Pos}{v:Value}(a b:Int)(c:Value)(l:List Value)(h:TriplesOk l)(hn:EJ pos (l++[Dz a,Dz b,c])=some v):EJ pos l=some v\/v=c:=by
 fun_induction TriplesOk l with
 |case1=>
  simp only[E9,EJ,Dz] at hn
  split at hn
  ·obtain rfl:=zG hn;exact .inr rfl
  ·exact ai hn
 |case2 a' t b' u x rest ih=>
  simp only[EW,EJ] at hn ⊢
  split at hn
  ·rename_i hc;refine zF (if_pos hc) ?_;exact .inl hn
  ·rename_i hc;refine zF (if_neg hc) ?_;exact ih h hn
 |case3 l h1 h2=>exact h.elim
section
variable (O:B.Ok)
include O
variable {Γ:ah}{ρ:ac}{Wc W:AP}{pe:Env}{A:Av}{s:zL}
structure MadeFn (B:Bs)(params:Arguments)(body:Fn)(scope:Scope)(qual:Str)(clos:List (Str×Addr))(h:Heap)(fd:BD):Prop where
 params:fd.params=params
 body:fd.body=body
 scope:fd.scope=scope
 glob:fd.globals=AE
 blt:fd.builtins=Bq
 dfl:fd.defaults=.none/\fd.kwdefaults=.none
 qual:fd.qualname=qual
 clos:fd.closure=clos
 code:gU h fd.code fd.qualname
theorem code_ok {f:Nat}{c P:Addr}{pos:Pos}{fl:Nat}{name:Str}{params:Arguments}{body:Fn}{scope:Scope}{E:VS}{Q:VS}(hCT:B.CT f=some (c,P))(hcode:pe.code=.ref c)(g:aJ B s)
  (k:∀v s',az B s s'->gU s'.heap v (B.qf f)->Q v s'):wpAny B.M A (functionCode pe pos fl name (B.qf f) params scope body) Q E s:=by
 refine x04 (O.hd f c P hCT) fun hd ncT hgP J J=>?_;have hd':CodeHd s.heap c P:=by
  refine x91 hd fun o vs file tf flags tg inF text tt e r=>?_;exact⟨o,vs,file,tf,flags,tg,inF,text,tt,g.base _ _ ncT e,r⟩
 refine oQ (g.ti.2 f c P hCT) fun ps hP ht hcodes=>?_
 cases hf:EJ pos ps.toList with
 |some v=>exact wpAny_functionCode_hit hcode (hd'.code hP ht) hf (k v s (az.refl _) (hcodes _ _ hf))
 |none=>
  refine Mine.rZ (wpAny_functionCodeX hcode (hd'.code hP ht) (hd'.tab hP) hf fun c' h' tk hx hge hlt hic hrec htb hnew hsz=>?_);have hnc:∀o,s.heap.get? P=some o->¬B.KO o:=fun o e ic=>by obtain rfl:=zG (hP.symm.trans e);exact(yr ic).elim (fun z=>nomatch z) fun z=>nomatch z
  have hcode':gU h' (.ref c') (B.qf f):=by
   refine x13 hnew fun P' J J p91 J=>?_;obtain⟨o,vs,e1,e2,e3,J⟩:=p91;refine x43 hrec fun c'' o' vs' t e e1' e3' e4'=>?_
   cases e
   obtain rfl:=zG (e1.symm.trans e1');exact⟨c',o,vs',t,rfl,e1,⟨e2,vs',e3'⟩,e3',e4'⟩
  have PT:B.T P:=.inl ⟨f,c,hCT⟩;refine k (.ref c') _ ⟨fun b o nt e=>hx b o (fun q=>nt (q▸PT)) e,fun b o ic e=>hx b o (fun q=>hnc o (q▸e) ic) e,hsz,fun J=>?_,fun J J e=>e,id,rfl⟩ hcode';refine⟨fun x ex=>?_,?_⟩
  ·obtain⟨t,n,gx⟩|⟨t,t',n,q,o,gx,nt,go,ko,sy⟩:=g.ti.1 x ex
   ·exact .raw t n (hx _ _ (fun z=>by rw[z,hP] at gx;exact nomatch gx) gx)
   ·exact .made t t' n q o (hx _ _ (fun z=>by rw[z,hP] at gx;exact nomatch gx) gx) nt (hx _ _ (fun z=>hnc o (z▸go) (.inr ko)) go) ko sy
  intro f2 c2 P2 e2
  by_cases hPP:P2=P
  ·subst hPP
   refine aS (O.ctinj _ _ _ _ _ hCT e2) fun e91=>?_;subst e91;intro e92;subst e92;refine⟨_,htb.2,?_,fun pos' v hv=>?_⟩
   ·refine zF (show(ps++#[Dz pos.line,Dz pos.col,Value.ref c']).toList=ps.toList++[Dz pos.line,Dz pos.col,.ref c'] by simp) ?_
    exact TriplesOk_snoc _ _ _ _ ht
   ·replace hv:=(show(ps++#[Dz pos.line,Dz pos.col,Value.ref c']).toList=ps.toList++[Dz pos.line,Dz pos.col,.ref c'] by simp)▸hv
    rcases nu _ _ _ _ ht hv with q|rfl
    ·exact(hcodes _ _ q).keep (B:=B) fun b o ic e=>hx b o (fun q=>hnc o (q▸e) ic) e
    ·exact hcode'
  ·refine oQ (g.ti.2 f2 c2 P2 e2) fun ps2 h1 h2 h3=>?_
   exact⟨ps2,hx _ _ hPP h1,h2,fun pos' v hv=>(h3 pos' v hv).keep (B:=B) fun b o ic e=>hx b o (fun q=>hnc o (q▸e) ic) e⟩
theorem make_fn {f:Nat}{c P:Addr}{clos:List (Str×Addr)}{pos:Pos}{fl:Nat}{name:Str}{params:Arguments}{body:Fn}{scope:Scope}{E:VS}{Q:VS}(hCT:B.CT f=some (c,P))(hcode:pe.code=.ref c)(hge:pe.globals=AE)
  (hcl:Eh scope pe=pure clos) (g:aJ B s) (hdoc:∀b,body=.stmts b->docOf b=none)
  (k:∀s' fa fd,az B s s'->s.heap.objs.size<=fa->s'.heap.get? fa=some { cls:=.type "function", data:=.func fd }->MadeFn B params body scope (B.qf f) clos s'.heap fd->Q (.ref fa) s'):
  wpAny B.M A (GF name (B.qf f) params body scope pe [] [] [] pos fl) Q E s:=by
 refine x04 (O.hd f c P hCT) fun J J J hb hbT=>?_;refine zF (makeFunction_eq _ _ _ _ _ _ _ _ _ _ _)<|zF (Gz (l:=params.kwonlyargs)) ?_
 refine zK (zR (zK (zR (zK (zR ?_)))));show wpAny B.M A (makeTail name (B.qf f) params body scope pe .none .none none pos fl) Q E s;unfold makeTail;refine zF hcl<|zF hge ?_
 refine zK (zR ?_)
 have main:∀(s1:zL) (ctv:Value),az B s s1->aJ B s1->wpAny B.M A (do
   let cdv <-functionCode pe pos fl name (B.qf f) params scope body
   let bl <-builtinsFor AE pe.builtins
   let nm <-nsGet AE "__name__"
   let doc <-match body with
    |.stmts b=>(match docOf b with|some s=>mkText s|none=>pure .none)
    |.expr _=>pure .none
   newObj (.type "function") (.func { name,qualname:=B.qf f,params,body,scope,globals:=AE,closure:=clos,closureTuple:=ctv,code:=cdv,builtins:=bl,defaults:=.none,kwdefaults:=.none,annotations:=none,pyModule:=nm.getD .none,doc:=doc })) Q E s1:=by
  intro s1 ctv e1 g1;refine zK (code_ok O hCT hcode g1 fun cdv s2 e2 hc2=>?_);have g2:=g1.move e2;refine x27 hb fun bm ob hbm hne0 J hneP hbo hcls hdict hdata=>?_;have hg':s2.heap.Ns AE B.mg:=BO.moved O.g fun o e=>g2.base _ _ O.gT e;refine zK (wpAny_builtinsFor hg' hbm hne0 (g2.base _ _ (hbT bm hbm) hbo) hcls hdict hdata ?_);refine zK (wpAny_nsGet hg' ?_);have fin:∀doc:Value,wpAny B.M A (newObj (.type "function") (.func { name,qualname:=B.qf f,params,body,scope,globals:=AE,closure:=clos,closureTuple:=ctv,code:=cdv,builtins:=Bq,defaults:=.none,kwdefaults:=.none,annotations:=none,pyModule:=(B.mg "__name__").getD .none,doc:=doc })) Q E s2:=by
   intro doc;refine Bz ?_ (by size_fits);have ef:=(e1.trans e2).trans (az.push O { cls:=.type "function", data:=.func { name,qualname:=B.qf f,params,body,scope,globals:=AE,closure:=clos,closureTuple:=ctv,code:=cdv,builtins:=Bq,defaults:=.none,kwdefaults:=.none,annotations:=none,pyModule:=(B.mg "__name__").getD .none,doc:=doc } } s2.toks)
   exact k _ _ _ ef (e1.trans e2).size (Aj _ rfl) ⟨rfl,rfl,rfl,rfl,rfl,⟨rfl,rfl⟩,rfl,rfl,hc2.keep (B:=B) fun b o J e=>z9 _ e⟩
  cases body with
  |expr e=>exact zK (zR (fin _))
  |stmts b=>
   have hd:=hdoc b rfl;dsimp only;refine zF hd ?_;exact zK (zR (fin _))
 cases clos with
 |nil=>
  exact zK (zR (main s .none (az.refl _) g))
 |cons q r=>
  exact zK (wpAny_newTextTuple (main _ _ (az.push O _ s.toks) (g.move (az.push O _ s.toks))))
theorem xv {K:Nat}{Φ:bq}{b:Bool}{p:Pos}:aW B K Φ (.bool b p):=by
 intro Γ ρ r h Wc W pe A s X R;simp only[nC,zV] at h;subst h;exact Constant_bool ⟨az.refl _,by simp only[cu,av]⟩
structure vn (B:Bs)(id f:Nat)(ps:List (Nat×Pos))(body:E)(sc:LK):Prop where
 ls:B.LS id=some ⟨aP B.nm ps,.expr (body.py B.nm),bA B.nm sc,B.qf f,aD sc⟩
 qf:B.qf f=B.pq f++("<lambda>" : Str)
 ct:∃c P,B.CT f=some (c,P)
set_option tactic.hygienic true in
theorem vb:∀(fr:List Nat)(caps:List D),fr.mapM (fun x=>match ρ x with|some (.sealed d)=>some d|_=>none)=some caps->Ctx B Γ Wc W pe ρ s->(∀x∈fr,pe.kindOf (B.nm x)=some .cell\/pe.kindOf (B.nm x)=some .free)->
  ∃cv:List Value,cv.length=fr.length/\aa B s.heap W caps cv/\∀(i x:Nat) (v:Value),fr[i]?=some x->cv[i]?=some v->∃c,pe.cells.lookup (B.nm x)=some c/\¬W c/\s.heap.IsCell c (some v)
 |[],caps,h,X,_=>by
  simp only[List.mapM_nil,GK,zV] at h;subst h;exact⟨[],rfl,aa.nil,fun i x v e=>by simp at e⟩
 |x::fr,caps,h,X,hk=>by
  simp only[CC,zQ,zO,GK,zV] at h;refine ke h fun d hd caps' hc e91=>?_;subst e91;refine oQ (vb fr caps' hc X fun y hy=>hk y (zT _ hy)) fun cv h1 h2 h3=>?_
  split at hd
  ·rename_i d' hx
   obtain rfl:=zG hd;refine am (X.vars x _ hx) fun v l rv=>?_;refine am (X.sealedW x ⟨_,hx⟩) fun c e1 e2=>?_;refine⟨v::cv,by simp[h1],aa.cons rv h2,fun i y w hi hv=>?_⟩
   cases i with
   |zero=>
    simp only[DT,zV] at hi hv;subst hi;subst hv;refine⟨c,e1,e2,?_⟩;rcases l with⟨hl,m,n,J⟩|⟨J,c',e3,hc'⟩
    ·rcases hk x zU with q|q<;>(rw[hl] at q;exact nomatch q)
    ·obtain rfl:=zG (e1.symm.trans e3);exact hc'
   |succ i=>exact h3 i y w (by simpa using hi) (by simpa using hv)
  ·exact ai hd
theorem yc {id f fl:Nat}{name:Str}{params:Arguments}{body:Fn}{scope:Scope}{sc:LK}{p:Pos}{caps:List D}(hls:B.LS id=some ⟨params,body,scope,B.qf f,aD sc⟩)(hct:∃c P,B.CT f=some (c,P))
  (hclos:Eh scope pe=Eh (bA B.nm sc) pe) (hS:jU Γ sc) (hcode:pe.code=B.cd f) (hdoc:∀b,body=.stmts b->docOf b=none) (X:Ctx B Γ Wc W pe ρ s)
  (hcaps:(aD sc).mapM (fun x=>match ρ x with|some (.sealed d)=>some d|_=>none)=some caps):
  wpAny B.M A (GF name (B.qf f) params body scope pe [] [] [] p fl) (fun v s'=>az B s s'/\av B s'.heap W (.lam id caps) v) hY s:=by
 refine x2 hct fun c P hCT=>?_;have hcode:pe.code=.ref c:=by refine zF hcode ?_;unfold Bs.cd;exact zF hCT rfl
 refine make_fn O hCT hcode X.glob (hclos.trans (iK O hS X)) X.good hdoc fun s' fa fd e hfa hobj M=>?_;refine⟨e,?_⟩;have X':=X.move O e;have hfr:∀x,sc.lookup x=some .free↔x∈aD sc:=fun x=>by
  unfold aD;simp only[Ac,Bj]
  constructor
  ·intro hx
   exact⟨(x,.free),⟨b8 O hx,by simp⟩,rfl⟩
  ·rintro⟨⟨y,k⟩,⟨hm,hk⟩,rfl⟩
   have:k=.free:=by simpa using hk
   subst this;exact bp O hS.nd hm
 obtain⟨cv,h1,h2,h3⟩:=vb O (aD sc) caps hcaps X' fun x hx=>by
  rcases hS.free x ((hfr x).mpr hx) with h|h
  ·exact .inl (X.kinds _ _ h).1
  ·exact .inr (X.kinds _ _ h).1
 simp only[av];refine⟨fa,cv,rfl,fun w=>zJ _ (zI (X.wlt _ w) hfa),⟨_,_,fd,hls,hobj,rfl,fun w=>zJ _ (zI (X.wlt _ w) hfa),?_⟩,h2⟩;have hlook:∀x,(gN B.nm pe sc []).lookup (B.nm x)=if sc.lookup x=some .free then some ((pe.cells.lookup (B.nm x)).getD 0) else none:=fun x=>by
  refine zF (dz O pe x sc [] hS.nd) ?_;rfl
 have hsome:∀q∈sc,q.2=.free->(pe.cells.lookup (B.nm q.1)).isSome:=by
  rintro⟨x,kk⟩ hq hf'
  cases hf'
  rcases hS.free x (bp O hS.nd hq) with h|h
  ·refine x1 ((X.kinds _ _ h).2 (.inl rfl)) fun c hc=>?_;refine zF hc ?_;rfl
  ·refine x1 ((X.kinds _ _ h).2 (.inr rfl)) fun c hc=>?_;refine zF hc ?_;rfl
 refine⟨M.params,M.body,M.scope,M.glob,M.blt,M.dfl,M.qual,M.qual▸M.code,h1,fun x c hx=>?_,?_,?_,?_,fun i x v hi hv=>?_⟩
 ·rw[M.clos,hlook] at hx
  split at hx
  ·rename_i hx';exact(hfr x).mp hx'
  ·exact ai hx
 ·refine zF M.clos ?_
  exact jQ O pe sc [] hS.nd AW fun z hz=>by exact aG hz
 ·intro z hz
  rw[M.clos] at hz;obtain⟨n,c⟩:=z;rcases jp O pe sc [] n c hz with h|⟨q,J,J,e,J⟩
  ·exact aG h
  ·exact⟨q.1,e⟩
 ·refine zF M.clos ?_
  exact f9 O X.apart sc [] hS.nd hsome AW fun z hz=>by exact aG hz
 ·refine oQ (h3 i x v hi hv) fun c e1 e2 e3=>?_
  refine⟨c,?_,e2,e3⟩;refine zF M.clos<|zF (hlook _)<|zF (if_pos ((hfr x).mpr (BK hi)))<|zF e1 ?_;rfl
theorem t4 {K:Nat}{Φ:bq}{id f:Nat}{ps:List (Nat×Pos)}{body:E}{sc:LK}{p:Pos}(hl:vn B id f ps body sc):aW B K Φ (.lam id f ps body sc p):=by
 intro Γ ρ r h Wc W pe A s X R;simp only[qm] at h;refine mA h fun hc h=>?_;refine vx hc fun hsc hf hff=>?_;simp only[zQ,zO,zV] at h;refine am h fun caps hcaps e91=>?_;subst e91;rcases X.code with q|⟨q1,q2⟩
 ·exact absurd (hff.symm.trans q) hf
 rw[hff] at q1 q2;show wpAny B.M A (GF "<lambda>" (pe.qual ++ "<lambda>") (aP B.nm ps) (.expr (body.py B.nm)) (bA B.nm sc) pe [] [] [] p p.line) _ _ s
 refine zF q2<|zF (AM hl.qf) ?_
 exact yc O hl.ls hl.ct rfl (eS O hsc) q1 (fun b e=>by exact nomatch e) X hcaps
end
end Mine
namespace Mine
variable {B:Bs}
section
variable (O:B.Ok)
include O
variable {Γ:ah}{ρ:ac}{Wc W:AP}{pe:Env}{A:Av}{s:zL}{K:Nat}{Φ:bq}
set_option tactic.hygienic true in
omit O in
theorem len_inv {n:Nat}:∀{x:D},D.len x=some n->(∃l,x=.str l/\n=l.length)\/(∃l,x=.list l/\n=l.length)\/∃l,x=.tup l/\n=l.length:=fun{x} e=>by
 cases x
 case str l=>obtain rfl:=zG e;exact .inl ⟨l,rfl,rfl⟩
 case list l=>obtain rfl:=zG e;exact .inr (.inl ⟨l,rfl,rfl⟩)
 case tup l=>obtain rfl:=zG e;exact .inr (.inr ⟨l,rfl,rfl⟩)
 all_goals exact ai e
omit O in
theorem yi {n:Nat}(h:n<=lim):(n:Int) < 2 ^ 63:=by unfold lim at h;lia
omit O in
theorem blt_len {n:Nat}{x:D}{v:Value}{E:VS}{Q:VS}(hn:D.len x=some n)(rx:bE B s.heap W x v)(k:∀t tk,Q (.int (n:Int) t) { s with toks:=tk }):wpAny B.M A (call (.builtin "len") [v]) Q E s:=by
 rcases len_inv hn with⟨l,rfl,rfl⟩|⟨ds,rfl,rfl⟩|⟨ds,rfl,rfl⟩
 ·refine am (gy rx) fun t e91=>?_
  subst e91;intro hl;have hlen:(⟨l.toArray⟩:Str).length=l.length:=by simp[Str.length]
  refine P.len_str ?_ ?_
  ·refine zF hlen ?_;exact GS.mpr (yi hl)
  ·refine zF hlen ?_;exact k _ _
 ·obtain⟨a,vs,m,rfl,hg,hl,ra⟩:=rx
  have hsz:=aa.length ra;replace hsz:=An▸hsz;refine len_list ⟨_,hg,rfl,m,rfl⟩ (by refine zF hsz ?_;exact yi hl) ?_;refine zF hsz ?_;exact k _ _
 ·obtain⟨a,vs,m,rfl,hw,hg,hl,ra⟩:=rx
  have hsz:=aa.length ra;rw[An] at hsz;refine PyProof.Rows.len_tuple ⟨_,hg,rfl,m,rfl⟩ (by refine zF hsz ?_;exact yi hl) ?_;refine zF hsz ?_;exact k _ _
theorem blt_chr {x z:D}{v:Value}{E:VS}{Q:VS}(h:D.chr x=some z)(rx:bE B s.heap W x v)(k:∀r s',az B s s'->av B s'.heap W z r->Q r s'):wpAny B.M A (call (.builtin "chr") [v]) Q E s:=by
 refine am (af h) fun i hi h1=>?_;refine aS (aE h1) fun hc e91=>?_;subst e91;have:=int?_eq hi;subst this;refine x1 (pC rx) fun t e91=>?_;subst e91;exact chr_of_range hc.1 (by lia) (k _ _ (az.toks _) (md (l:=[i.toNat]) (show 1<=lim by decide)))
theorem blt_ord {x z:D}{v:Value}{E:VS}{Q:VS}(h:D.ord x=some z)(rx:bE B s.heap W x v)(k:∀r s',az B s s'->av B s'.heap W z r->Q r s'):wpAny B.M A (call (.builtin "ord") [v]) Q E s:=by
 refine am (af h) fun l hl h1=>?_;refine am (aK h1) fun c h2 e91=>?_;subst e91;have:=str?_eq hl;subst this;refine am (gy rx) fun t e91=>?_;subst e91;intro J;unfold oneOf at h2
 split at h2<;>cases h2
 exact P.ord_of_char (k _ _ (az.toks _) i0)
theorem blt_ok {f:Nat}{x z:D}{u v:Value}{E:VS}{Q:VS}(hb:dX f=some u)(h:D.builtin f [x]=some z)(rx:bE B s.heap W x v)
  (k:∀r s',az B s s'->av B s'.heap W z r->Q r s'):wpAny B.M A (call u [v]) Q E s:=by
 refine am (af (show(bltF f).bind (fun g=>g x)=some z from h)) fun g hg hz=>?_;refine bj (P:=fun f g=>dX f=some u->g x=some z->wpAny B.M A (call u [v]) Q E s) ?_ f g hg hb hz;refine zN.mpr ⟨fun hb hz=>?_,zN.mpr ⟨fun hb hz=>?_,zN.mpr ⟨fun hb hz=>?_,fun J hq=>nomatch hq⟩⟩⟩
 ·obtain rfl:=zG hb
  refine am (aK hz) fun n hn e91=>?_;subst e91;exact blt_len hn rx fun t tk=>k _ _ (az.toks _) i0
 ·obtain rfl:=zG hb;exact blt_chr O hz rx k
 ·obtain rfl:=zG hb;exact blt_ord O hz rx k
end
end Mine
namespace Mine
variable {B:Bs}{K:Nat}
theorem aB.less {A:Av}{k k':Nat}(h:aB A k)(hk:k'<=k):aB A k':=⟨h.handled,Ay (AA hk _) h.depth,Ay (AD (AA (Bh 3 hk) _) _) h.units⟩
theorem aB.in1 {A:Av}{k:Nat}(h:aB A (k+1)):aB A.in1 k:=⟨h.handled,by have:=h.depth;show A.depth+k < 950;lia,by have:=h.units;show A.units+1+3 * k+300 < cLine;lia⟩
section
variable (O:B.Ok)
include O
variable {Γ:ah}{ρ:ac}{Wc W:AP}{pe:Env}{A:Av}{s s₀:zL}{K:Nat}{Φ:bq}
end
end Mine
section
open PySem PySem.W PySem.Calls PyProof.Rows PySem.Builtin PySem.Builtin.Str
namespace Mine
variable {B:Bs}{K:Nat}
section
variable (O:B.Ok)
include O
variable {Γ:ah}{ρ:ac}{Wc W:AP}{pe:Env}{A:Av}{s s₀:zL}{K:Nat}{Φ:bq}
theorem useR {e:E}{r:Mine.R}(hS:aW B K Φ e)(h:ev Φ Γ ρ e=some r)(X:Ctx B Γ Wc W pe ρ s)(R:aB A K){E:VS}{Q:VS}
  (k:∀v s',az B s s'->Ctx B Γ Wc W pe ρ s'->cu B K s W r v s'->Q v s'):wpAny B.M A (eval (e.py B.nm) pe) Q E s:=
 Ak (hS Γ ρ r h Wc W pe A s X R) (fun v s' h'=>k v s' h'.1 (X.move O h'.1) h'.2) fun J J f=>f.elim
theorem wV {pe:Env}{p:Pos}(e:E):D2 p (B8 (eN B.nm [e]) pe)=[(false,eval (e.py B.nm) pe)]:=by
 refine zF (bO O _ _ _ _)<|zF aU<|zF (aA _ _ _ _) ?_;rfl
set_option tactic.hygienic true in
theorem vC {e:E}{fp p:Pos}(he:aW B K Φ e):aW B K Φ (.blt 5 [e] fp p):=by
 intro Γ ρ r h Wc W pe A s X R;rw[nD] at h;refine aS (aY h) fun hk h'=>?_;clear h;refine am (af h') fun r1 h1 h=>?_;clear h';refine am (af h) fun d hd h'=>?_;clear h
 split at h'
 case h_2=>exact ai h'
 refine aS (aE h') fun hn e91=>?_;subst e91;clear h';refine Bc (gE O X hk rfl ?_);refine zF (wV O _) ?_;refine callWith_type1 (ci O he h1 hd X R fun v s1 e1 X1 q1=>?_);refine x1 (nf q1) fun t e91=>?_;subst e91
 rename_i n
 have hl:n<=1048576:=hn.2;refine call_range_1 ⟨e1.trans (az.push O _ _),.inl ⟨_,_,_,_,_,_,rfl,fun w=>zJ _ (X1.wlt _ w),Aj _ rfl,⟨⟨by decide,by decide⟩,by show(-1048576:Int)<=n;lia,hn.2⟩,by show _<=1048576;lia,?_⟩⟩;refine zF (Int.sub_zero _) ?_;exact Cr fun i J=>by exact zF (Int.zero_add _) rfl
theorem snd_lst {e:E}{fp p:Pos}:aW B K Φ (.blt 4 [e] fp p):=by
 intro Γ ρ r h;rw[vu] at h;exact ai h
theorem xw {f:Nat}{e:E}{fp p:Pos}(h4:f≠4)(h5:f≠5)(he:aW B K Φ e):aW B K Φ (.blt f [e] fp p):=by
 intro Γ ρ r h Wc W pe A s X R;rw[jw h4 h5] at h;refine aS (aY h) fun hk h'=>?_;clear h;refine am (af h') fun r1 h1 h=>?_;clear h';refine am (af h) fun x hx h'=>?_;clear h;refine am (aK h') fun z hz e91=>?_;subst e91;clear h';refine am (af (show(bltF f).bind (fun g=>g x)=some z from hz)) fun g hg J=>?_;have hb:=bj (P:=fun f J=>∃u,dX f=some (.builtin u)) (zN.mpr ⟨⟨_,rfl⟩,zN.mpr ⟨⟨_,rfl⟩,zN.mpr ⟨⟨_,rfl⟩,Cs _⟩⟩⟩) f g hg;refine x1 hb fun u hu=>?_;refine Bc (gE O X hk hu ?_);refine zF (wV O _) ?_;refine callWith_builtin1 (iS O he h1 hx X R fun v s1 e1 X1 q1 t1=>?_);exact blt_ok O hu hz q1 fun r s2 e2 q2=>⟨e1.trans e2,q2⟩
theorem snd_blt {f:Nat}{es:List E}{fp p:Pos}(hes:∀e,es=[e]->aW B K Φ e):aW B K Φ (.blt f es fp p):=by
 by_cases h:∃e,es=[e]
 ·refine x1 h fun e e91=>?_
  subst e91
  by_cases h4:f=4
  ·subst h4;exact snd_lst O
  ·by_cases h5:f=5
   ·subst h5;exact vC O (hes e rfl)
   ·exact xw O h4 h5 (hes e rfl)
 ·intro Γ ρ r hr
  rw[qt fun e q=>h ⟨e,q⟩] at hr;exact ai hr
theorem qY {h:Heap}{W:AP}:∀{l:List D}{ns:List Int}{vs:List Value},l.mapM D.int?=some ns->aa B h W l vs->IntsAre vs ns
 |[],ns,vs,e,r=>by
  obtain rfl:=zG ((show([]:List D).mapM D.int?=some [] from mapM_nil).symm.trans e);obtain rfl:vs=[]:=r;exact .nil
 |d::l,ns,vs,e,r=>by
  obtain⟨b,t,h1,h2,rfl⟩:=dG e;obtain⟨v,us,rfl,hv,hr⟩:=r;obtain rfl:=int?_eq h1;obtain⟨tk,rfl⟩:=nf hv;exact .cons _ _ (qY h2 hr)
theorem xr {a:E}{fp1 fp2 p2 p:Pos}(ha:aW B K Φ a):aW B K Φ (.lens a fp1 fp2 p2 p):=by
 intro Γ ρ r h Wc W pe A s X R;replace h:=(show(if Γ 0=some .globalImplicit/\Γ 8=some .globalImplicit then((ev Φ Γ ρ a).bind fun r=>r.asD.bind fun x=>x.many.map Mine.R.d) else none)=some r from h);refine aS (aY h) fun hk g1=>?_;obtain⟨k0,k8⟩:=hk;refine am (af g1) fun r1 h1 g2=>?_;refine am (af g2) fun x hx g3=>?_;refine am (aK g3) fun z hz e91=>?_;subst e91;refine am (af hz) fun l hl g4=>?_;refine aS (aY g4) fun hs g5=>?_;refine am (aK g5) fun ns hns e91=>?_;subst e91;obtain rfl:=list?_eq hl;refine Bc (gE O X k0 (by rfl:dX 0=some (.builtin "len")) ?_)
 show wpAny B.M A (callWith p (.builtin "len") [] [(false,eval (.Call (.Name (B.nm 8) fp2) [a.py B.nm] [] p2) pe)] []) _ _ s
 refine callWith_builtin1 ?_;refine Bc (gE O X k8 (by rfl:dX 8=some (.type "set")) ?_)
 refine zF (show D2 p2 (B8 [a.py B.nm] pe)=_ from wV O a) ?_;refine callWith_type1 (ci O ha h1 hx X R fun v s1 e1 X1 q1=>?_);simp only[av] at q1;obtain⟨b,vs,n,rfl,w,g,hl2,hr⟩:=q1;have hlen:=aa.length hr;rw[An] at hlen;refine Mine.rZ (call_set_list (prog:=B.prog) (w:=B.w) R.handled ⟨_,g,rfl,n,rfl⟩ (qY O hns hr) (by rw[hlen];exact Ay hs (by decide)) fun h' tk hS hk hsz=>?_);obtain⟨o,es,ep,t,g1,hex,hd,J1,J2,J3,hf,hn⟩:=hS;refine call_len_set g1 hex hd hf (by have:scanBound=4096:=rfl;omega) ⟨?_,tk+1,?_⟩
 ·exact e1.trans ((fD O (s:=s1) (s':={ s1 with heap:=h',toks:=tk }) (fun b o e=>hk b o (Al e) e) hsz rfl rfl).trans (az.toks _))
 ·rw[hn,hlen]
theorem two_ok {a b:E}{x y:D}{r1 r2:Mine.R}(ha:aW B K Φ a)(hb:aW B K Φ b)(h1:ev Φ Γ ρ a=some r1)(hx:r1.asD=some x)(h2:ev Φ Γ ρ b=some r2)(hy:r2.asD=some y)(X:Ctx B Γ Wc W pe ρ s)(R:aB A K){E:VS}{Q:List Value->zL->Prop}
  (k:∀u v s',az B s s'->Ctx B Γ Wc W pe ρ s'->av B s'.heap W x u->av B s'.heap W y v->Q [u,v] s'):wpAny B.M A (Fc [(false,eval (a.py B.nm) pe),(false,eval (b.py B.nm) pe)]) Q E s:=
 AJ (ci O ha h1 hx X R fun u s1 e1 X1 q1=>AJ (ci O hb h2 hy X1 R fun v s2 e2 X2 q2=>Bn (k u v s2 (e1.trans e2) X2 (av.eff O X1.tW' q1 e2) q2)))
theorem tree2 {pe:Env}{p:Pos}(a b:E):D2 p (B8 [a.py B.nm,b.py B.nm] pe)=[(false,eval (a.py B.nm) pe),(false,eval (b.py B.nm) pe)]:=by
 refine zF (show[a.py B.nm,b.py B.nm]=eN B.nm [a,b] from rfl)<|zF (bO O _ _ _ _)<|zF aU<|zF (aA _ _ _ _)<|zF aU<|zF (aA _ _ _ _) ?_;rfl
theorem snd_bi {n:Nat}{p:Pos}:aW B K Φ (.bi n p):=by
 intro Γ ρ r h Wc W pe A s X R;rw[x_ev_bi] at h;refine aS (aE h) fun p91 e92=>?_;subst e92;obtain⟨hk,hn⟩:=p91;have:∃v,dX n=some v:=by rcases hn with rfl|rfl<;>exact⟨_,rfl⟩
 refine x1 this fun v hv=>?_;exact gE O X hk hv ⟨az.refl _,hv⟩
omit O in
theorem yw {x y:D}{b:Bool}(h:isiD [x,y]=some b):((∃s,x=.str s/\b=true)\/∃m,x=.tup m/\b=false)/\y=.bi 7:=by
 refine aS (aY (show(if y.is7=true then x.sn else none)=some b from h)) fun hy h=>?_;refine⟨?_,?_⟩
 ·cases x with
  |str s=>exact .inl ⟨s,rfl,(zG h).symm⟩
  |tup m=>exact .inr ⟨m,rfl,(zG h).symm⟩
  |_=>exact ai h
 ·cases y with
  |bi n=>exact congrArg D.bi (beq_iff_eq.mp hy)
  |_=>exact bG hy
theorem yv {x y:D}{b:Bool}{u v:Value}(h:isiD [x,y]=some b)(rx:av B s.heap W x u)(ry:av B s.heap W y v){E:VS}{Q:VS}(hQ:∀t,Q (.bool b) { s with toks:=t }):wpAny B.M A (call (.builtin "isinstance") [u,v]) Q E s:=by
 refine aS (yw h) fun hx hy=>?_;subst hy;obtain rfl:v=.type "str" := zG (ry.symm.trans rfl)
 rcases hx with⟨l,rfl,rfl⟩|⟨m,rfl,rfl⟩
 ·refine am (iD rx) fun t e91=>?_
  subst e91;intro J;exact FO (isinstance_true (Tx := "str") (T := "str") (by rfl) (by refine zF (ED _ _) ?_;rfl)) ⟨Cz _ _ _,hQ s.toks⟩
 ·simp only[av] at rx
  obtain⟨a,vs,n,rfl,w,g,l,r⟩:=rx;exact FO (isinstance_false_tuple (by decide) (by rfl) (by refine zF (ED _ _) ?_;rfl)) ⟨⟨_,g,rfl⟩,hQ _⟩
theorem vF {f:Nat}{a b:E}{fp p:Pos}(ha:aW B K Φ a)(hb:aW B K Φ b):eJ B K Φ (.blt2 f a b fp p):=by
 intro Γ ρ c h Wc W pe A s X R;replace h:=(show(if f=6/\Γ f=some .globalImplicit then((ev Φ Γ ρ a).bind fun r=>r.asD.bind fun x=>(ev Φ Γ ρ b).bind fun r=>r.asD.bind fun y=>isiD [x,y]) else none)=some c from h);refine aS (aY h) fun hk0 g1=>?_;obtain⟨e0,hk⟩:=hk0;subst e0;refine am (af g1) fun r1 h1 g2=>?_;refine am (af g2) fun x hx g3=>?_;refine am (af g3) fun r2 h2 g4=>?_;refine am (af g4) fun y hy g5=>?_;refine Ef (e:=.Call (.Name (B.nm 6) fp) [a.py B.nm,b.py B.nm] [] p) (Bc (gE O X hk (by rfl:dX 6=some (.builtin "isinstance")) ?_)) rfl
 refine zF (tree2 O _ _) ?_;exact C1 rfl (CB (two_ok O ha hb h1 hx h2 hy X R fun u v s1 e1 X1 q1 q2=>yv O g5 q1 q2 fun t=>AZ ⟨e1.trans (az.toks t),rfl⟩))
theorem qE:∀(xs:List Str) (tk:Nat),(∀x∈xs,x.length<=lim)->aa B s.heap W (xs.map fun z=>.str z.cps.toList) (strsFrom tk xs)
 |[],_,_=>aa.nil
 |x::r,tk,h=>aa.cons (by
   exact⟨⟨tk,by cases x;simp⟩,by simpa [Str.length] using h x zU⟩) (qE r (tk+1) fun y hy=>h y (zT _ hy))
theorem lX (x y:Str):∀z∈Ck x y,z.length<=x.length:=by
 unfold Ck
 split
 ·intro z hz;replace hz:=zY.mp hz;subst hz;exact zW _
 ·split
  ·intro z hz;replace hz:=zY.mp hz;subst hz;exact zW _
  ·intro z hz
   unfold partsBetween at hz;replace hz:=Ac.mp hz;refine am hz fun p91 J e92=>?_;subst e92;obtain⟨i,j⟩:=p91;show(x.cps.extract i j).size<=x.cps.size;refine zF Array.size_extract ?_;exact zH (CJ _ _) (BR _ _)
theorem xm {x y:List Nat}{t:Tok}{a:Sem Value}{pos:Pos}{E:VS}{Q:VS}(hx:x.length<=lim)(hy:y.length=1)
  (h:wpAny B.M A a (fun v s₁=>∃u,v=.str ⟨y.toArray⟩ u/\∀obj tk,obj={ cls:=.type "list", data:=.seq (strsFrom tk (Ck ⟨x.toArray⟩ ⟨y.toArray⟩)).toArray }\/(∃t',Ck ⟨x.toArray⟩ ⟨y.toArray⟩=[⟨x.toArray⟩]/\obj={ cls:=.type "list", data:=.seq #[.str ⟨x.toArray⟩ t'] })->
   ∀k,Q (.ref s₁.heap.objs.size) { s₁ with heap:=s₁.heap.push obj,toks:=k }) E s):FG B.prog B.w A E "split" (.str ⟨x.toArray⟩ t) pos [(false,a)] Q s:=by
 have hlx:(⟨x.toArray⟩:Str).length=x.length:=by simp[Str.length]
 have hly:(⟨y.toArray⟩:Str).length=1:=by simp[Str.length,hy]
 refine⟨"str", _,CX,FF,PySem.F.type_str_split,Cz _ _ _,(fun J e=>nomatch e),
  Gg FF PySem.F.entry_str_split (Ak h (fun v s₁ h₁=>?_) fun J J e=>e)⟩
 refine am h₁ fun u e91=>?_;subst e91;intro hq;refine⟨Cz _ _ _,PySem.F.args_str_split_2 _ _,?_⟩;have hy0:((⟨y.toArray⟩:Str).length==0)=false:=by refine zF hly ?_;rfl
 have hsz:(⟨x.toArray⟩:Str).length<=sizeLine:=by refine zF hlx ?_;exact ax hx
 cases h1:(decide ((⟨x.toArray⟩:Str).length < (⟨y.toArray⟩:Str).length)||decide (strKind ⟨x.toArray⟩ < strKind ⟨y.toArray⟩))
 ·cases hf:(occurrences ⟨x.toArray⟩ ⟨y.toArray⟩ 0 (⟨x.toArray⟩:Str).length ((⟨x.toArray⟩:Str).length+1)).isEmpty
  ·have he:Ck ⟨x.toArray⟩ ⟨y.toArray⟩=partsBetween ⟨x.toArray⟩ (occurrences ⟨x.toArray⟩ ⟨y.toArray⟩ 0 (⟨x.toArray⟩:Str).length ((⟨x.toArray⟩:Str).length+1)) (⟨y.toArray⟩:Str).length:=by
    unfold Ck;exact zF (if_neg (by refine zF h1 ?_;simp))<|zF (if_neg (by refine zF hf ?_;simp)) rfl
   have hn:(partsBetween ⟨x.toArray⟩ (occurrences ⟨x.toArray⟩ ⟨y.toArray⟩ 0 (⟨x.toArray⟩:Str).length ((⟨x.toArray⟩:Str).length+1)) (⟨y.toArray⟩:Str).length).length<=sizeLine:=by
    refine zF (AM he) ?_;have:=split_le ⟨x.toArray⟩ ⟨y.toArray⟩;rw[hlx] at this;have:sizeLine=16777216:=by decide
    unfold lim at hx;lia
   refine⟨_,meets_str_split_sep _ _ t u h1 hy0 hf hsz hn,?_⟩;refine zF (AM he) ?_;exact hq _ s₁.toks (.inl rfl) _
  ·have he:Ck ⟨x.toArray⟩ ⟨y.toArray⟩=[⟨x.toArray⟩]:=by
    unfold Ck;exact zF (if_neg (by refine zF h1 ?_;simp))<|zF (if_pos hf) rfl
   exact⟨_,meets_str_split_not_found _ _ t u h1 hy0 hf,hq _ 0 (.inr ⟨t,he,rfl⟩) s₁.toks⟩
 ·have he:Ck ⟨x.toArray⟩ ⟨y.toArray⟩=[⟨x.toArray⟩]:=by
   unfold Ck;exact zF (if_pos h1) rfl
  exact⟨_,meets_str_split_cannot_occur _ _ t u h1,hq _ 0 (.inr ⟨t,he,rfl⟩) s₁.toks⟩
omit O in
theorem ek_base (nm:Nat->Str){a:E}:∀{k:EK},k.isBase=true->k.Of a->∀(n:Str)(env:Env)(w:Sem Value),EU (a.py nm) n env w=w:=fun{k} h q=>by
 cases k with
 |nm x p=>exact fun n env w=>q▸rfl
 |str x p=>exact fun n env w=>q▸rfl
 |idx x y p=>exact fun n env w=>q▸rfl
 |bin x o y p=>exact fun n env w=>q▸rfl
 |_=>exact bG h
omit O in
theorem pc (nm:Nat->Str){a:E}(h:a.isBase=true)(n:Str)(env:Env)(w:Sem Value):EU (a.py nm) n env w=w:=
 ek_base nm h a.k_of n env w
omit O in
theorem oi:∀{l:List D}{ls:List (List Nat)},l.mapM D.str?=some ls->l=ls.map .str
 |[],ls,h=>by
  obtain rfl:=zG ((show([]:List D).mapM D.str?=some [] from mapM_nil).symm.trans h)
  rfl
 |d::l,ls,h=>by
  obtain⟨b,t,h1,h2,rfl⟩:=dG h;rw[str?_eq h1,oi h2];rfl
omit O in
theorem nQ {h:Heap}{W:AP}:∀{ls:List (List Nat)}{vs:List Value},aa B h W (ls.map .str) vs->∃l:List (Str×Tok),vs=strValues l/\l.map (·.1)=ls.map cz
 |[],vs,r=>⟨[],r,rfl⟩
 |x::r',vs,r=>by
  obtain⟨v,us,rfl,hv,hr⟩:=r;obtain⟨t,rfl,J⟩:=iD hv;obtain⟨l,rfl,hl⟩:=nQ hr;exact⟨(cz x,t)::l,rfl,by rw[z8,hl];rfl⟩
omit O in
theorem ot:∀(l:List (List Nat))(acc:Array Nat),((l.map cz).foldl (fun acc p=>acc++(#[]:Array Nat)++p.cps) acc).toList=acc.toList++l.flatten
 |[],acc=>by simp
 |x::r,acc=>by
  rw[z8,Fb,ot r];simp[cz]
omit O in
theorem qZ:∀(l:List (List Nat)) (n:Nat),(l.map cz).foldl (fun n x=>n+x.length+0) n=n+l.flatten.length
 |[],n=>by simp
 |x::r,n=>by
  rw[z8,Fb,qZ r];simp[cz,Str.length];omega
theorem join_ok {t:Tok}{a:Sem Value}{pos:Pos}{ls:List (List Nat)}{E:VS}{Q:VS}(h2:2<=ls.length)(hl:ls.flatten.length<=lim)
  (h:wpAny B.M A a (fun v s₁=>∃W,bE B s₁.heap W (.list (ls.map .str)) v/\∀t k,Q (.str ⟨ls.flatten.toArray⟩ t) { s₁ with toks:=k }) E s):FG B.prog B.w A E "join" (.str ⟨(#[]:Array Nat)⟩ t) pos [(false,a)] Q s:=by
 refine⟨"str", _,CX,FH,PySem.F.type_str_join,Cz _ _ _,(fun J e=>nomatch e),
  Gg FH PySem.F.entry_str_join (Ak h (fun v s₁ h₁=>?_) fun J J e=>e)⟩
 obtain⟨W,⟨b,vs,n,rfl,hg,_,hr⟩,hq⟩:=h₁;obtain⟨l,hv,hm⟩:=nQ hr;have hlen:l.length=ls.length:=by have:=congrArg CD hm;simpa using this
 have hsz:((l.map (·.1)).toArray.foldl (fun n x=>n+x.length+(⟨(#[]:Array Nat)⟩:Str).length) 0)=ls.flatten.length:=by
  rw[hm];have:=qZ ls 0
  simpa [Str.length] using this
 have hgl:glued ⟨(#[]:Array Nat)⟩ (l.map (·.1))=⟨ls.flatten.toArray⟩:=by
  rw[hm]
  cases ls with
  |nil=>exact absurd h2 (by simp)
  |cons x r=>
   have:=ot r x.toArray;show(⟨(r.map cz).foldl (fun acc p=>acc++(#[]:Array Nat)++p.cps) x.toArray⟩:Str)=_
   congr 1
   apply Array.ext';rw[this];simp
 refine⟨Cz _ _ _,PySem.F.args_str_join_2 _ _,_,meets_str_join_list ⟨(#[]:Array Nat)⟩ t b l (by unfold tooLong;rw[hsz];exact decide_eq_false (D3.mpr (ax hl))),⟨_,hg,rfl,n,by rw[<-hv,Array.toArray_toList]⟩,?_⟩;have:joinMade ⟨(#[]:Array Nat)⟩ l=.str ⟨ls.flatten.toArray⟩:=by
  cases l with
  |nil=>rw[<-hlen] at h2;exact absurd h2 (by simp)
  |cons p r=>cases r with
   |nil=>rw[<-hlen] at h2;exact absurd h2 (by simp)
   |cons q r=>exact congrArg Made.str hgl
 rw[this];exact⟨by show ls.flatten.toArray.size<=_;simpa using ax hl,hq _ _⟩
omit O in
theorem met_inv {m:Nat}{x y z:D}(h:D.method x m [y]=some z):(m=10/\∃a b,x=.str a/\y=.str b/\z=.int (Ei ⟨a.toArray⟩ ⟨b.toArray⟩))\/
  (m=11/\∃a b,x=.str a/\y=.str b/\(b.length=1/\a.length < 1000)/\z=.list ((Ck ⟨a.toArray⟩ ⟨b.toArray⟩).map fun z=>.str z.cps.toList))\/
  m=12/\∃ls:List (List Nat),x=.str []/\y=.list (ls.map .str)/\2<=ls.length/\ls.flatten.length<=lim/\z=.str ls.flatten:=by
 refine am (af (show(metF m).bind (fun g=>g x y)=some z from h)) fun g hg hz=>?_;have key:=bj (P:=fun m g=>(m=10/\g=D.mfind)\/(m=11/\g=D.msplit)\/m=12/\g=D.mjoin) (zN.mpr ⟨.inl ⟨rfl,rfl⟩,zN.mpr ⟨.inr (.inl ⟨rfl,rfl⟩),zN.mpr ⟨.inr (.inr ⟨rfl,rfl⟩),Cs _⟩⟩⟩) m g hg;refine key.imp (fun⟨hm,e⟩=>⟨hm,?_⟩) fun key=>key.imp (fun⟨hm,e⟩=>⟨hm,?_⟩) fun⟨hm,e⟩=>⟨hm,?_⟩
 ·subst e
  refine am (af hz) fun a ha h1=>?_;refine am (aK h1) fun b hb h2=>?_;exact⟨a,b,str?_eq ha,str?_eq hb,h2.symm⟩
 ·subst e
  refine am (af hz) fun a ha h1=>?_;refine am (af h1) fun b hb h2=>?_;refine aS (aE h2) fun hc h3=>?_;exact⟨a,b,str?_eq ha,str?_eq hb,hc,h3.symm⟩
 ·subst e
  refine am (af hz) fun a ha h1=>?_;refine am (af h1) fun l hb h2=>?_;refine am (af h2) fun ls hls h3=>?_;refine aS (aE h3) fun hc h4=>?_;obtain⟨rfl,c1,c2⟩:=hc;exact⟨ls,str?_eq ha,(list?_eq hb).trans (congrArg D.list (oi hls)),c1,c2,h4.symm⟩
set_option tactic.hygienic true in
theorem xo {a:E}{m:Nat}{es:List E}{ap p:Pos}(ha:aW B K Φ a)(hes:∀e,es=[e]->aW B K Φ e):aW B K Φ (.meth a m es ap p):=by
 intro Γ ρ r h Wc W pe A s X R;rw[vt] at h;refine aS (aY h) fun hc h'=>?_;clear h;replace hc:=As.mp hc
 split at h'
 ·rename_i e
  simp only[zQ,zO,Aa] at h';refine du h' fun r1 h1 x hx r2 h2 y hy z hz e91=>?_;subst e91;rcases met_inv hz with⟨rfl,x',y',rfl,rfl,rfl⟩|⟨rfl,x',y',rfl,rfl,hy1,rfl⟩|⟨rfl,ls,rfl,rfl,c1,c2,rfl⟩
  ·refine DJ (pc _ hc.1 _ _ _) (by refine zF (aA _ _ _ _) ?_;rfl) hc.2 (ci O ha h1 hx X R fun u s1 e1 X1 q1=>?_)
   refine am (iD q1) fun t e91=>?_;subst e91;intro hl;refine zF (O.mnm 10 _ rfl) ?_;refine SB.find (ci O (hes e rfl) h2 hy X1 R fun v s2 e2 X2 q2=>?_);refine am (iD q2) fun t' e91=>?_;subst e91;intro J;exact⟨_,_,rfl,(e1.trans e2).trans (az.toks _),i0 (B:=B) (h:=s2.heap) (W:=W)⟩
  ·refine DJ (pc _ hc.1 _ _ _) (by refine zF (aA _ _ _ _) ?_;rfl) hc.2 (ci O ha h1 hx X R fun u s1 e1 X1 q1=>?_)
   refine am (iD q1) fun t e91=>?_;subst e91;intro hl;refine zF (O.mnm 11 _ rfl) ?_;refine xm O hl hy1.1 (ci O (hes e rfl) h2 hy X1 R fun v s2 e2 X2 q2=>?_);refine am (iD q2) fun t' e91=>?_;subst e91;intro J;refine⟨t',rfl,fun obj tk ho k=>?_⟩;have hle:∀z∈Ck ⟨x'.toArray⟩ ⟨y'.toArray⟩,z.length<=lim:=fun z hz=>by
    have:=lX O ⟨x'.toArray⟩ ⟨y'.toArray⟩ z hz;have e:(⟨x'.toArray⟩:Str).length=x'.length:=by simp[Str.length]
    lia
   have hn:((Ck ⟨x'.toArray⟩ ⟨y'.toArray⟩).map fun z=>D.str z.cps.toList).length<=lim:=by
    refine zF (zX _) ?_;have:=split_le ⟨x'.toArray⟩ ⟨y'.toArray⟩;have e:(⟨x'.toArray⟩:Str).length=x'.length:=by simp[Str.length]
    have h2:=hy1.2;unfold lim;lia
   rcases ho with rfl|⟨t'',he,rfl⟩
   ·refine⟨(e1.trans e2).trans (az.push O _ _),?_⟩
    exact cQ O X2.wlt (by simpa using qE O (s:=s2) _ tk hle) hn
   ·refine⟨(e1.trans e2).trans (az.push O _ _),?_⟩
    rw[he] at hn ⊢;exact cQ O X2.wlt (aa.cons ⟨⟨t'',by simp⟩,hl⟩ aa.nil) hn
  ·refine DJ (pc _ hc.1 _ _ _) (by refine zF (aA _ _ _ _) ?_;rfl) hc.2 (ci O ha h1 hx X R fun u s1 e1 X1 q1=>?_)
   refine am (iD q1) fun t e91=>?_;subst e91;intro hl;refine zF (O.mnm 12 _ rfl) ?_;refine join_ok O c1 c2 (ci O (hes e rfl) h2 hy X1 R fun v s2 e2 X2 q2=>⟨W,av.b q2,fun t k=>⟨(e1.trans e2).trans (az.toks _),md (B:=B) (h:=s2.heap) (W:=W) c2⟩⟩)
 ·exact ai h'
end
end Mine
end
namespace Mine
variable {B:Bs}
structure Lm where
 id:Nat
 f:Nat
 ps:List (Nat×Pos)
 body:E
 sc:List (Nat×NameKind)
mutual
noncomputable def E.lms:E->List Lm
 |.bin a _ b _=>a.lms++b.lms
 |.cmp a _ b _=>a.lms++b.lms
 |.cmp2 a _ b _ c _=>a.lms++(b.lms++c.lms)
 |.bop _ es _=>m8 es
 |.ife t a b _=>t.lms++(a.lms++b.lms)
 |.idx a i _=>a.lms++i.lms
 |.slc a lo hi _ _=>a.lms++(lmsO lo++lmsO hi)
 |.list es _=>m8 es
 |.tup es _ _=>m8 es
 |.attr a _ _=>a.lms
 |.comp elt gs _ _=>elt.lms++lmsG gs
 |.call _ es _ _=>m8 es
 |.calle f es _=>f.lms++m8 es
 |.blt _ es _ _=>m8 es
 |.blt2 _ a b _ _=>a.lms++b.lms
 |.meth a _ es _ _=>a.lms++m8 es
 |.lens a _ _ _ _=>a.lms
 |.lam id f ps body sc _=>[⟨id,f,ps,body,sc⟩]
 |_=>[]
noncomputable def m8:List E->List Lm
 |[]=>[]
 |e::r=>e.lms++m8 r
noncomputable def lmsO:Option E->List Lm
 |none=>[]
 |some e=>e.lms
noncomputable def lmsG:List Gn->List Lm
 |[]=>[]
 |.mk _ it ifs::r=>it.lms++(m8 ifs++lmsG r)
end
noncomputable def fm (B:Bs)(l:List Lm):Prop:=∀x∈l,vn B x.id x.f x.ps x.body x.sc
noncomputable abbrev E.ok (B:Bs)(e:E):Prop:=fm B e.lms
noncomputable abbrev okL (B:Bs)(es:List E):Prop:=fm B (m8 es)
noncomputable abbrev okO (B:Bs)(o:Option E):Prop:=fm B (lmsO o)
noncomputable abbrev okG (B:Bs)(gs:List Gn):Prop:=fm B (lmsG gs)
theorem b9 {a b:List Lm}(h:fm B (a++b)):fm B a:=fun x hx=>h x (Ai _ hx)
theorem bt {a b:List Lm}(h:fm B (a++b)):fm B b:=fun x hx=>h x (AI _ hx)
theorem yh:fm B []:=fun x hx=>aG hx
theorem okG_tl {g:Gn}{r:List Gn}(h:okG B (g::r)):okG B r:=by cases g;exact bt (bt h)
section
variable (O:B.Ok){K:Nat}{Φ:bq}
include O
theorem fb:∀es:List E,(∀e∈es,aW B K Φ e/\eJ B K Φ e)->iN B K Φ es
 |[],_=>xF O
 |e::r,h=>vH O (h e zU).1 (fb r fun x hx=>h x (zT _ hx))
theorem t8 (op:DE):∀es:List E,(∀e∈es,aW B K Φ e/\eJ B K Φ e)->zx B K Φ op es
 |[],_=>xG O
 |e::r,h=>vJ O (h e zU).2 (t8 op r fun x hx=>h x (zT _ hx))
theorem iV:∀es:List E,(∀e∈es,aW B K Φ e/\eJ B K Φ e)->jT B K Φ es
 |[],_=>qH O
 |e::r,h=>vI O (h e zU).2 (iV r fun x hx=>h x (zT _ hx))
theorem pr {e:E}(h:∀Γ ρ,e7 Φ Γ ρ e=none):eJ B K Φ e:=by
 intro Γ ρ b hb;rw[h] at hb;exact ai hb
theorem noE' {e:E}(h:∀Γ ρ,ev Φ Γ ρ e=none):aW B K Φ e:=by
 intro Γ ρ b hb;rw[h] at hb;exact ai hb
noncomputable def GnS (B:Bs) (K:Nat)(Φ:bq):Gn->Prop
 |.mk _ it ifs=>it.ok B->okL B ifs->aW B K Φ it/\∀e∈ifs,aW B K Φ e/\eJ B K Φ e
noncomputable def GsS (B:Bs) (K:Nat)(Φ:bq)(gs:List Gn):Prop:=∀t it ifs,Gn.mk t it ifs∈gs->aW B K Φ it/\∀e∈ifs,aW B K Φ e/\eJ B K Φ e
theorem gsS_of {gs:List Gn}(h:GsS B K Φ gs):iw B K Φ gs:=fun t it ifs hm=>⟨(h t it ifs hm).1,iV O ifs (h t it ifs hm).2⟩
theorem yS {elt:E}{sc:LK}{p:Pos}:aW B K Φ (.comp elt [] sc p):=noE' O fun Γ J=>by refine zF fB ?_;split<;>rfl
theorem comp_of (hK:24<=K){elt:E}{sc:LK}{p:Pos}(h1:aW B K Φ elt):∀gs:List Gn,GsS B K Φ gs->aW B K Φ (.comp elt gs sc p)
 |[],_=>yS O
 |.mk t it ifs::r,h=>xt O (zH (by decide) hK) h1 (h t it ifs zU).1 (iV O ifs (h t it ifs zU).2) (gsS_of O fun t' it' ifs' hm=>h t' it' ifs' (zT _ hm))
theorem snd (hK:24<=K)(P:bx B K Φ):∀e:E,e.ok B->aW B K Φ e/\eJ B K Φ e:=
 E.rec (motive_1:=fun e=>e.ok B->aW B K Φ e/\eJ B K Φ e) (motive_2:=GnS B K Φ) (motive_3:=fun es=>okL B es->∀e∈es,aW B K Φ e/\eJ B K Φ e)
  (motive_4:=fun o=>okO B o->∀e,o=some e->aW B K Φ e) (motive_5:=fun gs=>okG B gs->GsS B K Φ gs)
  (fun J J J=>⟨snd_int O,pr O fun J J=>rfl⟩)
  (fun J J J=>⟨snd_str O,pr O fun J J=>rfl⟩)
  (fun J J=>⟨snd_nil O,pr O fun J J=>rfl⟩)
  (fun J J J=>⟨xv O,pr O fun J J=>rfl⟩)
  (fun J J J=>⟨lZ O,vD O⟩)
  (fun J J J J ia ib h=>⟨snd_bin O (ia (b9 h)).1 (ib (bt h)).1,pr O fun J J=>rfl⟩)
  (fun J J J J ia ib h=>⟨snd_cmp O (ia (b9 h)).1 (ib (bt h)).1,xC O (ia (b9 h)).1 (ib (bt h)).1⟩)
  (fun J J J J J J ia ib ic h=>⟨xu O (ia (b9 h)).1 (ib (b9 (bt h))).1 (ic (bt (bt h))).1,pr O fun J J=>rfl⟩)
  (fun op es J ies h=>⟨t7 O (fun e he=>(ies h e he).1),xD O (t8 O op es (ies h))⟩)
  (fun J J J J=>⟨snd_neg O,pr O fun J J=>rfl⟩)
  (fun J J J J it ia ib h=>⟨snd_ife O (it (b9 h)).2 (ia (b9 (bt h))).1 (ib (bt (bt h))).1,pr O fun J J=>rfl⟩)
  (fun J J J ia ib h=>⟨t6 O (ia (b9 h)).1 (ib (bt h)).1,xB O (t6 O (ia (b9 h)).1 (ib (bt h)).1)⟩)
  (fun J J J J J ia il ih h=>⟨snd_slc O (ia (b9 h)).1 (il (b9 (bt h))) (ih (bt (bt h))),pr O fun J J=>rfl⟩)
  (fun es J ies h=>⟨xq O (fb O es (ies h)),pr O fun J J=>rfl⟩)
  (fun es J J ies h=>⟨snd_tup O (fb O es (ies h)),pr O fun J J=>rfl⟩)
  (fun J J J ia h=>⟨xA O (ia h).1,pr O fun J J=>rfl⟩)
  (fun J gs J J ie ig h=>⟨comp_of O hK (ie (b9 h)).1 gs (ig (bt h)),pr O fun J J=>rfl⟩)
  (fun J J J=>⟨snd_bi O,pr O fun J J=>rfl⟩)
  (fun J es J J ies h=>⟨qG O P (fb O es (ies h)),vE O P (fb O es (ies h))⟩)
  (fun J es J ia ies h=>⟨noE' O fun J J=>rfl,pr O fun J J=>rfl⟩)
  (fun J es J J ies h=>⟨snd_blt O (fun e he=>by subst he;exact(ies h e zU).1),pr O fun J J=>rfl⟩)
  (fun J J J J J ia ib h=>⟨noE' O fun J J=>rfl,vF O (ia (b9 h)).1 (ib (bt h)).1⟩)
  (fun J J es J J ia ies h=>⟨xo O (ia (b9 h)).1 (fun e he=>by subst he;exact(ies (bt h) e zU).1),pr O fun J J=>rfl⟩)
  (fun J J J J J J J h=>⟨t4 O (h _ zU),pr O fun J J=>rfl⟩)
  (fun J J J J J ia h=>⟨xr O (ia h).1,pr O fun J J=>rfl⟩)
  (fun J J ifs ii il h1 h2=>⟨(ii h1).1,il h2⟩)
  (fun J e he=>aG he)
  (fun J J ia ir h e he=>(Ab.mp he).elim (fun q=>q▸ia (b9 h)) fun q=>ir (bt h) e q)
  (fun J J q=>ai q)
  (fun J ia h e q=>zG q▸(ia h).1)
  (fun J J J J hm=>aG hm)
  (fun g J ig ir h t it ifs hm=>(Ab.mp hm).elim (fun q=>by subst q;exact ig (b9 h) (b9 (bt h))) fun q=>ir (okG_tl h) t it ifs q)
theorem vG (hK:24<=K)(P:bx B K Φ):∀es:List E,okL B es->∀e∈es,aW B K Φ e/\eJ B K Φ e
 |[],_,e,he=>aG he
 |a::r,h,e,he=>(Ab.mp he).elim (fun q=>q▸snd O hK P a (b9 h)) fun q=>vG hK P r (bt h) e q
theorem sndG (hK:24<=K)(P:bx B K Φ):∀gs:List Gn,okG B gs->iw B K Φ gs
 |[],_,t,it,ifs,hm=>aG hm
 |.mk t' it' ifs'::r,h,t,it,ifs,hm=>(Ab.mp hm).elim (fun q=>by cases q;exact⟨(snd O hK P it' (b9 h)).1,iV O ifs' (vG O hK P ifs' (b9 (bt h)))⟩) fun q=>sndG hK P r (bt (bt h)) t it ifs q
end
end Mine
namespace Mine
noncomputable def EK.isUn (k:EK):Bool:=k.ctorIdx==1||k.ctorIdx==3||k.ctorIdx==8
noncomputable def E.isUn (e:E):Bool:=e.k.isUn
inductive gh where
 |nx (ρ:ac)
 |rt (d:D)
noncomputable def ah.mine (Γ:ah)(ρ:ac) (x:Nat):Bool:=(Γ x==some .local||Γ x==some .cell)&&(match ρ x with|some (.sealed _)=>false|_=>true)
noncomputable def kM:Nat->E->Bool
 |_,.name ..=>true
 |_,.call ..=>true
 |_,.calle ..=>true
 |_,.comp ..=>true
 |_,.list ..=>true
 |_,.blt ..=>true
 |_,.blt2 ..=>true
 |_,.meth ..=>true
 |_,.bi ..=>true
 |n+1,.bin a _ b _=>kM n a||kM n b
 |n+1,.idx a i _=>kM n a||kM n i
 |n+1,.tup es _ _=>es.any (kM n)
 |_,_=>false
noncomputable abbrev E.notConst (e:E):Bool:=kM 8 e
noncomputable def E.isConst:E->Bool
 |.int ..=>true
 |.str ..=>true
 |.nil ..=>true
 |.bool ..=>true
 |_=>false
noncomputable def EK.isNew (k:EK):Bool:=k.ctorIdx==5||k.ctorIdx==6
noncomputable def E.isNew (e:E):Bool:=e.k.isNew
noncomputable def EK.isEmp:EK->Bool
 |.lst es _=>es.isEmpty
 |_=>false
noncomputable def rowsG:List Gn->Bool
 |[.mk _ _ ifs]=>ifs.isEmpty
 |_=>false
noncomputable def EK.isRows:EK->Bool
 |.cmp elt gs _ _=>elt.k.isEmp&&rowsG gs
 |_=>false
noncomputable def E.isRows (e:E):Bool:=e.k.isRows
noncomputable def oE (m:Nat)(e:E)(d:D):Option dL:=if m=0 then some (.fz d) else match d with
 |.list l=>if m=1/\e.isNew then some (.own l) else if m=2/\e.isRows then some (.own2 (l.map fun _=>[])) else none
 |_=>none
noncomputable def yV (Φ:bq)(Γ:ah)(ρ:ac):List Nat->List E->Option (List dL)
 |[],[]=>some []
 |m::ms,e::es=>do
  let d <-(<-ev Φ Γ ρ e).asD
  let en <-oE m e d
  let r <-yV Φ Γ ρ ms es
  some (en::r)
 |_,_=>none
noncomputable def jA (xs:List (Nat×Pos))(ds:List D)(ρ:ac):ac:=(xs.zip ds).foldl (fun ρ q=>ρ.set q.1.1 (.fz q.2)) ρ
noncomputable def rO (Γ:ah):Tg->D->ac->Option ac
 |.name x _,d,ρ=>if Γ.mine ρ x then some (ρ.set x (.fz d)) else none
noncomputable def eX (Γ:ah)(t:Tg)(body:ac->Option gh):ac->List D->Option gh
 |ρ,[]=>some (.nx ρ)
 |ρ,d::r=>do
  let ρ1 <-rO Γ t d ρ
  match <-body ρ1 with
  |.nx ρ2=>eX Γ t body ρ2 r
  |.rt d=>some (.rt d)
noncomputable def jL (c:ac->Option Bool)(body:ac->Option gh):Nat->ac->Option gh
 |0,_=>none
 |n+1,ρ=>do
  let t <-c ρ
  if t then(do
   match <-body ρ with
   |.nx ρ2=>jL c body n ρ2
   |.rt d=>some (.rt d))
  else some (.nx ρ)
noncomputable def tD (z y:D):Option D:=match z with
 |.int _=>D.add z y
 |.str _=>D.add z y
 |_=>none
noncomputable def oM (l:List D)(j y:D):Option (List D):=j.int?.bind fun j=>if 0<=j/\j < l.length then(l[j.toNat]?).bind fun z=>(tD z y).map fun w=>l.set j.toNat w else none
noncomputable def oB (ll:List (List D))(j:D)(m:List D):Option (List (List D)):=j.int?.bind fun j=>if 0<=j/\j < ll.length then(ll[j.toNat]?).bind fun l=>if l.length+m.length<=lim then some (ll.set j.toNat (l++m)) else none else none
noncomputable def n8 (l:List D)(j y:D):Option (List D):=j.int?.bind fun j=>if 0<=j/\j < l.length then some (l.set j.toNat y) else none
noncomputable def tn:Option dL->Option (List D)
 |some (.own l)=>some l
 |_=>none
noncomputable def y7:Option dL->Option (List (List D))
 |some (.own2 l)=>some l
 |_=>none
noncomputable def eFz:Option dL->Option D
 |some (.fz d)=>some d
 |_=>none
theorem pI {o:Option dL}{l:List D}(h:tn o=some l):o=some (.own l):=by
 cases o with
 |none=>exact ai h
 |some e=>cases e with
  |own m=>exact congrArg (fun l=>some (dL.own l)) (zG h)
  |_=>exact ai h
theorem y6 {o:Option dL}{l:List (List D)}(h:y7 o=some l):o=some (.own2 l):=by
 cases o with
 |none=>exact ai h
 |some e=>cases e with
  |own2 m=>exact congrArg (fun l=>some (dL.own2 l)) (zG h)
  |_=>exact ai h
theorem y8 {o:Option dL}{d:D}(h:eFz o=some d):o=some (.fz d):=by
 cases o with
 |none=>exact ai h
 |some e=>cases e with
  |fz m=>exact congrArg (fun l=>some (dL.fz l)) (zG h)
  |_=>exact ai h
noncomputable def D.tup?:D->Option (List D)
 |.tup l=>some l
 |_=>none
theorem tup?_eq {d:D}{l:List D}(h:d.tup?=some l):d=.tup l:=by
 cases d with
 |tup m=>exact congrArg D.tup (zG h)
 |_=>exact ai h
noncomputable def EK.cal?:EK->Option (E×List E)
 |.cal f es _=>some (f,es)
 |_=>none
noncomputable def E.cal? (e:E):Option (E×List E):=e.k.cal?
theorem ek_cal {e:E}{q:E×List E}:∀{k:EK},k.cal?=some q->k.Of e->∃p,e=.calle q.1 q.2 p:=fun{k} h w=>by
 cases k with
 |cal f es p=>exact⟨p,w.trans (by rw[<-zG h])⟩
 |_=>exact ai h
theorem cal?_eq {e:E}{q:E×List E}(h:e.cal?=some q):∃p,e=.calle q.1 q.2 p:=ek_cal h e.k_of
noncomputable def D.lam?:D->Option (Nat×List D)
 |.lam id caps=>some (id,caps)
 |_=>none
theorem lam?_eq {d:D}{q:Nat×List D}(h:d.lam?=some q):d=.lam q.1 q.2:=by
 cases d with
 |lam id caps=>obtain rfl:=zG h;rfl
 |_=>exact ai h
noncomputable def yy:CS->Bool
 |.Add=>true
 |_=>false
noncomputable def d6 (Φ:bq)(Γ:ah)(sc:LK)(t:Tg)(elt:E)(ρ:ac)(items:List D):Option (List D):=dI sc t (fun ρ'=>do
     let c <-uR Φ (ay Γ sc) ρ' []
     if c then evG Φ sc (ay Γ sc) [] (fun ρ''=>do (<-ev Φ (ay Γ sc) ρ'' elt).asD) ρ' else some []) (ρ.cut sc) items
noncomputable def lW (t a b:List Nat):List Nat:=(Gi ⟨t.toArray⟩ ⟨a.toArray⟩ ⟨b.toArray⟩).cps.toList
section
variable (Φ:bq) (N:Nat)(Γ:ah)
mutual
noncomputable def bb (ρ:ac):St->Option gh
 |.asg x e _ _=>do
  let d <-(<-ev Φ Γ ρ e).asD
  if Γ.mine ρ x then some (.nx (ρ.set x (.fz d))) else none
 |.own x e _ _=>match e with
  |.list es _=>do
   let l <-iJ Φ Γ ρ es
   if Γ.mine ρ x/\l.length<=lim then some (.nx (ρ.set x (.own l))) else none
  |.bin a op b _=>if yy op=true then(ev Φ Γ ρ a).bind fun r1=>r1.asB.bind fun u=>(ev Φ Γ ρ b).bind fun r2=>r2.asB.bind fun v=>u.list?.bind fun l1=>v.list?.bind fun l2=>
    if Γ.mine ρ x/\l1.length+l2.length<=lim then some (.nx (ρ.set x (.own (l1++l2)))) else none
   else none
  |_=>none
 |.asgT xs ms _ e _ _=>match e with
  |.tup es _ _=>do
   let l <-yV Φ Γ ρ ms es
   if xs.length=l.length/\(es.any E.notConst||es.all E.isConst)/\(xs.map (·.1)).Nodup/\xs.all (fun q=>Γ.mine ρ q.1)/\l.length<=lim then some (.nx (fc (xs.zip l) ρ)) else none
  |_=>none
 |.asgU xs _ e _ _=>if e.isUn then do
   match(<-ev Φ Γ ρ e).asD with
   |some (.tup ds)=>if xs.length=ds.length/\xs.all (fun q=>Γ.mine ρ q.1) then some (.nx (jA xs ds ρ)) else none
   |_=>none
  else none
 |.augN x op e _ _=>match ρ x,op with
  |some (.fz d),.Add=>do
   let y <-(<-ev Φ Γ ρ e).asD
   match d with
   |.int _=>do
    let z <-D.bin .Add d y
    if Γ.mine ρ x then some (.nx (ρ.set x (.fz z))) else none
   |.str _=>do
    let z <-D.bin .Add d y
    if Γ.mine ρ x then some (.nx (ρ.set x (.fz z))) else none
   |_=>none
  |_,_=>none
 |.augI x i op e _ _ _=>match ρ x,op with
  |some (.own l),.Add=>do
   let j <-(<-ev Φ Γ ρ i).asD
   let y <-(<-ev Φ Γ ρ e).asD
   (oM l j y).map fun l'=>.nx (ρ.set x (.own l'))
  |_,_=>none
 |.app x e _ ap cp _=>match ρ x with
  |some (.own l)=>if ap.endLine==cp.line then do
    let y <-(<-ev Φ Γ ρ e).asD
    if l.length < lim then some (.nx (ρ.set x (.own (l++[y])))) else none
   else none
  |_=>none
 |.raw _=>none
 |.defS x id f _ _ sc _ _=>if em Γ sc/\f≠0/\Γ.f=f/\Γ.mine ρ x then do
   let caps <-(aD sc).mapM fun x=>match ρ x with|some (.sealed d)=>some d|_=>none
   some (.nx (ρ.set x (.fz (.lam id caps))))
  else none
 |.forS t it body _=>do
  let items <-(<-ev Φ Γ ρ it).asI
  eX Γ t (fun ρ=>aO ρ body) ρ items
 |.whl c body _=>jL (fun ρ=>e7 Φ Γ ρ c) (fun ρ=>aO ρ body) N ρ
 |.ifS c a b _=>do
  let t <-e7 Φ Γ ρ c
  if t then aO ρ a else aO ρ b
 |.ret e _=>do
  let d <-(<-ev Φ Γ ρ e).asD
  some (.rt d)
 |.tryS body hs _=>if hs.isEmpty then none else aO ρ body
 |.frz x=>match ρ x with
  |some (.own l)=>some (.nx (ρ.set x (.fz (.list l))))
  |some (.own2 l)=>if l.all (fun r=>decide (r.length<=lim)) then some (.nx (ρ.set x (.fz (.list (l.map .list))))) else none
  |_=>none
 |.sub x a b _ _ _ _ _ q6 _ _ q9 _ _=>match ρ x with
  |some (.fz (.str t))=>if Γ.mine ρ x/\a≠b/\t.length+(t.length+1) * b.length<=16777216/\(lW t a b).length<=lim/\q6.endLine=q9.line then
    some (.nx (if Du ⟨t.toArray⟩ ⟨a.toArray⟩ then ρ.set x (.fz (.str (lW t a b))) else ρ))
   else none
  |_=>none
 |.seal x=>match ρ x with
  |some (.fz d)=>if Γ x=some .cell then some (.nx (ρ.set x (.sealed d))) else none
  |_=>none
 |.ext x e _ ap cp _=>(tn (ρ x)).bind fun l=>if ap.endLine==cp.line then(ev Φ Γ ρ e).bind fun r=>r.asD.bind fun y=>y.list?.bind fun m=>
   if l.length+m.length<=lim then some (.nx (ρ.set x (.own (l++m)))) else none
  else none
 |.ext2 x i e _ _ ap cp _=>(y7 (ρ x)).bind fun ll=>if ap.endLine==cp.line then(ev Φ Γ ρ i).bind fun r=>r.asD.bind fun j=>(ev Φ Γ ρ e).bind fun r=>r.asD.bind fun y=>y.list?.bind fun m=>
   (oB ll j m).map fun l'=>.nx (ρ.set x (.own2 l'))
  else none
 |.seti x i e _ _ _=>if e.isCp then none else(tn (ρ x)).bind fun l=>(ev Φ Γ ρ e).bind fun r=>r.asD.bind fun y=>(ev Φ Γ ρ i).bind fun r=>r.asD.bind fun j=>(n8 l j y).map fun l'=>.nx (ρ.set x (.own l'))
 |.popU x xs _ _ ap cp _ _=>(tn (ρ x)).bind fun l=>if ap.endLine==cp.line then l.getLast?.bind fun d=>d.tup?.bind fun ds=>
   if xs.length=ds.length/\xs.all (fun q=>Γ.mine ρ q.1&&!(q.1==x)) then some (.nx (jA xs ds (ρ.set x (.own l.dropLast)))) else none
  else none
 |.pick x y z g c t1 t2 e pre elt1 elt2 sc1 sc2 _ _ _ _ _ q6 _ _ _ _ _ _ q13 _ _ _=>e.cal?.bind fun q=>if q.1.isCall=true then(ev Φ Γ ρ q.1).bind fun rf=>rf.asD.bind fun df=>df.lam?.bind fun f1=>(iJ Φ Γ ρ q.2).bind fun l0=>
   (Φ.gen f1.1 (f1.2++l0)).bind fun items=>(eFz (ρ g)).bind fun dg=>dg.lam?.bind fun f2=>(eFz (ρ c)).bind fun dc=>(ev Φ Γ ρ pre).bind fun rp=>rp.asD.bind fun dp=>dp.list?.bind fun lp=>
   (d6 Φ Γ sc1 (.name t1 q6) elt1 ρ items).bind fun l1=>(Φ.gen f2.1 (f2.2++[dc,.list (lp++l1)])).bind fun items2=>(d6 Φ Γ sc2 (.name t2 q13) elt2 ρ items2).bind fun l3=>
   if(em Γ sc1/\em Γ sc2/\Γ x=some .local/\Γ y=some .local/\(ρ x).isNone/\(ρ y).isNone)/\Γ.mine ρ z/\((Φ.lam f1.1 (f1.2++l0)).isNone/\(Φ.lam f2.1 (f2.2++[dc,.list (lp++l1)])).isNone)/\lp.length+l1.length<=lim/\l3.length<=lim then some (.nx (ρ.set z (.fz (.list l3)))) else none
  else none
noncomputable def aO (ρ:ac):List St->Option gh
 |[]=>some (.nx ρ)
 |s::r=>do
  match <-bb ρ s with
  |.nx ρ'=>aO ρ' r
  |.rt d=>some (.rt d)
end
end
section
variable {Φ:bq}{N:Nat}{Γ:ah}{ρ:ac}
theorem lG  : aO Φ N Γ ρ []=(some (.nx ρ)):=rfl
theorem e9 {s r}:aO Φ N Γ ρ (s::r)=(do
  match <-bb Φ N Γ ρ s with
  |.nx ρ'=>aO Φ N Γ ρ' r
  |.rt d=>some (.rt d)):=rfl
theorem kb {t body}:eX Γ t body ρ []=some (.nx ρ):=rfl
theorem iQ {t body d r}:eX Γ t body ρ (d::r)=(do
  let ρ1 <-rO Γ t d ρ
  match <-body ρ1 with
  |.nx ρ2=>eX Γ t body ρ2 r
  |.rt d=>some (.rt d)):=rfl
theorem lE {x e u1 u2}:bb Φ N Γ ρ (.asg x e u1 u2)=(do
  let d <-(<-ev Φ Γ ρ e).asD
  if Γ.mine ρ x then some (.nx (ρ.set x (.fz d))) else none):=rfl
theorem fK {x e u1 u2}:bb Φ N Γ ρ (.own x e u1 u2)=(match e with
  |.list es _=>do
   let l <-iJ Φ Γ ρ es
   if Γ.mine ρ x/\l.length<=lim then some (.nx (ρ.set x (.own l))) else none
  |.bin a op b _=>if yy op=true then(ev Φ Γ ρ a).bind fun r1=>r1.asB.bind fun u=>(ev Φ Γ ρ b).bind fun r2=>r2.asB.bind fun v=>u.list?.bind fun l1=>v.list?.bind fun l2=>
    if Γ.mine ρ x/\l1.length+l2.length<=lim then some (.nx (ρ.set x (.own (l1++l2)))) else none
   else none
  |_=>none):=rfl
theorem ka {xs ms u1 e u2 u3}:bb Φ N Γ ρ (.asgT xs ms u1 e u2 u3)=(match e with
  |.tup es _ _=>do
   let l <-yV Φ Γ ρ ms es
   if xs.length=l.length/\(es.any E.notConst||es.all E.isConst)/\(xs.map (·.1)).Nodup/\xs.all (fun q=>Γ.mine ρ q.1)/\l.length<=lim then some (.nx (fc (xs.zip l) ρ)) else none
  |_=>none):=rfl
theorem j9 {xs u1 e u2 u3}:bb Φ N Γ ρ (.asgU xs u1 e u2 u3)=(if e.isUn then do
   match(<-ev Φ Γ ρ e).asD with
   |some (.tup ds)=>if xs.length=ds.length/\xs.all (fun q=>Γ.mine ρ q.1) then some (.nx (jA xs ds ρ)) else none
   |_=>none
  else none):=rfl
theorem gu {x op e u1 u2}:bb Φ N Γ ρ (.augN x op e u1 u2)=(match ρ x,op with
  |some (.fz d),.Add=>do
   let y <-(<-ev Φ Γ ρ e).asD
   match d with
   |.int _=>do
    let z <-D.bin .Add d y
    if Γ.mine ρ x then some (.nx (ρ.set x (.fz z))) else none
   |.str _=>do
    let z <-D.bin .Add d y
    if Γ.mine ρ x then some (.nx (ρ.set x (.fz z))) else none
   |_=>none
  |_,_=>none):=rfl
theorem j8 {x i op e u1 u2 u3}:bb Φ N Γ ρ (.augI x i op e u1 u2 u3)=(match ρ x,op with
  |some (.own l),.Add=>do
   let j <-(<-ev Φ Γ ρ i).asD
   let y <-(<-ev Φ Γ ρ e).asD
   (oM l j y).map fun l'=>.nx (ρ.set x (.own l'))
  |_,_=>none):=rfl
theorem lF {x e u1 ap cp u2}:bb Φ N Γ ρ (.app x e u1 ap cp u2)=(match ρ x with
  |some (.own l)=>if ap.endLine==cp.line then do
    let y <-(<-ev Φ Γ ρ e).asD
    if l.length < lim then some (.nx (ρ.set x (.own (l++[y])))) else none
   else none
  |_=>none):=rfl
theorem lD {x e u1 ap cp u2}:bb Φ N Γ ρ (.ext x e u1 ap cp u2)=(tn (ρ x)).bind fun l=>if ap.endLine==cp.line then(ev Φ Γ ρ e).bind fun r=>r.asD.bind fun y=>y.list?.bind fun m=>
   if l.length+m.length<=lim then some (.nx (ρ.set x (.own (l++m)))) else none
  else none:=rfl
theorem j6 {x i e u1 u2 ap cp u3}:bb Φ N Γ ρ (.ext2 x i e u1 u2 ap cp u3)=(y7 (ρ x)).bind fun ll=>if ap.endLine==cp.line then(ev Φ Γ ρ i).bind fun r=>r.asD.bind fun j=>(ev Φ Γ ρ e).bind fun r=>r.asD.bind fun y=>y.list?.bind fun m=>
   (oB ll j m).map fun l'=>.nx (ρ.set x (.own2 l'))
  else none:=rfl
theorem j1 {x i e u1 u2 u3}:bb Φ N Γ ρ (.seti x i e u1 u2 u3)=if e.isCp then none else(tn (ρ x)).bind fun l=>(ev Φ Γ ρ e).bind fun r=>r.asD.bind fun y=>(ev Φ Γ ρ i).bind fun r=>r.asD.bind fun j=>(n8 l j y).map fun l'=>.nx (ρ.set x (.own l')):=rfl
theorem j2 {x xs u1 u2 ap cp u3 u4}:bb Φ N Γ ρ (.popU x xs u1 u2 ap cp u3 u4)=(tn (ρ x)).bind fun l=>if ap.endLine==cp.line then l.getLast?.bind fun d=>d.tup?.bind fun ds=>
   if xs.length=ds.length/\xs.all (fun q=>Γ.mine ρ q.1&&!(q.1==x)) then some (.nx (jA xs ds (ρ.set x (.own l.dropLast)))) else none
  else none:=rfl
theorem j3 {x y z g c t1 t2 e pre elt1 elt2 sc1 sc2 u1 u2 u3 u4 u5 q6 u7 u8 u9 u10 u11 u12 q13 u14 u15 u16}:bb Φ N Γ ρ (.pick x y z g c t1 t2 e pre elt1 elt2 sc1 sc2 u1 u2 u3 u4 u5 q6 u7 u8 u9 u10 u11 u12 q13 u14 u15 u16)=e.cal?.bind fun q=>if q.1.isCall=true then(ev Φ Γ ρ q.1).bind fun rf=>rf.asD.bind fun df=>df.lam?.bind fun f1=>(iJ Φ Γ ρ q.2).bind fun l0=>
   (Φ.gen f1.1 (f1.2++l0)).bind fun items=>(eFz (ρ g)).bind fun dg=>dg.lam?.bind fun f2=>(eFz (ρ c)).bind fun dc=>(ev Φ Γ ρ pre).bind fun rp=>rp.asD.bind fun dp=>dp.list?.bind fun lp=>
   (d6 Φ Γ sc1 (.name t1 q6) elt1 ρ items).bind fun l1=>(Φ.gen f2.1 (f2.2++[dc,.list (lp++l1)])).bind fun items2=>(d6 Φ Γ sc2 (.name t2 q13) elt2 ρ items2).bind fun l3=>
   if(em Γ sc1/\em Γ sc2/\Γ x=some .local/\Γ y=some .local/\(ρ x).isNone/\(ρ y).isNone)/\Γ.mine ρ z/\((Φ.lam f1.1 (f1.2++l0)).isNone/\(Φ.lam f2.1 (f2.2++[dc,.list (lp++l1)])).isNone)/\lp.length+l1.length<=lim/\l3.length<=lim then some (.nx (ρ.set z (.fz (.list l3)))) else none
  else none:=rfl
theorem j7 {x id f u1 u2 sc u3 u4}:bb Φ N Γ ρ (.defS x id f u1 u2 sc u3 u4)=(if em Γ sc/\f≠0/\Γ.f=f/\Γ.mine ρ x then do
   let caps <-(aD sc).mapM fun x=>match ρ x with|some (.sealed d)=>some d|_=>none
   some (.nx (ρ.set x (.fz (.lam id caps))))
  else none):=rfl
theorem j5 {t it body u1}:bb Φ N Γ ρ (.forS t it body u1)=(do
  let items <-(<-ev Φ Γ ρ it).asI
  eX Γ t (fun ρ=>aO Φ N Γ ρ body) ρ items):=rfl
theorem lA {c body u1}:bb Φ N Γ ρ (.whl c body u1)=(jL (fun ρ=>e7 Φ Γ ρ c) (fun ρ=>aO Φ N Γ ρ body) N ρ):=rfl
theorem lC {c a b u1}:bb Φ N Γ ρ (.ifS c a b u1)=(do
  let t <-e7 Φ Γ ρ c
  if t then aO Φ N Γ ρ a else aO Φ N Γ ρ b):=rfl
theorem iz {e u1}:bb Φ N Γ ρ (.ret e u1)=(do
  let d <-(<-ev Φ Γ ρ e).asD
  some (.rt d)):=rfl
theorem jZ {body hs u1}:bb Φ N Γ ρ (.tryS body hs u1)=(if hs.isEmpty then none else aO Φ N Γ ρ body):=rfl
theorem iA {x}:bb Φ N Γ ρ (.frz x)=(match ρ x with
  |some (.own l)=>some (.nx (ρ.set x (.fz (.list l))))
  |some (.own2 l)=>if l.all (fun r=>decide (r.length<=lim)) then some (.nx (ρ.set x (.fz (.list (l.map .list))))) else none
  |_=>none):=rfl
theorem lB {x a b u1 u2 u3 u4 u5 q6 u6 u7 q9 u8 u9}:bb Φ N Γ ρ (.sub x a b u1 u2 u3 u4 u5 q6 u6 u7 q9 u8 u9)=(match ρ x with
  |some (.fz (.str t))=>if Γ.mine ρ x/\a≠b/\t.length+(t.length+1) * b.length<=16777216/\(lW t a b).length<=lim/\q6.endLine=q9.line then
    some (.nx (if Du ⟨t.toArray⟩ ⟨a.toArray⟩ then ρ.set x (.fz (.str (lW t a b))) else ρ))
   else none
  |_=>none):=rfl
theorem gq {x}:bb Φ N Γ ρ (.seal x)=(match ρ x with
  |some (.fz d)=>if Γ x=some .cell then some (.nx (ρ.set x (.sealed d))) else none
  |_=>none):=rfl
end
end Mine
namespace Mine
variable {B:Bs}
structure SG (Wc W:AP)(s:zL)(Wc' W':AP):Prop where
 c:∀b,Wc b->Wc' b
 new:∀b,W' b->W b\/s.heap.objs.size<=b
 own:∀b,W' b->¬Wc' b->(W b/\¬Wc b)\/s.heap.objs.size<=b
noncomputable def SK (B:Bs)(Γ:ah)(pe:Env)(Wc W:AP)(s:zL)(out:gh)(next:zL->Prop)(ret:VS):Prop:=match out with
 |.nx ρ'=>∀s' Wc' W',SG Wc W s Wc' W'->Ctx B Γ Wc' W' pe ρ' s'->ao B (d3 W Wc) s s'->next s'
 |.rt d=>∀v s',ao B (d3 W Wc) s s'->av B s'.heap Wc d v->ret v s'
noncomputable def b0 (B:Bs) (K:Nat)(Φ:bq) (N:Nat)(st:St):Prop:=∀Γ ρ out,bb Φ N Γ ρ st=some out->∀Wc W pe A s (Q:Flow->zL->Prop)(E:VS)(rest:List Stmt),Ctx B Γ Wc W pe ρ s->aB A K->
 SK B Γ pe Wc W s out (fun s'=>wpAny B.M A (execs rest pe) Q E s') (fun v s'=>Q (.ret v) s')->wpAny B.M A (execs (St.py B.nm st++rest) pe) Q E s
noncomputable def gj (B:Bs) (K:Nat)(Φ:bq) (N:Nat)(ss:List St):Prop:=∀Γ ρ out,aO Φ N Γ ρ ss=some out->∀Wc W pe A s (Q:Flow->zL->Prop)(E:VS),Ctx B Γ Wc W pe ρ s->aB A K->
 SK B Γ pe Wc W s out (fun s'=>Q .next s') (fun v s'=>Q (.ret v) s')->wpAny B.M A (execs (eZ B.nm ss) pe) Q E s
section
variable (O:B.Ok)
include O
variable {Γ:ah}{ρ:ac}{Wc W:AP}{pe:Env}{A:Av}{s s₀:zL}{K N:Nat}{Φ:bq}
theorem SG.refl (Wc W:AP)(s:zL):SG Wc W s Wc W:=⟨fun _ q=>q,fun _ q=>.inl q,fun _ a b=>.inl ⟨a,b⟩⟩
theorem SG.trans {s':zL}{Wc1 W1 Wc2 W2:AP}(a:SG Wc W s Wc1 W1)(hs:s.heap.objs.size<=s'.heap.objs.size)(b:SG Wc1 W1 s' Wc2 W2):SG Wc W s Wc2 W2:=
 ⟨fun x q=>b.c x (a.c x q),fun x q=>(b.new x q).elim (a.new x) fun z=>.inr (zH hs z),fun x q n=>(b.own x q n).elim (fun z=>a.own x z.1 z.2) fun z=>.inr (zH hs z)⟩
theorem SG.eff {s' s'':zL}{Wc1 W1:AP}(a:SG Wc W s Wc1 W1)(e:ao B (d3 W Wc) s s')(e':ao B (d3 W1 Wc1) s' s''):ao B (d3 W Wc) s s'':=
 e.trans e' (fun b q=>a.own b q.1 q.2) (fun i q=>q.elim)
theorem SK.step {s':zL}{Wc1 W1:AP}{out:gh}{next:zL->Prop}{ret:VS}(a:SG Wc W s Wc1 W1)(e:ao B (d3 W Wc) s s')(X:Ctx B Γ Wc1 W1 pe ρ s')(k:SK B Γ pe Wc W s out next ret):SK B Γ pe Wc1 W1 s' out next ret:=by
 cases out with
 |nx ρ'=>exact fun s2 Wc2 W2 g X2 e2=>k s2 Wc2 W2 (SG.trans O a e.size g) X2 (SG.eff O a e e2)
 |rt d=>exact fun v s2 e2 r=>k v s2 (SG.eff O a e e2) (av.less O r a.c)
theorem bV {x:Nat}(h:Γ.mine ρ x=true):(Γ x=some .local\/Γ x=some .cell)/\¬aq ρ x:=by
 simp only[ah.mine,Bu,Cx,beq_iff_eq] at h;refine⟨h.1,fun⟨d,e⟩=>?_⟩;rw[e] at h;exact absurd h.2 (by simp)
theorem dA {x:Nat}(X:Ctx B Γ Wc W pe ρ s)(hs:¬aq ρ x):∀b,(zP B pe x).a b->W b/\¬Wc b:=fun b q=>by
 rcases q with rfl|q
 ·exact X.locW
 ·exact(X.cellW x b q).resolve_left hs
theorem xj:gj B K Φ N []:=by
 intro Γ ρ out h Wc W pe A s Q E X R k;simp only[lG,zV] at h;subst h;exact BF (k s Wc W (SG.refl O _ _ _) X (ao.refl _ _))
theorem tZ {st:St}{ss:List St}(h1:b0 B K Φ N st)(h2:gj B K Φ N ss):gj B K Φ N (st::ss):=by
 intro Γ ρ out h Wc W pe A s Q E X R k;simp only[e9,zQ,zO] at h;obtain⟨o1,ho1,h⟩:=h;refine h1 Γ ρ o1 ho1 Wc W pe A s Q E (eZ B.nm ss) X R ?_
 cases o1 with
 |nx ρ'=>
  intro s1 Wc1 W1 g1 X1 e1;exact h2 Γ ρ' out h Wc1 W1 pe A s1 Q E X1 R (SK.step O g1 e1 X1 k)
 |rt d=>
  replace h:=zG h;subst h;exact k
theorem jB (nm:Nat->Str)(e:E)(hc:∀a b c d,e≠.comp a b c d)(t:Option Expr) (l:Nat)(env:Env):Gu (e.py nm) t l env=pure false:=by
 cases e<;>first|rfl|exact absurd rfl (hc _ _ _ _)
theorem oK {x:Nat}{e:E}{d:D}{r:Mine.R}{xp p:Pos}{Q:Flow->zL->Prop}{Ex:VS}{rest:List Stmt}(he:aW B K Φ e)(h1:ev Φ Γ ρ e=some r)(hd:r.asD=some d)(hm:Γ.mine ρ x=true)(X:Ctx B Γ Wc W pe ρ s)(R:aB A K)
  (hs:Gu (e.py B.nm) (some (.Name (B.nm x) xp)) p.line pe=pure false) (k:SK B Γ pe Wc W s (.nx (ρ.set x (.fz d))) (fun s'=>wpAny B.M A (execs rest pe) Q Ex s') (fun v s'=>Q (.ret v) s')):
  wpAny B.M A (execs (.Assign [.Name (B.nm x) xp] (e.py B.nm) p::rest) pe) Q Ex s:=by
 refine aS (bV O hm) fun hk hns=>?_;refine zZ (AU (ci O he h1 hd X R fun v s1 e1 X1 q1=>Ctx.store O X1 hk hns q1 fun s2 X2 e2=>?_) hs);exact k s2 Wc W (SG.refl O _ _ _) X2 ((e1.toP _).trans e2 (fun b q=>.inl (dA O X1 hns b q)) fun i q=>q.elim)
theorem st_asg {x:Nat}{e:E}{xp p:Pos}(hK:20<=K)(he:aW B K Φ e)(hcomp:∀elt t it ifs r sc cp,e=.comp elt (.mk t it ifs::r) sc cp->aW B K Φ elt/\aW B K Φ it/\jT B K Φ ifs/\iw B K Φ r):b0 B K Φ N (.asg x e xp p):=by
 intro Γ ρ out h Wc W pe A s Q Ex rest X R k;have R20:aB A (K - 4):=R.less (CJ _ _);simp only[lE,zQ,zO] at h;obtain⟨r,h1,d,hd,h⟩:=h
 split at h
 case isFalse=>exact ai h
 rename_i hm
 obtain rfl:=zG h;show wpAny B.M A (execs (.Assign [.Name (B.nm x) xp] (e.py B.nm) p::rest) pe) Q Ex s
 by_cases hc:∃a b c d,e=.comp a b c d
 ·obtain⟨elt,gs,sc,cp,rfl⟩:=hc
  have hsw:∃b,Gu ((E.comp elt gs sc cp).py B.nm) (some (.Name (B.nm x) xp)) p.line pe=pure b:=⟨_,rfl⟩;obtain⟨b,hb⟩:=hsw
  cases b with
  |false=>exact oK O he h1 hd hm X R hb k
  |true=>
   refine aS (bV O hm) fun hk hns=>?_;rw[fB] at h1
   split at h1
   case isFalse=>exact ai h1
   rename_i hsc
   cases gs with
   |nil=>exact ai h1
   |cons g rr=>
    obtain⟨t,itE,ifs⟩:=g;refine x03 (hcomp _ _ _ _ _ _ _ rfl) fun k1 k2 k3 k4=>?_;simp only[zQ,zO,Aa,uD] at h1;refine nM h1 fun r1 h2 items hi l hl d' hd' e91=>?_;subst e91
    split at hd'
    case isFalse=>exact ai hd'
    rename_i hlim
    obtain rfl:=zG hd';obtain rfl:=zG hd;refine zZ ?_;rw[jt] at hb ⊢;refine zF (exec_Assign_Name_used _ _ _ _ hb) ?_;refine zK (AS (zK ?_));show wpAny B.M A (do let _ <-ET (.ListComp (elt.py B.nm) (pf B.nm (.mk t itE ifs::rr)) (bA B.nm sc) cp) (bA B.nm sc) pe (Ff (pf B.nm (.mk t itE ifs::rr)) cp) (newList []) false (eval (itE.py B.nm) pe) (some (Ct (.Name (B.nm x) xp) pe))) _ _ s;refine zK (Ak (jP O (fr:=false) (use:=some (Ct (.Name (B.nm x) xp) pe)) (Ex:=Ex) (Q:=fun _ s'=>wpAny B.M A (execs rest pe) Q Ex s') (fun z=>bG z) R R20 k1 k2 k3 k4 (eS O hsc) X h2 hi hl hlim fun s' a C e X' ra ha hC hns' hlt hne _=>?_) (fun _ s' hq=>zR (zR hq)) fun _ _ e=>e);show wpAny B.M A (Ct (.Name (B.nm x) xp) pe (.ref a)) _ _ s';have XC:=Ctx.grow O X (e.toP ⟨fun _=>False,fun _=>False⟩) (fun b q=>q.elim) (fun b q=>q.elim) (N:=fun b=>b=C) (fun b q=>by subst q;exact⟨hC,hlt⟩);refine BY (Ctx.store O XC hk hns ra fun s2 X2 e2=>?_);refine am hns' fun m hm' hz'=>?_;have zn:¬(zP B pe x).a C:=fun q=>(dA O XC hns C q).2 (.inr rfl);have nTC:¬B.T C:=fun t=>zJ _ (zI (X.wlt _ (X.tW' _ t)) hC);have hm2:s2.heap.Ns C m:=BO.moved hm' fun o z=>e2.keep C o nTC zn z;refine⟨m,hm2,fun h' hs'=>?_⟩;have ec:ao B ⟨fun b=>b=C,fun _=>False⟩ s2 { s2 with heap:=h' }:=cg O (s:=s2) (h':=h') (t:=s2.toks) nTC (hV hm2 hz') hs';have X3:Ctx B Γ _ _ pe _ { s2 with heap:=h' }:=Ctx.moveP O X2 ec (fun b q=>.inr q) (fun b q=>q▸X.good.hi hC);refine k _ (bB Wc fun b=>b=C) (bB W fun b=>b=C) ⟨fun b q=>.inl q,fun b q=>q.imp_right fun(q:b=C)=>q▸hC,fun b q n=>.inl ⟨q.elim id fun z=>absurd (.inr z) n,fun w=>n (.inl w)⟩⟩ X3 ?_;refine((e.toP _).trans e2 (fun b q=>.inl ?_) fun i q=>q.elim).trans ec (fun b (q:b=C)=>.inr (q▸hC)) fun i q=>q.elim;exact dA O X hns b q
 ·exact oK O he h1 hd hm X R (jB O _ _ (fun a b c d q=>hc ⟨a,b,c,d,q⟩) _ _ _) k
theorem jc {x:Nat}{p:Pos}{t:List Nat}(h:ρ x=some (.fz (.str t)))(X:Ctx B Γ Wc W pe ρ s){E:VS}{Q:VS}
  (k:∀tk,t.length<=lim->Q (.str ⟨t.toArray⟩ tk) s):wpAny B.M A (eval (.Name (B.nm x) p) pe) Q E s:=by
 refine Aw ?_ (O.dbg x);refine am (X.vars x _ h) fun v l rv=>?_;refine Ctx.name O X l ?_ (O.cld x);simp only[aR,av] at rv;refine aS rv fun p91 hl=>?_;obtain⟨tk,rfl⟩:=p91;exact k tk hl
theorem sC {a b t:List Nat}{tk:Tok}{q7 q8 q9:Pos}(hs:0 < s.toks)(hab:a≠b)(hb:t.length+(t.length+1) * b.length<=16777216){E:VS}{Q:VS}
  (k:∀t' n,Q (.str (Gi ⟨t.toArray⟩ ⟨a.toArray⟩ ⟨b.toArray⟩) t') { s with toks:=n }):
  FG B.prog B.w A E (Str.ofString "replace") (.str ⟨t.toArray⟩ tk) q9 [(false,eval (.Constant (.str ⟨a.toArray⟩) 0 q7) pe),(false,eval (.Constant (.str ⟨b.toArray⟩) 0 q8) pe)] Q s:=by
 refine⟨"str", _,CX,PySem.F.slot_str_replace,PySem.F.type_str_replace,Cz _ _ _,(fun _ e=>nomatch e),?_⟩
 refine C1 rfl (CB (AJ (Fo (AJ (Fo (Bn ?_))))));refine Ak (SC.replace (x:=⟨t.toArray⟩) (y:=⟨a.toArray⟩) (z:=⟨b.toArray⟩) (t:=tk) (u:=s.toks) (v:=s.toks+1) (Q:=Q) (E:=E) (by show @Ne Nat _ _;lia) (by show @Ne Nat _ _;lia) (by show @Ne Nat _ _;lia) ?_ ?_ ?_) (fun _ _ h=>h) fun _ _ h=>h
 ·simp only[beq_eq_false_iff_ne,ne_eq]
  intro e
  injection e with e
  exact hab (by simpa using congrArg Array.toList e)
 ·simpa [Str.length] using hb
 ·intro t' n
  exact k t' n
theorem sub_ok {x:Nat}{a b t:List Nat}{q1 q2 q3 q4 q5 q6 q7 q8 q9 q10 q11:Pos}{Q:Flow->zL->Prop}{Ex:VS}{rest:List Stmt}(h:ρ x=some (.fz (.str t)))(hm:Γ.mine ρ x=true)(hab:a≠b)(hb:t.length+(t.length+1) * b.length<=16777216)
  (hl:(lW t a b).length<=lim) (hline:(q6.endLine==q9.line)=true) (X:Ctx B Γ Wc W pe ρ s) (R:aB A K)
  (k:SK B Γ pe Wc W s (.nx (if Du ⟨t.toArray⟩ ⟨a.toArray⟩ then ρ.set x (.fz (.str (lW t a b))) else ρ)) (fun s'=>wpAny B.M A (execs rest pe) Q Ex s') (fun v s'=>Q (.ret v) s')):
  wpAny B.M A (execs (St.py B.nm (.sub x a b q1 q2 q3 q4 q5 q6 q7 q8 q9 q10 q11)++rest) pe) Q Ex s:=by
 refine aS (bV O hm) fun hk hns=>?_;refine zZ (FU (CG (Fo ?_) rfl));have X1:Ctx B Γ Wc W pe ρ { s with toks:=s.toks+1 }:=X.move O (az.toks _);refine jc O h X1 fun tk hlt=>?_;refine SB.contains (AZ ?_)
 cases hc:Du ⟨t.toArray⟩ ⟨a.toArray⟩ with
 |false=>
  rw[hc] at k;simp only[AK,if_false] at k ⊢;exact BF (k _ Wc W (SG.refl O _ _ _) X1 ((az.toks _).toP _))
 |true=>
  rw[hc] at k;simp only[if_true] at k ⊢;refine zZ (AU (Call_method2 rfl rfl hline (jc O h X1 fun tk' _=>sC O (by show 0 < s.toks+1;lia) hab hb fun t' n=>?_)) rfl);have X2:Ctx B Γ Wc W pe ρ { s with toks:=n }:=X.move O (az.toks _);refine Ctx.store O X2 hk hns (d:=.str (lW t a b)) ?_ fun s3 X3 e3=>BF ?_
  ·simp only[av]
   exact⟨⟨t',by simp[lW]⟩,hl⟩
  ·exact k s3 Wc W (SG.refl O _ _ _) X3 (((az.toks _).toP _).trans e3 (fun b q=>.inl (dA O X2 hns b q)) fun i q=>q.elim)
set_option tactic.hygienic true in
theorem st_sub {x:Nat}{a b:List Nat}{q1 q2 q3 q4 q5 q6 q7 q8 q9 q10 q11:Pos}:b0 B K Φ N (.sub x a b q1 q2 q3 q4 q5 q6 q7 q8 q9 q10 q11):=by
 intro Γ ρ out h Wc W pe A s Q Ex rest X R k;simp only[lB] at h
 split at h
 ·rename_i t ht
  split at h
  ·rename_i hc
   obtain rfl:=zG h;exact sub_ok O ht hc.1 hc.2.1 hc.2.2.1 hc.2.2.2.1 (by simpa using hc.2.2.2.2) X R k
  ·exact ai h
 ·exact ai h
end
end Mine
namespace Mine
variable {B:Bs}{K:Nat}
section
variable (O:B.Ok)
include O
variable {Γ:ah}{ρ:ac}{Wc W:AP}{pe:Env}{A:Av}{s s₀:zL}{K N:Nat}{Φ:bq}
theorem st_ret {e:E}{p:Pos}(he:aW B K Φ e):b0 B K Φ N (.ret e p):=by
 intro Γ ρ out h Wc W pe A s Q Ex rest X R k;simp only[iz,zQ,zO,zV] at h;obtain⟨r,h1,d,hd,rfl⟩:=h;exact zZ (CK (ci O he h1 hd X R fun v s1 e1 X1 q1=>k v s1 (e1.toP _) (av.less O q1 X.cW)))
theorem st_if {c:E}{a b:List St}{p:Pos}(hc:eJ B K Φ c)(ha:gj B K Φ N a)(hb:gj B K Φ N b):b0 B K Φ N (.ifS c a b p):=by
 intro Γ ρ out h Wc W pe A s Q Ex rest X R k;simp only[lC,zQ,zO] at h;obtain⟨t,h1,h⟩:=h;refine zZ (FU (se O hc h1 X R fun s1 e1 X1=>?_));have k1:=SK.step O (SG.refl O Wc W s) (e1.toP _) X1 k
 cases t with
 |true=>
  simp only[if_true] at h ⊢;exact ha _ _ _ h _ _ _ _ _ _ _ X1 R (by cases out<;>exact k1)
 |false=>
  simp only[AK,if_false] at h ⊢;exact hb _ _ _ h _ _ _ _ _ _ _ X1 R (by cases out<;>exact k1)
theorem st_try {body:List St}{hs:List ExceptHandler}{p:Pos}(ha:gj B K Φ N body):b0 B K Φ N (.tryS body hs p):=by
 intro Γ ρ out h Wc W pe A s Q Ex rest X R k;simp only[jZ] at h
 split at h
 ·exact ai h
 rename_i hne
 cases hs with
 |nil=>exact absurd rfl hne
 |cons h0 hr=>
  refine zZ (wpAny_Try_except ?_);refine ha _ _ _ h _ _ _ _ _ _ _ X R ?_
  cases out with
  |nx ρ'=>exact fun s' Wc' W' g X' e=>BF (k s' Wc' W' g X' e)
  |rt d=>exact k
noncomputable def FK (B:Bs)(Γ:ah)(pe:Env)(Wc W:AP)(p:Pv)(s:zL)(out:gh)(R:CI->zL->Prop):Prop:=match out with
 |.nx ρ'=>∀s' Wc' W',SG Wc W s Wc' W'->Ctx B Γ Wc' W' pe ρ' s'->ao B ⟨fun b=>(W b/\¬Wc b)\/p.a b,p.g⟩ s s'->R (.ok .next) s'
 |.rt d=>∀v s',ao B ⟨fun b=>(W b/\¬Wc b)\/p.a b,p.g⟩ s s'->av B s'.heap Wc d v->R (.ok (.ret v)) s'
theorem zg {t:Tg}{d:D}{v:Value}{ρ':ac}{E:VS}{Q:Unit->zL->Prop}(hh:A.handled=none)(hb:rO Γ t d ρ=some ρ')(X:Ctx B Γ Wc W pe ρ s)(r:av B s.heap W d v)
  (k:∀s',Ctx B Γ Wc W pe ρ' s'->ao B (d3 W Wc) s s'->Q () s'):wpAny B.M A (Ct (t.py B.nm) pe v) Q E s:=by
 cases t with
 |name x p=>
  simp only[rO] at hb;refine ifk hb fun hm e95=>?_;subst e95;obtain⟨hk,hns⟩:=bV O hm;exact BY (Ctx.store O X hk hns r fun s1 X1 e1=>k s1 X1 (e1.mono (dA O X hns) fun i q=>q))
theorem for_ok {t:Tg}{body:List St}(hbody:gj B K Φ N body)(RK:aB A K)(R20:aB A (K - 4)){it:Addr}{F:AP}{I:List D->Pv->zL->Prop}(ok:be B K F it I):
  ∀(items:List D) (ρ:ac) (out:gh) (R:CI->zL->Prop) (s:zL) (Wc W:AP) (p:Pv),eX Γ t (fun ρ=>aO Φ N Γ ρ body) ρ items=some out->Ctx B Γ Wc W pe ρ s->I items p s->(∀b,F b->¬W b/\b < s.heap.objs.size)->
   (∀b,p.a b->Wc b/\B.Hi b)->FK B Γ pe Wc W p s out R->BZ B.M A (.forLoop (t.py B.nm) (.ref it) (eZ B.nm body) [] pe) R s:=by
 intro items
 induction items with
 |nil=>
  intro ρ out R s Wc W p hev X hI hF hp k;simp only[kb,zV] at hev;subst hev;refine CA ?_;show wpAny _ A ((DX (t.py B.nm) (.ref it) (eZ B.nm body) [] pe).onRaise (fun x=>do Dq x pe;Cp x)) _ _ s;refine DV ?_;simp only[DX];refine zK (AS (zK (D0 (ok.done _ _ _ _ _ hI X.good R20 fun s1 e1=>?_))));refine zR ⟨rfl,codeAny_block (BF ?_)⟩;exact k s1 Wc W (SG.refl O _ _ _) (Ctx.moveP O X e1 (fun b q=>(hp b q).1) fun b q=>(hp b q).2) (e1.mono (fun b q=>.inr q) fun i q=>q)
 |cons d rest ih=>
  intro ρ out R s Wc W p hev X hI hF hp k;simp only[iQ,zQ,zO] at hev;obtain⟨ρ1,hb,o1,ho1,hrest⟩:=hev;refine CA ?_;show wpAny _ A ((DX (t.py B.nm) (.ref it) (eZ B.nm body) [] pe).onRaise (fun x=>do Dq x pe;Cp x)) _ _ s;refine DV ?_;simp only[DX];refine zK (AS (zK (D0 (ok.next _ _ _ _ _ _ _ hI X.good R20 fun v s1 p1 e1 hsub hnew hg rv hI1=>?_))));have hN:∀b,(p1.a b/\s.heap.objs.size<=b)->s.heap.objs.size<=b/\b < s1.heap.objs.size:=fun b q=>⟨q.2,(ok.sub _ _ _ hI1 b q.1).2.2⟩;have X1:=Ctx.grow O X e1 (fun b q=>(hp b q).1) (fun b q=>(hp b q).2) hN;have g1:cO Wc W s (bB Wc fun b=>p1.a b/\s.heap.objs.size<=b) (bB W fun b=>p1.a b/\s.heap.objs.size<=b):=cO.or O X.wlt fun b q=>q.2;have hp1:∀b,p1.a b->(bB Wc fun b=>p1.a b/\s.heap.objs.size<=b) b/\B.Hi b:=fun b q=>by
   rcases hnew b q with z|z
   ·exact⟨.inl (hp b z).1,(hp b z).2⟩
   ·exact⟨.inr ⟨q,z⟩,X.good.hi z⟩
  have hF1:∀b,F b->¬(bB W fun b=>p1.a b/\s.heap.objs.size<=b) b:=fun b q z=>z.elim (hF b q).1 fun z=>zJ _ (zI (hF b q).2 z.2);have rv1:av B s1.heap (bB W fun b=>p1.a b/\s.heap.objs.size<=b) d v:=av.less O rv fun b q z=>hF1 b z q;generalize hWc1:(bB Wc fun b=>p1.a b/\s.heap.objs.size<=b)=Wc1 at *;generalize hW1:(bB W fun b=>p1.a b/\s.heap.objs.size<=b)=W1 at *;have let_ok:∀{E:VS}{Q:Unit->zL->Prop},Q () s1->wpAny B.M A (Cq (t.py B.nm) (.ref it) v) Q E s1:=fun hQ=>by
   cases t with
   |name y q=>exact gD hQ
  refine zK (let_ok (zK (zg O R20.handled hb X1 rv1 fun s2 X2 e2=>?_)));have own1:∀b,W1 b/\¬Wc1 b->W b/\¬Wc b:=fun b q=>(g1.own b).mp q;have e02:ao B ⟨fun b=>(W b/\¬Wc b)\/p.a b,p.g⟩ s s2:=(e1.mono (p':=⟨fun b=>(W b/\¬Wc b)\/p.a b,p.g⟩) (fun b q=>.inr q) fun i q=>q).trans e2 (fun b q=>.inl (.inl (own1 b q))) fun i q=>q.elim;refine zK (hbody _ _ _ ho1 _ _ _ _ _ _ _ X2 RK ?_)
  cases o1 with
  |rt d'=>
   simp only[zV] at hrest;subst hrest;intro v' s3 e3 r3;exact zR (k v' s3 (e02.trans e3 (fun b q=>.inl (.inl (own1 b q))) fun i q=>q.elim) (av.less O r3 g1.c))
  |nx ρ2=>
   intro s3 Wc3 W3 g3 X3 e3;have e13:ao B (d3 W1 Wc1) s1 s3:=e2.trans e3 (fun b q=>.inl q) fun i q=>q.elim;have I3:I rest p1 s3:=by
    refine ok.stay _ _ _ _ hI1 (fun b o nt q z=>e13.keep b o nt (fun w=>?_) z) e13.ck e13.size (fun i y q z=>e13.gens i y (fun w=>w.elim) z) X3.good;rcases q with q|q
    ·exact hF1 b q w.1
    ·exact w.2 (hp1 b q).1
   have F3:∀b,F b->¬W3 b/\b < s3.heap.objs.size:=fun b q=>⟨fun z=>(g3.new b z).elim (hF1 b q) fun z=>zJ _ (zI (hF b q).2 (zH e02.size z)),zI (hF b q).2 (zH e02.size e3.size)⟩;have e03:=e02.trans e3 (fun b q=>.inl (.inl (own1 b q))) fun i q=>q.elim;have sg03:SG Wc W s Wc3 W3:=⟨fun b q=>g3.c b (g1.c b q),fun b q=>(g3.new b q).elim (g1.new b) fun z=>.inr (zH e02.size z),fun b q n=>(g3.own b q n).elim (fun z=>.inl (own1 b z)) fun z=>.inr (zH e02.size z)⟩;refine zR ⟨rfl,ih ρ2 out R s3 Wc3 W3 p1 hrest X3 I3 F3 (fun b q=>⟨g3.c b (hp1 b q).1,(hp1 b q).2⟩) ?_⟩
   have back:∀{s4:zL},ao B ⟨fun b=>(W3 b/\¬Wc3 b)\/p1.a b,p1.g⟩ s3 s4->ao B ⟨fun b=>(W b/\¬Wc b)\/p.a b,p.g⟩ s s4:=fun e4=>e03.trans e4 (fun b q=>by
    rcases q with q|q
    ·exact(sg03.own b q.1 q.2).imp .inl id
    ·exact(hnew b q).imp .inr id) fun i q=>.inl (by refine zF (AM hg) ?_;exact q)
   cases out with
   |nx ρ'=>exact fun s4 Wc4 W4 g4 X4 e4=>k s4 Wc4 W4 (SG.trans O sg03 e03.size g4) X4 (back e4)
   |rt d'=>exact fun v' s4 e4 r4=>k v' s4 (back e4) (av.less O r4 sg03.c)
theorem st_for {t:Tg}{itE:E}{body:List St}{p:Pos}(hK:20<=K)(hit:aW B K Φ itE)(hbody:gj B K Φ N body):b0 B K Φ N (.forS t itE body p):=by
 intro Γ ρ out h Wc W pe A s Q Ex rest X R k;have R20:aB A (K - 4):=R.less (CJ _ _);simp only[j5,zQ,zO] at h;refine ke h fun r h1 items hi h=>?_;refine zZ (wpAny_For (useR O hit h1 X R fun v s1 e1 X1 q1=>pA O hi X1.tW' X1.wlt X1.good R20 e1 q1 fun it F pv I s2 at2 hlen2 e2=>?_) (fun x=>kR O _ _ _ _));refine x04 at2 fun ok hI hF hp hg=>?_;have e02:=e1.trans e2;have hsub:=ok.sub _ _ _ hI;have X2:=Ctx.grow O X (e02.toP ⟨fun J=>False,fun J=>False⟩) (fun b q=>q.elim) (fun b q=>q.elim) (N:=pv.a) (fun b q=>⟨hp b q,(hsub b q).2.2⟩);have g2:cO Wc W s (bB Wc pv.a) (bB W pv.a):=cO.or O X.wlt hp;have sg:SG Wc W s (bB Wc pv.a) (bB W pv.a):=⟨g2.c,g2.new,fun b q n=>.inl ((g2.own b).mp ⟨q,n⟩)⟩;refine for_ok O hbody R R20 ok items ρ out _ s2 _ _ pv h X2 hI (fun b q=>⟨fun z=>z.elim (hF b q).1 fun z=>(hsub b z).1 q,(hF b q).2⟩) (fun b q=>⟨.inr q,X.good.hi (hp b q)⟩) ?_
 have back:∀{s4:zL},ao B ⟨fun b=>((bB W pv.a) b/\¬(bB Wc pv.a) b)\/pv.a b,pv.g⟩ s2 s4->ao B (d3 W Wc) s s4:=fun e4=>(e02.toP _).trans e4 (fun b q=>by
  rcases q with q|q
  ·exact .inl ((g2.own b).mp q)
  ·exact .inr (hp b q)) fun i q=>.inr (hg i q)
 cases out with
 |nx ρ'=>exact fun s4 Wc4 W4 g4 X4 e4=>k s4 Wc4 W4 (SG.trans O sg e02.size g4) X4 (back e4)
 |rt d=>exact fun v' s4 e4 r4=>k v' s4 (back e4) (av.less O r4 sg.c)
theorem whl_ok {c:E}{body:List St}(hc:eJ B K Φ c)(hbody:gj B K Φ N body)(RK:aB A K):∀(n:Nat)(ρ:ac)(out:gh)(R:CI->zL->Prop)(s:zL)(Wc W:AP),jL (fun ρ=>e7 Φ Γ ρ c) (fun ρ=>aO Φ N Γ ρ body) n ρ=some out->
  Ctx B Γ Wc W pe ρ s->SK B Γ pe Wc W s out (fun s'=>R (.ok .next) s') (fun v s'=>R (.ok (.ret v)) s')->BZ B.M A (.whileLoop (c.py B.nm) (eZ B.nm body) [] pe) R s:=by
 intro n
 induction n with
 |zero=>intro ρ out R s Wc W hev;exact ai hev
 |succ n ih=>
  intro ρ out R s Wc W hev X k;simp only[jL,zQ,zO] at hev;obtain⟨t,ht,hev⟩:=hev;refine CA ?_;show wpAny _ A ((whileTurn (c.py B.nm) (eZ B.nm body) [] pe).onRaise (fun x=>do Dq x pe;Cp x)) _ _ s;refine DV ?_;unfold whileTurn;refine zK (se O hc ht X RK fun s1 e1 X1=>?_);have k1:=SK.step O (SG.refl O Wc W s) (e1.toP _) X1 k
  cases t with
  |false=>
   simp only[AK,if_false,zV] at hev ⊢;subst hev;exact zK (BF (zR (k1 s1 Wc W (SG.refl O _ _ _) X1 (ao.refl _ _))))
  |true=>
   simp only[if_true,zO] at hev ⊢;obtain⟨o1,ho1,hrest⟩:=hev;refine zK (hbody _ _ _ ho1 _ _ _ _ _ _ _ X1 RK ?_)
   cases o1 with
   |rt d=>
    simp only[zV] at hrest;subst hrest;exact fun v s2 e2 r2=>zR (k1 v s2 e2 r2)
   |nx ρ2=>exact fun s2 Wc2 W2 g2 X2 e2=>zR ⟨rfl,ih ρ2 out R s2 Wc2 W2 hrest X2 (SK.step O g2 e2 X2 k1)⟩
theorem st_whl {c:E}{body:List St}{p:Pos}(hc:eJ B K Φ c)(hbody:gj B K Φ N body):b0 B K Φ N (.whl c body p):=by
 intro Γ ρ out h Wc W pe A s Q Ex rest X R k;simp only[lA] at h;exact zZ (wpAny_While (whl_ok O hc hbody R N ρ out _ s Wc W h X (by cases out<;>exact k)))
end
end Mine
namespace Mine
variable {B:Bs}
section
variable (O:B.Ok)
include O
variable {Γ:ah}{ρ:ac}{Wc W:AP}{pe:Env}{A:Av}{s s₀:zL}{K N:Nat}{Φ:bq}
theorem Ctx.growOwn {s':zL}{N:AP}(X:Ctx B Γ Wc W pe ρ s)(e:az B s s')(hN:∀b,N b->s.heap.objs.size<=b/\b < s'.heap.objs.size):Ctx B Γ Wc (bB W N) pe ρ s':=by
 have Y:=Ctx.grow O X (e.toP ⟨fun J=>False,fun J=>False⟩) (fun b q=>q.elim) (fun b q=>q.elim) hN;have nWc:∀b,N b->¬Wc b:=fun b n w=>zJ _ (zI (X.wlt b (X.cW b w)) (hN b n).1)
 exact{ Y with
  tW:=X.tW
  cW:=fun b q=>.inl (X.cW b q)
  locW:=⟨.inl X.locW.1,X.locW.2⟩
  ow:=fun b q n=>q.elim (fun z=>X.ow b z n) fun z=>X.good.hi (hN b z).1
  cellW:=fun x c q=>(X.cellW x c q).imp_right fun z=>⟨.inl z.1,z.2⟩
  vars:=fun x en q=>by
   refine am (Y.vars x en q) fun v l r=>?_
   exact⟨v,l,r.map (fun J J r=>r) (fun J J r=>r) (fun J J w q=>⟨q,w⟩) (fun b J w wc J=>⟨⟨w,fun q=>wc (.inl q)⟩,fun J q=>q⟩) fun J J q=>q⟩ }
theorem st_own {x:Nat}{es:List E}{lp xp p:Pos}(hs:iN B K Φ es):b0 B K Φ N (.own x (.list es lp) xp p):=by
 intro Γ ρ out h Wc W pe A s Q Ex rest X R k;simp only[fK,zQ,zO] at h;refine am h fun l h1 h=>?_;refine mA h fun hc h=>?_;refine aS hc fun hm hl=>?_;obtain rfl:=zG h;refine aS (bV O hm) fun hk hns=>?_;refine zZ (AU ?_ rfl);show wpAny B.M A (eval (.List (eN B.nm es) lp) pe) _ _ s;refine List_ ?_;refine zF (bO O _ _ _ _) ?_;refine vA O hs h1 X R fun vs s1 e1 X1 q1=>?_;refine Bz ?_ (by show vs.toArray.size<=sizeLine;refine zF Bp<|zF (aa.length q1) ?_;exact ax hl);have e2:az B s1 { s1 with heap:=s1.heap.push { cls:=.type "list", data:=.seq vs.toArray } }:=az.push O _ s1.toks
 have hsz:({ s1 with heap:=s1.heap.push { cls:=.type "list", data:=.seq vs.toArray } }:zL).heap.objs.size=s1.heap.objs.size+1:=Aq ..
 have X2:=Ctx.growOwn O X1 e2 (N:=fun b=>b=s1.heap.objs.size) (fun b q=>by refine zF hsz<|zF q ?_;exact⟨zW _,AL _⟩);have hfresh:∀b,W b->b < s1.heap.objs.size:=X1.wlt;refine Ctx.storeE O X2 hk hns (fun d e=>by exact sH rfl e) (en:=.own l) ⟨_,vs.toArray,0,rfl,.inr rfl,fun w=>zJ _ (hfresh _ (X1.cW _ w)),Aj _ rfl,hl,?_⟩ (fun b ob y e' w hy hρ hloc hb=>?_) fun s3 X3 e3=>?_
 ·simp only[BG]
  exact aa.move O (fun b o J e=>z9 _ e) (fun b q=>q.imp_right fun q=>AG (Ax q.symm)) _ _ q1
 ·obtain rfl:=Value.ref.inj ob
  refine am (X1.vars y _ hρ) fun w' lw rw'=>?_;obtain rfl:=cP.uniq hloc (X1.locmove e2 lw);exact zJ _ (hfresh _ (aM.w rw' (aM.back rw' (fun c o w q=>e2.keep c o (fun t=>w (X1.tW' _ t)) q) hb)).1.1)
 ·have e13:=(e1.trans e2)
  refine k s3 Wc (bB W fun b=>b=s1.heap.objs.size) ⟨fun b q=>q,fun b q=>q.imp_right fun(q:b=s1.heap.objs.size)=>q▸e1.size,fun b q n=>q.elim (fun z=>.inl ⟨z,n⟩) fun(z:b=s1.heap.objs.size)=>.inr (z▸e1.size)⟩ X3 ?_;refine(e13.toP _).trans e3 (fun b q=>?_) fun i q=>q.elim;rcases q with rfl|q
  ·exact .inl X.locW
  ·have:=(X.cellW x b (by exact q)).resolve_left hns
   exact .inl this
theorem uL {x:Nat}{en:dL}{d:D}{v:Value}{N:Nat}{next:zL->Prop}{ret:VS}(X:Ctx B Γ Wc W pe ρ s)(hx:ρ x=some en)(lv:cP B pe s.heap x v)(r:aR B pe.locals s.heap Wc W en v)(hne:∀d,en≠.sealed d)(rd:av B s.heap (fun b=>W b/\¬aM s.heap en v b) d v)
  (k:SK B Γ pe Wc W s (.nx (ρ.set x (.fz d))) next ret):next s:=by
 have ow:=fun b (o:aM s.heap en v b)=>aM.w r o;refine am X.loc fun m hm hz=>?_;refine k s Wc (fun b=>W b/\¬aM s.heap en v b) ⟨fun b q=>q,fun b q=>.inl q.1,fun b q n=>.inl ⟨q.1,n⟩⟩ ?_ (ao.refl _ _);have hse:∀y,aq (ρ.set x (.fz d)) y↔aq ρ y:=by
  intro y
  by_cases hy:y=x
  ·subst hy
   constructor
   ·rintro⟨d',e⟩;rw[ac.set_self O] at e;exact sH rfl (zG e)
   ·rintro⟨d',e⟩;rw[hx] at e;exact absurd (zG e) (hne d')
  ·unfold aq;rw[ac.set_ne O _ _ hy]
 exact{ X with
  cW:=fun b q=>⟨X.cW b q,fun e=>(ow b e).1.2 q⟩
  wlt:=fun b q=>X.wlt b q.1
  locW:=⟨⟨X.locW.1,fun e=>fH.ne_loc O (ow _ e).2 hm rfl⟩,X.locW.2⟩
  ow:=fun b q n=>X.ow b q.1 n
  cellW:=fun y c q=>by
   rcases X.cellW y c q with z|z
   ·exact .inl ((hse y).mpr z)
   ·refine .inr ⟨⟨z.1,fun e=>?_⟩,z.2⟩
    refine aS (X.cells y c q) fun p91 J=>?_;obtain⟨w,hw⟩:=p91;exact fH.ne_cell O (ow _ e).2 hw rfl
  vars:=fun y e hy=>by
   by_cases hyx:y=x
   ·subst hyx
    rw[ac.set_self O] at hy;obtain rfl:=zG hy;exact⟨v,lv,rd⟩
   ·rw[ac.set_ne O _ _ hyx] at hy
    refine am (X.vars y e hy) fun w lw rw'=>?_;exact⟨w,lw,rw'.map (fun J J r=>av.less O r fun b q=>q.1) (fun J J r=>aa.less O r fun b q=>q.1) (fun J J w q=>⟨q,fun z=>w z.1⟩) (fun b o w wc J=>⟨⟨⟨w,fun z=>hyx (X.owns y x _ _ _ _ b hy hx lw lv o z)⟩,wc⟩,fun J q=>q⟩) fun J J q=>q⟩
  sealedW:=fun y q=>by
   refine am (X.sealedW y ((hse y).mp q)) fun c h1 h2=>?_;exact⟨c,h1,fun z=>h2 z.1⟩
  owns:=fun y z e1 e2 u1 u2 b hy hz ly lz o1 o2=>by
   have hyx:y≠x:=by rintro rfl;rw[ac.set_self O] at hy;obtain rfl:=zG hy;exact o1
   have hzx:z≠x:=by rintro rfl;rw[ac.set_self O] at hz;obtain rfl:=zG hz;exact o2
   rw[ac.set_ne O _ _ hyx] at hy;rw[ac.set_ne O _ _ hzx] at hz
   exact X.owns y z _ _ _ _ b hy hz ly lz o1 o2 }
theorem aa.of_get {h:Heap}:∀(ds:List D)(vs:List Value),vs.length=ds.length->(∀(i:Nat) d v,ds[i]?=some d->vs[i]?=some v->av B h W d v)->aa B h W ds vs
 |[],[],_,_=>aa.nil
 |[],_::_,h,_=>nosz h
 |_::_,[],h,_=>nozs h
 |d::ds,v::vs,h,k=>aa.cons (k 0 d v rfl rfl) (aa.of_get ds vs (DK h) fun i d v h1 h2=>k (i+1) d v h1 h2)
set_option tactic.hygienic true in
theorem st_frz {x:Nat}:b0 B K Φ N (.frz x):=by
 intro Γ ρ out h Wc W pe A s Q Ex rest X R k;simp only[iA] at h
 split at h
 case h_3=>exact ai h
 ·rename_i l hx
  obtain rfl:=zG h;refine am (X.vars x _ hx) fun v lv r=>?_;refine uL O (N:=N) X hx lv r (fun J e=>sH rfl e) ?_ k;obtain⟨a,vs,n,rfl,hW,hWc,hg,hl,ra⟩:=r;exact⟨a,vs,n,rfl,fun q=>q.2 rfl,hg,hl,aa.less O ra fun b q=>q.1⟩
 ·rename_i l hx
  refine aS (aE h) fun hall e=>?_;obtain rfl:=e;refine am (X.vars x _ hx) fun v lv r=>?_;refine uL O (N:=N) X hx lv r (fun J e=>sH rfl e) ?_ k;obtain⟨c,bs,n,rfl,w,g,nd,len,hl,r⟩:=r;refine⟨c,_,n,rfl,fun q=>w q.1,g,by refine zF (zX _) ?_;exact hl,?_⟩;refine zF BG ?_;refine aa.of_get O _ _ (by simp[len]) fun i d v hd hv=>?_;rw[AR] at hd hv;refine am (aK hd) fun l' h1 e91=>?_;subst e91;refine am (aK hv) fun b h2 e91=>?_;subst e91;obtain⟨a,vs,n',e,J,J,hg,hl',ra⟩:=r i b l' h2 h1;obtain rfl:=Value.ref.inj e;exact⟨b,vs,n',rfl,fun q=>q.2 ⟨c,bs,n,rfl,g,BK h2⟩,hg,hl',aa.less O ra fun b q=>q.1⟩
set_option tactic.hygienic true in
theorem tX {x:Nat}:b0 B K Φ N (.seal x):=by
 intro Γ ρ out h Wc W pe A s Q Ex rest X R k;simp only[gq] at h
 split at h
 case h_2=>exact ai h
 rename_i d hx
 split at h
 case isFalse=>exact ai h
 rename_i hk
 obtain rfl:=zG h;refine aS (X.kinds _ _ hk) fun kk hc=>?_;refine x1 (hc (.inl rfl)) fun c hc=>?_;refine aS (X.cells x c hc) fun p91 hcT=>?_;obtain⟨w,hw⟩:=p91;have hns:¬aq ρ x:=fun⟨d',e⟩=>by rw[hx] at e;exact sH rfl (zG e)
 refine aS ((X.cellW x c hc).resolve_left hns) fun hcW hcWc=>?_;refine am X.loc fun m hm hz=>?_;refine k s Wc (fun b=>W b/\b≠c) ⟨fun b q=>q,fun b q=>.inl q.1,fun b q n=>.inl ⟨q.1,n⟩⟩ ?_ (ao.refl _ _);have hse:∀y,aq (ρ.set x (.sealed d)) y↔(aq ρ y\/y=x):=by
  intro y
  by_cases hy:y=x
  ·subst hy
   exact⟨fun J=>.inr rfl,fun J=>⟨d,ac.set_self O _ _ _⟩⟩
  ·unfold aq;refine zF (ac.set_ne O _ _ hy) ?_;simp[hy]
 exact{ X with
  cW:=fun b q=>⟨X.cW b q,fun e=>hcWc (e▸q)⟩
  wlt:=fun b q=>X.wlt b q.1
  locW:=⟨⟨X.locW.1,fun e=>fS hm hw e.symm⟩,X.locW.2⟩
  ow:=fun b q n=>X.ow b q.1 n
  cellW:=fun y c' q=>by
   by_cases hy:y=x
   ·exact .inl ((hse y).mpr (.inr hy))
   rcases X.cellW y c' q with z|z
   ·exact .inl ((hse y).mpr (.inl z))
   ·refine .inr ⟨⟨z.1,?_⟩,z.2⟩
    rintro rfl;exact hy (O.inj _ _ (GE X.apart (mem_of_lookup q) (mem_of_lookup hc)))
  vars:=fun y e hy=>by
   by_cases hyx:y=x
   ·subst hyx
    rw[ac.set_self O] at hy;obtain rfl:=zG hy;refine am (X.vars y _ hx) fun v lv rv=>?_;exact⟨v,lv,av.less O rv fun b q=>q.1⟩
   ·rw[ac.set_ne O _ _ hyx] at hy
    refine am (X.vars y e hy) fun w' lw rw'=>?_;exact⟨w',lw,rw'.map (fun J J r=>av.less O r fun b q=>q.1) (fun J J r=>aa.less O r fun b q=>q.1) (fun J J w q=>⟨q,fun z=>w z.1⟩) (fun b o w wc t=>⟨⟨⟨w,fH.ne_cell O t hw⟩,wc⟩,fun J q=>q⟩) fun J J q=>q⟩
  sealedW:=fun y q=>by
   rcases(hse y).mp q with q|rfl
   ·refine am (X.sealedW y q) fun c' h1 h2=>?_
    exact⟨c',h1,fun z=>h2 z.1⟩
   ·exact⟨c,hc,fun z=>z.2 rfl⟩
  owns:=fun y z e1 e2 u1 u2 b hy hz ly lz o1 o2=>by
   have hyx:y≠x:=by rintro rfl;rw[ac.set_self O] at hy;obtain rfl:=zG hy;exact o1
   have hzx:z≠x:=by rintro rfl;rw[ac.set_self O] at hz;obtain rfl:=zG hz;exact o2
   rw[ac.set_ne O _ _ hyx] at hy;rw[ac.set_ne O _ _ hzx] at hz
   exact X.owns y z _ _ _ _ b hy hz ly lz o1 o2 }
theorem Ctx.setAt {x:Nat}{en en':dL}{v:Value}{a:Addr}{h':Heap}{t:Nat}(X:Ctx B Γ Wc W pe ρ s)(hx:ρ x=some en)(lv:cP B pe s.heap x v)(ha:aM s.heap en v a)(hne:∀d,en≠.sealed d)(hne':∀d,en'≠.sealed d)(hs:Cm a s.heap h')
  (hr:(∀b o,(¬W b\/B.KO o)->s.heap.get? b=some o->h'.get? b=some o)->aR B pe.locals h' Wc W en' v) (hoa:∀b,aM h' en' v b->aM s.heap en v b):
  Ctx B Γ Wc W pe (ρ.set x en') { s with heap:=h',toks:=t }/\ao B (d3 W Wc) s { s with heap:=h',toks:=t }:=by
 refine am (X.vars x _ hx) fun v0 lv0 r0=>?_;obtain rfl:=cP.uniq lv lv0;refine aS (aM.w r0 ha) fun p91 hT=>?_;obtain⟨hW,hWc⟩:=p91;have hnc:=fH.nc O hT;have keepW:∀b o,(¬W b\/B.KO o)->s.heap.get? b=some o->h'.get? b=some o:=fun b o hw e=>hs.extBut b o (fun q=>hw.elim (fun hw=>hw (q▸hW)) fun hc=>hnc o (q▸e) hc) e;refine am X.loc fun m hm hz=>?_;have hal:a≠pe.locals:=fH.ne_loc O hT hm;have hm':h'.Ns pe.locals m:=hm.sameBut hs (Et hal);have cne:∀y c,pe.cells.lookup (B.nm y)=some c->c≠a:=fun y c q=>by
  refine aS (X.cells y c q) fun p91 J=>?_;obtain⟨w,hw⟩:=p91;exact Et (fH.ne_cell O hT hw)
 have mv:∀y w,cP B pe s.heap y w->cP B pe h' y w:=by
  rintro y w (⟨k,m',n',e⟩|⟨k,c',e,hc'⟩)
  ·have:=Ns.uniq hm n';subst this
   exact .inl ⟨k,_,hm',e⟩
  ·exact .inr ⟨k,c',e,B5.moved hc' fun o z=>hs.extBut _ o (cne y c' e) z⟩
 have hse:∀y,aq (ρ.set x en') y↔aq ρ y:=by
  intro y
  by_cases hy:y=x
  ·subst hy
   constructor
   ·rintro⟨d',e⟩;rw[ac.set_self O] at e;exact absurd (zG e) (hne' d')
   ·rintro⟨d',e⟩;rw[hx] at e;exact absurd (zG e) (hne d')
  ·unfold aq;rw[ac.set_ne O _ _ hy]
 have old:∀y e w b,(ρ.set x en') y=some e->cP B pe h' y w->aM h' e w b->∃e0 w0,ρ y=some e0/\cP B pe s.heap y w0/\aM s.heap e0 w0 b:=fun y e w b hy ly o=>by
  by_cases hyx:y=x
  ·subst hyx
   rw[ac.set_self O] at hy;obtain rfl:=zG hy;obtain rfl:=cP.uniq ly (mv _ _ lv);exact⟨en,w,hx,lv,hoa b o⟩
  ·replace hy:=(ac.set_ne O _ _ hyx)▸hy
   refine am (X.vars y e hy) fun w0 lw rw'=>?_;obtain rfl:=cP.uniq ly (mv _ _ lw);exact⟨e,w,hy,lw,aM.back rw' (fun c o w q=>keepW c o (.inl w) q) o⟩
 refine⟨Ctx.change O X ⟨hW,hWc⟩ hnc hs ⟨m,hm',hz⟩ (fun y c q=>?_) (fun y e hy=>?_) hse (fun y z e1 e2 u1 u2 b hy hz ly lz o1 o2=>?_),(cg O (fun q=>hWc (X.tW _ q)) hnc hs).mono (fun b q=>q▸⟨hW,hWc⟩) fun i q=>q⟩
 ·refine aS (X.cells y c q) fun p91 J=>?_
  obtain⟨w,hw⟩:=p91;exact⟨w,B5.moved hw fun o z=>hs.extBut _ o (cne y c q) z⟩
 ·by_cases hyx:y=x
  ·subst hyx
   rw[ac.set_self O] at hy;obtain rfl:=zG hy;exact⟨_,mv _ _ lv,hr keepW⟩
  ·replace hy:=(ac.set_ne O _ _ hyx)▸hy
   refine am (X.vars y e hy) fun w lw rw'=>?_;exact⟨w,mv y w lw,aR.keep O rw' keepW fun b o J J J ob q=>hs.extBut b ob (fun z=>hyx (X.owns y x _ _ _ _ b hy hx lw lv o (z▸ha))) q⟩
 ·refine lM (old y e1 u1 b hy ly o1) fun f1 w1 a1 a2 a3=>?_
  refine lM (old z e2 u2 b hz lz o2) fun f2 w2 b1 b2 b3=>?_;exact X.owns y z _ _ _ _ b a1 b1 a2 b2 a3 b3
theorem Ctx.setOwn {x:Nat}{l l':List D}{a:Addr}{vs vs':Array Value}{n n':Nat}{h':Heap}{t:Nat}(X:Ctx B Γ Wc W pe ρ s)(hx:ρ x=some (.own l))(lv:cP B pe s.heap x (.ref a))(hW:W a)(hWc:¬Wc a)
  (hg:s.heap.get? a=some { cls:=.type "list", dict:=none,data:=.seq vs n,slots:=#[] }) (hs:Cm a s.heap h') (hg':h'.get? a=some { cls:=.type "list", dict:=none,data:=.seq vs' n',slots:=#[] }) (hl:l'.length<=lim) (ra:aa B s.heap W l' vs'.toList):
  Ctx B Γ Wc W pe (ρ.set x (.own l')) { s with heap:=h',toks:=t }/\ao B (d3 W Wc) s { s with heap:=h',toks:=t }:=
 Ctx.setAt O X hx lv rfl (fun J e=>sH rfl e) (fun J e=>sH rfl e) hs (fun keepW=>⟨a,vs',n',rfl,hW,hWc,hg',hl,aa.move O keepW (fun b q=>.inl q) _ _ ra⟩) fun b o=>o
end
end Mine
namespace Mine
variable {B:Bs}
theorem hU {prog:Program}{w:World}{A:Av}{E:VS}{s:zL}{l:Addr}{items:Array Value}{n:Nat}{k:Int}{t:Tok}{v:Value}{Q:Unit->zL->Prop}(ho:s.heap.get? l=some { cls:=.type "list", dict:=none,data:=.seq items n,slots:=#[] })
  (h0:0<=k) (hfit:k < 2 ^ 63) (hn:k < items.size)
  (hQ:Q () { s with heap:=s.heap.update l (Obj.mapSeq (·.setIfInBounds k.toNat v)) }):wpAny (model prog w) A (setItem (.ref l) (.int k t) v) Q E s:=by
 have hl:s.heap.IsList l items:=⟨_,ho,rfl,n,rfl⟩;unfold setItem
 try with_reducible refine BE ?_
 first|refine zK (zR ?_)|skip
 refine zK (wpAny_sequenceKey hl.typeIs (by decide) ?_)
 refine zK (Gs (name:=Str.ofString "__setitem__") hl.typeIs slot_list_setitem
  (FA slot_list_setitem hl.typeIs entry_list_setitem ?_ (args_list_setitem _ _ _)))
 show wpAny _ _ (Builtin.List.listSubscript? (.int k t) >>= _) _ _ s;refine zK (wpAny_listSubscript_int (fitsIndex_of h0 hfit) ?_);clear hfit;refine x1 (Int.eq_ofNat_of_zero_le h0) fun j e91=>?_;subst e91;have hj:j < items.size:=by lia
 have hx':items[j]?=some items[j]:=Fy hj;show wpAny _ _ ((seqItemAt l j >>= fun r=>pure (r.map (j,·))) >>= _) _ _ s;refine zK (zK (wpAny_seqItemAt ho rfl (zR ?_)));refine zF hx' ?_;show wpAny _ _ (setSeqItemAt l j v >>= _) _ _ s;refine zK (wpAny_setSeqItemAt ho rfl ?_)
 first
  |exact zK (zR (zR ⟨.none,rfl,zR hQ⟩))
  |exact zR ⟨.none,rfl,zR hQ⟩
section
variable (O:B.Ok)
include O
variable {Γ:ah}{ρ:ac}{Wc W:AP}{pe:Env}{A:Av}{s s₀:zL}{K N:Nat}{Φ:bq}
set_option tactic.hygienic true in
theorem st_app {x:Nat}{e:E}{xp ap cp p:Pos}(he:aW B K Φ e):b0 B K Φ N (.app x e xp ap cp p):=by
 intro Γ ρ out h Wc W pe A s Q Ex rest X R k;simp only[lF] at h
 split at h
 case h_2=>exact ai h
 rename_i l hx
 split at h
 case isFalse=>exact ai h
 rename_i hline
 simp only[zQ,zO] at h;refine ke h fun r h1 y hy h=>?_;refine ifk h fun hl e95=>?_;subst e95;obtain⟨v,lv,a,vs,n,rfl,hW,hWc,hg,hl2,ra⟩:=X.vars x _ hx;have hsz:=aa.length ra;rw[An] at hsz;refine zZ (wpAny_Expr ?_ (by unfold DW;refine zF X.fn ?_;rfl) rfl);refine wpAny_Call_append rfl (by refine zF (aA _ _ _ _) ?_;rfl) hline (by refine zF (aA _ _ _ _) ?_;rfl) ?_;refine Aw (Ctx.name O X lv ?_ (O.cld x)) (O.dbg x);refine⟨a,vs,rfl,⟨_,n,hg,rfl,rfl,rfl⟩,ci O he h1 hy X R fun w s1 e1 X1 q1=>?_⟩;have nT:¬B.T a:=fun t=>hWc (X.tW _ t);have hg1:=e1.keep a _ nT hg;refine Gr ⟨n,hg1⟩ (fun h' hl' hs'=>?_) (ax (by lia));refine x1 hl' fun n' hg'=>?_;have ra1:=aa.eff O X.tW' ra e1;refine aS (Ctx.setOwn O (t:=s1.toks) X1 hx (X.locmove e1 lv) hW hWc hg1 hs' hg' (l':=l++[y]) (by simp only[zM,AB,Cw];lia) (by refine zF Array.toList_push ?_;exact aa.append ra1 (aa.cons q1 aa.nil))) fun X2 e2=>?_;exact k _ Wc W (SG.refl O _ _ _) X2 ((e1.toP _).trans e2 (fun b q=>.inl q) fun i q=>.inl q)
theorem my {x y z:D}{u v:Value}{E:VS}{Q:VS}(h:D.add x y=some z)(hx:(∃i,x=.int i)\/∃l,x=.str l)(rx:av B s.heap W x u)(ry:av B s.heap W y v)
  (k:∀r s',az B s s'->av B s'.heap W z r->Q r s'):wpAny B.M A (inplaceOp .Add u v) Q E s:=by
 rcases hx with⟨i,rfl⟩|⟨a,rfl⟩
 ·refine am (aK h) fun j hj e91=>?_
  subst e91;have:=int?_eq hj;subst this;refine x1 (nf rx) fun t e91=>?_;subst e91;refine x1 (nf ry) fun t' e91=>?_;subst e91;exact wpAny_iadd_int (k _ _ (az.toks _) i0)
 ·refine am (af h) fun b hj h1=>?_
  refine aS (aE h1) fun hl e91=>?_;subst e91;have:=str?_eq hj;subst this;refine am (iD rx) fun t e91=>?_;subst e91;intro J;refine am (iD ry) fun t' e91=>?_;subst e91;intro J;exact SB.iadd (fun t' tk=>k _ _ (az.toks _) (by refine zF (tU _ _) ?_;exact md hl)) (ax (by simpa [Str.length] using hl))
set_option tactic.hygienic true in
omit O in
theorem aug_inv {Γ:ah}{ρ:ac}{x:Nat}{y:D}{out:gh}:∀{d:D},(match d with
   |.int _=>do
    let z <-D.bin .Add d y
    if Γ.mine ρ x then some (gh.nx (ρ.set x (.fz z))) else none
   |.str _=>do
    let z <-D.bin .Add d y
    if Γ.mine ρ x then some (gh.nx (ρ.set x (.fz z))) else none
   |_=>none)=some out->((∃i,d=.int i)\/∃l,d=.str l)/\∃z,D.bin .Add d y=some z/\Γ.mine ρ x=true/\out=.nx (ρ.set x (.fz z)):=fun{d} h=>by
 cases d
 case int i=>refine am (af h) fun z hz h=>?_;refine aS (aE h) fun hm e91=>?_;subst e91;exact⟨.inl ⟨_,rfl⟩,z,hz,hm,rfl⟩
 case str i=>refine am (af h) fun z hz h=>?_;refine aS (aE h) fun hm e91=>?_;subst e91;exact⟨.inr ⟨_,rfl⟩,z,hz,hm,rfl⟩
 all_goals exact ai h
set_option tactic.hygienic true in
theorem st_augN {x:Nat}{op:CS}{e:E}{xp p:Pos}(he:aW B K Φ e):b0 B K Φ N (.augN x op e xp p):=by
 intro Γ ρ out h Wc W pe A s Q Ex rest X R k;have main:∀d r y z,ρ x=some (.fz d)->op=.Add->ev Φ Γ ρ e=some r->r.asD=some y->D.bin .Add d y=some z->((∃i,d=.int i)\/∃l,d=.str l)->Γ.mine ρ x=true->out=.nx (ρ.set x (.fz z))->
   wpAny B.M A (execs (St.py B.nm (.augN x op e xp p)++rest) pe) Q Ex s:=by
  intro d r y z hx hop h1 hy hz hd hm ho;subst hop;subst ho;refine aS (bV O hm) fun hk hns=>?_;refine am (X.vars x _ hx) fun v lv rv=>?_;refine zZ (wpAny_AugAssign_Name (Ctx.name O X lv (ci O he h1 hy X R fun w s1 e1 X1 q1=>?_) (O.cld x)));refine my O hz hd (av.eff O X.tW' rv e1) q1 fun r2 s2 e2 q2=>?_;have X2:=X1.move O e2;refine Ctx.store O X2 hk hns q2 fun s3 X3 e3=>?_;exact k s3 Wc W (SG.refl O _ _ _) X3 (((e1.trans e2).toP _).trans e3 (fun b q=>.inl (dA O X hns b q)) fun i q=>q.elim)
 simp only[gu] at h
 split at h
 case h_2=>exact ai h
 rename_i d hx
 simp only[zQ,zO] at h;refine ke h fun r h1 y hy h=>?_;refine x0112 (aug_inv h) fun hd z hz hm ho=>?_;exact main _ r y z hx rfl h1 hy hz hd hm ho
set_option tactic.hygienic true in
omit O in
theorem zk {z y w:D}(h:tD z y=some w):((∃i,z=.int i)\/∃l,z=.str l)/\D.add z y=some w:=by
 cases z
 case int i=>exact⟨.inl ⟨i,rfl⟩,h⟩
 case str i=>exact⟨.inr ⟨i,rfl⟩,h⟩
 all_goals exact ai h
omit O in
theorem wI {l l':List D}{j y:D}(h:oM l j y=some l'):∃a z w,j=.int a/\(0<=a/\a < l.length)/\l[a.toNat]?=some z/\tD z y=some w/\l.set a.toNat w=l':=by
 refine am (af h) fun a ha h1=>?_;refine aS (aY h1) fun hc h2=>?_;refine am (af h2) fun z hz h3=>?_;refine am (aK h3) fun w hw h4=>?_;exact⟨a,z,w,int?_eq ha,hc,hz,hw,h4⟩
omit O in
theorem aug_py {nm:Nat->Str}(i:E):∀ov iv new,augStore (i.py nm) ov iv new=(do GG [new,ov,iv] (setItem ov iv new);release [new,ov,iv] [];pure .next):=by
 cases i<;>exact fun J J J=>rfl
set_option tactic.hygienic true in
theorem st_augI {x:Nat}{i e:E}{op:CS}{xp sp p:Pos}(hi:aW B K Φ i)(he:aW B K Φ e):b0 B K Φ N (.augI x i op e xp sp p):=by
 intro Γ ρ out h Wc W pe A s Q Ex rest X R k;simp only[j8] at h
 split at h
 case h_2=>exact ai h
 rename_i l hx
 simp only[zQ,zO,Aa] at h;refine du h fun rj hj1 j hj ry hy1 y hy l' hadd e91=>?_;subst e91;refine x34 (wI hadd) fun j z wz e91=>?_;subst e91;intro hlt hz hw0 e92;subst e92;refine aS (zk hw0) fun hzs hw0=>?_;obtain⟨v,lv,a,vs,n,rfl,hW,hWc,hg,hl2,ra⟩:=X.vars x _ hx;have hsz:=aa.length ra;replace hsz:=An▸hsz;have nT:¬B.T a:=fun t=>hWc (X.tW _ t);refine zZ (wpAny_AugAssign_SubscriptAny ?_ (aug_py i));refine Aw (Ctx.name O X lv ?_ (O.cld x)) (O.dbg x);refine ci O hi hj1 hj X R fun w s1 e1 X1 q1=>?_;refine x1 (nf q1) fun t e91=>?_;subst e91;have hg1:=e1.keep a _ nT hg;refine am (aa.get (aa.eff O X.tW' ra e1) hz) fun w hw rw'=>?_;have hj63:j < 2 ^ 63:=by
  have:(l.length:Int)<=1048576:=by unfold lim at hl2;lia
  lia
 refine EZ ⟨_,hg1,rfl,n,rfl⟩ hlt.1 hj63 (by refine zF (AM (BP)) ?_;exact hw) ?_;refine ci O he hy1 hy X1 R fun w2 s2 e2 X2 q2=>?_;refine my O hw0 hzs (av.eff O X.tW' rw' e2) q2 fun r3 s3 e3 q3=>?_;have X3:=X2.move O e3;have e03:=(e1.trans e2).trans e3;have hg3:s3.heap.get? a=_:=e03.keep a _ nT hg;refine hU hg3 hlt.1 hj63 (by lia) ?_;have hg4:=Cb (Obj.mapSeq (·.setIfInBounds j.toNat r3)) hg3 rfl;have ra3:=aa.eff O X.tW' ra e03;have hjn:j.toNat < l.length:=by omega
 have key:aa B s3.heap W (l.set j.toNat wz) (vs.setIfInBounds j.toNat r3).toList:=by
  refine aa.of_get O _ _ (by simp[hsz]) fun i d v hd hv=>?_;simp only[Fp] at hv;rw[EN] at hd hv
  by_cases hi:j.toNat=i
  ·simp only[hi,if_true] at hd hv
   split at hd
   ·obtain rfl:=zG hd
    split at hv
    ·obtain rfl:=zG hv;exact q3
    ·exact ai hv
   ·exact ai hd
  ·simp only[hi,if_false] at hd hv
   refine am (aa.get ra3 hd) fun v' hv' rv'=>?_;obtain rfl:=zG (hv.symm.trans hv');exact rv'
 refine aS (Ctx.setOwn O (t:=s3.toks) X3 hx (X.locmove e03 lv) hW hWc hg3 (Ce ..) hg4 (l':=l.set j.toNat wz) (by refine zF Cv ?_;exact hl2) key) fun X4 e4=>?_;exact k _ Wc W (SG.refl O _ _ _) X4 ((e03.toP _).trans e4 (fun b q=>.inl q) fun i q=>.inl q)
end
end Mine
namespace Mine
variable {B:Bs}
section
variable (O:B.Ok)
include O
variable {Γ:ah}{ρ:ac}{Wc W:AP}{pe:Env}{A:Av}{s s₀:zL}{K N:Nat}{Φ:bq}
theorem fr_list {p:Pos}:FrE B K Φ (.list [] p):=by
 intro Γ ρ r h Wc W pe A s X R;have h':(some (Mine.R.d (.list [])))=some r:=h;obtain rfl:=zG h';show wpAny B.M A (eval (.List (eN B.nm []) p) pe) _ _ s;refine List_ (Bn ?_);refine Bz ?_ (by size_fits);exact⟨⟨az.push O _ s.toks,cQ O X.wlt aa.nil (Ae _)⟩,_,0,rfl,zW _,Aj _ rfl⟩
theorem rK {fr:Bool}{elt:E}{t:Tg}{itE:E}{ifs:List E}{rr:List Gn}{sc:LK}{cp:Pos}{l:List D}{r:Mine.R}(hfr:fr=true->FrE B K Φ elt/\rr=[])(h:ev Φ Γ ρ (.comp elt (.mk t itE ifs::rr) sc cp)=some r)(hr:r.asD=some (.list l))(hK:20<=K)
  (k1:aW B K Φ elt) (k2:aW B K Φ itE) (k3:jT B K Φ ifs) (k4:iw B K Φ rr) (X:Ctx B Γ Wc W pe ρ s) (R:aB A K){E:VS}{Q:VS}
  (k:∀a s' vs n,az B s s'->s.heap.objs.size<=a->s'.heap.get? a=some { cls:=.type "list", dict:=none,data:=.seq vs n,slots:=#[] }->aa B s'.heap (fun b=>W b\/b=a) l vs.toList->l.length<=lim->(fr=true->jX (a+1) vs.toList s'.heap)->Q (.ref a) s'):
  wpAny B.M A (eval ((Mine.E.comp elt (.mk t itE ifs::rr) sc cp).py B.nm) pe) Q E s:=by
 replace h:=fB▸h;refine aS (aY h) fun hsc h1=>?_;refine am (af h1) fun r1 h2 h3=>?_;refine am (af h3) fun items hi h4=>?_;refine am (af h4) fun l' hl h5=>?_;refine am (aK h5) fun d' hd' e91=>?_;subst e91;refine aS (aE hd') fun hlim e91=>?_;subst e91;obtain rfl:l'=l:=by injection hr with hr;injection hr
 refine zF jt<|zF (Fi _ _ _ _ _) ?_
 refine jP O (fr:=fr) (use:=none) hfr R (R.less (CJ _ _)) k1 k2 k3 k4 (eS O hsc) X h2 hi hl hlim fun s' a C e X' ra ha hC hns hlt hne hnew=>?_;refine am hns fun m hm hz=>?_;refine lM hnew fun vs n g rl fl=>?_;refine⟨m,hm,fun h' hs'=>?_⟩;have ec:ao B ⟨fun b=>b=C,fun J=>False⟩ s' { s' with heap:=h' }:=
  cg O (s:=s') (h':=h') (t:=s'.toks) (a:=C) (fun t=>zJ _ (zI (X.wlt _ (X.tW' _ t)) hC)) (hV hm hz) hs'
 have ef:az B s { s' with heap:=h' }:=ao.toEff e ec (fun b q=>q▸hC) (fun i q=>q.elim);refine k a _ vs n ef ha (hs'.extBut _ _ hne g) (aa.move O (fun b o q x=>q.elim (fun q=>hs'.extBut b o (fun z=>q (.inr (.inl z))) x) fun q=>ec.ck b o q x) (fun b q=>.inl (q.imp_right .inr)) _ _ rl) hlim fun z=>?_;have f:=fl z;refine⟨f.nd,fun v hv=>?_⟩;refine lM (f.at' v hv) fun b m' e h1 h2=>?_;exact⟨b,m',e,h1,hs'.extBut _ _ (ml hm h2) h2⟩
omit O in
theorem ro {lo:Nat}{h:Heap}:∀{vs:List Value},jX lo vs h->∃bs:List Addr,vs=bs.map Value.ref/\bs.Nodup/\∀b∈bs,lo<=b/\∃n,h.get? b=some { cls:=.type "list", dict:=none,data:=.seq #[] n,slots:=#[] }
 |[],_=>⟨[],rfl,AW,fun J h=>aG h⟩
 |v::vs,f=>by
  refine aS (BB.mp f.nd) fun n1 n2=>?_;refine oQ (ro ⟨n2,fun v hv=>f.at' v (zT _ hv)⟩) fun bs e91=>?_;subst e91;intro nd hb;refine lM (f.at' v zU) fun b n e91=>?_;subst e91;intro h1 h2;refine⟨b::bs,rfl,BB.mpr ⟨fun c hc e=>n1 (.ref c) (Ac.mpr ⟨c,hc,rfl⟩) (by exact zF e rfl),nd⟩,fun c hc=>?_⟩;rcases Ab.mp hc with rfl|hc
  ·exact⟨h1,n,h2⟩
  ·exact hb c hc
structure js (B:Bs) (K:Nat)(Φ:bq)(e:E):Prop where
 s:aW B K Φ e
 l:∀es p,e=.list es p->iN B K Φ es
 c:∀elt t it ifs r sc cp,e=.comp elt (.mk t it ifs::r) sc cp->aW B K Φ elt/\aW B K Φ it/\jT B K Φ ifs/\iw B K Φ r
omit O in
theorem ek_emp {e:E}:∀{k:EK},k.isEmp=true->k.Of e->∃p,e=.list [] p:=fun{k} h q=>by
 cases k with
 |lst es p=>exact⟨p,q.trans (by rw[DS.mp h])⟩
 |_=>exact bG h
omit O in
theorem vO:∀{gs:List Gn},rowsG gs=true->∃x q it,gs=[.mk (.name x q) it []]:=fun{gs} h=>by
 cases gs with
 |nil=>exact bG h
 |cons g r=>
  obtain⟨t,it,ifs⟩:=g
  cases r with
  |nil=>
   cases t with
   |name x q=>exact⟨x,q,it,by rw[DS.mp (show ifs.isEmpty=true from h)]⟩
  |cons=>exact bG h
omit O in
theorem ek_rows {e:E}:∀{k:EK},k.isRows=true->k.Of e->∃p x q it sc cp,e=.comp (.list [] p) [.mk (.name x q) it []] sc cp:=fun{k} h w=>by
 cases k with
 |cmp elt gs sc cp=>
  refine aS (As.mp h) fun h1 h2=>?_;refine x1 (ek_emp h1 elt.k_of) fun p e1=>?_;obtain⟨x,q,it,e2⟩:=vO h2;exact⟨p,x,q,it,sc,cp,w.trans (by rw[e1,e2])⟩
 |_=>exact bG h
omit O in
theorem xN {e:E}(h:e.isRows=true):∃p x q it sc cp,e=.comp (.list [] p) [.mk (.name x q) it []] sc cp:=ek_rows h e.k_of
omit O in
theorem ek_new {e:E}:∀{k:EK},k.isNew=true->k.Of e->(∃es p,e=.list es p)\/∃elt gs sc p,e=.comp elt gs sc p:=fun{k} h q=>by
 cases k with
 |lst es p=>exact .inl ⟨es,p,q⟩
 |cmp elt gs sc p=>exact .inr ⟨elt,gs,sc,p,q⟩
 |_=>exact bG h
omit O in
theorem new_inv {e:E}(h:e.isNew=true):(∃es p,e=.list es p)\/∃elt gs sc p,e=.comp elt gs sc p:=ek_new h e.k_of
omit O in
theorem wu {m:Nat}{e:E}{d:D}{en:dL}(h:oE m e d=some en):(m=0/\en=.fz d)\/∃l,d=.list l/\((e.isNew=true/\en=.own l)\/e.isRows=true/\en=.own2 (l.map fun J=>[])):=by
 unfold oE at h
 split at h
 ·rename_i h0;exact .inl ⟨h0,(zG h).symm⟩
 ·split at h
  ·rename_i l
   split at h
   ·rename_i hc;exact .inr ⟨l,rfl,.inl ⟨hc.2,(zG h).symm⟩⟩
   ·split at h
    ·rename_i hc;exact .inr ⟨l,rfl,.inr ⟨hc.2,(zG h).symm⟩⟩
    ·exact ai h
  ·exact ai h
theorem td {es:List E}{p:Pos}{r:Mine.R}{l:List D}(h:ev Φ Γ ρ (.list es p)=some r)(hr:r.asD=some (.list l)):iJ Φ Γ ρ es=some l/\l.length<=lim:=by
 rw[ju] at h;refine am (af h) fun l' hl h1=>?_;refine am (aK h1) fun d hd e91=>?_;subst e91;refine aS (aE hd) fun hlim e91=>?_;subst e91;obtain rfl:l'=l:=by injection hr with hr;injection hr
 exact⟨hl,hlim⟩
theorem ent_ok {m:Nat}{e:E}{d:D}{en:dL}{r:Mine.R}(hK:20<=K)(P:js B K Φ e)(h:ev Φ Γ ρ e=some r)(hd:r.asD=some d)(he:oE m e d=some en)(X:Ctx B Γ Wc W pe ρ s)(R:aB A K){E:VS}{Q:VS}
  (k:∀v s' N,az B s s'->(∀b,N b->s.heap.objs.size<=b/\b < s'.heap.objs.size)->aR B pe.locals s'.heap Wc (bB W N) en v->(∀b,aM s'.heap en v b->N b)->(∀d,en≠.sealed d)->Q v s'):wpAny B.M A (eval (e.py B.nm) pe) Q E s:=by
 have wcn:∀b,s.heap.objs.size<=b->¬Wc b:=fun b hb w=>zJ _ (zI (X.wlt b (X.cW b w)) hb);have wn:∀b,s.heap.objs.size<=b->¬W b:=fun b hb w=>zJ _ (zI (X.wlt b w) hb);rcases wu he with⟨J,rfl⟩|⟨l,rfl,⟨hn,rfl⟩|⟨hn,rfl⟩⟩
 ·exact ci O P.s h hd X R fun v s1 e1 X1 q1=>k v s1 (fun J=>False) e1 (fun b q=>q.elim) (av.less O (W':=bB W fun J=>False) q1 fun b q=>q.elim id False.elim) (fun b o=>o.elim) fun d e=>nomatch e
 ·have fin:∀a s' vs n,az B s s'->s.heap.objs.size<=a->s'.heap.get? a=some { cls:=.type "list", dict:=none,data:=.seq vs n,slots:=#[] }->aa B s'.heap (fun b=>W b\/b=a) l vs.toList->l.length<=lim->Q (.ref a) s':=fun a s' vs n e1 ha g ra hl=>
   k (.ref a) s' (fun b=>b=a) e1 (fun b q=>q▸⟨ha,Al g⟩) ⟨a,vs,n,rfl,.inr rfl,wcn a ha,g,hl,ra⟩ (fun b o=>(Value.ref.inj o).symm) fun d e=>nomatch e
  rcases new_inv hn with⟨es,p,rfl⟩|⟨elt,gs,sc,p,rfl⟩
  ·refine aS (td O h hd) fun hl hlim=>?_
   show wpAny B.M A (eval (.List (eN B.nm es) p) pe) _ _ s;refine List_ ?_;refine zF (bO O _ _ _ _) ?_;refine vA O (P.l es p rfl) hl X R fun vs s1 e1 X1 q1=>?_;refine Bz ?_ (by show vs.toArray.size<=sizeLine;refine zF Bp<|zF (aa.length q1) ?_;exact ax hlim);refine fin _ _ vs.toArray 0 (e1.trans (az.push O _ s1.toks)) e1.size (Aj _ rfl) ?_ hlim;exact aa.move O (fun b o J e=>z9 _ e) (fun b q=>q.imp_right fun(q:b=_)=>AG (Ax q.symm)) _ _ q1
  ·cases gs with
   |nil=>rw[fB] at h;exact nomatch (aY h).2
   |cons g rr=>
    obtain⟨t,it,ifs⟩:=g;refine x03 (P.c _ _ _ _ _ _ _ rfl) fun k1 k2 k3 k4=>?_;exact rK O (fr:=false) (fun z=>bG z) h hd hK k1 k2 k3 k4 X R fun a s' vs n e1 ha g ra hl J=>fin a s' vs n e1 ha g ra hl
 ·refine x6 (xN hn) fun p x q it sc cp e91=>?_
  subst e91;refine x03 (P.c _ _ _ _ _ _ _ rfl) fun k1 k2 k3 k4=>?_;refine rK O (fr:=true) (fun J=>⟨fr_list O,rfl⟩) h hd hK k1 k2 k3 k4 X R fun a s' vs n e1 ha g ra hl fl=>?_;refine oQ (ro (fl rfl)) fun bs hbs nd hb=>?_;have hvs:vs=(bs.map Value.ref).toArray:=by exact zF (AM hbs) rfl
  subst hvs;have hlen:bs.length=l.length:=by
   have:=aa.length ra;rw[hbs,zX] at this;exact this
  have lo:∀b∈bs,s.heap.objs.size<=b:=fun b hm=>zH (Cn ha) (hb b hm).1;refine k (.ref a) s' (fun b=>b∈bs) e1 (fun b q=>⟨lo b q,?_⟩) ⟨a,bs,n,rfl,fun z=>z.elim (wn a ha) fun z=>zJ _ (hb a z).1,g,nd,by exact zF hlen<|zF (zX _) rfl,by refine zF (zX _) ?_;exact hl,fun i b l' h1 h2=>?_⟩ (fun b o=>?_) fun d e=>nomatch e
  ·refine rY (hb b q) fun J J g'=>?_
   exact Al g'
  ·have hm:=BK h1
   refine rY (hb b hm) fun J n' g'=>?_;replace h2:=(AR)▸h2;refine am (aK h2) fun J J e91=>?_;subst e91;exact⟨b, #[],n',rfl,.inr hm,wcn b (lo b hm),g',Ae _,aa.nil⟩
  ·refine wL o fun c' bs' n' e g' m'=>?_
   obtain rfl:=Value.ref.inj e;obtain rfl:=i4 g g';exact m'
theorem uS (hK:20<=K):∀(ms:List Nat)(es:List E)(l:List dL)(N:AP)(s:zL),(∀e∈es,js B K Φ e)->yV Φ Γ ρ ms es=some l->az B s₀ s->(∀b,N b->s₀.heap.objs.size<=b/\b < s.heap.objs.size)->Ctx B Γ Wc W pe ρ s₀->aB A K->∀{E:VS}{Q:List Value->zL->Prop},
  (∀vs s' N',az B s s'->(∀b,N b->N' b)->(∀b,N' b->N b\/s.heap.objs.size<=b)->(∀b,N' b->b < s'.heap.objs.size)->l.length=vs.length->(∀q∈l.zip vs,aR B pe.locals s'.heap Wc (bB W N') q.1 q.2/\(∀d,q.1≠.sealed d)/\∀b,aM s'.heap q.1 q.2 b->N' b/\s.heap.objs.size<=b)->
   (l.zip vs).Pairwise (fun p q=>∀b,aM s'.heap p.1 p.2 b->¬aM s'.heap q.1 q.2 b)->Q vs s')->wpAny B.M A (Fc (B8 (eN B.nm es) pe)) Q E s
 |[],[],l,N,s,_,h,e0,hN,X,R,E,Q,k=>by
  obtain rfl:=zG h;exact Bn (k [] s N (az.refl _) (fun J q=>q) (fun J q=>.inl q) (fun b q=>(hN b q).2) rfl (fun J h=>aG h) AW)
 |[],_::_,_,_,_,_,h,_,_,_,_,_,_,_=>ai h
 |_::_,[],_,_,_,_,h,_,_,_,_,_,_,_=>ai h
 |m::ms,e::es,l,N,s,hP,h,e0,hN,X,R,E,Q,k=>by
  refine am (af h) fun r h1 h2=>?_;refine am (af h2) fun d hd h3=>?_;refine am (af h3) fun en hen h4=>?_;refine am (af h4) fun l' hl h5=>?_;obtain rfl:=zG h5;have Xs:=Ctx.grow O X (e0.toP ⟨fun J=>False,fun J=>False⟩) (fun b q=>q.elim) (fun b q=>q.elim) hN;refine zF aU<|zF (aA _ _ _ _) ?_
  refine AJ (ent_ok O hK (hP e zU) h1 hd hen Xs R fun v s1 M e1 hM r1 ho hs=>?_);refine uS hK ms es l' (bB N M) s1 (fun e he=>hP e (zT _ he)) hl (e0.trans e1) (fun b q=>q.elim (fun q=>⟨(hN b q).1,zI (hN b q).2 e1.size⟩) fun q=>⟨zH e0.size (hM b q).1,(hM b q).2⟩) X R fun vs s2 N' e2 n1 n2 n3 hlen rl hp=>?_;have up:∀b,bB W N' b->bB (bB W N) M b\/s1.heap.get? b=none:=fun b q=>q.elim (fun q=>.inl (.inl (.inl q))) fun q=>(n2 b q).elim (fun q=>.inl (q.elim (fun q=>.inl (.inr q)) .inr)) fun q=>.inr (AG q);have kW:=e2.kW (W:=bB (bB W N) M) fun b t=>.inl (.inl (X.tW' b t));have kc:∀c o,¬bB (bB W N) M c->s1.heap.get? c=some o->s2.heap.get? c=some o:=fun c o w q=>kW c o (.inl w) q;have r2:aR B pe.locals s2.heap Wc (bB W N') en v:=r1.map (fun d u r=>av.move O kW up d u r) (fun d u r=>aa.move O kW up d u r) (fun c o w q=>⟨kc c o w q,fun z=>(up c z).elim w fun z=>by rw[q] at z;exact jG z⟩)
   (fun b o w wc J=>⟨⟨.inr (n1 b (.inr (ho b o))),fun z=>wc (.inl z)⟩,fun ob q=>e2.keep b ob (fun t=>wc (.inl (X.tW b t))) q⟩) fun J J q=>q
  have hob:∀b,aM s2.heap en v b->M b:=fun b o=>ho b (aM.back r1 kc o);refine k (v::vs) s2 N' (e1.trans e2) (fun b q=>n1 b (.inl q)) (fun b q=>(n2 b q).elim (fun q=>q.imp id fun q=>(hM b q).1) fun q=>.inr (zH e1.size q)) n3 (congrArg (·+1) hlen) (fun q hq=>?_) (BB.mpr ⟨fun q hq b o1 o2=>?_,hp⟩)
  ·rcases Ab.mp hq with rfl|hq
   ·exact⟨r2,hs,fun b o=>⟨n1 b (.inr (hob b o)),(hM b (hob b o)).1⟩⟩
   ·refine vx (rl q hq) fun a1 a2 a3=>?_
    exact⟨a1,a2,fun b o=>⟨(a3 b o).1,zH e1.size (a3 b o).2⟩⟩
  ·have h1:=(hM b (hob b o1)).2
   exact zJ _ (zI h1 ((rl q hq).2.2 b o2).2)
end
end Mine
namespace Mine
variable {B:Bs}
section
variable (O:B.Ok)
include O
variable {Γ:ah}{ρ:ac}{Wc W:AP}{pe:Env}{A:Av}{s s₀:zL}{K N:Nat}{Φ:bq}
set_option tactic.hygienic true in
theorem b7:∀(n:Nat)(e:E),kM n e=true->CQ n (e.py B.nm)=false
 |n,e,h=>by
  cases e
  case bin a op b p=>
   cases n with
   |zero=>exact bG h
   |succ n=>
    show(CQ n (a.py B.nm)&&CQ n (b.py B.nm))=false;rcases Dt.mp (show(kM n a||kM n b)=true from h) with h|h
    ·refine zF (b7 n a h) ?_;rfl
    ·exact zF (b7 n b h)<|zF (CE _) rfl
  case idx a b p=>
   cases n with
   |zero=>exact bG h
   |succ n=>
    show(CQ n (a.py B.nm)&&CQ n (b.py B.nm))=false;rcases Dt.mp (show(kM n a||kM n b)=true from h) with h|h
    ·refine zF (b7 n a h) ?_;rfl
    ·exact zF (b7 n b h)<|zF (CE _) rfl
  case tup es k p=>
   cases n with
   |zero=>exact bG h
   |succ n=>
    have ih:=b7 n;replace h:=(show es.any (kM n)=true from h);show(eN B.nm es).all (CQ n)=false;revert h
    induction es with
    |nil=>exact fun h=>bG h
    |cons e r ihr=>
     intro h;simp only[aU,Eu];rw[Dl,Cx] at h;rcases h with h|h
     ·refine zF (ih e h) ?_;rfl
     ·exact zF (ihr h)<|zF (CE _) rfl
  case name=>cases n<;>exact O.dbg _
  case bi=>cases n<;>exact O.dbg _
  all_goals cases n<;>first|rfl|exact bG h
theorem jq:∀es:List E,es.any E.notConst=true->(eN B.nm es).all (CQ 8)=false
 |[],h=>bG h
 |e::r,h=>by
  simp only[aU,Eu];rw[Dl,Cx] at h;rcases h with h|h
  ·refine zF (b7 O 8 e h) ?_;rfl
  ·refine zF (jq r h) ?_;simp
theorem kD:∀es:List E,es.all E.isConst=true->(eN B.nm es).all (foldedForSure 8)=true
 |[],_=>rfl
 |e::r,h=>by
  simp only[aU,Eu];replace h:=(Bu _ _)▸Eu▸h;refine zF (kD r h.2)<|zF (Bool.and_true _) ?_
  have h:=h.1
  cases e<;>first|rfl|exact bG h
theorem hJ (pe:Env) (line:Nat):∀xs:List (Nat×Pos),let ns:=(xs.map fun q=>A0 (B.nm q.1) q.2).filterMap (fun
  |.Name id pos=>if pe.kindOf id==some .local&&pos.line==line then some id else none
  |_=>none);ns.length<=xs.length/\(ns.length=xs.length->ns=xs.map fun q=>B.nm q.1)
 |[]=>⟨zW _,fun J=>rfl⟩
 |q::r=>by
  refine aS (hJ pe line r) fun h1 h2=>?_;dsimp only at h1 h2 ⊢;refine zF z8<|zF Ep ?_
  dsimp only
  by_cases hc:(pe.kindOf (B.nm q.1)==some .local&&q.2.line==line)=true
  ·refine zF (if_pos hc) ?_
   exact⟨B9 h1,fun e=>congrArg (B.nm q.1::·) (h2 (DK e))⟩
  ·refine zF (if_neg hc) ?_
   exact⟨Cn h1,fun e=>absurd (e▸h1:(q::r).length<=r.length) (Nat.not_succ_le_self _)⟩
theorem sq {xs:List (Nat×Pos)}{es:List E}{k k':Nat}{tp p':Pos}(h:(es.any E.notConst||es.all E.isConst)=true):D1 [.Tuple (xs.map fun q=>.Name (B.nm q.1) q.2) k tp] (.Tuple (eN B.nm es) k' p') pe=pure none\/
  D1 [.Tuple (xs.map fun q=>.Name (B.nm q.1) q.2) k tp] (.Tuple (eN B.nm es) k' p') pe=pure (some (xs.map fun q=>B.nm q.1)):=by
 unfold D1;dsimp only;generalize hl:(((xs.map fun q=>A0 (B.nm q.1) q.2).head?.map (·.pos.line)).getD 0)=line;have hn:=hJ O pe line xs;dsimp only at hn
 generalize hns:((xs.map fun q=>A0 (B.nm q.1) q.2).filterMap (fun
  |.Name id pos=>if pe.kindOf id==some .local&&pos.line==line then some id else none
  |_=>none))=ns at hn ⊢
 split
 ·exact .inl rfl
 ·split
  ·exact .inl rfl
  ·split
   ·exact .inl rfl
   ·rename_i h3
    split
    ·exact .inl rfl
    ·rename_i h4
     refine .inr ?_;rcases Dt.mp h with h|h
     ·refine zF (jq O es h) ?_
      simp only[AK,if_false];have:ns.length=xs.length:=by
       simp only[Cx,bne_iff_ne,ne_eq,not_or,Decidable.not_not,zX] at h3;exact h3.1
      exact zF (hn.2 this) rfl
     ·exact absurd (kD O es h) h4
omit O in
theorem nd_idx {α:Type}{l:List α}{i j:Nat}{a:α}(nd:l.Nodup)(h1:l[i]?=some a)(h2:l[j]?=some a):i=j:=by
 refine x1 (Ap.mp h1) fun a1 a2=>?_;refine x1 (Ap.mp h2) fun b1 b2=>?_;exact(GN a1 nd).mp (h1.trans h2.symm)
theorem gz (env:Env)(v:Value)(st:List (Value->Sem Unit)):assignStores env v none st=(Gw v st >>= fun J=>(pure Flow.next:Sem Flow)):=rfl
theorem qF (env:Env)(v:Value)(names:List Str)(st:List (Value->Sem Unit)):assignStores env v (some names) st=(rule "assign.swapped-stores" >>= fun J=>unpackItems v names.length none >>= fun items=>Gh (names.reverse.map fun n=>FY env n) items.reverse >>= fun J=>(pure Flow.next:Sem Flow)):=rfl
theorem kX:∀(l:List ((Nat×Pos)×dL))(ρ:ac) (y:Nat),(∀q∈l,q.1.1≠y)->fc l ρ y=ρ y
 |[],_,_,_=>rfl
 |q::r,ρ,y,h=>by
  show fc r (ρ.set q.1.1 q.2) y=ρ y;exact zF (kX r _ y fun q hq=>h q (zT _ hq))<|zF (ac.set_ne O _ _ (Et (h q zU))) rfl
theorem pF:∀(l:List ((Nat×Pos)×dL))(ρ:ac),(l.map (·.1.1)).Nodup->∀q∈l,fc l ρ q.1.1=some q.2
 |[],_,_,q,h=>by exact aG h
 |a::r,ρ,hn,q,h=>by
  simp only[z8,Bi] at hn;show fc r (ρ.set a.1.1 a.2) q.1.1=some q.2;rcases Ab.mp h with rfl|h
  ·rw[kX O,ac.set_self O]
   intro z hz e;exact hn.1 (Ac.mpr ⟨z,hz,e⟩)
  ·exact pF r _ hn.2 q h
theorem yI (l:List ((Nat×Pos)×dL))(ρ:ac)(hn:(l.map (·.1.1)).Nodup):fc l.reverse ρ=fc l ρ:=by
 funext y
 by_cases h:∃q∈l,q.1.1=y
 ·refine am h fun q hq e91=>?_
  subst e91;exact zF (pF O l ρ hn q hq)<|zF (pF O l.reverse ρ (by refine zF Dg ?_;exact F5.mpr (Fw Et hn)) q (Dd.mpr hq)) rfl
 ·rw[kX O,kX O]
  ·exact fun q hq e=>h ⟨q,hq,e⟩
  ·exact fun q hq e=>h ⟨q,Dd.mp hq,e⟩
theorem rq {s':zL}{b:Addr}(X:Ctx B Γ Wc W pe ρ s)(e:az B s s')(hb:s.heap.objs.size<=b):tI B pe ρ s'.heap b:=fun y e' w hy hl o=>by
 refine am (X.vars y _ hy) fun w0 l0 r0=>?_;obtain rfl:=cP.uniq hl (X.locmove e l0);exact zJ _ (zI (X.wlt b (aM.w r0 (aM.back r0 (fun c o w q=>e.keep c o (fun t=>w (X.tW' c t)) q) o)).1.1) hb)
theorem st_asgT {xs:List (Nat×Pos)}{ms:List Nat}{k:Nat}{es:List E}{k':Nat}{p' tp p:Pos}(hK:20<=K)(hs:∀e∈es,js B K Φ e):b0 B K Φ N (.asgT xs ms k (.tup es k' p') tp p):=by
 intro Γ ρ out h Wc W pe A s Q Ex rest X R kk;simp only[ka,zQ,zO] at h;refine am h fun l h1 h=>?_;refine mA h fun hc h=>?_;refine x04 hc fun hlen hany hnd hall hl=>?_;obtain rfl:=zG h;have hmine:∀q∈xs,(Γ q.1=some .local\/Γ q.1=some .cell)/\¬aq ρ q.1:=fun q hq=>bV O (Ag.mp hall q hq);have hpy:St.py B.nm (.asgT xs ms k (.tup es k' p') tp p)++rest=.Assign [.Tuple (xs.map fun q=>.Name (B.nm q.1) q.2) k tp] (.Tuple (eN B.nm es) k' p') p::rest:=rfl;refine zF hpy ?_;refine zZ ?_;refine zF (FN _ _ _) ?_;refine zK (AS ?_);have hsw:Gf [.Tuple (xs.map fun q=>.Name (B.nm q.1) q.2) k tp] (.Tuple (eN B.nm es) k' p') p.line pe=pure false:=rfl;refine zF hsw ?_;refine zK (zR ?_);refine zF (if_neg (by decide)) ?_;refine zK (Tuple_ ?_);refine zF (bO O _ _ _ _) ?_;refine uS O hK ms es l (fun J=>False) s hs h1 (az.refl _) (fun b q=>q.elim) X R fun vs s1 M e1 J n2 n3 hlv rl hp=>?_;have hlv':vs.length<=lim:=hlv▸hl;refine Bz ?_ (by show vs.toArray.size<=sizeLine;refine zF Bp ?_;exact ax hlv');have e2:az B s1 { s1 with heap:=s1.heap.push { cls:=.type "tuple", data:=.seq vs.toArray } }:=az.push O _ s1.toks
 have e02:=e1.trans e2;have hM:∀b,M b->s.heap.objs.size<=b/\b < ({ s1 with heap:=s1.heap.push { cls:=.type "tuple", data:=.seq vs.toArray } }:zL).heap.objs.size:=fun b q=>⟨(n2 b q).elim False.elim id,zI (n3 b q) e2.size⟩
 have X2:=Ctx.growOwn O X e02 hM;have g1:SG Wc W s Wc (bB W M):=⟨fun b q=>q,fun b q=>q.imp_right fun q=>(hM b q).1,fun b q n=>q.elim (fun q=>.inl ⟨q,n⟩) fun q=>.inr (hM b q).1⟩;have own1:∀b,(bB W M) b/\¬Wc b->(W b/\¬Wc b)\/s.heap.objs.size<=b:=fun b q=>q.1.elim (fun z=>.inl ⟨z,q.2⟩) fun z=>.inr (hM b z).1;have fin:∀s3,Ctx B Γ Wc (bB W M) pe (fc (xs.zip l) ρ) s3->ao B (d3 (bB W M) Wc) { s1 with heap:=s1.heap.push { cls:=.type "tuple", data:=.seq vs.toArray } } s3->wpAny B.M A (execs rest pe) Q Ex s3:=fun s3 X3 e3=>
  kk s3 Wc (bB W M) g1 X3 ((e02.toP _).trans e3 own1 fun i q=>q.elim)
 have ht:({ s1 with heap:=s1.heap.push { cls:=.type "tuple", data:=.seq vs.toArray } }:zL).heap.IsTuple s1.heap.objs.size vs.toArray:=⟨_,Aj _ rfl,rfl,0,rfl⟩
 have ER:∀h',(∀b o,(s1.heap.push { cls:=.type "tuple", data:=.seq vs.toArray }).get? b=some o->h'.get? b=some o)->(s1.heap.push { cls:=.type "tuple", data:=.seq vs.toArray }).objs.size<=h'.objs.size->k9 B pe ρ Wc (bB W M) h' l vs:=fun h' kp hsz=>by
  have e3:az B s { s1 with heap:=h' }:=e02.trans (fD O (s:={ s1 with heap:=s1.heap.push { cls:=.type "tuple", data:=.seq vs.toArray } }) (s':={ s1 with heap:=h' }) kp hsz rfl rfl)
  have kp1:∀b o,s1.heap.get? b=some o->h'.get? b=some o:=fun b o q=>kp b o (z9 _ q);have bk:∀q∈l.zip vs,∀b,aM h' q.1 q.2 b->aM s1.heap q.1 q.2 b:=fun q hq b o=>aM.back (rl q hq).1 (fun c o J g=>kp1 c o g) o
  exact⟨hlv,fun q hq=>⟨(rl q hq).1.map (fun d u r=>av.move O (fun b o J e=>kp1 b o e) (fun b q=>.inl q) d u r) (fun d u r=>aa.move O (fun b o J e=>kp1 b o e) (fun b q=>.inl q) d u r) (fun c o w g=>⟨kp1 c o g,w⟩) (fun b J w wc J=>⟨⟨w,wc⟩,fun o g=>kp1 b o g⟩) fun J J q=>q,(rl q hq).2.1,
   fun b o=>rq O X e3 ((rl q hq).2.2 b (bk q hq b o)).2⟩,hp.imp_of_mem fun{a b} ha hb h c oa ob=>h c (bk a ha c oa) (bk b hb c ob)⟩
 rcases sq O (pe:=pe) (xs:=xs) (es:=es) (k:=k) (k':=k') (tp:=tp) (p':=p') hany with hw|hw
 ·refine zF hw ?_
  refine zK (zR ?_);refine zF (gz O _ _ _) ?_;refine zK ?_;have ha:Gw (.ref s1.heap.objs.size) ((Ds [El (xs.map fun q=>A0 (B.nm q.1) q.2) k tp] pe).map (·.2))=Ct (.Tuple (xs.map fun q=>.Name (B.nm q.1) q.2) k tp) pe (.ref s1.heap.objs.size):=rfl;refine zF ha ?_;exact lQ O (Z:=fun b=>bB W M b/\¬Wc b) R.handled hlen X2 hmine (fun b q=>q.1) (fun q hq b z=>dA O X2 (hmine q hq).2 b z) ht (fun h' kp hsz=>by refine zF BG ?_;exact ER h' kp hsz) fun s3 X3 e3=>zR (fin s3 X3 e3)
 ·refine zF hw ?_
  refine zK (zR ?_);refine zF (qF O _ _ _ _) ?_;refine zK (EY ?_);refine zF (show(xs.map fun q=>B.nm q.1).length=vs.toArray.size by simp[hlen,hlv]) ?_;refine zK (Mine.rZ (Gq R.handled ht fun h' he hsz=>?_));have kp:∀b o,({ s1 with heap:=s1.heap.push { cls:=.type "tuple", data:=.seq vs.toArray } }:zL).heap.get? b=some o->h'.get? b=some o:=fun b o e=>he b o (CN (Al e)) e
  have e3:az B { s1 with heap:=s1.heap.push { cls:=.type "tuple", data:=.seq vs.toArray } } { s1 with heap:=h' }:=fD O kp hsz rfl rfl
  have X3:=X2.move O e3;refine vx (zip3 xs l vs hlen hlv) fun z1 z2 z3=>?_;have ER':=ER h' kp hsz;have G:=ph O (A:=A) (Z:=fun b=>bB W M b/\¬Wc b) (fun b q=>q.1) (st:=fun q=>FY pe (B.nm q.1)) (fun q v Q E s h=>wpAny_bindName h) (xs.zip (l.zip vs)).reverse ρ { s1 with heap:=h' } (fun J s4=>wpAny B.M A (pure Flow.next) (fun f s'=>wpAny B.M A (execs rest pe) Q Ex s') Ex s4) Ex X3 (fun q hq=>hmine q.1 (Ci (Dd.mp hq)).1)
   (fun q hq b z=>dA O X3 (hmine q.1 (Ci (Dd.mp hq)).1).2 b z) (fun q hq=>ER'.at' _ (Ci (Dd.mp hq)).2)
   (F5.mpr ((mj xs (l.zip vs) ER'.pair).imp fun h c o1 o2=>h c o2 o1)) fun s4 X4 e4=>zR ?_
  ·rw[Dg,Dg,z1,show(xs.zip (l.zip vs)).map (fun q=>FY pe (B.nm q.1.1))=(xs.map fun q=>B.nm q.1).map fun n=>FY pe n by refine zF AO ?_;exact(AO (l:=xs.zip (l.zip vs)) (f:=(·.1)) (g:=fun q:Nat×Pos=>FY pe (B.nm q.1))).symm.trans (congrArg _ z3), <-Dg] at G
   refine zK ?_;refine zF (show vs.toArray.toList.reverse=vs.reverse by exact zF BG rfl) ?_;exact G
  ·rw[Dg,z2,yI O _ _ (by refine zF (show(xs.zip l).map (·.1.1)=((xs.zip l).map (·.1)).map (·.1) by refine zF AO ?_;rfl)<|zF (List.map_fst_zip (by lia)) ?_;exact hnd)] at X4
   exact fin s4 X4 ((e3.toP _).trans e4 (fun b q=>.inl q) fun i q=>q.elim)
theorem ek_un (nm:Nat->Str){e:E}(ts:List Expr)(k l:Nat)(tp:Pos)(env:Env):∀{q:EK},q.isUn=true->q.Of e->Gf [.Tuple ts k tp] (e.py nm) l env=pure false/\D1 [.Tuple ts k tp] (e.py nm) env=pure none:=fun{q} hq h=>by
 cases q with
 |nm x p=>exact h▸⟨rfl,rfl⟩
 |fcl f es q p=>exact h▸⟨rfl,rfl⟩
 |idx x y p=>exact h▸⟨rfl,rfl⟩
 |_=>exact bG hq
theorem vQ (nm:Nat->Str){e:E}(h:e.isUn=true)(ts:List Expr)(k l:Nat)(tp:Pos)(env:Env):Gf [.Tuple ts k tp] (e.py nm) l env=pure false/\D1 [.Tuple ts k tp] (e.py nm) env=pure none:=ek_un O nm ts k l tp env h e.k_of
set_option tactic.hygienic true in
theorem st_asgU {xs:List (Nat×Pos)}{k:Nat}{e:E}{tp p:Pos}(he:aW B K Φ e):b0 B K Φ N (.asgU xs k e tp p):=by
 intro Γ ρ out h Wc W pe A s Q Ex rest X R kk;replace h:=j9▸h;refine aS (aY h) fun hc h'=>?_;refine am (af h') fun r h1 h2=>?_
 split at h2
 case h_2=>exact ai h2
 rename_i ds hd
 refine aS (aE h2) fun hc2 e91=>?_;subst e91;have hmine:∀q∈xs,(Γ q.1=some .local\/Γ q.1=some .cell)/\¬aq ρ q.1:=fun q hq=>bV O (Ag.mp hc2.2 q hq);have hpy:St.py B.nm (.asgU xs k e tp p)++rest=.Assign [.Tuple (xs.map fun q=>.Name (B.nm q.1) q.2) k tp] (e.py B.nm) p::rest:=rfl;refine zF hpy ?_;refine zZ ?_;refine aS (vQ O B.nm hc (xs.map fun q=>A0 (B.nm q.1) q.2) k p.line tp pe) fun w1 w2=>?_;refine zF (FN _ _ _) ?_;refine zK (AS ?_);refine zF w1 ?_;refine zK (zR ?_);refine zF (if_neg (by decide)) ?_;refine zK (ci O he h1 hd X R fun v s1 e1 X1 q1=>?_);refine zF w2 ?_;refine zK (zR ?_);refine zF (gz O _ _ _) ?_;refine zK ?_;have ha:Gw v ((Ds [El (xs.map fun q=>A0 (B.nm q.1) q.2) k tp] pe).map (·.2))=Ct (.Tuple (xs.map fun q=>.Name (B.nm q.1) q.2) k tp) pe v:=rfl;refine zF ha ?_;exact lP O (Z:=fun b=>W b/\¬Wc b) R.handled hc2.1 X1 hmine (fun b q=>q.1) (fun q hq b z=>dA O X1 (hmine q hq).2 b z) q1 fun s3 X3 e3=>zR (kk s3 Wc W (SG.refl O _ _ _) X3 ((e1.toP _).trans e3 (fun b q=>.inl q) fun i q=>q.elim))
structure qc (B:Bs)(x id f:Nat)(ps:List (Nat×Pos))(body:List Stmt)(sc:LK)(gen:Bool):Prop where
 ls:B.LS id=some ⟨aP B.nm ps,.stmts body,{ bA B.nm sc with isGenerator:=gen },B.qf f,aD sc⟩
 qf:B.qf f=B.pq f++B.nm x
 ct:∃c P,B.CT f=some (c,P)
 doc:docOf body=none
theorem uB (nm:Nat->Str)(env:Env):∀ps:List (Nat×Pos),annotationsOf (ps.map fun q=>{ arg:=nm q.1,annotation:=none,pos:=q.2 }) env=[]
 |[]=>rfl
 |q::r=>uB nm env r
theorem st_def {x id f:Nat}{ps:List (Nat×Pos)}{body:List Stmt}{sc:LK}{gen:Bool}{p:Pos}(hl:qc B x id f ps body sc gen):b0 B K Φ N (.defS x id f ps body sc gen p):=by
 intro Γ ρ out h Wc W pe A s Q Ex rest X R k;simp only[j7] at h;refine mA h fun hc h=>?_;refine x03 hc fun hsc hf hff hm=>?_;simp only[zQ,zO,zV] at h;refine am h fun caps hcaps e91=>?_;subst e91;refine aS (bV O hm) fun hk hns=>?_;rcases X.code with q|⟨q1,q2⟩
 ·exact absurd (hff.symm.trans q) hf
 rw[hff] at q1 q2;show wpAny B.M A (execs (.FunctionDef (B.nm x) (aP B.nm ps) body [] none [] { bA B.nm sc with isGenerator:=gen } none (B.nm x) p::rest) pe) Q Ex s;refine zZ ?_;refine zF (exec_def _ _ _ _ _ _ _) ?_;have hqn:qualnameIn pe (B.nm x) (B.nm x)=B.qf f:=by
  unfold qualnameIn;refine zF hl.qf<|zF (AM q2) ?_
  rcases hk with hk|hk<;>(refine zF ((X.kinds _ _ hk).1) ?_;rfl)
 have hann:annTrees (aP B.nm ps) none pe=[]:=by
  unfold annTrees aP;simp only[E9,AF,Option.toList_none];have e:evalOpt none pe=none:=rfl
  simpa [e] using uB O B.nm pe ps
 refine zF hqn<|zF hann ?_
 refine zK (AS (zK (BE (zK (zR (zK (BE (zR (BE (zK (zR ?_)))))))))));refine Ak (yc O hl.ls hl.ct rfl (eS O hsc) q1 (fun b e=>by cases e;exact hl.doc) X hcaps) ?_ fun J J f=>f.elim;rintro v s1 ⟨e1,r1⟩;refine zK (AS (zK (wpAny_bindName (Ctx.store O (X.move O e1) hk hns r1 fun s2 X2 e2=>zR ?_))));exact k s2 Wc W (SG.refl O _ _ _) X2 ((e1.toP _).trans e2 (fun b q=>.inl (dA O X hns b q)) fun i q=>q.elim)
end
end Mine
namespace Mine
variable {B:Bs}
section
variable (O:B.Ok)
include O
variable {Γ:ah}{ρ:ac}{Wc W:AP}{pe:Env}{A:Av}{s s₀:zL}{K N:Nat}{Φ:bq}
theorem yQ {b:Addr}{vs:Array Value}{n:Nat}{k m:Nat}{pos:Pos}{a:Sem Value}{E:VS}{Q:VS}(hg:s.heap.get? b=some { cls:=.type "list", dict:=none,data:=.seq vs n,slots:=#[] }) (hk:vs.size=k) (hkm:k+m<=lim)
  (h:wpAny B.M A a (fun v s₁=>∃c vs2 n2,v=.ref c/\s₁.heap.get? b=some { cls:=.type "list", dict:=none,data:=.seq vs n,slots:=#[] }/\s₁.heap.get? c=some { cls:=.type "list", dict:=none,data:=.seq vs2 n2,slots:=#[] }/\vs2.size=m/\
   Q .none { s₁ with heap:=s₁.heap.update b (Obj.mapSeq fun x=>x++vs2) }) E s):FG B.prog B.w A E (Str.ofString "extend") (.ref b) pos [(false,a)] Q s:=by
 refine⟨"list", _,Fq,Fk,PySem.F.type_list_extend,⟨_,hg,rfl⟩,(fun a' e=>⟨_,Value.ref.inj e▸hg,rfl⟩),?_⟩
 refine Gg Fk PySem.F.entry_list_extend (Ak h (fun v s₁ h₁=>?_) fun J J e=>e);obtain⟨c,vs2,n2,rfl,g1,g2,hm,hq⟩:=h₁;have hz:vs.size+vs2.size<=sizeLine:=ax (by rw[hk,hm];exact hkm);refine⟨⟨_,g1,rfl⟩,PySem.F.args_list_extend_2 _ _,_,PySem.AutoSeq1.list_extend_list_list_0 b vs n c vs2 n2 ?_ (zH (AC _ _) hz) (Cn hz),g1,g2,hq⟩;rw[Bu,not_and];exact fun J q=>absurd (of_decide_eq_true q) (D3.mpr hz)
theorem st_ext {x:Nat}{e:E}{xp ap cp p:Pos}(he:aW B K Φ e):b0 B K Φ N (.ext x e xp ap cp p):=by
 intro Γ ρ out h Wc W pe A s Q Ex rest X R k;rw[lD] at h;refine am (af h) fun l hx0 h2=>?_;have hx:=pI hx0;refine aS (aY h2) fun hline h3=>?_;refine am (af h3) fun r h1 h4=>?_;refine am (af h4) fun y hy h5=>?_;refine am (af h5) fun m hm h6=>?_;refine aS (aE h6) fun hl e95=>?_;subst e95;obtain rfl:=list?_eq hm;obtain⟨v,lv,a,vs,n,rfl,hW,hWc,hg,hl2,ra⟩:=X.vars x _ hx;have hsz:=aa.length ra;rw[An] at hsz;have nT:¬B.T a:=fun t=>hWc (X.tW _ t);refine zZ (wpAny_Expr ?_ (by unfold DW;refine zF X.fn ?_;rfl) rfl);refine DJ rfl (by refine zF (aA _ _ _ _) ?_;rfl) hline ?_;refine Aw (Ctx.name O X lv ?_ (O.cld x)) (O.dbg x);refine yQ O hg hsz hl (ci O he h1 hy X R fun w s1 e1 X1 q1=>?_);have hg1:=e1.keep a _ nT hg;simp only[av] at q1;obtain⟨c,vs2,n2,rfl,wc,gc,l2,r2⟩:=q1;have hsz2:=aa.length r2;rw[An] at hsz2;refine⟨c,vs2,n2,rfl,hg1,gc,hsz2,?_⟩;have hg':=Cb (Obj.mapSeq fun x=>x++vs2) hg1 rfl;have ra1:=aa.eff O X.tW' ra e1;refine aS (Ctx.setOwn O (t:=s1.toks) X1 hx (X.locmove e1 lv) hW hWc hg1 (Ce ..) hg' (l':=l++m) (by rw[zM];exact hl) (by refine zF CP ?_;exact aa.append ra1 r2)) fun X2 e2=>?_;exact k _ Wc W (SG.refl O _ _ _) X2 ((e1.toP _).trans e2 (fun b q=>.inl q) fun i q=>.inl q)
omit O in
theorem vT {l l':List D}{j y:D}(h:n8 l j y=some l'):∃a,j=.int a/\(0<=a/\a < l.length)/\l.set a.toNat y=l':=by
 refine am (af h) fun a ha h1=>?_;refine aS (aE h1) fun hc h2=>?_;exact⟨a,int?_eq ha,hc,h2⟩
theorem st_seti {x:Nat}{i e:E}{xp sp p:Pos}(hi:aW B K Φ i)(he:aW B K Φ e):b0 B K Φ N (.seti x i e xp sp p):=by
 intro Γ ρ out h Wc W pe A s Q Ex rest X R k;rw[j1] at h;have hcp:e.isCp=false:=by
  cases hc:e.isCp with
  |false=>rfl
  |true=>rw[hc] at h;exact ai h
 rw[hcp] at h;refine am (af h) fun l hx0 h2=>?_;have hx:=pI hx0;refine am (af h2) fun ry hy1 h3=>?_;refine am (af h3) fun y hy h4=>?_;refine am (af h4) fun rj hj1 h5=>?_;refine am (af h5) fun j0 hj h6=>?_;refine am (aK h6) fun l' hput e91=>?_;subst e91;refine oQ (vT hput) fun j e91 hlt e92=>?_;subst e91;subst e92;obtain⟨v,lv,a,vs,n,rfl,hW,hWc,hg,hl2,ra⟩:=X.vars x _ hx;have hsz:=aa.length ra;rw[An] at hsz;have nT:¬B.T a:=fun t=>hWc (X.tW _ t);have hj63:j < 2 ^ 63:=by
  have:(l.length:Int)<=1048576:=by unfold lim at hl2;lia
  lia
 refine zZ (Ee (ci O he hy1 hy X R fun w s1 e1 X1 q1=>?_) (jB O _ _ (fun a b c d q=>by rw[q] at hcp;exact nots hcp) _ _ _));refine Aw (Ctx.name O X1 (X.locmove e1 lv) ?_ (O.cld x)) (O.dbg x);refine ci O hi hj1 hj X1 R fun wj s2 e2 X2 q2=>?_;refine x1 (nf q2) fun t e91=>?_;subst e91;have e02:=e1.trans e2;have hg2:=e02.keep a _ nT hg;refine hU hg2 hlt.1 hj63 (by lia) ?_;have hg4:=Cb (Obj.mapSeq (·.setIfInBounds j.toNat w)) hg2 rfl;have ra2:=aa.eff O X.tW' ra e02;have q1':=av.eff O X.tW' q1 e2;have hjn:j.toNat < l.length:=by omega
 have key:aa B s2.heap W (l.set j.toNat y) (vs.setIfInBounds j.toNat w).toList:=by
  refine aa.of_get O _ _ (by simp[hsz]) fun i d v hd hv=>?_;simp only[Fp] at hv;rw[EN] at hd hv
  by_cases hi:j.toNat=i
  ·simp only[hi,if_true] at hd hv
   split at hd
   ·obtain rfl:=zG hd
    split at hv
    ·obtain rfl:=zG hv;exact q1'
    ·exact ai hv
   ·exact ai hd
  ·simp only[hi,if_false] at hd hv
   refine am (aa.get ra2 hd) fun v' hv' rv'=>?_;obtain rfl:=zG (hv.symm.trans hv');exact rv'
 refine aS (Ctx.setOwn O (t:=s2.toks) X2 hx (X.locmove e02 lv) hW hWc hg2 (Ce ..) hg4 (l':=l.set j.toNat y) (by refine zF Cv ?_;exact hl2) key) fun X4 e4=>?_;exact k _ Wc W (SG.refl O _ _ _) X4 ((e02.toP _).trans e4 (fun b q=>.inl q) fun i q=>.inl q)
omit O in
theorem wq {ll l':List (List D)}{j:D}{m:List D}(h:oB ll j m=some l'):∃a l,j=.int a/\(0<=a/\a < ll.length)/\ll[a.toNat]?=some l/\l.length+m.length<=lim/\ll.set a.toNat (l++m)=l':=by
 refine am (af h) fun a ha h1=>?_;refine aS (aY h1) fun hc h2=>?_;refine am (af h2) fun l hl h3=>?_;refine aS (aE h3) fun hm h4=>?_;exact⟨a,l,int?_eq ha,hc,hl,hm,h4⟩
theorem st_ext2 {x:Nat}{i e:E}{xp sp ap cp p:Pos}(hi:aW B K Φ i)(he:aW B K Φ e):b0 B K Φ N (.ext2 x i e xp sp ap cp p):=by
 intro Γ ρ out h Wc W pe A s Q Ex rest X R k;rw[j6] at h;refine am (af h) fun ll hx0 h'=>?_;have hx:=y6 hx0;refine aS (aY h') fun hline h1'=>?_;refine am (af h1') fun rj hj1 h2=>?_;refine am (af h2) fun j0 hj h3=>?_;refine am (af h3) fun ry hy1 h4=>?_;refine am (af h4) fun y hy h5=>?_;refine am (af h5) fun m hm h6=>?_;refine am (aK h6) fun l' happ e91=>?_;subst e91;obtain rfl:=list?_eq hm;refine x24 (wq happ) fun j l e91=>?_;subst e91;intro hlt hl hllim e92;subst e92;refine am (X.vars x _ hx) fun v lv r0=>?_;have r0':=r0;obtain⟨c,bs,n,rfl,w,g,nd,len,hl2,ri⟩:=r0;have hbl:j.toNat < bs.length:=by refine zF len ?_;exact(Ap.mp hl).1
 have hb:bs[j.toNat]?=some bs[j.toNat]:=Am hbl;obtain⟨b,vs,nb,eb,hW,hWc,hg,hlb,ra⟩:=ri _ _ _ hb hl;have eb:=Value.ref.inj eb;replace hb:=eb▸hb;have hmem:b∈bs:=BK hb;have nTc:¬B.T c:=fun t=>w (X.tW' c t);have nT:¬B.T b:=fun t=>hWc (X.tW _ t);have hsz:=aa.length ra;rw[An] at hsz;have hj63:j < 2 ^ 63:=by
  have:(ll.length:Int)<=1048576:=by unfold lim at hl2;lia
  lia
 refine zZ (wpAny_Expr ?_ (by unfold DW;refine zF X.fn ?_;rfl) rfl);refine DJ rfl (by refine zF (aA _ _ _ _) ?_;rfl) hline ?_;refine Subscript_ (Aw (Ctx.name O X lv (ci O hi hj1 hj X R fun wi s1 e1 X1 q1=>?_) (O.cld x)) (O.dbg x));refine x1 (nf q1) fun t e91=>?_;subst e91;have g1:=e1.keep c _ nTc g;have L1:s1.heap.IsList c (bs.map Value.ref).toArray:=⟨_,g1,rfl,n,rfl⟩;refine tail_any L1.typeIs Fd.lookup ?_ (xR O _ _ _ _);refine EZ ⟨_,g1,rfl,n,rfl⟩ hlt.1 hj63 (by refine zF (F7)<|zF (AR)<|zF hb ?_;rfl) ?_;have hg1:=e1.keep b _ nT hg;refine yQ O hg1 hsz hllim (ci O he hy1 hy X1 R fun wv s2 e2 X2 q2=>?_);have e02:=e1.trans e2;have hg2:=e02.keep b _ nT hg;have g2:=e02.keep c _ nTc g;simp only[av] at q2;obtain⟨d,vs2,n2,rfl,wd,gd,l2,r2⟩:=q2;have hsz2:=aa.length r2;rw[An] at hsz2;refine⟨d,vs2,n2,rfl,hg2,gd,hsz2,?_⟩;have hg':=Cb (Obj.mapSeq fun x=>x++vs2) hg2 rfl;have hs':Cm b s2.heap (s2.heap.update b (Obj.mapSeq fun x=>x++vs2)):=Ce ..;generalize s2.heap.update b (Obj.mapSeq fun x=>x++vs2)=h' at hg' hs' ⊢;have hcb:c≠b:=fun e=>w (e▸hW);have oa:aM s2.heap (.own2 ll) (.ref c) b:=⟨c,bs,n,rfl,g2,hmem⟩
 obtain⟨X3,e3⟩:=Ctx.setAt O (t:=s2.toks) (en':=.own2 (ll.set j.toNat (l++m))) X2 hx (X.locmove e02 lv) oa (fun J e=>nomatch e) (fun J e=>nomatch e) hs' (fun keepW=>by
  refine⟨c,bs,n,rfl,w,hs'.extBut _ _ hcb g2,nd,by refine zF Cv ?_;exact len,by refine zF Cv ?_;exact hl2,fun i b' l' h1 h2=>?_⟩;rw[EN] at h2
  by_cases hi:j.toNat=i
  ·subst hi
   obtain rfl:=zG (hb.symm.trans h1);rw[if_pos rfl] at h2
   split at h2
   ·obtain rfl:=zG h2
    refine⟨b,_,_,rfl,hW,hWc,hg',by rw[zM];exact hllim,?_⟩;refine zF CP ?_;exact aa.append (aa.move O keepW (fun b q=>.inl q) _ _ (aa.eff O X.tW' ra e02)) (aa.move O keepW (fun b q=>.inl q) _ _ r2)
   ·exact ai h2
  ·rw[if_neg hi] at h2
   obtain⟨b2,vs3,n3,e,a1,a2,a3,a4,a5⟩:=ri i b' l' h1 h2;obtain rfl:=Value.ref.inj e
   have hne:b'≠b:=fun e=>hi (by
    subst e
    exact(nd_idx nd hb h1))
   exact⟨b',vs3,n3,rfl,a1,a2,hs'.extBut _ _ hne (e02.keep _ _ (fun t=>a2 (X.tW _ t)) a3),a4,aa.move O keepW (fun b q=>.inl q) _ _ (aa.eff O X.tW' a5 e02)⟩) (fun b' o=>by
  refine wL o fun c' bs' n'' e g' m=>?_;obtain rfl:=Value.ref.inj e;have g3:h'.get? c=some { cls:=.type "list", dict:=none,data:=.seq (bs.map Value.ref).toArray n,slots:=#[] }:=hs'.extBut _ _ hcb g2
  obtain rfl:=i4 g3 g'
  exact⟨c,bs,n,rfl,g2,m⟩)
 exact k _ Wc W (SG.refl O _ _ _) X3 ((e02.toP _).trans e3 (fun b q=>.inl q) fun i q=>.inl q)
theorem sv {x y:Nat}{e:dL}(hy:y≠x)(h:¬aq ρ y):¬aq (ρ.set x e) y:=fun⟨d,q⟩=>h ⟨d,(ac.set_ne O ρ e hy).symm.trans q⟩
theorem st_popU {x:Nat}{xs:List (Nat×Pos)}{k:Nat}{xp ap cp tp p:Pos}:b0 B K Φ N (.popU x xs k xp ap cp tp p):=by
 intro Γ ρ out h Wc W pe A s Q Ex rest X R kk;rw[j2] at h;refine am (af h) fun l hx0 h'=>?_;have hx:=pI hx0;refine aS (aY h') fun hline h2=>?_;refine am (af h2) fun d hd h3=>?_;refine am (af h3) fun ds hds h4=>?_;refine aS (aE h4) fun hc e91=>?_;subst e91;obtain rfl:=tup?_eq hds;have hm:∀q∈xs,(Γ q.1=some .local\/Γ q.1=some .cell)/\¬aq ρ q.1/\q.1≠x:=fun q hq=>by
  have z:=As.mp (Ag.mp hc.2 q hq);refine aS (bV O z.1) fun z1 z2=>⟨z1,z2,fun e=>?_⟩;have z3:=z.2;rw[e,beq_self_eq_true] at z3;exact bG z3
 obtain⟨v,lv,a,vs,n,rfl,hW,hWc,hg,hl2,ra⟩:=X.vars x _ hx;have hsz:=aa.length ra;rw[An] at hsz;have nT:¬B.T a:=fun t=>hWc (X.tW _ t);rw[List.getLast?_eq_getElem?] at hd;refine am (aa.get ra hd) fun u hu ru=>?_;have hul:vs[vs.size - 1]?=some u:=by rw[hsz, <-BP];exact hu
 have hpy:St.py B.nm (.popU x xs k xp ap cp tp p)++rest=.Assign [.Tuple (xs.map fun q=>.Name (B.nm q.1) q.2) k tp] (.Call (.Attribute (.Name (B.nm x) xp) (Str.ofString "pop") ap) [] [] cp) p::rest:=rfl
 refine zF hpy ?_;refine zZ ?_;refine zF (FN _ _ _) ?_;refine zK (AS ?_);refine zK (show wpAny _ _ (pure false) _ _ _ from zR ?_);refine zF (if_neg (by decide)) ?_;refine zK (Call_method0 rfl hline (Aw (Ctx.name O X lv ?_ (O.cld x)) (O.dbg x)));refine⟨"list", _,Fq,FL,PySem.F.type_list_pop,⟨_,hg,rfl⟩,(fun a' e=>⟨_,Value.ref.inj e▸hg,rfl⟩),?_⟩
 refine method0_meets FL PySem.F.entry_list_pop ⟨_,hg,rfl⟩ (PySem.F.args_list_pop_1 _) (PySem.MeetsSeq.list_pop_last a vs n u hul (by rw[hsz];exact ax hl2)) ⟨hg,?_⟩;have hg':=Cb (Obj.mapSeq fun xs=>xs.eraseIdxIfInBounds (vs.size - 1)) hg rfl;have hs':Cm a s.heap (s.heap.update a (Obj.mapSeq fun xs=>xs.eraseIdxIfInBounds (vs.size - 1))):=Ce ..;have hpos:0 < vs.size:=by
  rcases Nat.eq_zero_or_pos vs.size with h0|h0
  ·rw[<-hsz,h0] at hd;exact absurd hd (by rw[List.getElem?_eq_none (by omega)];exact fun q=>ai q)
  ·exact h0
 have htl:(vs.eraseIdxIfInBounds (vs.size - 1)).toList=vs.toList.take (l.length - 1):=by
  rw[GJ,Array.toList_pop,F8,An,hsz]
 refine aS (Ctx.setOwn O (t:=s.toks) X hx lv hW hWc hg hs' hg' (l':=l.dropLast) (zH (by rw[List.length_dropLast];exact CJ _ _) hl2) (by rw[htl,F8];exact aa.take _ ra)) fun X2 e2=>?_;have ru2:=av.move O (e2.kW X.tW' fun b q=>q.1) (fun b q=>.inl q) _ _ ru;refine zK (show wpAny _ _ (pure none) _ _ _ from zR ?_);refine zF (gz O _ _ _) ?_;refine zK ?_;refine zF (show Gw u ((Ds [El (xs.map fun q=>A0 (B.nm q.1) q.2) k tp] pe).map (·.2))=Ct (.Tuple (xs.map fun q=>.Name (B.nm q.1) q.2) k tp) pe u from rfl) ?_;exact lP O (Z:=fun b=>W b/\¬Wc b) R.handled hc.1 X2 (fun q hq=>⟨(hm q hq).1,sv O (hm q hq).2.2 (hm q hq).2.1⟩) (fun b q=>q.1) (fun q hq b z=>dA O X (hm q hq).2.1 b z) ru2 fun s3 X3 e3=>zR (kk s3 Wc W (SG.refl O _ _ _) X3 (e2.trans e3 (fun b q=>.inl q) fun i q=>q.elim))
omit O in
theorem yx {op:CS}(h:yy op=true):op=.Add:=by
 cases op<;>first|rfl|exact bG h
theorem st_ownB {x:Nat}{a b:E}{op:CS}{q xp p:Pos}(ha:aW B K Φ a)(hb:aW B K Φ b):b0 B K Φ N (.own x (.bin a op b q) xp p):=by
 intro Γ ρ out h Wc W pe A s Q Ex rest X R k;rw[fK] at h;refine aS (aY h) fun hop g1=>?_;refine am (af g1) fun r1 h1 g2=>?_;refine am (af g2) fun u0 hu g3=>?_;refine am (af g3) fun r2 h2 g4=>?_;refine am (af g4) fun v0 hv g5=>?_;refine am (af g5) fun l1 hl1 g6=>?_;refine am (af g6) fun l2 hl2 g7=>?_;refine aS (aE g7) fun hc e91=>?_;subst e91;obtain rfl:=yx hop;obtain rfl:=list?_eq hl1;obtain rfl:=list?_eq hl2;have hm:=hc.1;have hl:=hc.2;refine aS (bV O hm) fun hk hns=>?_;refine zZ (AU (wpAny_BinOp (iS O ha h1 hu X R fun u s1 e1 X1 p1 t1=>iS O hb h2 hv X1 R fun v s2 e2 X2 p2 t2=>?_)) rfl);obtain⟨c1,xs,n1,rfl,gg1,lc1,rr1⟩:=bE.eff O X1.tW' t1 p1 e2;obtain⟨c2,ys,n2,rfl,gg2,lc2,rr2⟩:=p2;have e02:=e1.trans e2;have hlen1:=aa.length rr1;have hlen2:=aa.length rr2;rw[An] at hlen1 hlen2;have q1:aa B s2.heap W (l1++l2) (xs++ys).toList:=by rw[CP];exact aa.append rr1 rr2
 refine P.add_list gg1 gg2 ?_ (ax (by rw[hlen1,hlen2];exact hl));have e3:az B s2 { s2 with heap:=s2.heap.push { cls:=.type "list", data:=.seq (xs++ys) } }:=az.push O _ s2.toks
 have hsz:({ s2 with heap:=s2.heap.push { cls:=.type "list", data:=.seq (xs++ys) } }:zL).heap.objs.size=s2.heap.objs.size+1:=Aq ..
 have X3:=Ctx.growOwn O X2 e3 (N:=fun b=>b=s2.heap.objs.size) (fun b q=>by refine zF hsz<|zF q ?_;exact⟨zW _,AL _⟩);have hfresh:∀b,W b->b < s2.heap.objs.size:=X2.wlt;refine Ctx.storeE O X3 hk hns (fun d e=>by exact sH rfl e) (en:=.own (l1++l2)) ⟨_,xs++ys,0,rfl,.inr rfl,fun w=>zJ _ (hfresh _ (X2.cW _ w)),Aj _ rfl,by rw[zM];exact hl,?_⟩ (fun b ob y e' w hy hρ hloc hb=>?_) fun s4 X4 e4=>?_
 ·exact aa.move O (fun b o J e=>z9 _ e) (fun b q=>q.imp_right fun q=>AG (Ax q.symm)) _ _ q1
 ·obtain rfl:=Value.ref.inj ob
  refine am (X2.vars y _ hρ) fun w' lw rw'=>?_;obtain rfl:=cP.uniq hloc (X2.locmove e3 lw);exact zJ _ (hfresh _ (aM.w rw' (aM.back rw' (fun c o w q=>e3.keep c o (fun t=>w (X2.tW' _ t)) q) hb)).1.1)
 ·have e03:=e02.trans e3
  refine k s4 Wc (bB W fun b=>b=s2.heap.objs.size) ⟨fun b q=>q,fun b q=>q.imp_right fun(q:b=s2.heap.objs.size)=>q▸e02.size,fun b q n=>q.elim (fun z=>.inl ⟨z,n⟩) fun(z:b=s2.heap.objs.size)=>.inr (z▸e02.size)⟩ X4 ?_;refine(e03.toP _).trans e4 (fun b q=>?_) fun i q=>q.elim;rcases q with rfl|q
  ·exact .inl X.locW
  ·have:=(X.cellW x b (by exact q)).resolve_left hns
   exact .inl this
end
end Mine
namespace Mine
variable {B:Bs}
section
variable (O:B.Ok)
include O
variable {Γ:ah}{ρ:ac}{Wc W:AP}{pe:Env}{A:Av}{s s₀:zL}{K N:Nat}{Φ:bq}
theorem mQ {use:Option (Value->Sem Unit)}{elt ie:E}{t:Tg}{sc:LK}{cp:Pos}{items l:List D}{it:Addr}{F:AP}{I:List D->Pv->zL->Prop}{pv:Pv}{Q:VS}{Ex:VS}
  (RK:aB A K) (helt:aW B K Φ elt) (hsc:jU Γ sc) (X:Ctx B Γ Wc W pe ρ s) (ok:be B K F it I) (hI:I items pv s) (hp:∀b,pv.a b->Wc b/\B.Hi b) (hF:∀b,F b->¬W b/\b < s.heap.objs.size)
  (hv:∀{Q:VS},Q (.ref it) s->wpAny B.M A (eval (ie.py B.nm) pe) Q Ex s) (hl:d6 Φ Γ sc t elt ρ items=some l) (hlim:l.length<=lim)
  (k:∀s' a C,ao B pv s s'->Ctx B Γ Wc W pe ρ s'->av B s'.heap (bB W fun b=>b=C) (.list l) (.ref a)->s.heap.objs.size<=C->(∃m,s'.heap.Ns C m/\m (cz [9000])=none)->C < s'.heap.objs.size->compPost B.M A Ex use Q (.ref a) C (.ok .next) s'):
  wpAny B.M A (ET (.ListComp (elt.py B.nm) [⟨t.py B.nm,ie.py B.nm,[],0⟩] (bA B.nm sc) cp) (bA B.nm sc) pe (Ff [⟨t.py B.nm,ie.py B.nm,[],0⟩] cp) (newList []) false (eval (ie.py B.nm) pe) use) Q Ex s:=by
 have R20:aB A (K - 4):=RK.less (CJ _ _);refine Gd (use:=use) (g:=⟨t.py B.nm,ie.py B.nm,eN B.nm [],0⟩) (gs:=pf B.nm []) rfl (fun x=>kR O _ _ _ _) (iK O hsc X) rfl (kq O hsc) ?_;refine hv ?_;refine ok.self _ _ _ _ _ _ hI X.good R20 ?_;refine Bz ?_;have e03:az B s { s with heap:=s.heap.push { cls:=.type "list", data:=.seq ([]:List Value).toArray } }:=az.push O _ s.toks
 have hs3:({ s with heap:=s.heap.push { cls:=.type "list", data:=.seq ([]:List Value).toArray } }:zL).heap.objs.size=s.heap.objs.size+1:=Aq ..
 have hsub:=ok.sub _ _ _ hI;have X3:=Ctx.grow O X (e03.toP ⟨fun J=>False,fun J=>False⟩) (fun b q=>q.elim) (fun b q=>q.elim) (N:=fun b=>b=s.heap.objs.size) (fun b q=>by subst q;exact⟨zW _,by rw[hs3];exact AL _⟩);have hobj:({ s with heap:=s.heap.push { cls:=.type "list", data:=.seq ([]:List Value).toArray } }:zL).heap.get? s.heap.objs.size=some { cls:=.type "list", dict:=none,data:=.seq #[] 0,slots:=#[] }:=Aj _ rfl
 generalize hS3:({ s with heap:=s.heap.push { cls:=.type "list", data:=.seq ([]:List Value).toArray } }:zL)=s3 at *
 have hhi:B.Hi s.heap.objs.size:=X.good.hi (zW _);refine rL O hsc X3 fun s4 cenv X4 e34 hz4 hL=>?_;have e04:=e03.trans e34;have hD4:=e34.keep _ _ (fX O hhi) hobj;have I4:I items pv s4:=ok.stay _ _ _ _ hI (fun b o nt J z=>e04.keep b o nt z) e04.ck e04.size (fun i y J z=>e04.gens i y z) X4.good;have hDp:¬pv.a s.heap.objs.size:=fun q=>zJ _ (hsub _ q).2.2;refine f7 O (g:=⟨t.py B.nm,ie.py B.nm,eN B.nm [],0⟩) rfl rfl rfl rfl rfl ok I4 X4.good R20 ?_;have hs23:s.heap.objs.size < s3.heap.objs.size:=by rw[hs3];exact AL _
 refine uH O (fr:=false) (Z:=fun b=>s3.heap.objs.size<=b/\b < s4.heap.objs.size) (gens:=[.mk t ie []]) hz4 RK R20 helt (fun z=>bG z) [] (fun z=>bG z) (fun J J J h=>aG h) t ie [] (qH O) 0 rfl it F I ok items (ρ.cut sc) l _ s4 _ _ pv #[] 0 hl ?_ X4 I4 ?_ ?_ ⟨hD4,.inr rfl,hhi⟩ hDp (by simpa using hlim) ?_
 ·intro b q
  exact⟨.inr q,fun w=>zJ _ (zI (X3.wlt b (X3.cW b w)) q.1)⟩
 ·intro b q
  refine aS (hF b q) fun f1 f2=>?_;refine⟨fun w=>?_,zI f2 e04.size⟩;rcases w with(w|w)|w
  ·exact f1 w
  ·subst w;exact zJ _ f2
  ·exact zJ _ (zI (BU f2 hs23) w.1)
 ·intro b q
  exact⟨.inl (hp b q).1,(hp b q).2⟩
 ·intro s' Wc' W' vs' n' X' g' hD' r' e' J
  have hC:s.heap.objs.size<=cenv.locals:=zH e03.size hL
  have fin:ao B pv s s':=(e04.toP _).trans e' (fun b q=>by
   rcases q with q|q|rfl
   ·exact .inr (zH e03.size q.1)
   ·exact .inl q
   ·exact .inr (zW _)) (fun i q=>.inl q)
  have hLW:(bB (bB W fun b=>b=s.heap.objs.size) fun b=>s3.heap.objs.size<=b/\b < s4.heap.objs.size) cenv.locals:=X4.locW.1;have hne:s.heap.objs.size≠cenv.locals:=fun q=>zJ _ (zI hs23 (q▸hL));refine k s' s.heap.objs.size cenv.locals fin (Ctx.moveP O X fin (fun b q=>(hp b q).1) (fun b q=>(hp b q).2)) ?_ hC X'.loc (X'.wlt _ X'.locW.1);simp only[av];refine⟨_,_,n',rfl,fun w=>w.elim (fun w=>zJ _ (X.wlt _ w)) hne,by simpa using hD',hlim,?_⟩;simp only[BG];exact aa.less O r' fun b q=>q.elim (fun q=>g'.w b (.inl (.inl q))) fun q=>q▸g'.w _ hLW
theorem oH {elt ie:E}{t:Tg}{sc:LK}{cp:Pos}{items l:List D}{it:Addr}{F:AP}{I:List D->Pv->zL->Prop}{pv:Pv}{Q:VS}{Ex:VS}
  (RK:aB A K) (helt:aW B K Φ elt) (hsc:jU Γ sc) (X:Ctx B Γ Wc W pe ρ s) (ok:be B K F it I) (hI:I items pv s) (hp:∀b,pv.a b->Wc b/\B.Hi b) (hF:∀b,F b->¬W b/\b < s.heap.objs.size)
  (hv:∀{Q:VS},Q (.ref it) s->wpAny B.M A (eval (ie.py B.nm) pe) Q Ex s) (hl:d6 Φ Γ sc t elt ρ items=some l) (hlim:l.length<=lim)
  (k:∀s' a,ao B pv s s'->av B s'.heap W (.list l) (.ref a)->Q (.ref a) s'):
  wpAny B.M A (eval (.ListComp (elt.py B.nm) [⟨t.py B.nm,ie.py B.nm,[],0⟩] (bA B.nm sc) cp) pe) Q Ex s:=by
 refine zF (Fi _ _ _ _ _) ?_;refine mQ O (use:=none) RK helt hsc X ok hI hp hF hv hl hlim fun s' a C e X' ra hC hns hlt=>?_;refine am hns fun m hm hz=>?_;refine⟨m,hm,fun h' hs'=>?_⟩;have nTC:¬B.T C:=fun t=>zJ _ (zI (X.wlt _ (X.tW' _ t)) hC);have ec:ao B ⟨fun b=>b=C,fun J=>False⟩ s' { s' with heap:=h' }:=cg O (s:=s') (h':=h') (t:=s'.toks) nTC (hV hm hz) hs';have ef:ao B pv s { s' with heap:=h' }:=e.trans ec (fun b q=>.inr (q▸hC)) (fun i q=>q.elim);exact k _ _ ef (av.move O (ec.kW (W:=bB W fun b=>b=C) (fun b t=>.inl (X.tW' _ t)) fun b w=>.inr w) (fun b q=>.inl (.inl q)) _ _ ra)
theorem ze {elt ie:E}{t:Tg}{sc:LK}{cp zp p:Pos}{z:Nat}{items l:List D}{it:Addr}{F:AP}{I:List D->Pv->zL->Prop}{pv:Pv}{Q:Flow->zL->Prop}{Ex:VS}
  (RK:aB A K) (helt:aW B K Φ elt) (hsc:jU Γ sc) (X:Ctx B Γ Wc W pe ρ s) (ok:be B K F it I) (hI:I items pv s) (hp:∀b,pv.a b->Wc b/\B.Hi b) (hF:∀b,F b->¬W b/\b < s.heap.objs.size)
  (hv:∀{Ex:VS}{Q:VS},Q (.ref it) s->wpAny B.M A (eval (ie.py B.nm) pe) Q Ex s) (hl:d6 Φ Γ sc t elt ρ items=some l) (hlim:l.length<=lim) (hm:Γ.mine ρ z=true)
  (k:∀s' N,Ctx B Γ (bB Wc N) (bB W N) pe (ρ.set z (.fz (.list l))) s'->(∀b,N b->s.heap.objs.size<=b)->ao B ⟨fun b=>pv.a b\/(W b/\¬Wc b),pv.g⟩ s s'->Q .next s'):
  wpAny B.M A (exec (.Assign [.Name (B.nm z) zp] (.ListComp (elt.py B.nm) [⟨t.py B.nm,ie.py B.nm,[],0⟩] (bA B.nm sc) cp) p) pe) Q Ex s:=by
 refine aS (bV O hm) fun hk hns=>?_;have hsw:∃b,Gu (.ListComp (elt.py B.nm) [⟨t.py B.nm,ie.py B.nm,[],0⟩] (bA B.nm sc) cp) (some (.Name (B.nm z) zp)) p.line pe=pure b:=⟨_,rfl⟩;obtain⟨b,hb⟩:=hsw
 cases b with
 |false=>
  refine AU (oH O RK helt hsc X ok hI hp hF hv hl hlim fun s1 a e1 ra=>?_) hb;have X1:=Ctx.moveP O X e1 (fun b q=>(hp b q).1) (fun b q=>(hp b q).2);refine Ctx.store O X1 hk hns ra fun s2 X2 e2=>?_;refine k s2 (fun J=>False) ?_ (fun b q=>q.elim) ((e1.mono (p':=⟨fun b=>pv.a b\/(W b/\¬Wc b),pv.g⟩) (fun b q=>.inl q) (fun i q=>q)).trans e2 (fun b q=>.inl (.inr (dA O X1 hns b q))) fun i q=>q.elim);have h1:(bB Wc fun J=>False)=Wc:=funext fun b=>propext ⟨fun q=>q.elim id False.elim,.inl⟩;have h2:(bB W fun J=>False)=W:=funext fun b=>propext ⟨fun q=>q.elim id False.elim,.inl⟩;rw[h1,h2];exact X2
 |true=>
  refine zF (exec_Assign_Name_used _ _ _ _ hb) ?_;refine zK (AS (zK ?_));show wpAny B.M A (do let _ <-ET (.ListComp (elt.py B.nm) [⟨t.py B.nm,ie.py B.nm,[],0⟩] (bA B.nm sc) cp) (bA B.nm sc) pe (Ff [⟨t.py B.nm,ie.py B.nm,[],0⟩] cp) (newList []) false (eval (ie.py B.nm) pe) (some (Ct (.Name (B.nm z) zp) pe))) _ _ s;refine zK (Ak (mQ O (use:=some (Ct (.Name (B.nm z) zp) pe)) (Ex:=Ex) (Q:=fun _ s'=>Q .next s') RK helt hsc X ok hI hp hF hv hl hlim fun s' a C e X' ra hC hns' hlt=>?_) (fun _ s' hq=>zR (zR hq)) fun _ _ e=>e);show wpAny B.M A (Ct (.Name (B.nm z) zp) pe (.ref a)) _ _ s';have XC:=Ctx.grow O X e (fun b q=>(hp b q).1) (fun b q=>(hp b q).2) (N:=fun b=>b=C) (fun b q=>by subst q;exact⟨hC,hlt⟩);refine BY (Ctx.store O XC hk hns ra fun s2 X2 e2=>?_);refine am hns' fun m hm' hz'=>?_;have zn:¬(zP B pe z).a C:=fun q=>(dA O XC hns C q).2 (.inr rfl);have nTC:¬B.T C:=fun t=>zJ _ (zI (X.wlt _ (X.tW' _ t)) hC);have hm2:s2.heap.Ns C m:=BO.moved hm' fun o z=>e2.keep C o nTC zn z;refine⟨m,hm2,fun h' hs'=>?_⟩;have ec:ao B ⟨fun b=>b=C,fun _=>False⟩ s2 { s2 with heap:=h' }:=cg O (s:=s2) (h':=h') (t:=s2.toks) nTC (hV hm2 hz') hs';have X3:Ctx B Γ _ _ pe _ { s2 with heap:=h' }:=Ctx.moveP O X2 ec (fun b q=>.inr q) (fun b q=>q▸X.good.hi hC);refine k _ (fun b=>b=C) X3 (fun b q=>q▸hC) ?_;exact(((e.mono (p':=⟨fun b=>pv.a b\/(W b/\¬Wc b),pv.g⟩) (fun b q=>.inl q) (fun i q=>q)).trans e2 (fun b q=>.inl (.inr (dA O X hns b q))) fun i q=>q.elim)).trans ec (fun b (q:b=C)=>.inr (q▸hC)) fun i q=>q.elim
theorem eY.back {s s1 s':zL}{v:Value}{l:List D}(e:az B s s1)(h:eY B K s1 W v l s'):eY B K s W v l s':=by
 obtain⟨a,F,p,I,h1,h2,h3,h4,h5,h6,h7,h8⟩:=h;exact⟨a,F,p,I,h1,h2,h3,h4,h5,fun b q=>zH e.size (h6 b q),fun i q=>zH (az.gsize O e) (h7 i q),h8⟩
theorem wf {f:E}{es:List E}{p:Pos}{rf:Mine.R}{id:Nat}{caps l items:List D}{Q:VS}{Ex:VS}(hc:f.isCall=true)(P:bx B K Φ)(hf:aW B K Φ f)(hS:iN B K Φ es)(X:Ctx B Γ Wc W pe ρ s)(R:aB A K)
  (h1:ev Φ Γ ρ f=some rf) (hd:rf.asD=some (.lam id caps)) (hl:iJ Φ Γ ρ es=some l) (hn:Φ.lam id (caps++l)=none) (hg:Φ.gen id (caps++l)=some items)
  (k:∀v s',az B s s'->eY B K s W v items s'->Q v s'):wpAny B.M A (eval ((E.calle f es p).py B.nm) pe) Q Ex s:=by
 refine zF rW<|zF (wG O hc _ _ _ _) ?_
 refine zK (ci O hf h1 hd X R fun v s1 e1 X1 q1=>?_);simp only[av] at q1;obtain⟨fa,cv,rfl,hw,hlam,hcv⟩:=q1;have nT:¬B.T fa:=fun t=>hw (X1.tW' _ t);refine vw (O.lamfun _ _ _ _ _ hlam) fun fo fd hg1 hd1=>?_;refine vd O hS hl X1 R nT hg1 hd1 fun vs s2 e2 X2 q2=>?_;have hc1:=aa.eff O X1.tW' hcv e2;have hl1:B.Lam id cv s2.heap W fa:=O.lamkeep _ _ _ _ _ _ _ hlam (e2.kW X1.tW') (fun b q=>.inl q);refine CV (P.gen _ _ _ _ hn hg fa cv A s2 W vs X2.good R X2.tW' X2.wlt hl1 hc1 q2) ?_;rintro r s3 ⟨v,rfl,e3,q3⟩;exact⟨v,rfl,k v s3 ((e1.trans e2).trans e3) (eY.back O (e1.trans e2) q3)⟩
end
end Mine
namespace Mine
theorem ob2 {α β ε:Type}{x:Option α}{y:α->Option β}{f:α->β->Option ε}{P:Prop}{e:ε}(h:(x.bind fun a=>(y a).bind fun b=>f a b)=some e)(k:∀a b,x=some a->y a=some b->f a b=some e->P):P:=
 am (af h) fun a h1 h=>am (af h) fun b h2 h=>k a b h1 h2 h
theorem ob4 {α β γ δ ε:Type}{x:Option α}{y:α->Option β}{z:α->β->Option γ}{w:α->β->γ->Option δ}{f:α->β->γ->δ->Option ε}{P:Prop}{e:ε}(h:(x.bind fun a=>(y a).bind fun b=>(z a b).bind fun c=>(w a b c).bind fun d=>f a b c d)=some e)
  (k:∀a b c d,x=some a->y a=some b->z a b=some c->w a b c=some d->f a b c d=some e->P):P:=
 ob2 h fun a b h1 h2 h=>ob2 h fun c d h3 h4 h=>k a b c d h1 h2 h3 h4 h
theorem cal_at {ε:Type}{x:E}{f:E×List E->Option ε}{P:Prop}{e:ε}(h:(x.cal?.bind fun q=>if q.1.isCall=true then f q else none)=some e)(k:∀q p,x=.calle q.1 q.2 p->q.1.isCall=true->f q=some e->P):P:=
 am (af h) fun q h1 h=>x1 (cal?_eq h1) fun p h2=>aS (aY h) fun h3 h=>k q p h2 h3 h
variable {B:Bs}
section
variable (O:B.Ok)
include O
variable {Γ:ah}{ρ:ac}{Wc W:AP}{pe:Env}{A:Av}{s s₀:zL}{K N:Nat}{Φ:bq}
theorem Ctx.unptr {x:Nat}{v:Value}(hx:ρ x=none)(X:Ctx B Γ Wc W pe (ρ.set x (.ptr v)) s):Ctx B Γ Wc W pe ρ s:=
 Ctx.weaken O X (fun y e q=>(ac.set_ne O ρ _ (fun h=>ai (by rw[h,hx] at q;exact q))).trans q) fun y ⟨d,q⟩=>⟨d,by
  by_cases h:y=x
  ·rw[h,ac.set_self O] at q;exact sH rfl (zG q)
  ·exact(ac.set_ne O ρ _ h).symm.trans q⟩
theorem uo {x:Nat}{v:Value}(X:Ctx B Γ Wc W pe (ρ.set x (.ptr v)) s):cP B pe s.heap x v:=by
 refine am (X.vars x _ (ac.set_self O ρ x _)) fun u l r=>?_;obtain rfl:u=v:=r;exact l
theorem mC {x:Nat}{it:Addr}{items:List D}{F:AP}{I:List D->Pv->zL->Prop}{pv:Pv}{E:VS}{Q:Unit->zL->Prop}{s1:zL}(X:Ctx B Γ Wc W pe ρ s)(e1:az B s s1)(kx:Γ x=some .local)(hx:ρ x=none)
  (ok:be B K F it I) (hI:I items pv s1) (hF:∀b,F b->¬W b/\b < s1.heap.objs.size) (pa:∀b,pv.a b->s.heap.objs.size<=b)
  (k:∀s2,Ctx B Γ (bB Wc pv.a) (bB W pv.a) pe (ρ.set x (.ptr (.ref it))) s2->I items pv s2->(∀b,pv.a b->(bB Wc pv.a) b/\B.Hi b)->(∀b,F b->¬(bB W pv.a) b/\b < s2.heap.objs.size)->ao B (d3 W Wc) s s2->Q () s2):
  wpAny B.M A (C6 pe (B.nm x) (.ref it)) Q E s1:=by
 have hsub:=ok.sub _ _ _ hI;have XG:Ctx B Γ (bB Wc pv.a) (bB W pv.a) pe ρ s1:=Ctx.grow O X (e1.toP ⟨fun _=>False,fun _=>False⟩) (fun b q=>q.elim) (fun b q=>q.elim) (fun b q=>⟨pa b q,(hsub b q).2.2⟩);have hF1:∀b,F b->¬(bB W pv.a) b/\b < s1.heap.objs.size:=fun b q=>⟨fun w=>w.elim (hF b q).1 fun w=>(hsub b w).1 q,(hF b q).2⟩;have ns:¬aq ρ x:=fun⟨d,q⟩=>jG (q.symm.trans hx);refine Ctx.storeE O XG (.inl kx) ns (fun J e=>sH rfl e) (en:=.ptr (.ref it)) rfl (fun b o=>o.elim) fun s2 X2 e2=>?_;have z2:∀b,(zP B pe x).a b->(bB W pv.a) b/\¬(bB Wc pv.a) b:=dA O XG ns;refine k s2 X2 (ok.stay _ _ _ _ hI (fun b o nt w q=>e2.keep b o nt (fun z=>w.elim (fun f=>(hF1 b f).1 (z2 b z).1) fun p=>(z2 b z).2 (.inr p)) q) e2.ck e2.size (fun i y q zz=>e2.gens i y (fun w=>w.elim) zz) X2.good) (fun b q=>⟨.inr q,X.good.hi (pa b q)⟩) (fun b q=>⟨(hF1 b q).1,zI (hF1 b q).2 e2.size⟩) ?_;exact(e1.toP _).trans e2 (fun b q=>.inl ⟨(z2 b q).1.elim id fun w=>absurd (.inr w) (z2 b q).2,fun w=>(z2 b q).2 (.inl w)⟩) fun i q=>q.elim
inductive PickE (Φ:bq)(Γ:ah)(ρ:ac)(x y z g c t1 t2:Nat)(e pre elt1 elt2:E)(sc1 sc2:LK)(q6 q13:Pos)(out:gh):Prop
 |mk (f:E) (es:List E) (p0:Pos) (i1 i2:Nat) (caps1 caps2 l0 items lp l1 items2 l3:List D) (rf rp:Mine.R) (dc:D) (he:e=.calle f es p0) (hcall:f.isCall=true) (hrf:ev Φ Γ ρ f=some rf) (hdf:rf.asD=some (.lam i1 caps1)) (hl0:iJ Φ Γ ρ es=some l0)
  (hit:Φ.gen i1 (caps1++l0)=some items) (hg:ρ g=some (.fz (.lam i2 caps2))) (hc:ρ c=some (.fz dc)) (hrp:ev Φ Γ ρ pre=some rp) (hdp:rp.asD=some (.list lp)) (hl1:d6 Φ Γ sc1 (.name t1 q6) elt1 ρ items=some l1) (hit2:Φ.gen i2 (caps2++[dc,.list (lp++l1)])=some items2)
  (hl3:d6 Φ Γ sc2 (.name t2 q13) elt2 ρ items2=some l3) (s1:em Γ sc1=true) (s2:em Γ sc2=true) (kx:Γ x=some .local) (ky:Γ y=some .local) (hx:ρ x=none) (hy:ρ y=none) (hm:Γ.mine ρ z=true) (n1:Φ.lam i1 (caps1++l0)=none) (n2:Φ.lam i2 (caps2++[dc,.list (lp++l1)])=none)
  (la:lp.length+l1.length<=lim) (lb:l3.length<=lim) (ho:gh.nx (ρ.set z (.fz (.list l3)))=out)
omit O in
theorem xW {x y z g c t1 t2:Nat}{e pre elt1 elt2:E}{sc1 sc2:LK}{q1 q2 q3 q4 q5 q6 q7 q8 q9 q10 q11 q12 q13 q14 q15 q16:Pos}{out:gh}(h:bb Φ N Γ ρ (.pick x y z g c t1 t2 e pre elt1 elt2 sc1 sc2 q1 q2 q3 q4 q5 q6 q7 q8 q9 q10 q11 q12 q13 q14 q15 q16)=some out):PickE Φ Γ ρ x y z g c t1 t2 e pre elt1 elt2 sc1 sc2 q6 q13 out:=by
 refine cal_at (j3.symm.trans h) fun cq p0 hp hcall h=>?_;refine ob4 h fun rf df f1 l0 hrf hdf hf1 hl0 h=>?_;refine ob4 h fun items dg f2 dc hit hdg hf2 hdc h=>?_;refine ob4 h fun rp dp lp l1 hrp hdp hlp hl1 h=>?_;refine ob2 h fun items2 l3 hit2 hl3 h=>?_;refine aS (aE h) fun hc ho=>?_;exact .mk cq.1 cq.2 p0 f1.1 f2.1 f1.2 f2.2 l0 items lp l1 items2 l3 rf rp dc hp hcall hrf (hdf.trans (congrArg some (lam?_eq hf1))) hl0 hit ((y8 hdg).trans (congrArg (fun d=>some (dL.fz d)) (lam?_eq hf2))) (y8 hdc) hrp (hdp.trans (congrArg some (list?_eq hlp))) hl1 hit2 hl3 hc.1.1 hc.1.2.1 hc.1.2.2.1 hc.1.2.2.2.1 (Cc.mp hc.1.2.2.2.2.1) (Cc.mp hc.1.2.2.2.2.2) hc.2.1 (Cc.mp hc.2.2.1.1) (Cc.mp hc.2.2.1.2) hc.2.2.2.1 hc.2.2.2.2 ho
theorem vU {x c t1:Nat}{pre elt1:E}{sc1:LK}{q5 q6 q7 q8 q9:Pos}{it:Addr}{items lp l1:List D}{rp:Mine.R}{dc:D}{F:AP}{I:List D->Pv->zL->Prop}{pv:Pv}{Q:List Value->zL->Prop}{Ex:VS}
  (hpre:aW B K Φ pre) (hs1:aW B K Φ elt1) (R:aB A K) (hx:ρ x=none) (cx:c≠x) (X:Ctx B Γ Wc W pe (ρ.set x (.ptr (.ref it))) s) (ok:be B K F it I) (hI:I items pv s) (hp:∀b,pv.a b->Wc b/\B.Hi b) (hF:∀b,F b->¬W b/\b < s.heap.objs.size)
  (hc:ρ c=some (.fz dc)) (hrp:ev Φ Γ ρ pre=some rp) (hdp:rp.asD=some (.list lp)) (hl1:d6 Φ Γ sc1 (.name t1 q6) elt1 ρ items=some l1) (s1:em Γ sc1=true) (la:lp.length+l1.length<=lim)
  (k:∀vc vz s',Ctx B Γ Wc W pe (ρ.set x (.ptr (.ref it))) s'->ao B pv s s'->av B s'.heap W dc vc->av B s'.heap W (.list (lp++l1)) vz->Q [vc,vz] s'):
  wpAny B.M A (Fc [(false,eval (.Name (B.nm c) q5) pe),(false,eval (.BinOp (pre.py B.nm) .Add (.ListComp (elt1.py B.nm) [⟨.Name (B.nm t1) q6,.Name (B.nm x) q7,[],0⟩] (bA B.nm sc1) q8) q9) pe)]) Q Ex s:=by
 refine am (X.vars c _ ((ac.set_ne O ρ _ cx).trans hc)) fun vc lc rc=>?_;refine AJ (Aw (Ctx.name O X lc ?_ (O.cld c)) (O.dbg c));refine AJ (wpAny_BinOp (ci O hpre hrp hdp (Ctx.unptr O hx X) R fun vp s3 e3 X3 qp=>?_));have X3p:=X.move O e3;refine oH O (t:=.name t1 q6) (ie:=.name x q7) R hs1 (eS O s1) X3 ok (ok.stay _ _ _ _ hI (fun b o nt w q=>e3.keep b o nt q) e3.ck e3.size (fun i y q zz=>e3.gens i y zz) X3.good) hp (fun b q=>⟨(hF b q).1,zI (hF b q).2 e3.size⟩) (fun{Q} hQ=>Aw (Ctx.name O X3p (uo O X3p) hQ (O.cld x)) (O.dbg x)) hl1 (zH (Cy _ _) la) fun s4 b1 e4 rl=>?_;have X4p:=Ctx.moveP O X3p e4 (fun b q=>(hp b q).1) (fun b q=>(hp b q).2);have kw4:=e4.kW X3p.tW' fun b q=>X3p.cW b (hp b q).1;have qp4:=av.move O kw4 (fun b q=>.inl q) _ _ qp;refine Ak (zh O (op:=.Add) (x:=.list lp) (y:=.list l1) (z:=.list (lp++l1)) (show uD (lp++l1)=_ from if_pos (zM (as:=lp)▸la)) (av.b qp4) (av.b rl) R X4p.wlt) (fun vz s5 h5=>?_) fun J J f=>f.elim;exact Bn (k vc vz s5 (X4p.move O h5.1) (((e3.toP pv).trans e4 (fun b q=>.inl q) fun i q=>.inl q).trans (h5.1.toP pv) (fun b q=>.inl q) fun i q=>.inl q) (av.eff O X4p.tW' (av.move O kw4 (fun b q=>.inl q) _ _ (av.eff O X.tW' rc e3)) h5.1) h5.2)
theorem qQ {x c t1 g i2:Nat}{pre elt1:E}{sc1:LK}{q4 q5 q6 q7 q8 q9 q10:Pos}{it:Addr}{caps2 items items2 lp l1:List D}{rp:Mine.R}{dc:D}{F:AP}{I:List D->Pv->zL->Prop}{pv:Pv}{Q:VS}{Ex:VS}
  (P:bx B K Φ) (hpre:aW B K Φ pre) (hs1:aW B K Φ elt1) (R:aB A K) (hx:ρ x=none) (X:Ctx B Γ Wc W pe (ρ.set x (.ptr (.ref it))) s) (ok:be B K F it I) (hI:I items pv s) (hp:∀b,pv.a b->Wc b/\B.Hi b) (hF:∀b,F b->¬W b/\b < s.heap.objs.size)
  (hg:ρ g=some (.fz (.lam i2 caps2))) (hc:ρ c=some (.fz dc)) (hrp:ev Φ Γ ρ pre=some rp) (hdp:rp.asD=some (.list lp)) (hl1:d6 Φ Γ sc1 (.name t1 q6) elt1 ρ items=some l1) (s1:em Γ sc1=true) (la:lp.length+l1.length<=lim) (n2:Φ.lam i2 (caps2++[dc,.list (lp++l1)])=none) (hit2:Φ.gen i2 (caps2++[dc,.list (lp++l1)])=some items2)
  (k:∀v s5 s6,Ctx B Γ Wc W pe ρ s5->ao B pv s s5->az B s5 s6->eY B K s5 W v items2 s6->Q v s6):
  wpAny B.M A (eval (.Call (.Name (B.nm g) q4) [.Name (B.nm c) q5,.BinOp (pre.py B.nm) .Add (.ListComp (elt1.py B.nm) [⟨.Name (B.nm t1) q6,.Name (B.nm x) q7,[],0⟩] (bA B.nm sc1) q8) q9] [] q10) pe) Q Ex s:=by
 have gx:g≠x:=fun e=>ai ((e▸hx).symm.trans hg);have cx:c≠x:=fun e=>ai ((e▸hx).symm.trans hc);refine Bc (Aw ?_ (O.dbg g));refine am (X.vars g _ ((ac.set_ne O ρ _ gx).trans hg)) fun vg lg rg=>?_;refine Ctx.name O X lg ?_ (O.cld g);simp only[aR,av] at rg;obtain⟨fa,cv,rfl,hw,hlam,hcv⟩:=rg;have nTf:¬B.T fa:=fun t=>hw (X.tW' _ t);refine vw (O.lamfun _ _ _ _ _ hlam) fun fo fd hgo hfd=>?_;refine DZ (o:=fo) (fd:=fd) (CB (vU O hpre hs1 R hx cx X ok hI hp hF hc hrp hdp hl1 s1 la fun vc vz s5 X5 e5 rc rz=>⟨⟨e5.keep _ _ nTf (fun q=>hw (X.cW _ (hp _ q).1)) hgo,hfd⟩,?_⟩));have kw:=e5.kW X.tW' fun b q=>X.cW b (hp b q).1;refine C4 (CV (P.gen _ _ _ _ n2 hit2 fa cv A s5 _ [vc,vz] X5.good R X5.tW' X5.wlt (O.lamkeep _ _ _ _ _ _ _ hlam kw (fun b q=>.inl q)) (aa.move O kw (fun b q=>.inl q) _ _ hcv) (aa.cons rc (aa.cons rz aa.nil))) ?_);rintro r s6 ⟨v6,rfl,e6,gr2⟩;exact k v6 s5 s6 (Ctx.unptr O hx X5) e5 e6 gr2
theorem st_pick {x y z g c t1 t2:Nat}{e pre elt1 elt2:E}{sc1 sc2:LK}{q1 q2 q3 q4 q5 q6 q7 q8 q9 q10 q11 q12 q13 q14 q15 q16:Pos}(P:bx B K Φ)(hcal:∀f es p,e=.calle f es p->aW B K Φ f/\iN B K Φ es)(hpre:aW B K Φ pre)(hs1:aW B K Φ elt1)(hs2:aW B K Φ elt2):
  b0 B K Φ N (.pick x y z g c t1 t2 e pre elt1 elt2 sc1 sc2 q1 q2 q3 q4 q5 q6 q7 q8 q9 q10 q11 q12 q13 q14 q15 q16):=by
 intro Γ ρ out h Wc W pe A s Q Ex rest X R k;obtain⟨f,es,p0,i1,i2,caps1,caps2,l0,items,lp,l1,items2,l3,rf,rp,dc,rfl,hcall,hrf,hdf,hl0,hit,hg,hc,hrp,hdp,hl1,hit2,hl3,z1,z2,kx,ky,hx,hy,hm,n1,n2,la,lb,rfl⟩:=xW h;refine zZ (AU (wf O hcall P (hcal _ _ _ rfl).1 (hcal _ _ _ rfl).2 X R hrf hdf hl0 n1 hit fun v s1 e1 gr=>?_) (jB O _ _ (fun a b c d q=>bG (show(E.calle f es p0).isCp=true from congrArg E.isCp q)) _ _ _));obtain⟨a1,F1,p1,I1,rfl,J1,ok1,hI1,hF1,pa1,pg1,hlen1⟩:=gr;refine mC O X e1 kx hx ok1 hI1 hF1 pa1 fun s2 X2 hI2 hp1 hF2 e02=>?_;refine zZ (AU (qQ O P hpre hs1 R hx X2 ok1 hI2 hp1 hF2 hg hc hrp hdp hl1 z1 la n2 hit2 fun v6 s5 s6 X5 e25 e6 gr2=>?_));obtain⟨a2,F2,p2,I2,rfl,J2,jb,hI6,hF6,pa2,pg2,hlen2⟩:=gr2;refine mC O X5 e6 ky hy jb hI6 hF6 pa2 fun s7 X7 hI7 hp2 hF7 e57=>?_;refine zZ (ze O (t:=.name t2 q13) (ie:=.name y q14) R hs2 (eS O z2) (Ctx.unptr O hy X7) jb hI7 hp2 hF7 (fun{Ex Q} hQ=>Aw (Ctx.name O X7 (uo O X7) hQ (O.cld y)) (O.dbg y)) hl3 lb hm fun s8 N X8 hN e8=>?_);have E5:ao B (d3 W Wc) s s5:=e02.trans e25 (fun b q=>.inr (pa1 b q)) fun i q=>.inr (pg1 i q);have old:∀b,(bB W p1.a) b->¬(bB Wc p1.a) b->W b/\¬Wc b:=fun b q n=>⟨q.elim id fun w=>absurd (.inr w) n,fun w=>n (.inl w)⟩;have E7:ao B (d3 W Wc) s s7:=E5.trans e57 (fun b q=>.inl (old b q.1 q.2)) fun i q=>q.elim
 exact k s8 _ _ ⟨fun b q=>.inl (.inl (.inl q)),fun b q=>q.elim (fun q=>q.elim (fun q=>q.elim .inl fun q=>.inr (pa1 b q)) fun q=>.inr (zH E5.size (pa2 b q))) fun q=>.inr (zH E7.size (hN b q)),
  fun b q n=>q.elim (fun q=>q.elim (fun q=>q.elim (fun q=>.inl ⟨q,fun w=>n (.inl (.inl (.inl w)))⟩) fun q=>absurd (.inl (.inl (.inr q))) n) fun q=>absurd (.inl (.inr q)) n) fun q=>absurd (.inr q) n⟩ X8
  (E7.trans e8 (fun b q=>q.elim (fun q=>.inr (zH E5.size (pa2 b q))) fun q=>.inl (old b (q.1.elim id fun w=>absurd (.inr w) q.2) fun w=>q.2 (.inl w))) fun i q=>.inr (zH E5.gsize (pg2 i q)))
end
end Mine
namespace Mine
variable {B:Bs}
structure Df where
 x:Nat
 id:Nat
 f:Nat
 ps:List (Nat×Pos)
 body:List Stmt
 sc:List (Nat×NameKind)
 gen:Bool
mutual
noncomputable def St.lms:St->List Lm
 |.asg _ e _ _=>e.lms
 |.own _ e _ _=>e.lms
 |.asgT _ _ _ e _ _=>e.lms
 |.asgU _ _ e _ _=>e.lms
 |.augN _ _ e _ _=>e.lms
 |.augI _ i _ e _ _ _=>i.lms++e.lms
 |.app _ e _ _ _ _=>e.lms
 |.forS _ it body _=>it.lms++m7 body
 |.whl c body _=>c.lms++m7 body
 |.ifS c a b _=>c.lms++(m7 a++m7 b)
 |.ret e _=>e.lms
 |.tryS body _ _=>m7 body
 |.ext _ e _ _ _ _=>e.lms
 |.ext2 _ i e _ _ _ _ _=>i.lms++e.lms
 |.seti _ i e _ _ _=>i.lms++e.lms
 |.pick _ _ _ _ _ _ _ e pre elt1 elt2 _ _ _ _ _ _ _ _ _ _ _ _ _ _ _ _ _ _=>e.lms++(pre.lms++(elt1.lms++elt2.lms))
 |_=>[]
noncomputable def m7:List St->List Lm
 |[]=>[]
 |s::r=>s.lms++m7 r
end
mutual
noncomputable def St.dfs:St->List Df
 |.defS x id f ps body sc gen _=>[⟨x,id,f,ps,body,sc,gen⟩]
 |.forS _ _ body _=>nh body
 |.whl _ body _=>nh body
 |.ifS _ a b _=>nh a++nh b
 |.tryS body _ _=>nh body
 |_=>[]
noncomputable def nh:List St->List Df
 |[]=>[]
 |s::r=>s.dfs++nh r
end
noncomputable def mX (B:Bs)(l:List Df):Prop:=∀x∈l,qc B x.x x.id x.f x.ps x.body x.sc x.gen
theorem dfs1 {a b:List Df}(h:mX B (a++b)):mX B a:=fun x hx=>h x (Ai _ hx)
theorem dfs2 {a b:List Df}(h:mX B (a++b)):mX B b:=fun x hx=>h x (AI _ hx)
theorem dfs0:mX B []:=fun x hx=>aG hx
noncomputable def St.ok (B:Bs)(st:St):Prop:=fm B st.lms/\mX B st.dfs
noncomputable def jF (B:Bs)(ss:List St):Prop:=fm B (m7 ss)/\mX B (nh ss)
theorem cG {ss:List St}(h:m7 ss=[])(h':nh ss=[]):jF B ss:=by
 unfold jF;refine zF h<|zF h' ?_;exact⟨yh,dfs0⟩
section
variable (O:B.Ok){K N:Nat}{Φ:bq}
include O
theorem noS {st:St}(h:∀Γ ρ,bb Φ N Γ ρ st=none):b0 B K Φ N st:=by
 intro Γ ρ b hb;rw[h] at hb;exact ai hb
theorem eQ (hK:24<=K)(P:bx B K Φ)(e:E)(h:e.ok B):aW B K Φ e:=(snd O hK P e h).1
theorem mP (hK:24<=K)(P:bx B K Φ)(e:E)(h:e.ok B):∀elt t it ifs r sc cp,e=.comp elt (.mk t it ifs::r) sc cp->aW B K Φ elt/\aW B K Φ it/\jT B K Φ ifs/\iw B K Φ r:=by
 rintro elt t it ifs r sc cp rfl;exact⟨eQ O hK P elt (b9 h),eQ O hK P it (b9 (bt h)),iV O ifs (vG O hK P ifs (b9 (bt (bt h)))),sndG O hK P r (bt (bt (bt h)))⟩
theorem own_of {x:Nat}{xp p:Pos}:∀{e:E},(∀es lp,e=.list es lp->iN B K Φ es)->(∀a op b q,e=.bin a op b q->aW B K Φ a/\aW B K Φ b)->b0 B K Φ N (.own x e xp p):=fun{e} h h2=>by
 cases e
 case list=>exact st_own O (h _ _ rfl)
 case bin=>exact st_ownB O (h2 _ _ _ _ rfl).1 (h2 _ _ _ _ rfl).2
 all_goals exact noS O fun J J=>rfl
theorem xX (hK:24<=K)(P:bx B K Φ)(e:E)(h:e.ok B):js B K Φ e:=⟨eQ O hK P e h,fun es p q=>by subst q;exact fb O es (vG O hK P es h),mP O hK P e h⟩
theorem uA:∀{es:List E},okL B es->∀e∈es,e.ok B
 |[],_,_,h=>aG h
 |a::r,h,e,he=>(Ab.mp he).elim (fun q=>q▸b9 h) fun q=>uA (bt h) e q
theorem asgT_of {xs:List (Nat×Pos)}{ms:List Nat}{k:Nat}{tp p:Pos}(hK:20<=K):∀{e:E},(∀es k' lp,e=.tup es k' lp->∀e∈es,js B K Φ e)->b0 B K Φ N (.asgT xs ms k e tp p):=fun{e} h=>by
 cases e
 case tup=>exact st_asgT O hK (h _ _ _ rfl)
 all_goals exact noS O fun J J=>rfl
theorem sndSt (hK:24<=K)(P:bx B K Φ):∀st:St,st.ok B->b0 B K Φ N st:=
 St.rec (motive_1:=fun st=>st.ok B->b0 B K Φ N st) (motive_2:=fun ss=>jF B ss->gj B K Φ N ss)
  (fun J e J J h=>st_asg O (zH (by decide) hK) (eQ O hK P e h.1) (mP O hK P e h.1))
  (fun J J J J h=>own_of O (fun es lp e=>by subst e;exact fb O es (vG O hK P es h.1)) fun a op b q e=>by subst e;exact⟨eQ O hK P a (b9 h.1),eQ O hK P b (bt h.1)⟩)
  (fun J J J J J J h=>asgT_of O (zH (by decide) hK) fun es k' lp e=>by subst e;exact fun e he=>xX O hK P e (uA O (es:=es) h.1 e he))
  (fun J J e J J h=>st_augN O (eQ O hK P e h.1))
  (fun J i J e J J J h=>st_augI O (eQ O hK P i (b9 h.1)) (eQ O hK P e (bt h.1)))
  (fun J J e J J h=>st_asgU O (eQ O hK P e h.1))
  (fun J e J J J J h=>st_app O (eQ O hK P e h.1))
  (fun J J=>noS O fun J J=>rfl)
  (fun J J J J J J J J h=>st_def O (h.2 _ zU))
  (fun J it J J ib h=>st_for O (zH (by decide) hK) (eQ O hK P it (b9 h.1)) (ib ⟨bt h.1,h.2⟩))
  (fun c J J ib h=>st_whl O (snd O hK P c (b9 h.1)).2 (ib ⟨bt h.1,h.2⟩))
  (fun c J J J ia ib h=>st_if O (snd O hK P c (b9 h.1)).2 (ia ⟨b9 (bt h.1),dfs1 h.2⟩) (ib ⟨bt (bt h.1),dfs2 h.2⟩))
  (fun e J h=>st_ret O (eQ O hK P e h.1))
  (fun J J J ib h=>st_try O (ib h))
  (fun J J=>st_frz O)
  (fun J J=>tX O)
  (fun J J J J J J J J J J J J J J J=>st_sub O)
  (fun J e J J J J h=>st_ext O (eQ O hK P e h.1))
  (fun J i e J J J J J h=>st_ext2 O (eQ O hK P i (b9 h.1)) (eQ O hK P e (bt h.1)))
  (fun J i e J J J h=>st_seti O (eQ O hK P i (b9 h.1)) (eQ O hK P e (bt h.1)))
  (fun J J J J J J J J J=>st_popU O)
  (fun J J J J J J J e pre elt1 elt2 J J J J J J J J J J J J J J J J J J h=>st_pick O P (fun f es p q=>by subst q;exact⟨eQ O hK P f (b9 (b9 h.1)),fb O es (vG O hK P es (bt (b9 h.1)))⟩) (eQ O hK P pre (b9 (bt h.1))) (eQ O hK P elt1 (b9 (bt (bt h.1)))) (eQ O hK P elt2 (bt (bt (bt h.1)))))
  (fun J=>xj O)
  (fun J J is ir h=>tZ O (is ⟨b9 h.1,dfs1 h.2⟩) (ir ⟨bt h.1,dfs2 h.2⟩))
theorem xE (hK:24<=K)(P:bx B K Φ):∀ss:List St,jF B ss->gj B K Φ N ss
 |[],_=>xj O
 |s::r,h=>tZ O (sndSt O hK P s ⟨b9 h.1,dfs1 h.2⟩) (xE hK P r ⟨bt h.1,dfs2 h.2⟩)
end
end Mine
namespace Mine
variable {B:Bs}
noncomputable def aw (ps:List Nat)(args:List D)(ρ:ac):ac:=(ps.zip args).foldl (fun ρ q=>ρ.set q.1 (.fz q.2)) ρ
noncomputable def aN (sc:LK) (f:Nat):ah:=⟨fun x=>sc.lookup x,f⟩
theorem aB.deeper {A:Av}{k:Nat}{env:Env}(h:aB A (k+2)):aB (A.deeper env) k:=
 ⟨h.handled,by have:=h.depth;show A.depth+1+k < 950;lia,by have:=h.units;show A.units+3+3 * k+300 < cLine;lia⟩
theorem aB.lim {A:Av}{k:Nat}(h:aB A k):A.depth < recursionLimit:=Ay (AC _ k) (BU h.depth (by decide))
section
variable (O:B.Ok)
include O
variable {Γ:ah}{ρ:ac}{Wc W:AP}{pe:Env}{A:Av}{s s₀:zL}{K N:Nat}{Φ:bq}
theorem oJ (f:Str×Value->PUnit->Sem (ForInStep PUnit))(hf:∀n v u,f (n,v) u=(do C6 pe n v;pure (.yield ⟨⟩))):∀(ps:List Nat)(args:List D)(vals:List Value)(ρ:ac)(s:zL)(Q:PUnit->zL->Prop)(E:VS),ps.length=args.length->
  Ctx B Γ Wc W pe ρ s->(∀x∈ps,(Γ x=some .local\/Γ x=some .cell)/\¬aq ρ x)->aa B s.heap W args vals->
  (∀s',Ctx B Γ Wc W pe (aw ps args ρ) s'->ao B (d3 W Wc) s s'->s'.heap.objs.size=s.heap.objs.size->Q ⟨⟩ s')->wpAny B.M A (forIn ((ps.map B.nm).zip vals) ⟨⟩ f) Q E s
 |[],[],vals,ρ,s,Q,E,_,X,_,r,k=>by
  simp only[CL,GL];exact zR (k s X (ao.refl _ _) rfl)
 |[],_::_,_,_,_,_,_,h,_,_,_,_=>by simp at h
 |_::_,[],_,_,_,_,_,h,_,_,_,_=>by simp at h
 |x::ps,d::args,vals,ρ,s,Q,E,hl,X,hx,r,k=>by
  simp only[aa] at r;obtain⟨v,vs',rfl,rv,ra⟩:=r;simp only[z8,AY]
  (rw[D5];refine zF (hf _ _ _) ?_)
  have h1:=hx x zU;refine zK (zK (Ctx.storeE' O X h1.1 h1.2 (fun J e=>by exact sH rfl e) (en:=.fz d) rv (fun J o=>o.elim) fun s1 X1 e1 hz1 J=>zR ?_));have e1:ao B (d3 W Wc) s s1:=e1.mono (dA O X h1.2) fun i q=>q;refine oJ f hf ps args vs' _ s1 Q E (by simpa using hl) X1 (fun q hq=>⟨(hx q (zT _ hq)).1,?_⟩) ?_ fun s2 X2 e2 hz2=>k s2 X2 (e1.own_trans O e2) (hz2.trans hz1)
  ·have h2:=(hx q (zT _ hq)).2
   by_cases hqx:q=x
   ·rintro⟨d',e⟩;rw[hqx,ac.set_self O] at e;exact sH rfl (zG e)
   ·rintro⟨d',e⟩;rw[ac.set_ne O _ _ hqx] at e;exact h2 ⟨d',e⟩
  ·exact aa.move O (e1.kW X.tW' fun b q=>q.1) (fun b q=>.inl q) _ _ ra
structure tJ (B:Bs)(sc:LK)(cl:List (Str×Addr))(ρc:ac)(W:AP)(s:zL):Prop where
 nd:(sc.map (·.1)).Nodup
 kinds:∀x k,sc.lookup x=some k->k=.free\/k=.local\/k=.cell\/k=.globalImplicit
 free:∀x,sc.lookup x=some .free->∃c v d,cl.lookup (B.nm x)=some c/\s.heap.IsCell c (some v)/\¬W c/\ρc x=some (.sealed d)/\av B s.heap W d v
 only:∀x c,cl.lookup (B.nm x)=some c->sc.lookup x=some .free
 apart:cl.Pairwise fun x y=>x.2≠y.2
 low:∀z∈cl,z.2 < s.heap.objs.size
 rho:∀x e,ρc x=some e->sc.lookup x=some .free
theorem rA {sc:LK}{scope:Scope}{f:Nat}{cl:List (Str×Addr)}{ρc:ac}{ps:List Nat}{args:List D}{vals:List Value}{qual:Str}{func:Option Addr}{code:Value}{E:VS}{Q:Env->zL->Prop}
  (hn:scope.names=aL B.nm sc) (hk:scope.kind=.function) (hcode:f=0\/(code=B.cd f/\qual=B.pq f)) (C:tJ B sc cl ρc W s) (g:aJ B s) (tW:∀b,B.T b->W b) (wlt:∀b,W b->b < s.heap.objs.size)
  (hps:∀x∈ps,sc.lookup x=some .local\/sc.lookup x=some .cell) (hl:ps.length=args.length) (ra:aa B s.heap W args vals)
  (k:∀s' env (W':AP),Ctx B (aN sc f) W W' env (aw ps args ρc) s'->(∀b,W' b->W b\/s.heap.objs.size<=b)->az B s s'->(∀b,s.heap.objs.size<=b->b < s'.heap.objs.size->W' b)->env.scope=scope->Q env s'):
  wpAny B.M A (FW scope AE cl ((ps.map B.nm).zip vals) qual func code none Bq) Q E s:=by
 refine zK (show wpAny _ _ (alloc { cls:=.type "frame", data:=.dict #[] }) _ _ _ from wpAny_alloc ?_)
 refine zK (wpAny_layCells _ (fun name kind cells=>by cases hkc:kind==NameKind.cell<;>simp only[hkc]) _ _ _ _ ?_);dsimp only;refine zF hn<|zF (show(s.heap.push { cls:=.type "frame", data:=.dict #[] }).objs.size=s.heap.objs.size+1 from Aq ..) ?_
 have hL:(s.heap.push { cls:=.type "frame", data:=.dict #[] }).objs.size=s.heap.objs.size+1:=Aq ..
 have hsz:=cK O (aL B.nm sc) (s.heap.push { cls:=.type "frame", data:=.dict #[] })
 have cf:=fun x=>cZ O x sc (s.heap.push { cls:=.type "frame", data:=.dict #[] }) cl C.nd
 replace cf:=hL▸cf;generalize hh':Dp (s.heap.push { cls:=.type "frame", data:=.dict #[] }) (aL B.nm sc)=h' at *
 have keep:∀b o,s.heap.get? b=some o->h'.get? b=some o:=fun b o e=>hh'▸DA _ _ b o (z9 _ e);have eff:az B s { s with heap:=h' }:=fD O keep (by show s.heap.objs.size<=h'.objs.size;lia) rfl rfl;have hcell:∀x c,(BJ (s.heap.objs.size+1) (aL B.nm sc) cl).lookup (B.nm x)=some c->(sc.lookup x=some .cell/\s.heap.objs.size+1<=c/\c < h'.objs.size/\h'.IsCell c none)\/(sc.lookup x=some .free/\cl.lookup (B.nm x)=some c):=fun x c e=>by
  by_cases hx:sc.lookup x=some .cell
  ·refine x13 ((cf x).1 hx) fun c' e1 e2 e3 e4=>?_
   obtain rfl:=zG (e1.symm.trans e);exact .inl ⟨hx,e2,e3,e4⟩
  ·rw[(cf x).2 hx] at e
   exact .inr ⟨C.only x c e,e⟩
 let N:Addr->Prop:=fun b=>s.heap.objs.size<=b/\b < h'.objs.size
 let env:Env:={ scope:=scope,locals:=s.heap.objs.size,globals:=AE,cells:=BJ (s.heap.objs.size+1) (aL B.nm sc) cl,qual:=qual,func:=func,code:=code,frame:=some s.heap.objs.size,builtins:=Bq }
 have kind:∀x,env.kindOf (B.nm x)=sc.lookup x:=fun x=>by
  show scope.names.lookup (B.nm x)=_;exact zF hn<|zF (cX O _ _) rfl
 have up:∀d v,av B s.heap W d v->av B h' (bB W N) d v:=fun d v r=>av.move O (fun b o J e=>keep b o e) (fun b q=>q.elim .inl fun z=>.inr (AG z.1)) d v r
 have X0:Ctx B (aN sc f) W (bB W N) env ρc { s with heap:=h' }:={
  good:=g.move eff
  fn:=hk
  glob:=rfl
  blt:=rfl
  tW:=tW
  cW:=fun b q=>.inl q
  wlt:=fun b q=>q.elim (fun z=>zI (wlt b z) eff.size) fun z=>z.2
  loc:=⟨_,BO.keeps (BO.new s.heap (.type "frame")) fun b o e=>hh'▸DA _ _ b o e,rfl⟩
  locW:=⟨.inr ⟨zW _,by show s.heap.objs.size < h'.objs.size;lia⟩,fun q=>zJ _ (wlt _ q)⟩
  ow:=fun b q n=>q.elim (fun z=>absurd z n) fun z=>g.hi z.1
  code:=hcode
  kinds:=fun x kk hx=>by
   refine⟨by refine zF (kind x) ?_;exact hx,fun hc=>?_⟩;replace hx:sc.lookup x=some kk:=hx;rcases hc with rfl|rfl
   ·refine am ((cf x).1 hx) fun c e J=>?_
    exact⟨c,e⟩
   ·refine x31 (C.free x hx) fun c v d h1 J=>?_
    exact⟨c,by show(BJ (s.heap.objs.size+1) (aL B.nm sc) cl).lookup (B.nm x)=_;refine zF ((cf x).2 (by refine zF hx ?_;simp)) ?_;exact h1⟩
  cells:=fun x c e=>by
   rcases hcell x c e with⟨J,h1,h2,h3⟩|⟨hf,h1⟩
   ·exact⟨⟨_,h3⟩,fun t=>zJ _ (zI (wlt _ (tW _ t)) (AX h1))⟩
   ·refine x33 (C.free x hf) fun c' v d e1 e2 e3 J=>?_
    obtain rfl:=zG (h1.symm.trans e1);exact⟨⟨_,CU e2 keep⟩,fun t=>e3 (tW _ t)⟩
  apart:=dm O _ _ _ (fun z hz=>By (C.low z hz)) C.apart
  cellW:=fun x c e=>by
   rcases hcell x c e with⟨J,h1,h2,h3⟩|⟨hf,h1⟩
   ·exact .inr ⟨.inr ⟨AX h1,h2⟩,fun q=>zJ _ (zI (wlt _ q) (AX h1))⟩
   ·refine x34 (C.free x hf) fun c' v d J J J e4 J=>?_
    exact .inl ⟨d,e4⟩
  vars:=fun x en hx=>by
   have hf:=C.rho x en hx;refine x34 (C.free x hf) fun c v d e1 e2 e3 e4 e5=>?_;obtain rfl:=zG (hx.symm.trans e4);refine⟨v,.inr ⟨.inr (by refine zF (kind x) ?_;exact hf),c,?_,CU e2 keep⟩,up d v e5⟩;show(BJ (s.heap.objs.size+1) (aL B.nm sc) cl).lookup (B.nm x)=some c;refine zF ((cf x).2 (by refine zF hf ?_;simp)) ?_;exact e1
  sealedW:=fun x hx=>by
   refine x1 hx fun d hx=>?_;have hf:=C.rho x _ hx;refine x33 (C.free x hf) fun c v d' e1 e2 e3 J=>?_;refine⟨c,?_,fun q=>q.elim e3 fun z=>zJ _ (zI e2.lt z.1)⟩;show(BJ (s.heap.objs.size+1) (aL B.nm sc) cl).lookup (B.nm x)=some c;refine zF ((cf x).2 (by refine zF hf ?_;simp)) ?_;exact e1
  owns:=fun x y e e' v v' b hx hy lx ly o J=>by
   have hf:=C.rho x _ hx;refine x34 (C.free x hf) fun c v d' J J J e4 J=>?_;obtain rfl:=zG (hx.symm.trans e4)
   exact o.elim }
 have hns:∀x∈ps,¬aq ρc x:=fun x hx ⟨d,e⟩=>by
  have hf:=C.rho x _ e;rcases hps x hx with h|h<;>(rw[hf] at h;exact nomatch h)
 refine zK (oJ O (pe:=env) (Γ:=aN sc f) (Wc:=W) (W:=bB W N) _ (fun J J J=>rfl) ps args vals ρc _ _ _ hl X0 (fun x hx=>⟨hps x hx,hns x hx⟩) (aa.move O (fun b o J e=>keep b o e) (fun b q=>q.elim .inl fun z=>.inr (AG z.1)) _ _ ra) fun s2 X2 e2 hz2=>zR ?_);exact k s2 env (bB W N) X2 (fun b q=>q.imp_right fun z=>z.1) (ao.toEff eff e2 (fun b q=>q.1.elim (fun z=>absurd z q.2) fun z=>z.1) fun i q=>q.elim) (fun b h1 h2=>.inr ⟨h1,by rw[hz2] at h2;exact h2⟩) rfl
theorem kY {sc:LK}{scope:Scope}{f:Nat}{cl:List (Str×Addr)}{ρc:ac}{ps:List Nat}{args:List D}{vals:List Value}{qual:Str}{func:Option Addr}{code:Value}{E:VS}{Q:Env->zL->Prop}
  (hn:scope.names=aL B.nm sc) (hk:scope.kind=.function) (hcode:f=0\/(code=B.cd f/\qual=B.pq f)) (C:tJ B sc cl ρc W s) (g:aJ B s) (tW:∀b,B.T b->W b) (wlt:∀b,W b->b < s.heap.objs.size)
  (hps:∀x∈ps,sc.lookup x=some .local\/sc.lookup x=some .cell) (hl:ps.length=args.length) (ra:aa B s.heap W args vals)
  (k:∀s' env (W':AP),Ctx B (aN sc f) W W' env (aw ps args ρc) s'->(∀b,W' b->W b\/s.heap.objs.size<=b)->az B s s'->Q env s'):
  wpAny B.M A (FW scope AE cl ((ps.map B.nm).zip vals) qual func code none Bq) Q E s:=
 rA O hn hk hcode C g tW wlt hps hl ra fun s' env W' X h e J J=>k s' env W' X h e
end
inductive zE (B:Bs)(fd:BD):Prop
 |mk (c:Addr) (o:Obj) (vs:Array Value) (t:Tok) (e:fd.code=.ref c) (nt:¬B.T c) (g:B.h₀.get? c=some o) (d:o.data=.fields vs) (x:vs[1]?=some (.str fd.qualname t))
end Mine
namespace Mine
variable {B:Bs}
structure bC (B:Bs)(f fid:Nat)(ps:List Nat)(sc:LK)(body:List Stmt)(fa:Addr)(fo:Obj)(fd:BD):Prop where
 mg:B.mg (B.nm f)=some (.ref fa)
 nT:¬B.T fa
 at':B.h₀.get? fa=some fo
 data:fo.data=.func fd
 body:fd.body=.stmts body
 names:fd.scope.names=aL B.nm sc
 kind:fd.scope.kind=.function
 gen:fd.scope.isGenerator=false
 co:fd.scope.isCoroutine=false
 glob:fd.globals=AE
 blt:fd.builtins=Bq
 clos:fd.closure=[]
 code:zE B fd
 bind:∀vals:List Value,vals.length=ps.length->EE fd ⟨vals,[]⟩=pure ((ps.map B.nm).zip vals)
 fid:fid=0\/(fd.code=B.cd fid/\fd.qualname++(".<locals>." : Str)=B.pq fid)
 nd:(sc.map (·.1)).Nodup
 kinds:∀x k,sc.lookup x=some k->k=.local\/k=.cell\/k=.globalImplicit
 ps:∀x∈ps,sc.lookup x=some .local\/sc.lookup x=some .cell
noncomputable def cN (fr:List Nat)(caps:List D):ac:=fun x=>((fr.zip caps).lookup x).map .sealed
section
variable (O:B.Ok)
include O
variable {Γ:ah}{ρ:ac}{Wc W:AP}{pe:Env}{A:Av}{s s₀:zL}{K N:Nat}{Φ:bq}
theorem aJ.lim (g:aJ B s):s.heap.NoLimit:=by
 refine am O.nolimit fun mc h1 h2=>?_;exact⟨mc,BO.moved h1 fun o e=>g.base _ _ O.csT e,h2⟩
theorem pL {f fid:Nat}{ps:List Nat}{sc:LK}{ss:List St}{fa:Addr}{fo:Obj}{fd:BD}{args:List D}{d:D}(F:bC B f fid ps sc (eZ B.nm ss) fa fo fd)(hK:24<=K)(P:bx B K Φ)(hb:jF B ss)
  (hl:ps.length=args.length) (hev:aO Φ N (aN sc fid) (aw ps args fun J=>none) ss=some (.rt d)):ch B (K+2) f args d:=by
 refine⟨fa,fo,fd,F.mg,F.nT,F.at',F.data,fun A s W vals g R tW wlt ra=>?_⟩;have ho:=g.base _ _ F.nT F.at';obtain⟨c,oc,vs,t,hc1,hc2,hc3,hc4,hc5⟩:=F.code;have hcd:s.heap.CodeRec fd.code fd.qualname:=⟨c,oc,vs,t,hc1,g.base _ _ hc2 hc3,hc4,hc5⟩;have hvl:vals.length=ps.length:=by refine zF (aa.length ra) ?_;omega
 refine CH R.lim ho F.data F.co F.gen F.body hcd ?_;refine zF (F.bind vals hvl)<|zF F.glob<|zF F.clos<|zF F.blt ?_
 refine zR ?_;refine kY O (sc:=sc) (f:=fid) (ρc:=fun J=>none) F.names F.kind F.fid ⟨F.nd,fun x k h=>.inr (F.kinds x k h),fun x h=>?_,fun x c h=>by simp at h,AW,fun z h=>(by exact aG h),fun x e h=>by exact ai h⟩ g tW wlt F.ps hl ra fun s1 env W' X1 hW' e1=>?_
 ·rcases F.kinds x _ h with h|h|h<;>exact nomatch h
 ·refine⟨aJ.lim O (g.move e1),Eg ?_⟩
  refine xE O (N:=N) hK P ss hb _ _ _ hev _ _ _ _ _ _ _ X1 R.deeper ?_;intro v s2 e2 r2;exact⟨v,rfl,ao.toEff e1 e2 (fun b q=>(hW' b q.1).elim (fun z=>absurd z q.2) id) fun i q=>q.elim,r2⟩
theorem ij:∀(fr:List Nat)(caps:List D) (i:Nat) (x:Nat)(d:D),fr.Nodup->fr[i]?=some x->caps[i]?=some d->(fr.zip caps).lookup x=some d
 |[],_,_,_,_,_,h,_=>by simp at h
 |_::_,[],_,_,_,_,_,h=>by simp at h
 |y::fr,c::caps,0,x,d,hn,h1,h2=>by
  simp only[DT,zV] at h1 h2;subst h1;subst h2;simp[z5]
 |y::fr,c::caps,i+1,x,d,hn,h1,h2=>by
  simp only[Bi] at hn;simp only[FQ] at h1 h2;have:x≠y:=by rintro rfl;exact hn.1 (BK h1)
  (refine zF AY ?_;rw[z5];refine zF (show(x==y)=false by simpa using this) ?_)
  exact ij fr caps i x d hn.2 h1 h2
theorem mr:∀(fr:List Nat)(caps:List D) (x:Nat)(d:D),(fr.zip caps).lookup x=some d->x∈fr:=fun fr caps x d h=>(Ci (b8 O h)).1
theorem ik {α:Type}:∀{l:List (Str×α)}{z:Str×α},(l.map (·.1)).Nodup->z∈l->l.lookup z.1=some z.2
 |[],_,_,h=>by exact aG h
 |a::r,z,hn,h=>by
  simp only[z8,Bi] at hn;rcases Ab.mp h with h1|h1
  ·subst h1
   obtain⟨z1,z2⟩:=z;rw[z5];simp
  ·have:z.1≠a.1:=by
    intro e;exact hn.1 (Ac.mpr ⟨z,h1,e⟩)
   obtain⟨a1,a2⟩:=a
   (rw[z5];refine zF (show(z.1==a1)=false by simpa using this) ?_)
   exact ik hn.2 h1
theorem uX {L:fq}{cv:List Value}{caps:List D}{fd:BD}{sc:LK}(l:vo B L cv s.heap W fd)(hfr:L.fr=aD sc)(hnd:(sc.map (·.1)).Nodup)(hk:∀x k,sc.lookup x=some k->k=.free\/k=.local\/k=.cell\/k=.globalImplicit)
  (rc:aa B s.heap W caps cv):tJ B sc fd.closure (cN (aD sc) caps) W s:=by
 have hmem:∀x,sc.lookup x=some .free↔x∈aD sc:=fun x=>by
  unfold aD;simp only[Ac,Bj]
  constructor
  ·intro hx
   exact⟨(x,.free),⟨b8 O hx,by simp⟩,rfl⟩
  ·rintro⟨⟨y,k⟩,⟨hm,hk⟩,rfl⟩
   have:k=.free:=by simpa using hk
   subst this;exact bp O hnd hm
 have hfn:(aD sc).Nodup:=by
  unfold aD;exact List.Sublist.nodup (List.Sublist.map _ List.filter_sublist) hnd
 have hlen:=aa.length rc;have hlen2:=l.len;replace hlen2:=hfr▸hlen2;have free:∀x,sc.lookup x=some .free->∃c v d,fd.closure.lookup (B.nm x)=some c/\s.heap.IsCell c (some v)/\¬W c/\cN (aD sc) caps x=some (.sealed d)/\av B s.heap W d v:=fun x hx=>by
  refine x1 (Gc ((hmem x).mp hx)) fun i hi=>?_;have hilt:=(Ap.mp hi).1;have hv:cv[i]?=some cv[i]:=Am (by omega);have hd:caps[i]?=some caps[i]:=Am (by omega);refine am (aa.get rc hd) fun v' hv' rv=>?_;obtain rfl:=zG (hv.symm.trans hv');refine oQ (l.cells i x _ (by refine zF hfr ?_;exact hi) hv) fun c h1 h2 h3=>?_;exact⟨c,_,_,h1,h3,h2,by unfold cN;refine zF (ij O _ _ i x _ hfn hi hd) ?_;rfl,rv⟩
 refine⟨hnd,hk,free,fun x c h=>(hmem x).mpr (hfr▸l.only x c h),l.apart,fun z hz=>?_,fun x e h=>?_⟩
 ·refine x1 (l.nms z hz) fun x hx=>?_
  have hlook:fd.closure.lookup z.1=some z.2:=ik O l.keys hz;replace hlook:=hx▸hlook;refine wL (free x ((hmem x).mpr (hfr▸l.only x _ hlook))) fun c v d e1 e2 J=>?_;obtain rfl:=zG (hlook.symm.trans e1);exact e2.lt
 ·unfold cN at h
  rw[Aa] at h;refine am h fun d hd J=>?_;exact(hmem x).mpr (mr O _ _ _ _ hd)
structure LExp (B:Bs) (id:Nat)(L:fq)(ps:List Nat)(sc:LK)(e:E):Prop where
 ls:B.LS id=some L
 body:L.body=.expr (e.py B.nm)
 names:L.scope.names=aL B.nm sc
 kind:L.scope.kind=.function
 gen:L.scope.isGenerator=false
 co:L.scope.isCoroutine=false
 fr:L.fr=aD sc
 bind:∀(fd:BD) (vals:List Value),fd.params=L.params->fd.defaults=.none->fd.kwdefaults=.none->vals.length=ps.length->EE fd ⟨vals,[]⟩=pure ((ps.map B.nm).zip vals)
 nd:(sc.map (·.1)).Nodup
 kinds:∀x k,sc.lookup x=some k->k=.free\/k=.local\/k=.cell\/k=.globalImplicit
 ps:∀x∈ps,sc.lookup x=some .local\/sc.lookup x=some .cell
theorem px {id:Nat}{L:fq}{ps:List Nat}{sc:LK}{e:E}{caps args:List D}{r:Mine.R}{d:D}(F:LExp B id L ps sc e)(hK:24<=K)(P:bx B K Φ)(hb:e.ok B)
  (hl:ps.length=args.length) (hev:ev Φ (aN sc 0) (aw ps args (cN (aD sc) caps)) e=some r) (hd:r.asD=some d):c7 B (K+2) id caps args d:=by
 intro fa cv A s W vals g R tW wlt hlam rc ra;obtain⟨L',fo,fd,hls,hg,hfd,nw,l⟩:=hlam;rw[F.ls] at hls;obtain rfl:=zG hls;obtain⟨c,oc,vs,t,hc1,hc2,J,hc4,hc5⟩:=l.code;have hcd:s.heap.CodeRec fd.code fd.qualname:=⟨c,oc,vs,t,hc1,hc2,hc4,by refine zF l.qual ?_;exact hc5⟩;have hvl:vals.length=ps.length:=by refine zF (aa.length ra) ?_;omega
 refine kla_callFunE R.lim hg hfd (by refine zF l.scope ?_;exact F.co) (by refine zF l.scope ?_;exact F.gen) (by refine zF l.body ?_;exact F.body) hcd ?_;refine zF (F.bind fd vals l.params l.dfl.1 l.dfl.2 hvl)<|zF l.glob<|zF l.blt ?_
 refine zR ?_;refine kY O (sc:=sc) (f:=0) (ρc:=cN (aD sc) caps) (by refine zF l.scope ?_;exact F.names) (by refine zF l.scope ?_;exact F.kind) (.inl rfl) (uX O l F.fr F.nd F.kinds rc) g tW wlt F.ps hl ra fun s1 env W' X1 hW' e1=>?_;refine⟨aJ.lim O (g.move e1),kla_codeExpr ?_⟩;refine ci O (eQ O hK P e hb) hev hd X1 R.deeper fun v s2 e2 X2 q2=>?_;exact⟨v,rfl,e1.trans e2,av.less O q2 X2.cW⟩
end
end Mine
section
open PySem.Builtin PySem.Builtin.Str
namespace Mine
variable {B:Bs}
section
variable {A:Av}{s s₀:zL}
theorem sU:isSubtype (.type "KeyError") (.type "LookupError")=pure true:=by refine zF (ED _ _) ?_;rfl
theorem tab_hit {d:Addr}{f:Int->Option Value}{c:Nat}{y:List Nat}{tk:Tok}(hm:s.heap.MapOf (C2 B.prog B.w) d f)(hv:f c=some (.str ⟨y.toArray⟩ tk)){E:VS}{Q:Mapped->zL->Prop}
  (k:∀n,Q (.text ⟨y.toArray⟩) { s with toks:=n }):wpAny B.M A (tableLookup (.ref d) c) Q E s:=by
 unfold tableLookup;refine zK (Ge (zK (wpAny_mkInt ?_)));refine wpAny_getItem_of (knd:=C2 B.prog B.w) (k:=(c:Int)) (by simp[C2,Value.isInt]) hm hv ?_;refine zK (EB (a:=none) rfl ?_);refine zK (EB (a:=some ⟨y.toArray⟩) rfl ?_);exact zR (k _)
theorem w6 {d:Addr}{f:Int->Option Value}{c:Nat}(hh:A.handled=none)(hd:(d==Cg)=false)(hm:s.heap.MapOf (C2 B.prog B.w) d f)(hv:f c=none){E:VS}{Q:Mapped->zL->Prop}
  (k:∀h' n e,Heap.NewExc s.heap h' e "KeyError" -> Q .keep { s with heap:=h',toks:=n }):wpAny B.M A (tableLookup (.ref d) c) Q E s:=by
 unfold tableLookup;refine zK (Ge (zK (wpAny_mkInt ?_)));refine wpAny_getItem_missing_of (knd:=C2 B.prog B.w) (k:=(c:Int)) (by simp[C2,Value.isInt]) hd hh hm hv fun h' e x=>?_;refine zK (wpAny_isInstance (T := "KeyError") (b:=true) ?_ sU ?_)
 ·refine lM x.there fun o args h1 h2 h3=>?_
  exact⟨o,h1,h2⟩
 ·exact zK (EY (zR (k _ _ _ x)))
noncomputable def ki (g:Nat->Option (List Nat))(l:List Nat):List Nat:=l.flatMap fun c=>(g c).getD [c]
noncomputable def zw (f:Int->Option Value)(g:Nat->Option (List Nat)):Prop:=∀c:Nat,match g c with
 |none=>f c=none
 |some y=>y.length=2/\∃tk,f c=some (.str ⟨y.toArray⟩ tk)
noncomputable def yf (g:Nat->Option (List Nat)) (c:Nat):Mapped:=match g c with
 |none=>.keep
 |some y=>.text ⟨y.toArray⟩
theorem so {d:Addr}{f:Int->Option Value}{g:Nat->Option (List Nat)}{c:Nat}(hh:A.handled=none)(hd:(d==Cg)=false)(hm:s.heap.MapOf (C2 B.prog B.w) d f)(ht:zw f g){E:VS}{Q:Mapped->zL->Prop}
  (k:∀h' n,(∀b o,s.heap.get? b=some o->h'.get? b=some o)->Q (yf g c) { s with heap:=h',toks:=n }):wpAny B.M A (tableLookup (.ref d) c) Q E s:=by
 have h:=ht c;unfold yf at k
 cases hg:g c with
 |none=>
  rw[hg] at h k;exact w6 hh hd hm h fun h' n e x=>k h' n x.keeps
 |some y=>
  rw[hg] at h k;refine rY h fun J tk h=>?_;exact tab_hit hm h fun n=>k s.heap n fun J J e=>e
theorem MapOf.keep {h h':Heap}{d:Addr}{f:Int->Option Value}(hm:h.MapOf (C2 B.prog B.w) d f)(k:∀b o,h.get? b=some o->h'.get? b=some o):h'.MapOf (C2 B.prog B.w) d f:=by
 refine x31 hm fun o es ep h1 h2=>?_;exact⟨o,es,ep,k _ _ h1,h2⟩
structure TrI (s:zL)(g:Nat->Option (List Nat))(l rest:List Nat)(b:List Str×Nat×Bool×List (Nat×Option Nat)×Bool)(s':zL):Prop where
 drop:b.2.2.2.2=false
 known:∀x a,b.2.2.2.1.lookup x=some a->a=some x/\g x=none
 text:(b.1.reverse.flatMap fun p=>p.cps.toList)++ki g rest=ki g l
 total:b.2.1+2 * rest.length<=2 * l.length
 heap:∃h' n,(∀b o,s.heap.get? b=some o->h'.get? b=some o)/\s'={ s with heap:=h',toks:=n }
theorem TrI.put {g:Nat->Option (List Nat)}{l rest:List Nat}{x:Nat}{b1:List Str}{b2:Nat}{b3 b3' b5:Bool}{b4 b4':List (Nat×Option Nat)}{s' s2:zL}(I:TrI s g l (x::rest) ⟨b1,b2,b3,b4,b5⟩ s')(h4:∀x a,b4'.lookup x=some a->a=some x/\g x=none)
  {t:Str}{m:Nat}(ht:t.cps.toList=(g x).getD [x]) (hm:m<=2) (h':Heap) (n:Nat) (hk:∀b o,s'.heap.get? b=some o->h'.get? b=some o) (hs:s2={ s' with heap:=h',toks:=n }):TrI s g l rest ⟨t::b1,b2+m,b3',b4',false⟩ s2:=by
 refine vw I.heap fun h1 n1 hk1 e91=>?_;subst e91;refine⟨rfl,h4,?_,?_,h',n,fun b o e=>hk b o (hk1 b o e),hs⟩
 ·have:=I.text
  simp only[ki,Ao,GM,Eo,List.flatMap_nil,AF,Az] at this ⊢;refine zF ht ?_;exact this
 ·have:=I.total
  simp only[AB] at this ⊢
  lia
end
end Mine
end
section
open PySem.Builtin PySem.Builtin.Str
namespace Mine
variable {B:Bs}
section
variable {A:Av}{s s₀:zL}
theorem sS {g:Nat->Option (List Nat)}{b4:List (Nat×Option Nat)}{x:Nat}(h4:∀x a,b4.lookup x=some a->a=some x/\g x=none)(hg:g x=none):∀y a,B3 y ((x,some x)::b4)=some a->a=some y/\g y=none:=by
 intro y a h;rw[z5] at h
 split at h
 ·rename_i e
  have e:y=x:=by simpa using e
  obtain rfl:=zG h;exact⟨by exact zF e rfl,by refine zF e ?_;exact hg⟩
 ·exact h4 y a h
theorem ou:∀(ps:List Str)(acc:Array Nat),ps.foldl (fun acc p=>acc++p.cps) acc=acc++(ps.flatMap fun p=>p.cps.toList).toArray
 |[],acc=>by simp
 |p::ps,acc=>by
  refine zF Fb<|zF (ou ps _) ?_
  apply Array.ext';simp
theorem sh {g:Nat->Option (List Nat)}(h:∀c y,g c=some y->y.length=2):∀l:List Nat,(ki g l).length<=2 * l.length
 |[]=>by simp[ki]
 |c::l=>by
  have ih:=sh h l;simp only[ki,Ao,zM,AB] at ih ⊢
  cases hg:g c with
  |none=>simp only[EM,AB,Cw];lia
  |some y=>simp only[EL];refine zF (h _ _ hg) ?_;lia
abbrev TrB:=List Str×Nat×Bool×List (Nat×Option Nat)×Bool
noncomputable def sf (d:Value) (x:Nat)(b1:List Str) (b2:Nat)(b3:Bool)(b4:List (Nat×Option Nat)):Sem (ForInStep TrB):=do
 match <-tableLookup d x with
 |.keep=>pure (.yield (⟨#[x]⟩::b1,b2+1,b3,b4,false))
 |.drop=>pure (.yield (b1,b2,b3,b4,true))
 |.char c=>pure (.yield (⟨#[c]⟩::b1,b2+1,b3,b4,false))
 |.text t=>pure (.yield (t::b1,b2+t.length,b3,b4,false))
noncomputable def wZ (d:Value) (x:Nat)(b1:List Str) (b2:Nat)(b3:Bool)(b4:List (Nat×Option Nat)):Option (Option Nat)->Sem (ForInStep TrB)
 |some (some c)=>pure (.yield (⟨#[c]⟩::b1,b2+1,b3,b4,false))
 |some none=>pure (.yield (b1,b2,b3,b4,false))
 |none=>rule "str.translate.fast-road-left" >>= fun J=>sf d x b1 b2 false b4
noncomputable def lS (x:Nat):Mapped->Option (Option Nat)
 |.keep=>some (some x)
 |.drop=>some none
 |.char c=>if c < 128 then some (some c) else none
 |.text t=>if(t.length==1&&t.cps.all fun x=>decide (x < 128))=true then some t.cps[0]? else none
noncomputable def wX (d:Value) (x:Nat)(b1:List Str) (b2:Nat)(b3:Bool)(b4:List (Nat×Option Nat))(n:Option (Option Nat)):Sem (ForInStep TrB):=match n with
 |some a=>pure n >>= wZ d x b1 b2 b3 ((x,a)::b4)
 |_=>pure n >>= wZ d x b1 b2 b3 b4
noncomputable def wY (d:Value) (x:Nat)(b1:List Str) (b2:Nat)(b3:Bool)(b4:List (Nat×Option Nat)):Option (Option Nat)->Sem (ForInStep TrB)
 |some a=>pure (some a) >>= wZ d x b1 b2 b3 b4
 |none=>tableLookup d x >>= fun m=>wX d x b1 b2 b3 b4 (lS x m)
noncomputable def wW (d:Value) (x:Nat)(b1:List Str) (b2:Nat)(b3:Bool)(b4:List (Nat×Option Nat)):Sem (ForInStep TrB):=
 if b3=true then wY d x b1 b2 b3 b4 (B3 x b4) else sf d x b1 b2 b3 b4
noncomputable def trStep (d:Value) (x:Nat)(b1:List Str) (b2:Nat)(b3:Bool)(b4:List (Nat×Option Nat)):Sem (ForInStep TrB):=
 if tooLong b2=true then(unsupported "str.translate:memory" : Sem PUnit) >>= fun J=>wW d x b1 b2 b3 b4 else wW d x b1 b2 b3 b4
theorem vy {M:Model}{A:Av}{α:Type}{E:VS}{s:zL}{c:Bool}{x y:Sem α}{Q:α->zL->Prop}(hc:c=true)(h:wpAny M A x Q E s):wpAny M A (if c=true then x else y) Q E s:=by subst hc;exact h
theorem nO {M:Model}{A:Av}{α:Type}{E:VS}{s:zL}{c:Bool}{x y:Sem α}{Q:α->zL->Prop}(hc:c=false)(h:wpAny M A y Q E s):wpAny M A (if c=true then x else y) Q E s:=by subst hc;exact h
theorem oS {d:Addr}{f:Int->Option Value}{g:Nat->Option (List Nat)}{l:List Nat}{tk:Tok}(hh:A.handled=none)(hd:(d==Cg)=false)(hm:s.heap.MapOf (C2 B.prog B.w) d f)(ht:zw f g)(hl:l.length<=lim)
  {E:VS}{Q:Bt->zL->Prop}
  (k:∀h' n tk',(∀b o,s.heap.get? b=some o->h'.get? b=some o)->Q (.done (.ret (.str ⟨(ki g l).toArray⟩ tk'))) { s with heap:=h',toks:=n }):
  wpAny B.M A (Builtin.«str.translate» ⟨[.str ⟨l.toArray⟩ tk,.ref d],[]⟩) Q E s:=by
 have hline:sizeLine=16777216:=by decide
 have htl:∀{c:Nat}{y:List Nat},g c=some y->y.length=2:=fun{c y} e=>by
  have:=ht c;rw[e] at this;exact this.1
 unfold Builtin.«str.translate»;refine zK (EB (a:=(.str ⟨l.toArray⟩ tk,⟨l.toArray⟩,.ref d)) rfl ?_)
 by_cases h0:((⟨l.toArray⟩:Str).length==0)=true
 ·refine vy h0 ?_
  have hn:l=[]:=by simpa [Str.length] using h0
  subst hn;exact zK (EY (zK (EB (a:=.str ⟨[].toArray⟩ tk) rfl (zR (k s.heap s.toks tk fun J J e=>e)))))
 ·refine nO (GU.mpr h0) ?_
  refine zK ?_;refine wpAny_forIn_array' _ (fun rest b s'=>TrI s g l rest b s') _ ?_ ?_ _ _ ?_
  ·rintro x rest ⟨b1,b2,b3,b4,b5⟩ s' I
   have hb5:b5=false:=I.drop;subst hb5;have h4:∀x a,b4.lookup x=some a->a=some x/\g x=none:=I.known;refine vw I.heap fun h1 n1 hk1 hs1=>?_;have hm1:s'.heap.MapOf (C2 B.prog B.w) d f:=by refine zF hs1 ?_;exact MapOf.keep hm hk1
   have htot:b2+2 * (x::rest).length<=2 * l.length:=I.total;have hT:tooLong b2=false:=by
    unfold tooLong;unfold lim at hl;exact decide_eq_false (by lia)
   show wpAny B.M A (trStep (.ref d) x b1 b2 b3 b4) _ _ _;refine nO hT ?_
   cases b3 with
   |false=>
    show wpAny B.M A (sf (.ref d) x b1 b2 false b4) _ _ _;refine zK (so hh hd hm1 ht fun h' n hk=>?_);unfold yf
    cases hg:g x with
    |none=>exact zR (I.put h4 (m:=1) (by refine zF hg ?_;rfl) (by lia) h' n hk rfl)
    |some y=>exact zR (I.put h4 (m:=(⟨y.toArray⟩:Str).length) (by refine zF hg ?_;rfl) (by have:=htl hg;simp[Str.length];lia) h' n hk rfl)
   |true=>
    show wpAny B.M A (wY (.ref d) x b1 b2 true b4 (B3 x b4)) _ _ _
    cases hlk:B3 x b4 with
    |some a=>
     refine aS (h4 x a hlk) fun e91=>?_;subst e91;intro hg;refine zK (zR ?_);exact zR (I.put h4 (m:=1) (by refine zF hg ?_;rfl) (by lia) s'.heap s'.toks (fun J J e=>e) rfl)
    |none=>
     refine zK (so hh hd hm1 ht fun h' n hk=>?_);unfold yf
     cases hg:g x with
     |none=>
      refine zK (zR ?_);exact zR (I.put (sS h4 hg) (m:=1) (by refine zF hg ?_;rfl) (by lia) h' n hk rfl)
     |some y=>
      have h2:((⟨y.toArray⟩:Str).length==1)=false:=by
       have:=htl hg;simp[Str.length];lia
      have h3:lS x (.text ⟨y.toArray⟩)=none:=by
       show(if((⟨y.toArray⟩:Str).length==1&&_)=true then _ else _)=_;refine zF h2 ?_;rfl
      show wpAny B.M A (wX (.ref d) x b1 b2 true b4 (lS x (.text ⟨y.toArray⟩))) _ _ _;refine zF h3 ?_;refine zK (zR (zK (EY ?_)));refine zK (so hh hd (MapOf.keep hm1 hk) ht fun h'' n' hk'=>?_);unfold yf;refine zF hg ?_;exact zR (I.put h4 (m:=(⟨y.toArray⟩:Str).length) (by refine zF hg ?_;rfl) (by have:=htl hg;simp[Str.length];lia) h'' n' (fun b o e=>hk' b o (hk b o e)) rfl)
  ·rintro⟨b1,b2,b3,b4,b5⟩ s' I
   refine vw I.heap fun h1 n1 hk1 e91=>?_;subst e91;have htot:b2+2 * 0<=2 * l.length:=I.total;have hT:tooLong b2=false:=by
    unfold tooLong;unfold lim at hl;exact decide_eq_false (by lia)
   have htx:=I.text;simp only[ki,List.flatMap_nil,AF] at htx;dsimp only;simp only[hT,AK,if_false];have he:(⟨b1.reverse.foldl (fun acc p=>acc++p.cps) #[]⟩:Str)=⟨(ki g l).toArray⟩:=by
    refine zF (ou _ _)<|zF htx ?_
    simp[ki]
   refine zF he ?_;unfold retStr;refine zK (wpAny_mkStr (zR ?_) ?_)
   ·exact k h1 _ _ hk1
   ·have:=sh (g:=g) (fun c y e=>htl e) l
    unfold lim at hl;simp only[Str.length,Bp]
    lia
  ·exact⟨rfl,fun x a h=>(by simp at h),by simp,by simp,s.heap,s.toks,fun J J e=>e,rfl⟩
end
end Mine
end
namespace Mine
variable {B:Bs}
section
variable (O:B.Ok)
include O
variable {Γ:ah}{ρ:ac}{Wc W:AP}{pe:Env}{A:Av}{s s₀:zL}{K N:Nat}{Φ:bq}
noncomputable def qd (B:Bs) (K:Nat)(Γ:ah)(ρ:ac)(body:List Stmt)(d:D):Prop:=∀Wc W pe A s (Q:Flow->zL->Prop)(E:VS),Ctx B Γ Wc W pe ρ s->aB A K->
 (∀v s',ao B (d3 W Wc) s s'->av B s'.heap Wc d v->Q (.ret v) s')->wpAny B.M A (execs body pe) Q E s
theorem pK {f fid:Nat}{ps:List Nat}{sc:LK}{body:List Stmt}{fa:Addr}{fo:Obj}{fd:BD}{args:List D}{d:D}(F:bC B f fid ps sc body fa fo fd)
  (hl:ps.length=args.length) (hb:qd B K (aN sc fid) (aw ps args fun J=>none) body d):ch B (K+2) f args d:=by
 refine⟨fa,fo,fd,F.mg,F.nT,F.at',F.data,fun A s W vals g R tW wlt ra=>?_⟩;have ho:=g.base _ _ F.nT F.at';obtain⟨c,oc,vs,t,hc1,hc2,hc3,hc4,hc5⟩:=F.code;have hcd:s.heap.CodeRec fd.code fd.qualname:=⟨c,oc,vs,t,hc1,g.base _ _ hc2 hc3,hc4,hc5⟩;have hvl:vals.length=ps.length:=by refine zF (aa.length ra) ?_;lia
 refine CH R.lim ho F.data F.co F.gen F.body hcd ?_;refine zF (F.bind vals hvl)<|zF F.glob<|zF F.clos<|zF F.blt ?_
 refine zR ?_;refine kY O (sc:=sc) (f:=fid) (ρc:=fun J=>none) F.names F.kind F.fid ⟨F.nd,fun x k h=>.inr (F.kinds x k h),fun x h=>?_,fun x c h=>by simp at h,AW,fun z h=>(by exact aG h),fun x e h=>by exact ai h⟩ g tW wlt F.ps hl ra fun s1 env W' X1 hW' e1=>?_
 ·rcases F.kinds x _ h with h|h|h<;>cases h
 ·refine⟨aJ.lim O (g.move e1),Eg ?_⟩
  refine hb _ _ _ _ _ _ _ X1 R.deeper ?_;intro v s2 e2 r2;exact⟨v,rfl,ao.toEff e1 e2 (fun b q=>(hW' b q.1).elim (fun z=>absurd z q.2) id) fun i q=>q.elim,r2⟩
end
end Mine
namespace Mine
variable {B:Bs}
section
variable (O:B.Ok)
include O
variable {Γ:ah}{ρ:ac}{Wc W:AP}{pe:Env}{A:Av}{s s₀:zL}{K N:Nat}{Φ:bq}
theorem oR {d:Addr}{f:Int->Option Value}{g:Nat->Option (List Nat)}{l:List Nat}{tk:Tok}{x:Nat}{q7 q9:Pos}(X:Ctx B Γ Wc W pe ρ s)(hk:Γ x=some .globalImplicit)(hmg:B.mg (B.nm x)=some (.ref d))
  (hh:A.handled=none) (hd:(d==Cg)=false) (hm:s.heap.MapOf (C2 B.prog B.w) d f) (ht:zw f g) (hl:l.length<=lim){E:VS}{Q:VS}
  (k:∀h' n tk',(∀b o,s.heap.get? b=some o->h'.get? b=some o)->s.heap.objs.size<=h'.objs.size->Q (.str ⟨(ki g l).toArray⟩ tk') { s with heap:=h',toks:=n }):
  FG B.prog B.w A E (Str.ofString "translate") (.str ⟨l.toArray⟩ tk) q9 [(false,eval (.Name (B.nm x) q7) pe)] Q s:=by
 refine⟨"str", _,CX,E0,PySem.F.type_str_translate,Cz _ _ _,(fun J e=>nomatch e),?_⟩
 refine C1 rfl (CB (AJ (mt O X hk hmg (Bn ?_))));refine rZ ?_;refine FA E0 (Cz _ _ _) PySem.F.entry_str_translate ?_ (PySem.F.args_str_translate_2 _ _);exact oS (A:=A.in1) hh hd hm ht hl fun h' n tk' hk=>⟨_,rfl,fun hs=>k h' n tk' hk hs⟩
theorem rB {x:Nat}{l:List Nat}{d:Addr}{f:Int->Option Value}{g:Nat->Option (List Nat)}{a1 a2 a3 a4 a5 a6 a7 a8 a9 a10:Pos}{els rest:List Stmt}
  (hx:ρ x=some (.fz (.str l))) (k6:Γ 6=some .globalImplicit) (k7:Γ 7=some .globalImplicit) (k24:Γ 24=some .globalImplicit) (hmg:B.mg (B.nm 24)=some (.ref d)) (hT:¬B.T d)
  (hd:(d==Cg)=false) (hm:B.h₀.MapOf (C2 B.prog B.w) d f) (ht:zw f g) (hl2:(ki g l).length<=lim) (hline:(a6.endLine==a8.line)=true):
  qd B K Γ ρ (.If (.Call (.Name (B.nm 6) a1) [.Name (B.nm x) a2,.Name (B.nm 7) a3] [] a4) [.Return (some (.Call (.Attribute (.Name (B.nm x) a5) (B.nm 14) a6) [.Name (B.nm 24) a7] [] a8)) a9] els a10::rest) (.str (ki g l)):=by
 intro Wc W pe A s Q E X R k;refine zZ (FU (Ef (e:=.Call (.Name (B.nm 6) a1) [.Name (B.nm x) a2,.Name (B.nm 7) a3] [] a4) (Bc (gE O X k6 rfl ?_)) rfl));refine zF (show D2 a4 (B8 [.Name (B.nm x) a2,.Name (B.nm 7) a3] pe)=[(false,eval (.Name (B.nm x) a2) pe),(false,eval (.Name (B.nm 7) a3) pe)] from rfl) ?_;refine C1 rfl (CB (AJ (jc O hx X fun tk hl=>AJ (gE O X k7 rfl (Bn ?_)))));refine FO (isinstance_true (Tx := "str") (T := "str") (by rfl) (by refine zF (ED _ _) ?_;rfl)) ⟨Cz _ _ _,?_⟩
 refine AZ ?_;simp only[if_true];have hm1:s.heap.MapOf (C2 B.prog B.w) d f:=by
  refine x31 hm fun o es ep h1 h2=>?_;exact⟨o,es,ep,X.good.base _ _ hT h1,h2⟩
 refine zF (O.mnm 14 _ rfl) ?_;refine zZ (CK ?_);refine DJ rfl rfl hline (jc O hx X fun tk hl=>oR O X k24 hmg R.handled hd hm1 ht hl fun h' n tk' hk hs=>?_);have e1:az B s { s with heap:=h',toks:=n }:=az.heap O n hk hs;refine k _ _ (e1.toP _) ?_;exact⟨⟨tk',rfl⟩,hl2⟩
end
end Mine
namespace Mine
variable {B:Bs}
structure kH (B:Bs)(KF:Frag):Prop where
 in₀:KF.In B.h₀
 nT:∀a o,KF.lookup a=some o->¬B.T a
 makes:makesIn KF B.C=true
 init:∃fI,Dr KF (.ref B.C) "__init__" = some (some (.ref fI))/\typeIn KF (.ref fI)=some (.type "function")
 plain:plainOver KF B.C=true
section
variable {KF:Frag}{A:Av}{s:zL}
theorem kH.here (Z:kH B KF)(g:aJ B s):KF.In s.heap:=fun a o e=>g.base a o (Z.nT a o e) (Z.in₀ a o e)
theorem sL (Z:kH B KF)(g:aJ B s){rest:List Value}{R:CI->zL->Prop}
  (hq:∀fI,Dr KF (.ref B.C) "__init__" = some (some (.ref fI))->BZ B.M (A.under (.builtin "type.__call__" ⟨.ref B.C::rest,[]⟩)) (.call (.ref fI) ⟨.ref (s.heap.objs.size+1)::rest,[]⟩) (InitBack (s.heap.objs.size+1) R)
   { s with heap:=(s.heap.push emptyDict).push (Cj B.C s.heap.objs.size) }):
  BZ B.M A (.call (.ref B.C) ⟨rest,[]⟩) R s:=by
 have X:=Z.here g;refine am Z.init fun fI h1 h2=>?_;obtain⟨hh,gg,d,t,os⟩:=s;exact make_core (makes_of X Z.makes) (looks_findIn X h1) (fun self=>bind_fn X self h2) (.inl rfl) (hq fI h1)
end
end Mine
namespace Mine
variable {B:Bs}
section
variable {KF:Frag}{A:Av}{s:zL}{R:CI->zL->Prop}{C x:Addr}
set_option tactic.hygienic true in
theorem xY {ox od od':Obj}{dx:Addr}{name:Str}{tk:Tok}{v:Value}{es:List DictEntry}{n:Nat}(X:KF.In s.heap)
  (I:InstAt s.heap x ox C (some od)) (hd:ox.dict=some dx) (hp:plainOver KF C=true) (ht:takerIn KF C name=some none) (hh:(clsIn KF C).any (·.hasDict)=true)
  (hl:(FC name od).isSome=true) (D:s.heap.get? dx=some od)
  (e:Obj.putName name (CY B.w.params name) (.str name s.toks) v od=od') (e':od'.data=.dict es.toArray n) (hz:es.length<=1000)
  (h:∀h',Cm dx s.heap h'->h'.get? dx=some od'->R (.ok (.ret .none)) { s with heap:=h',toks:=s.toks+1 }):
  BZ B.M A (.call (.builtin "object.__setattr__") ⟨[.ref x,.str name tk,v],[]⟩) R s:=by
 refine osa_open X I hp ht fun b=>?_;have hd':∃cd,clsIn KF C=some cd/\cd.hasDict=true:=by
  cases hc:clsIn KF C with
  |none=>rw[hc] at hh;exact bG hh
  |some cd=>rw[hc] at hh;exact⟨cd,rfl,hh⟩
 refine am hd' fun cd hc hd'=>?_;have D':(s.heap.update dx (Obj.putName name (CY B.w.params name) (.str name s.toks) v)).get? dx=some od':=by
  exact zF (Cb _ D (by refine zF e ?_;obtain⟨J,J,dd,J⟩:=od';cases e';rfl))<|zF e rfl
 obtain⟨hx,hcl,hn,-⟩:=I;obtain⟨oc,odi,oda,osl⟩:=ox;dsimp only at hcl hd;subst hcl hd;refine zK (zR (zK (zK (wpAny_loadPart hx (zK ((looks_clsIn X hc).here ?_))))));refine zF hd' ?_;refine zR (a:=some dx) (zK (zR (zK ?_)));unfold nsSet;refine zK (zK (wpAny_askSetting (zR (zK (wpAny_mkText (zK (wpAny_loadPart D ?_)))))));unfold FC at hl
 split at hl
 ·rename_i es₀ n₀ q
  refine zF q ?_;dsimp only;have c:(!es₀.any (·.key.isStr name)&&es₀.any (·.refKey))=false:=by
   refine zF (AM GV)<|zF (AM GV) ?_
   split at hl
   ·rename_i en he
    refine zF (List.any_eq_true.mpr ⟨en,Cf he,D6 he⟩) ?_;rfl
   ·split at hl
    ·exact bG hl
    ·rename_i z;rw[Bool.not_eq_true] at z;exact zF z<|zF (CE _) rfl
  refine zF (aRefKeyMayBeTheName_at _ _)<|zF c ?_
  refine wpAny_updatePart D ?_;refine zK (wpAny_lookBehind D' (by refine zF e' ?_;exact pastItsLine_dict (by refine zF Bp<|zF sizeLine_eq ?_;omega)) ?_);exact zR (h _ (Ce ..) D')
 ·exact bG hl
end
end Mine
namespace Mine
variable {B:Bs}
section
variable {KF:Frag}{A:Av}{s:zL}{C x:Addr}
theorem iW {ox od od':Obj}{dx:Addr}{name:Str}{v:Value}{es:List DictEntry}{n:Nat}{E:VS}{Q:Unit->zL->Prop}(X:KF.In s.heap)
  (I:InstAt s.heap x ox C (some od)) (hs:Dr KF (.ref C) "__setattr__" = some (some (.builtin "object.__setattr__"))) (hd:ox.dict=some dx) (hp:plainOver KF C=true) (ht:takerIn KF C name=some none) (hh:(clsIn KF C).any (·.hasDict)=true)
  (hl:(FC name od).isSome=true) (D:s.heap.get? dx=some od)
  (e:Obj.putName name (CY B.w.params name) (.str name (s.toks+1)) v od=od') (e':od'.data=.dict es.toArray n) (hz:es.length<=1000)
  (h:∀h',Cm dx s.heap h'->h'.get? dx=some od'->Q () { s with heap:=h',toks:=s.toks+2 }):
  wpAny B.M A (setAttr (.ref x) name v) Q E s:=by
 refine zK (wpAny_mkText (zK (zK (zK (I.type.here (s:={ s with toks:=s.toks+1 }) ((looks_findIn X hs).here (s:={ s with toks:=s.toks+1 }) (BE (zK ?_))))))));refine zF (PySem.F.store_object.slot.bind _) ?_;refine zR (zK (C4 ?_));refine xY (B:=B) (s:={ s with toks:=s.toks+1 }) X I hd hp ht hh hl D e e' hz fun h' s1 s2=>?_;exact zR (zR (h h' s1 s2))
end
end Mine
namespace Mine
variable {B:Bs}
structure kF (B:Bs)(KF:Frag):Prop where
 z:kH B KF
 set:Dr KF (.ref B.C) "__setattr__" = some (some (.builtin "object.__setattr__"))
 taker:∀f,(f=19\/f=20\/f=21)\/f=22->takerIn KF B.C (B.nm f)=some none
 hasDict:(clsIn KF B.C).any (·.hasDict)=true
 keep:keepIn KF (.ref B.C)=true
structure jW (B:Bs)(KF:Frag) (slf:Nat)(fI:Addr)(fo:Obj)(fd:BD)(p1 p2 p3 p4:Pos):Prop where
 find:Dr KF (.ref B.C) "__init__" = some (some (.ref fI))
 nT:¬B.T fI
 at':B.h₀.get? fI=some fo
 data:fo.data=.func fd
 body:fd.body=.stmts [.Assign [.Attribute (.Name (B.nm slf) p1) (B.nm 19) p2] (.Name (B.nm 19) p3) p4]
 names:fd.scope.names=aL B.nm [(slf,.local),(19,.local)]
 kind:fd.scope.kind=.function
 gen:fd.scope.isGenerator=false
 co:fd.scope.isCoroutine=false
 glob:fd.globals=AE
 blt:fd.builtins=Bq
 clos:fd.closure=[]
 code:zE B fd
 bind:∀a b:Value,EE fd ⟨[a,b],[]⟩=pure [(B.nm slf,a),(B.nm 19,b)]
noncomputable abbrev d4 (P:DB)(ks vs:List Value) (n:Nat):Obj:={ cls:=.type "dict", dict:=none,data:=.dict (fF P ks vs).toArray n,slots:=#[] }
theorem dU {h:Heap}{x dx C:Addr}{od:Obj}(hx:h.get? x=some (Cj C dx))(hd:h.get? dx=some od):InstAt h x (Cj C dx) C (some od):=⟨hx,rfl,rfl,hd⟩
theorem ku {P:DB}{t nm:Str}{tk:Tok}{v:Value}{n:Nat}(e:(t==nm)=false):FC nm (d4 P [.str t tk] [v] n)=some none:=by
 have h:(fF P [.str t tk] [v]).toArray.toList.find? (·.key.isStr nm)=none:=EA.mpr fun x hx=>zF (zY.mp hx) fun q=>bG (e.symm.trans q);unfold FC;dsimp only[d4];refine zF h ?_
 rfl
section
variable (O:B.Ok)
include O
variable {KF:Frag}{A:Av}{s:zL}{W:AP}
theorem vS {P:DB}{x:Nat}{tk:Tok}{v:Value}:Obj.putName (B.nm x) (CY P (B.nm x)) (.str (B.nm x) tk) v emptyDict=d4 P [.str (B.nm x) tk] [v] 1:=rfl
theorem iE {P:DB}{x y:Nat}{tx ty:Tok}{v w:Value}{n:Nat}(h:x≠y):Obj.putName (B.nm y) (CY P (B.nm y)) (.str (B.nm y) ty) w (d4 P [.str (B.nm x) tx] [v] n)=d4 P [.str (B.nm x) tx,.str (B.nm y) ty] [v,w] (n+1):=by
 have e:(B.nm x==B.nm y)=false:=by
  rw[beq_eq_false_iff_ne];exact fun e=>h (O.inj _ _ e)
 refine zF Obj.putName_eq ?_;have h:(fF P [.str (B.nm x) tx] [v]).toArray.findIdx? (·.key.isStr (B.nm y))=none:=Array.findIdx?_eq_none_iff.mpr fun z hz=>zF (zY.mp (Array.mem_toList_iff.mpr hz)) e;unfold Obj.putNameByArray;dsimp only[d4];refine zF h ?_
 rfl
theorem sO {x:Nat}:(FC (B.nm x) emptyDict).isSome=true:=rfl
theorem gC {P:DB}{x y:Nat}{tx:Tok}{v:Value}{n:Nat}(h:x≠y):(FC (B.nm y) (d4 P [.str (B.nm x) tx] [v] n)).isSome=true:=by
 have e:(B.nm x==B.nm y)=false:=by
  rw[beq_eq_false_iff_ne];exact fun e=>h (O.inj _ _ e)
 exact zF (ku e) rfl
theorem yB {slf:Nat}{fI:Addr}{fo:Obj}{fd:BD}{p1 p2 p3 p4:Pos}(Z:kF B KF)(F:jW B KF slf fI fo fd p1 p2 p3 p4)(hne:slf≠19)(g:aJ B s)(R:aB A 4){x dx:Addr}{v:Value}{RR:CI->zL->Prop}
  (hx:s.heap.get? x=some (Cj B.C dx)) (hd:s.heap.get? dx=some emptyDict) (hT:¬B.T dx) (hTx:¬B.T x)
  (k:∀s' tk,ao B ⟨fun b=>b=dx,fun _=>False⟩ s s'->s'.heap.get? dx=some (d4 B.w.params [.str (B.nm 19) tk] [v] 1)->RR (.ok (.ret .none)) s'):
  BZ B.M A (.call (.ref fI) ⟨[.ref x,v],[]⟩) RR s:=by
 have ho:=g.base _ _ F.nT F.at';obtain⟨c,oc,vs,t,hc1,hc2,hc3,hc4,hc5⟩:=F.code;have hcd:s.heap.CodeRec fd.code fd.qualname:=⟨c,oc,vs,t,hc1,g.base _ _ hc2 hc3,hc4,hc5⟩;refine CH R.lim ho F.data F.co F.gen F.body hcd ?_;refine zF (F.bind _ _)<|zF F.glob<|zF F.clos<|zF F.blt ?_
 refine zR ?_;have nn:B.nm slf≠B.nm 19:=fun e=>hne (O.inj _ _ e);have hk1:fd.scope.names.lookup (B.nm slf)=some .local:=by refine zF F.names<|zF (cX O _ _) ?_;simp
 have hk2:fd.scope.names.lookup (B.nm 19)=some .local:=by refine zF F.names<|zF (cX O _ _) ?_;simp[z5,show(19==slf)=false by simpa using hne.symm]
 refine wpAny_newFunctionEnv (fun y hy=>?_) (fun y hy=>?_) (fun h1 n1 sb=>?_) F.kind
 ·rw[F.names] at hy
  simp only[aL,z8,CL,Ab,Dc,or_false] at hy;rcases hy with rfl|rfl<;>simp
 ·simp only[Ab,Dc,or_false] at hy
  rcases hy with rfl|rfl
  ·exact hk1
  ·exact hk2
 ·have e1:az B s { s with heap:=h1,toks:=s.toks+2 }:=az.heap O _ (fun b o e=>sb.extBut b o (fun q=>absurd (Al e) (by refine zF q ?_;exact zJ _)) (z9 _ e)) (by refine zF sb.1<|zF (Aq _ _) ?_;lia)
  refine⟨aJ.lim O (g.move e1),Eg ?_⟩;have X1:=Z.z.here (g.move e1);have hx1:=e1.keep x _ hTx hx;have hd1:=e1.keep dx _ hT hd;refine zZ (Dm (Aw (Af F.kind hk2 n1 (v:=v) (by simp[z5]) ?_) (O.dbg 19)));refine Aw (Af F.kind hk1 n1 (v:=.ref x) (by simp[z5,show(B.nm slf==B.nm 19)=false from beq_eq_false_iff_ne.mpr nn]) ?_) (O.dbg slf);refine iW (B:=B) X1 (dU hx1 hd1) Z.set rfl Z.z.plain (Z.taker 19 (.inl (.inl rfl))) Z.hasDict (sO O) hd1 (vS O) rfl (by simp[fF]) fun h2 sb2 g2=>?_;refine BF ?_;refine k _ _ ?_ g2;exact(e1.toP _).trans (cg O hT (fun o e n=>by obtain rfl:=zG (hd1.symm.trans e);exact kT (es:=#[]) rfl (by simp) (fun x h=>nomatch (show x∈([]:List DictEntry) from h)) n) sb2) (fun b q=>.inl q) fun i q=>q.elim
theorem aB.make {k:Nat}{args:Args}(R:aB A (k+2)):aB (A.under (.builtin "type.__call__" args)) k:=by
 have hf:(CM "type.__call__" args).frames<=1:=by
  have:(CM "type.__call__" args).frames=if(CM "type.__call__" args).isFrame then 1 else 0:=rfl
  refine zF this ?_;split<;>lia
 have hw:(CM "type.__call__" args).weight<=2:=by
  have h1:(CM "type.__call__" args).isGuard=false:=by rfl
  have h2:(CM "type.__call__" args).isCaller=false:=by rfl
  unfold Code.weight;refine zF h1<|zF h2 ?_
  simp only[AK,if_false]
  split<;>lia
 have hu:(CM "type.__call__" args).cUnits<=6:=by
  show 1+3 * (CM "type.__call__" args).frames<=6
  lia
 exact⟨R.handled,by have:=R.depth;show A.depth+_+k < 950;lia,by have:=R.units;show A.units+_+3 * k+300 < cLine;lia⟩
theorem jJ {slf:Nat}{fI:Addr}{fo:Obj}{fd:BD}{p1 p2 p3 p4:Pos}(Z:kF B KF)(F:jW B KF slf fI fo fd p1 p2 p3 p4)(hne:slf≠19)(g:aJ B s)(R:aB A 6){v:Value}{RR:CI->zL->Prop}
  (k:∀s' x dx tk,az B s s'->s.heap.objs.size<=x->s.heap.objs.size<=dx->s'.heap.get? x=some (Cj B.C dx)->s'.heap.get? dx=some (d4 B.w.params [.str (B.nm 19) tk] [v] 1)->RR (.ok (.ret (.ref x))) s'):
  BZ B.M A (.call (.ref B.C) ⟨[v],[]⟩) RR s:=by
 refine sL Z.z g fun f hf=>?_;replace hf:=F.find▸hf
 cases hf
 have hn:∀b,s.heap.objs.size<=b->¬B.T b:=fun b hb t=>(g.hi hb).2 t;have e1:az B s { s with heap:=(s.heap.push emptyDict).push (Cj B.C s.heap.objs.size),toks:=s.toks }:=az.heap O _ (fun b o e=>z9 _ (z9 _ e)) (by simp only[Aq];lia);have hx:((s.heap.push emptyDict).push (Cj B.C s.heap.objs.size)).get? (s.heap.objs.size+1)=some (Cj B.C s.heap.objs.size):=by heap_get
 have hd:((s.heap.push emptyDict).push (Cj B.C s.heap.objs.size)).get? s.heap.objs.size=some emptyDict:=by heap_get
 refine yB O Z F hne (g.move e1) (aB.make O R) hx hd (hn _ (zW _)) (hn _ (CZ _)) fun s2 tk e2 g2=>?_;refine⟨rfl,?_⟩;refine k s2 (s.heap.objs.size+1) s.heap.objs.size tk (ao.toEff e1 e2 (fun b q=>by refine zF q ?_;exact zW _) fun i q=>q.elim) (CZ _) (zW _) ?_ g2;exact e2.keep _ _ (hn _ (CZ _)) (fun q=>by simp at q) hx
end
end Mine
namespace Mine
variable {B:Bs}
section
variable (O:B.Ok)
include O
variable {KF:Frag}{Γ:ah}{ρ:ac}{Wc W:AP}{pe:Env}{A:Av}{s:zL}{K:Nat}{Φ:bq}
theorem cP.ns {h:Heap}{x:Nat}{v:Value}(hk:pe.kindOf (B.nm x)=some .local)(l:cP B pe h x v):∃m,h.Ns pe.locals m/\m (B.nm x)=some v:=by
 rcases l with⟨k,m,n,q⟩|⟨k,J⟩
 ·exact⟨m,n,q⟩
 ·rw[hk] at k;rcases k with k|k<;>exact nomatch k
theorem sj {slf:Nat}{fI:Addr}{fo:Obj}{fd:BD}{p1 p2 p3 p4:Pos}(Z:kF B KF)(F:jW B KF slf fI fo fd p1 p2 p3 p4)(hne:slf≠19)(hK:20<=K){x t f:Nat}{e:E}{d1 d2:D}{q1 q2 q3 q4 q5 q6 q7 q8 q9 q10:Pos}
  (hC:B.mg (B.nm 23)=some (.ref B.C)) (k23:Γ 23=some .globalImplicit) (kx:Γ x=some .local) (kt:Γ t=some .local) (hxt:x≠t) (ht:ρ t=some (.fz d2)) (hf:f=20\/f=21) (he:aW B K Φ e) (hev:ev Φ Γ ρ e=some (.d d1)):
  qd B K Γ ρ [.Assign [.Name (B.nm x) q1] (.Call (.Name (B.nm 23) q2) [e.py B.nm] [] q3) q4,.Assign [.Attribute (.Name (B.nm x) q5) (B.nm f) q6] (.Name (B.nm t) q7) q8,.Return (some (.Name (B.nm x) q9)) q10] (.thing [19,f] [d1,d2]):=by
 intro Wc W pe A s Q E X R k;have hf19:(19:Nat)≠f:=by rcases hf with rfl|rfl<;>decide
 have kx':=(X.kinds x _ kx).1;have kt':=(X.kinds t _ kt).1;have nxt:(B.nm t=B.nm x)=False:=by
  simp only[eq_iff_iff,iff_false];exact fun e=>hxt (O.inj _ _ e).symm
 refine zZ (AU (Bc (mt O X k23 hC ?_)) rfl);refine callWith_K (Z.z.here X.good) Z.keep ?_ (aA _ _ _ _) rfl;refine zF (show D2 q3 (B8 [e.py B.nm] pe)=[(false,eval (e.py B.nm) pe)] from(bO O B.nm q3 pe [e]).trans (by refine zF aU<|zF (aA _ _ _ _) ?_;rfl)) ?_;refine AJ (ci O he hev rfl X R fun v s1 e1 X1 r1=>Bn ⟨Z.z.here X1.good,?_⟩);refine C4 (jJ O Z F hne X1.good (R.less (by lia)) fun s2 xx dx tk e2 hx hdx gx gd=>?_);have X2:=X1.move O e2;refine am (X1.vars t _ ht) fun w lw rw1=>?_;refine am (cP.ns O kt' lw) fun m1 n1 hm1=>?_;have LT:¬B.T pe.locals:=fun q=>X.locW.2 (X.tW _ q);have n2:=BO.moved n1 fun o y=>e2.keep _ _ LT y;have hL:pe.locals < s1.heap.objs.size:=X1.wlt _ X1.locW.1;have nl:∀b,s1.heap.objs.size<=b->b≠pe.locals:=fun b hb q=>zJ _ (zI hL (q▸hb));have new:∀b,s1.heap.objs.size<=b->¬B.T b:=fun b hb t=>(X1.good.hi hb).2 t;refine CF kx' n2 (fun h3 n3 sb3=>?_) (by simp[X.fn]);have e3:ao B (d3 W Wc) s2 { s2 with heap:=h3,toks:=s2.toks+1 }:=(cg O LT (let ⟨_,a,z⟩:=X2.loc;hV a z) sb3).mono (fun b q=>q▸X.locW) fun i q=>q;have gx3:h3.get? xx=some (Cj B.C dx):=sb3.extBut _ _ (nl _ hx) gx;have gd3:h3.get? dx=some (d4 B.w.params [.str (B.nm 19) tk] [v] 1):=sb3.extBut _ _ (nl _ hdx) gd;refine zZ (Dm (Aw (Af X.fn kt' n3 (v:=w) (by simp only[nxt,if_false];exact hm1) ?_) (O.dbg t)) rfl);refine Aw (Af X.fn kx' n3 (v:=.ref xx) (by simp) ?_) (O.dbg x);refine iW (B:=B) (Z.z.here (aJ.own O X2.good X2.ow e3)) (dU gx3 gd3) Z.set rfl Z.z.plain (Z.taker f (by rcases hf with rfl|rfl<;>simp)) Z.hasDict (gC O hf19) gd3 (iE O hf19) rfl (by simp[fF]) fun h4 sb4 g4=>?_;have n4:h4.Ns pe.locals _:=BO.moved n3 fun o y=>sb4.extBut _ _ (nl _ hdx).symm y;refine zZ (CK (Aw (Af X.fn kx' n4 (v:=.ref xx) (by simp) ?_) (O.dbg x)))
 have e4:ao B ⟨fun b=>b=dx,fun _=>False⟩ { s2 with heap:=h3,toks:=s2.toks+1 } { s2 with heap:=h4,toks:=s2.toks+1+2 }:=cg (s:={ s2 with heap:=h3,toks:=s2.toks+1 }) O (new _ hdx) (fun o e=>by
  obtain rfl:=zG (gd3.symm.trans e);exact kT (es:=(fF B.w.params [.str (B.nm 19) tk] [v]).toArray) rfl (fun(q:Value.type "dict" = Value.type "code")=>nomatch q) fun e he=>by
   obtain rfl:=zY.mp (show e∈[_] from he)
   exact beq_eq_false_iff_ne.mpr (O.nA 19)) sb4
 have e13:ao B (d3 W Wc) s1 { s2 with heap:=h3,toks:=s2.toks+1 }:=(e2.toP _).trans e3 (fun b q=>.inl q) fun i q=>q.elim;have e14:ao B (d3 W Wc) s1 { s2 with heap:=h4,toks:=s2.toks+1+2 }:=e13.trans e4 (fun b q=>.inr (by refine zF q ?_;exact hdx)) fun i q=>q.elim;refine k _ _ ((e1.toP _).trans e14 (fun b q=>.inl q) fun i q=>q.elim) ?_;have mv:∀d v,av B s1.heap W d v->av B h4 Wc d v:=fun d v r=>av.move O (e14.kW X.tW' fun b q=>q.1) (fun b q=>.inl (X.cW b q)) d v r;simp only[av];have low:∀b,s1.heap.objs.size<=b->¬Wc b:=fun b hb q=>zJ _ (zI (X1.wlt _ (X.cW _ q)) hb)
 exact⟨xx,dx,_,[tk,_],[v,w],rfl,low _ hx,sb4.extBut _ _ (by
  intro q;rw[q,gd3] at gx3
  exact nomatch gx3) gx3,low _ hdx,g4,rfl,rfl,aa.cons (mv _ _ r1) (aa.cons (mv _ _ rw1) aa.nil)⟩
end
end Mine
section
open PySem PySem.W PySem.W.X PySem.Calls PyProof.Rows
namespace Mine
variable {B:Bs}{K:Nat}
structure gR (B:Bs)(F:AP)(p:Pv)(s s':zL):Prop where
 keep:∀b o,¬B.T b->(F b\/p.a b)->s.heap.get? b=some o->s'.heap.get? b=some o
 ck:∀b o,B.KO o->s.heap.get? b=some o->s'.heap.get? b=some o
 size:s.heap.objs.size<=s'.heap.objs.size
 gens:∀(i:Nat) (x:Dx),p.g i->s.gens[i]?=some x->s'.gens[i]?=some x
structure mW (B:Bs)(F:AP)(p:Pv)(s:zL):Prop where
 a:∀b,p.a b->¬F b/\¬B.T b/\b < s.heap.objs.size
 g:∀i,p.g i->i < s.gens.size
 f:∀b,F b->¬B.T b
theorem gR.trans {F:AP}{p:Pv}{s s' s'':zL}(x:gR B F p s s')(y:gR B F p s' s''):gR B F p s s'':=
 ⟨fun b o t q e=>y.keep b o t q (x.keep b o t q e),fun b o c e=>y.ck b o c (x.ck b o c e),zH x.size y.size,fun i z q e=>y.gens i z q (x.gens i z q e)⟩
inductive GMore (B:Bs) (K:Nat)(F:AP)(d:D)(P:Pv->zL->End->zL->Prop)(p:Pv)(s:zL)(e:End)(s':zL):Prop
 |mk (v:Value) (l':_) (k:_) (c:Code) (q:_) (fs:List Frame) (p':Pv) (ee:e=.susp v false l' k c q fs) (gd:fs.any Di=false) (ef:ao B p s s') (h1:∀b,p.a b->p'.a b) (h2:∀b,p'.a b->p.a b\/s.heap.objs.size<=b) (h3:p'.g=p.g)
   (r:av B s'.heap (fun b=>¬F b) d v) (st:mW B F p' s') (sg:∀A s2,gR B F p' s' s2->aJ B s2->aB A K->SegX B.M A c (k (.send .none)) fs s2 (P p' s2))
noncomputable def kG (B:Bs) (K:Nat)(F:AP):List D->Pv->zL->End->zL->Prop
 |[],p,s,e,s'=>e=.ret (.ok (.ret .none))/\ao B p s s'
 |d::l,p,s,e,s'=>GMore B K F d (kG B K F l) p s e s'
inductive GEx (B:Bs) (K:Nat)(F:AP)(it:Addr)(l:List D)(p:Pv)(s:zL):Prop
 |mk (p₀:Pv) (g:Nat) (gs:Dx) (c:Code) (t:Sem Bt) (fs:List Frame) (e:p=⟨fun b=>p₀.a b\/b=it,fun i=>p₀.g i\/i=g⟩) (ig:s.heap.IsGen it g) (hg:s.gens[g]?=some gs) (st:mW B F p₀ s) (na:¬p₀.a it) (ng:¬p₀.g g)
   (lv:(gs=.fresh c/\t=GH table c/\fs=[])\/(∃k l₀ q cl,gs=.suspended k l₀ c q fs cl/\t=k (.send .none)))
   (sg:∀A s2,gR B F p₀ s s2->aJ B s2->aB A K->SegX B.M A c t fs s2 (kG B K F l p₀ s2))
structure GI (B:Bs) (K:Nat)(F:AP)(it:Addr)(l:List D)(p:Pv)(s:zL):Prop where
 ex:GEx B K F it l p s
 low:¬F it/\¬B.T it/\it < s.heap.objs.size
theorem mW.stay {F:AP}{p:Pv}{s s':zL}(x:mW B F p s)(y:s.heap.objs.size<=s'.heap.objs.size)(z:s.gens.size<=s'.gens.size):mW B F p s':=
 ⟨fun b q=>⟨(x.a b q).1,(x.a b q).2.1,zI (x.a b q).2.2 y⟩,fun i q=>zI (x.g i q) z,x.f⟩
section
variable (O:B.Ok)
include O
omit O in
theorem l4 {s:zL}{n i:Nat}{g:Dx}{x:Dx}(hne:i≠n)(e:s.gens[i]?=some x):(s.setGen n g).gens[i]?=some x:=by
 show(s.gens.setIfInBounds n g)[i]?=some x;refine zF (EP (Et hne)) ?_;exact e
omit O in
theorem l5 {p₀:Pv}{it:Addr}{n:Nat}(s:zL)(g:Dx)(hb:g.bare=true):ao B ⟨fun b=>p₀.a b\/b=it,fun i=>p₀.g i\/i=n⟩ s (s.setGen n g):=
 ⟨fun J J J J e=>e,fun J J J e=>e,zW _,id,fun i x q e=>l4 (fun z=>q (.inr z)) e,by show _<=(s.gens.setIfInBounds n g).size;simp,fun hb' x hx=>(Array.mem_or_eq_of_mem_setIfInBounds hx).elim (hb' x) fun h=>h▸hb,rfl⟩
omit O in
theorem st_room {b:GenStatus}(hb:b=.fresh\/b=.suspended){α:Type}{k:PUnit->Sem α}{A:Av}{E:VS}{Q:α->zL->Prop}{s:zL}(h:wpAny B.M A (roomToWake >>= k) Q E s):
  wpAny B.M A (match b with|.fresh=>roomToWake >>= k|.suspended=>roomToWake >>= k|_=>k ⟨⟩) Q E s:=by rcases hb with rfl|rfl<;>exact h
omit O in
theorem sE {it:Addr}{n:Nat}{gs:Dx}{s:zL}{A:Av}{E:VS}{Q:Option Value->zL->Prop}(hg:s.heap.IsGen it n)(hgs:s.gens[n]?=some gs)(hb:gs.status=.fresh\/gs.status=.suspended)(lim:s.heap.NoLimit)(hroom:A.depth < recursionLimit)(hh:A.handled=none)
  (h:∀(kk:GenResult->Sem Bt) (Q':Bt->zL->Prop) (E':VS),(∀v s',Q (some v) s'->wpAny B.M A.in1 (kk (.yielded v)) Q' E' s')->
   (∀s',(∀h' tk,(∀b o,s'.heap.get? b=some o->h'.get? b=some o)->s'.heap.objs.size<=h'.objs.size->Q none { s' with heap:=h',toks:=tk })->wpAny B.M A.in1 (kk (.returned .none)) Q' E' s')->wpAny B.M A.in1 (.resume n (.send .none) [] kk) Q' E' s):wpAny B.M A (Do (.ref it)) Q E s:=by
 unfold Do
 refine zK (Ge (Gs (name:=Str.ofString "__next__") hg.typeIs slot_gen_next
  (FA slot_gen_next hg.typeIs entry_gen_next ?_ (args_gen_next _))))
 show wpAny _ A.in1 (Ed (.ref it) (.send .none)) _ _ s;unfold Ed;refine zK (BE (wpAny_genNumber hg (zK (wpAny_genState hgs ?_))));refine st_room hb (zK (wpAny_roomToWake lim hroom ?_));refine h _ _ _ (fun v s' q=>zR ⟨v,rfl,zR q⟩) fun s' q=>?_;show wpAny _ A.in1 (newExc (.type "StopIteration") [] >>= _) _ _ _
 refine zK ?_;simp only[newExc,newTuple];refine zK (Bz ?_ (by size_fits));refine zK (m:=firstArgMember _ _) (EB (a:=Value.none) (by first|rfl|(simp only[firstArgMember];rfl)) ?_);refine Bz ?_ (by size_fits);simp only[raiseNew];refine zK (zK (wpAny_handled ?_))
 first|refine zF (show A.in1.handled=none from hh) ?_|rw[hh]
 refine wpAny_throw ?_;refine zK (wpAny_isInstance (T := "StopIteration") (b:=true) ⟨_,Aj _ rfl,rfl⟩ isSubtype_stop ?_)
 exact zR (q _ _ (fun b o e=>z9 _ (z9 _ e)) (by simp only[Aq];lia))
theorem rh {F:AP}{it:Addr}{l:List D}{p:Pv}{s:zL}{A:Av}{E:VS}{Q:Option Value->zL->Prop}(h:GI B K F it l p s)(g:aJ B s)(R:aB A (K+1))
  (k:match l with
   |[]=>∀s',ao B p s s'->Q none s'
   |d::l=>∀v s' p',ao B p s s'->(∀b,p.a b->p'.a b)->(∀b,p'.a b->p.a b\/s.heap.objs.size<=b)->p'.g=p.g->av B s'.heap (fun b=>¬F b) d v->GI B K F it l p' s'->Q (some v) s'):
  wpAny B.M A (Do (.ref it)) Q E s:=by
 obtain⟨⟨p₀,n,gs,c,t,fs,rfl,hg,hgs,hst,hnit,hng,hlive,hseg⟩,hlow⟩:=h;have hnlt:n < s.gens.size:=(BA.mp hgs).1;have lim:=aJ.lim O g;have stay:gR B F p₀ s (s.setGen n .running):=⟨fun J J J J e=>e,fun J J J e=>e,zW _,fun i x q e=>l4 (fun z=>hng (z▸q)) e⟩;have run:=hseg A.in1 (s.setGen n .running) stay ⟨g.base,g.size,g.ti,g.tlt⟩ R.in1;have e0:ao B ⟨fun b=>p₀.a b\/b=it,fun i=>p₀.g i\/i=n⟩ s (s.setGen n .running):=l5 s _ rfl;have setE:∀(s₁:zL) (gs':Dx),gs'.bare=true->ao B ⟨fun b=>p₀.a b\/b=it,fun i=>p₀.g i\/i=n⟩ s₁ (s₁.setGen n gs'):=l5;have up:∀{s₁:zL},ao B p₀ (s.setGen n .running) s₁->ao B ⟨fun b=>p₀.a b\/b=it,fun i=>p₀.g i\/i=n⟩ s s₁:=fun e=>e0.trans (e.mono (p':=⟨fun b=>p₀.a b\/b=it,fun i=>p₀.g i\/i=n⟩) (fun b q=>.inl q) fun i q=>.inl q) (fun b q=>.inl q) fun i q=>.inl q;have wake:∀{α:Type}{kk:GenResult->Sem α}{Q':α->zL->Prop}{E':VS},(∀e s₁,kG B K F l p₀ (s.setGen n .running) e s₁->wpAny B.M A.in1 (kk e.result) Q' E' (s₁.setGen n e.genState))->wpAny B.M A.in1 (.resume n (.send .none) [] kk) Q' E' s:=by
  intro α kk Q' E' hk Γ p hΓ;refine wake_any α B.prog B.w hgs ?_ (fun Γ=>Γ.In A.in1) (fun J h=>h) (run.mono fun e s₁ he Γ p hΓ=>hk e s₁ he Γ p hΓ) Γ p hΓ;rcases hlive with⟨h1,h2,h3⟩|⟨k',l₀,q,cl,h1,h2⟩
  ·exact .inl ⟨h1,rfl,h2,h3⟩
  ·exact .inr ⟨k',l₀,q,cl,h1,h2⟩
 have hroom:A.depth < recursionLimit:=aB.lim (k:=K) ⟨R.handled,by have:=R.depth;lia,by have:=R.units;lia⟩;have hb:gs.status=.fresh\/gs.status=.suspended:=by
  rcases hlive with⟨h,J⟩|⟨J,J,J,J,h,J⟩<;>refine zF h ?_
  ·exact .inl rfl
  ·exact .inr rfl
 refine sE hg hgs hb lim hroom R.handled fun kk Q' E' ky kr=>wake fun e s₁ he=>?_
 cases l with
 |nil=>
  refine aS he fun e91=>?_;subst e91;intro ee;exact kr _ fun h' tk hk hs=>k _ (((up ee).trans (setE s₁ _ rfl) (fun b q=>.inl q) fun i q=>.inl q).trans (az.toP (az.heap O _ hk hs) _) (fun b q=>.inl q) fun i q=>.inl q)
 |cons d l=>
  obtain⟨v,l',k',c',q,fs',p',rfl,hgd,ee,h1,h2,h3,h4,h5,h6⟩:=he;have hbare:(End.susp v false l' k' c' q fs').genState.bare=true:=by
   show(!(false||fs'.any Di))=true;refine zF hgd ?_;rfl
  have hE:=(up ee).trans (setE s₁ _ hbare) (fun b q=>.inl q) fun i q=>.inl q;have hn1:n < s₁.gens.size:=zI hnlt (up ee).gsize;refine ky v _ (k v _ ⟨fun b=>p'.a b\/b=it,fun i=>p'.g i\/i=n⟩ hE (fun b q=>q.imp (h1 b) id) (fun b q=>?_) ?_ h4 ?_)
  ·rcases q with q|q
   ·exact(h2 b q).imp .inl id
   ·exact .inl (.inr q)
  ·simp only[h3]
  ·have hit:s₁.heap.IsGen it n:=by
    refine x31 hg fun o nm qn ho r=>?_;exact⟨o,nm,qn,ee.keep _ _ hlow.2.1 hnit ho,r⟩
   refine⟨⟨p',n,(End.susp v false l' k' c' q fs').genState,c',_,fs',rfl,hit,?_,?_,fun w=>(h2 it w).elim hnit fun z=>zJ _ (zI hlow.2.2 z),by refine zF h3 ?_;exact hng,.inr ⟨k',l',q,(false||fs'.any Di),rfl,rfl⟩,fun A s2 hs hg2 R2=>h6 A s2 ⟨hs.keep,hs.ck,hs.size,fun i x q e=>hs.gens i x q ?_⟩ hg2 R2⟩,hlow.1,hlow.2.1,?_⟩
   ·show(s₁.gens.setIfInBounds n _)[n]?=_
    exact zF (Array.getElem?_setIfInBounds_self_of_lt hn1) rfl
   ·exact h5.stay (zW _) (by show _<=(s₁.gens.setIfInBounds n _).size;simp)
   ·have hne:i≠n:=fun z=>hng (by refine zF (AM h3) ?_;exact z▸q)
    show(s₁.gens.setIfInBounds n _)[i]?=some x;refine zF (EP (Et hne)) ?_;exact e
   ·exact zI hlow.2.2 (up ee).size
theorem sY {F:AP}{it:Addr}:be B (K+5) F it (GI B K F it) where
 sub:=fun l p s h b hb=>by
  obtain⟨⟨p₀,n,gs,c,t,fs,rfl,hg,hgs,hst,J⟩,hlow⟩:=h;rcases hb with hb|rfl
  ·exact hst.a b hb
  ·exact hlow
 subg:=fun l p s h i hi=>by
  obtain⟨⟨p₀,n,gs,c,t,fs,rfl,hg,hgs,hst,J⟩,hlow⟩:=h;rcases hi with hi|rfl
  ·exact hst.g i hi
  ·exact(BA.mp hgs).1
 ft:=fun l p s h=>by
  obtain⟨⟨p₀,n,gs,c,t,fs,rfl,hg,hgs,hst,J⟩,hlow⟩:=h;exact hst.f
 stay:=fun l p s s' h k ck hs kg g=>by
  obtain⟨⟨p₀,n,gs,c,t,fs,rfl,hg,hgs,hst,h1,h2,h3,h4⟩,hlow⟩:=h;have hg':s'.heap.IsGen it n:=by
   refine x31 hg fun o nm qn ho r=>?_;exact⟨o,nm,qn,k _ _ hlow.2.1 (.inr (.inr rfl)) ho,r⟩
  refine⟨⟨p₀,n,gs,c,t,fs,rfl,hg',kg n _ (.inr rfl) hgs,⟨fun b q=>⟨(hst.a b q).1,(hst.a b q).2.1,zI (hst.a b q).2.2 hs⟩,fun i q=>?_,hst.f⟩,h1,h2,h3,fun A s2 st g2 R2=>h4 A s2 ?_ g2 R2⟩,hlow.1,hlow.2.1,zI hlow.2.2 hs⟩
  ·have:=hst.g i q
   have h5:=kg i s.gens[i] (.inl q) (by simp[this]);exact(BA.mp h5).1
  ·exact gR.trans ⟨fun b o t q e=>k b o t (q.imp_right .inl) e,ck,hs,fun i x q e=>kg i x (.inl q) e⟩ st
 next:=fun d l p s A E Q h g R k=>rh O h g R k
 done:=fun p s A E Q h g R k=>rh O h g R k
 self:=fun l p s A E Q h g R k=>by
  obtain⟨⟨p₀,n,gs,c,t,fs,rfl,hg,J⟩,hlow⟩:=h;exact wpAny_pyIter_gen hg k
end
end Mine
end
section
open PySem PySem.W PySem.W.X PySem.Calls PyProof.Rows
namespace Mine
variable {B:Bs}{A:Av}{c:Code}{fs:List Frame}{s:zL}{env:Env}{P:End->zL->Prop}{K:Flow->Sem Bt}{H:Value->Sem Bt}{gd:Bool->Bool}{lv:List Value->List Value}
theorem oX {α:Type}{m:Sem α}{K:α->Sem Bt}{H:Value->Sem Bt}(h:wpAny B.M (A.over c fs) m (fun a s'=>SegX B.M A c (K a) fs s' P) (fun x s'=>SegX B.M A c (H x) fs s' P) s):SegX B.M A c (m.wrap K H gd lv) fs s P:=by
 rintro Γ p rfl hΓ;refine vw (runs_wrap_of_wp (Φ:=fun e s'=>e.quiet=true/\P e s') K H gd lv m (h (Γ.over fs) p (hΓ.over fs)) (fun a p' s' h'=>h' Γ p' rfl hΓ) (fun x p' s' h'=>h' Γ p' rfl hΓ)) fun e s' hr hq=>?_;exact⟨e,s',hr,hq⟩
theorem cA {α:Type}{m:Sem α}{K:α->Sem Bt}{H:Value->Sem Bt}(h:wpAny B.M (A.over c fs) m (fun a s'=>SegX B.M A c (K a) fs s' P) hY s):SegX B.M A c (m.wrap K H gd lv) fs s P:=
 oX (Ak h (fun J J x=>x) fun J J f=>f.elim)
theorem lV {p':Pos}{k:Unit->Sem Bt}(h:SegX B.M A c (k ()) fs s P):SegX B.M A c (.at p' k) fs s P:=
 oX (m:=DH p') (K:=k) (H:=.raise) (gd:=id) (lv:=id) (AS h)
theorem xd {l:List Value}{k:Unit->Sem Bt}(h:SegX B.M A c (k ()) fs s P):SegX B.M A c (.point l k) fs s P:=
 oX (m:=point) (K:=k) (H:=.raise) (gd:=id) (lv:=fun J=>l) (wpAny_point h)
theorem sx_call {c':Code}{hd:Option Value}{g:Bool}{l:List Value}{k:CI->Sem Bt}(x:∀p,SegX B.M A c' (GH table c') (.ret k hd g l c p []::fs) s P):SegX B.M A c (.call c' hd g l k) fs s P:=
 s_call B.prog B.w A c fs P s c' hd g l k x
theorem fM (h:SegX B.M A c (K .next) fs s P):SegX B.M A c ((execs [] env).wrap K H gd lv) fs s P:=h
theorem hH {st:Stmt}{rest:List Stmt}(h:SegX B.M A c ((exec st env).wrap (fun f=>match f with|.next=>(execs rest env).wrap K H gd lv|f=>K f) H gd lv) fs s P):
  SegX B.M A c ((execs (st::rest) env).wrap K H gd lv) fs s P:=by refine zF (execs_cons_wrap _ _) ?_;exact h
theorem xc {e:Expr}{ypos pos:Pos}(hfs:splitAtGen fs=none)(hgd:gd false=false)(hfg:fs.any Di=false)
  (h:wpAny B.M (A.over c fs) (eval e env) (fun v s'=>∀l k q,k (.send .none)=K .next->P (.susp v false l k c q fs) s') hY s) (hco:env.scope.isCoroutine=false) (hi:DW env=false):
  SegX B.M A c ((exec (.Expr (.Yield (some e) ypos) pos) env).wrap K H gd lv) fs s P:=by
 rw[exec_Expr env _ pos hi rfl]
 show SegX B.M A c (.at pos fun J=>((eval e env >>= fun v=>(DH ypos >>= fun J=>yieldOut env v)) >>= fun x=>
  dropValue (.Yield (some e) ypos) pos x).wrap K H gd lv) fs s P
 have hy:∀v,yieldOut env v=yieldValue v:=fun v=>by simp only[yieldOut,hco,AK,if_false]
 simp only[hy];refine lV ?_;refine zF (Bx _ _)<|zF (Bx _ _)<|zF (BS _ _ _ _ _ _ _ _ _)<|zF (BS _ _ _ _ _ _ _ _ _) ?_
 refine cA (Ak h (fun v s' h'=>?_) fun J J x=>x);refine lV ?_;show SegX B.M A c (.yield v (gd false) _ _) fs s' P;refine zF hgd ?_;exact s_yield B.prog B.w A c fs P s' v _ _ hfs hfg fun p=>h' _ _ _ rfl
theorem sx_For {target iter:Expr}{body orelse:List Stmt}{pos:Pos}(h:wpAny B.M (A.over c fs) (eval iter env) (fun x s₁=>wpAny B.M (A.over c fs) (FB x) (fun it s₂=>∀k l p,(∀f,k (.ok f)=K f)->
   SegX B.M A (.forLoop target it body orelse env) (GH table (.forLoop target it body orelse env)) (.ret k none (gd false) l c p []::fs) s₂ P) hY s₁) hY s)
  (hs:∀x,DY iter env x=pure x):SegX B.M A c ((exec (.For target iter body orelse pos) env).wrap K H gd lv) fs s P:=by
 refine zF (exec_For _ _ _ _ _) ?_;refine lV ?_;show SegX B.M A c (FE K H gd lv (eval iter env >>= fun x=>DY iter env x >>= fun x=>DH iter.pos >>= fun J=>GG [x] (FB x) >>= fun it=>runOwn (.forLoop target it body orelse env) env)) fs s P;refine zF (Bx _ _)<|zF (BS _ _ _ _ _ _ _ _ _) ?_
 refine cA (Ak h (fun x s₁ h₁=>?_) fun J J f=>f);refine zF (hs x) ?_;refine lV ?_;show SegX B.M A c (FE K H gd lv (GG [x] (FB x) >>= fun it=>runOwn (.forLoop target it body orelse env) env)) fs s₁ P;refine zF (Bx _ _)<|zF (BS _ _ _ _ _ _ _ _ _) ?_
 refine cA (BE (Ak h₁ (fun it s₂ h₂=>?_) fun J J f=>f));exact sx_call fun p=>h₂ _ _ p fun f=>rfl
theorem tS {target:Expr}{it:Value}{body:List Stmt}(h:wpAny B.M (A.over (.forLoop target it body [] env) fs) (Do it) (fun r s₁=>match r with
   |none=>SegX B.M A (.block [] env) (leafOf (.ok .next)) fs s₁ P
   |some v=>wpAny B.M (A.over (.forLoop target it body [] env) fs) (Cq target it v) (fun J s₂=>wpAny B.M (A.over (.forLoop target it body [] env) fs) (Ct target env v) (fun J s₃=>
     ∀(KK:Flow->Sem Bt) (HH:Value->Sem Bt),KK .next=.pure (.again (.forLoop target it body [] env))->SegX B.M A (.forLoop target it body [] env) ((execs body env).wrap KK HH id id) fs s₃ P) hY s₂) hY s₁) hY s):
  SegX B.M A (.forLoop target it body [] env) (GH table (.forLoop target it body [] env)) fs s P:=by
 show SegX _ A _ ((DX target it body [] env).onRaise (fun x=>do Dq x env;Cp x)) fs s P;unfold DX;refine zF (Gy _ _) ?_;refine lV ?_
 show SegX B.M A _ (FE Sem.pure (fun e=>(do Dq e env;Cp e:Sem Unit).bind fun J=>Sem.raise e) id id ((Do it).onRaise (fun J=>DH { target.pos with line:=0 }) >>= fun r=>match r with
  |none=>again (.block [] env)
  |some v=>Cq target it v >>= fun J=>Ct target env v >>= fun J=>execs body env >>= fun f=>match f with
   |.next=>again (.forLoop target it body [] env)
   |.cont=>again (.forLoop target it body [] env)
   |.brk=>pure (.done .next)
   |.ret v=>pure (.done (.ret v)))) fs s P
 refine zF (Bx _ _)<|zF (BS _ _ _ _ _ _ _ _ _) ?_
 refine cA (D0 (Ak h (fun r s₁ h₁=>?_) fun J J f=>f.elim))
 cases r with
 |none=>
  refine s_again B.prog B.w A _ fs P s₁ (.block [] env) rfl ?_;exact h₁
 |some v=>
  dsimp only;refine zF (Bx _ _)<|zF (BS _ _ _ _ _ _ _ _ _) ?_
  refine cA (Ak h₁ (fun J s₂ h₂=>?_) fun J J f=>f);refine zF (Bx _ _)<|zF (BS _ _ _ _ _ _ _ _ _) ?_
  refine cA (Ak h₂ (fun J s₃ h₃=>?_) fun J J f=>f);refine zF (Bx _ _)<|zF (BS _ _ _ _ _ _ _ _ _) ?_
  exact h₃ _ _ rfl
end Mine
end
section
open PySem PySem.W PySem.W.X PySem.Calls PyProof.Rows
namespace Mine
variable {B:Bs}
set_option genCtorIdx false in
inductive Sg where
 |asg (x:Nat) (e:E) (xp p:Pos)
 |pm (x f y:Nat) (xp fp yp cp p:Pos)
 |newD (x:Nat) (xp dp p:Pos)
 |forS (t:Nat) (tp:Pos) (y:Nat) (yp:Pos) (body:List Sg) (p:Pos)
 |ifS (c:E) (a:List Sg) (p:Pos)
 |ifNew (rm y:Nat) (a:List Sg) (q1 q2 q3 q4 q5 q6 q7 q8 p:Pos)
 |yld (x:Nat) (xp yp p:Pos)
section
variable (nm:Nat->Str)
mutual
noncomputable def Sg.py:Sg->Stmt
 |.asg x e xp p=>.Assign [.Name (nm x) xp] (e.py nm) p
 |.pm x f y xp fp yp cp p=>.Assign [.Name (nm x) xp] (.Call (.Name (nm f) fp) [.Name (nm y) yp] [] cp) p
 |.newD x xp dp p=>.Assign [.Name (nm x) xp] (.Dict [] [] dp) p
 |.forS t tp y yp body p=>.For (.Name (nm t) tp) (.Name (nm y) yp) (i6 body) [] p
 |.ifS c a p=>.If (c.py nm) (i6 a) [] p
 |.ifNew rm y a q1 q2 q3 q4 q5 q6 q7 q8 p=>.If (.Compare (.Name (nm y) q1) [.NotIn] [.Name (nm rm) q2] q3) (.Assign [.Subscript (.Name (nm rm) q4) (.Name (nm y) q5) q6] (.Constant .none 0 q7) q8::i6 a) [] p
 |.yld x xp yp p=>.Expr (.Yield (some (.Name (nm x) xp)) yp) p
noncomputable def i6:List Sg->List Stmt
 |[]=>[]
 |s::r=>s.py::i6 r
end
end
noncomputable def D.flat:D->Bool
 |.nil=>true
 |.bool _=>true
 |.int _=>true
 |.str _=>true
 |_=>false
noncomputable def ac.at (ρ:ac) (x:Nat):Option D:=match ρ x with
 |some (.fz d)=>some d
 |some (.sealed d)=>some d
 |_=>none
noncomputable def c8 (Γ:ah) (t:Nat)(body:ac->Option (List D×ac)):ac->List D->Option (List D×ac)
 |ρ,[]=>some ([],ρ)
 |ρ,d::r=>if Γ.mine ρ t then do
  let (ys,ρ1) <-body (ρ.set t (.fz d))
  let (zs,ρ2) <-c8 Γ t body ρ1 r
  some (ys++zs,ρ2)
  else none
theorem yT {Γ:ah}{t:Nat}{body:ac->Option (List D×ac)}{ρ:ac}{d:D}{r:List D}:c8 Γ t body ρ (d::r)=if Γ.mine ρ t then(do
  let (ys,ρ1) <-body (ρ.set t (.fz d))
  let (zs,ρ2) <-c8 Γ t body ρ1 r
  some (ys++zs,ρ2))
  else none:=rfl
section
variable (Φ:bq)(Ψ:Nat->D->Option D) (rm:Nat)(Γ:ah)
mutual
noncomputable def qg (ρ:ac):Sg->Option (List D×ac)
 |.asg x e _ _=>do
  let d <-(<-ev Φ Γ ρ e).asD
  if Γ.mine ρ x&&d.flat&&!e.isCp then some ([],ρ.set x (.fz d)) else none
 |.pm x f y _ _ _ _ _=>do
  let d <-ρ.at y
  let r <-Ψ f d
  if Γ.mine ρ x/\Γ f=some .globalImplicit then some ([],ρ.set x (.fz r)) else none
 |.newD x _ _ _=>if Γ.mine ρ x&&x==rm then some ([],ρ.set x (.ownD [])) else none
 |.forS t _ y _ body _=>do
  let d <-ρ.at y
  let items <-(R.d d).asI
  c8 Γ t (fun ρ=>d8 ρ body) ρ items
 |.ifS c a _=>do
  let t <-e7 Φ Γ ρ c
  if t then d8 ρ a else some ([],ρ)
 |.ifNew m y a _ _ _ _ _ _ _ _ _=>match ρ m,ρ.at y with
  |some (.ownD ks),some (.str i)=>if m=rm/\ks.length < 64 then(if ks.contains i then some ([],ρ) else d8 (ρ.set m (.ownD (ks++[i]))) a) else none
  |_,_=>none
 |.yld x _ _ _=>do
  let d <-ρ.at x
  some ([d],ρ)
noncomputable def d8 (ρ:ac):List Sg->Option (List D×ac)
 |[]=>some ([],ρ)
 |s::r=>do
  let (ys,ρ1) <-qg ρ s
  let (zs,ρ2) <-d8 ρ1 r
  some (ys++zs,ρ2)
end
end
section
variable {Φ:bq}{Ψ:Nat->D->Option D}{rm:Nat}{Γ:ah}{ρ:ac}
theorem li  : d8 Φ Ψ rm Γ ρ []=(some ([],ρ)):=rfl
theorem jY {s r}:d8 Φ Ψ rm Γ ρ (s::r)=(do
  let (ys,ρ1) <-qg Φ Ψ rm Γ ρ s
  let (zs,ρ2) <-d8 Φ Ψ rm Γ ρ1 r
  some (ys++zs,ρ2)):=rfl
theorem nG {x e u1 u2}:qg Φ Ψ rm Γ ρ (.asg x e u1 u2)=(do
  let d <-(<-ev Φ Γ ρ e).asD
  if Γ.mine ρ x&&d.flat&&!e.isCp then some ([],ρ.set x (.fz d)) else none):=rfl
theorem qv {x f y u1 u2 u3 u4 u5}:qg Φ Ψ rm Γ ρ (.pm x f y u1 u2 u3 u4 u5)=(do
  let d <-ρ.at y
  let r <-Ψ f d
  if Γ.mine ρ x/\Γ f=some .globalImplicit then some ([],ρ.set x (.fz r)) else none):=rfl
theorem lj {x u1 u2 u3}:qg Φ Ψ rm Γ ρ (.newD x u1 u2 u3)=(if Γ.mine ρ x&&x==rm then some ([],ρ.set x (.ownD [])) else none):=rfl
theorem ln {t u1 y u2 body u3}:qg Φ Ψ rm Γ ρ (.forS t u1 y u2 body u3)=(do
  let d <-ρ.at y
  let items <-(R.d d).asI
  c8 Γ t (fun ρ=>d8 Φ Ψ rm Γ ρ body) ρ items):=rfl
theorem jx {c a u1}:qg Φ Ψ rm Γ ρ (.ifS c a u1)=(do
  let t <-e7 Φ Γ ρ c
  if t then d8 Φ Ψ rm Γ ρ a else some ([],ρ)):=rfl
theorem gp {m y a u1 u2 u3 u4 u5 u6 u7 u8 u9}:qg Φ Ψ rm Γ ρ (.ifNew m y a u1 u2 u3 u4 u5 u6 u7 u8 u9)=(match ρ m,ρ.at y with
  |some (.ownD ks),some (.str i)=>if m=rm/\ks.length < 64 then(if ks.contains i then some ([],ρ) else d8 Φ Ψ rm Γ (ρ.set m (.ownD (ks++[i]))) a) else none
  |_,_=>none):=rfl
theorem nF {x u1 u2 u3}:qg Φ Ψ rm Γ ρ (.yld x u1 u2 u3)=(do
  let d <-ρ.at x
  some ([d],ρ)):=rfl
end
structure qb (c:Code)(fs:List Frame):Prop where
 split:splitAtGen fs=none
 guard:fs.any Di=false
 room:∀A k,aB A (k+1)->aB (A.over c fs) k
theorem qb.func (body:List Stmt)(env:Env):qb (.func body env) [] where
 split:=rfl
 guard:=rfl
 room:=fun A k R=>by
  refine⟨R.handled,?_,?_⟩
  ·have:=R.depth
   show A.depth+0+1+k < 950
   lia
  ·have:=R.units
   show A.units+0+3+3 * k+300 < cLine
   lia
theorem qb.loop {c:Code}{fs:List Frame}(x:qb c fs)(t:Expr)(it:Value)(b o:List Stmt)(env:Env)(k:CI->Sem Bt)(l:List Value)(p:Pos):qb (.forLoop t it b o env) (.ret k none false l c p []::fs) where
 split:=by simp[splitAtGen,x.split]
 guard:=by simp[Di,x.guard]
 room:=fun A n R=>by
  have h:=x.room A n R;refine⟨h.handled,?_,?_⟩
  ·have h1:=h.depth
   have e:(A.over (.forLoop t it b o env) (.ret k none false l c p []::fs)).depth=(A.over c fs).depth:=by
    show A.depth+(c.weight+frameCount (fs.map EH))+0=A.depth+frameCount (fs.map EH)+c.weight
    lia
   refine zF e ?_;exact h1
  ·have h1:=h.units
   have e:(A.over (.forLoop t it b o env) (.ret k none false l c p []::fs)).units=(A.over c fs).units:=by
    show A.units+unitsOf ((c,p)::fs.map EH)+0=A.units+unitsOf (fs.map EH)+c.cUnits;refine zF (unitsOf_cons _ _ _) ?_;lia
   refine zF e ?_;exact h1
noncomputable abbrev gW (F:AP)(s:zL):Addr->Prop:=fun b=>¬F b/\b < s.heap.objs.size
noncomputable abbrev yG (F O:AP)(s:zL):Addr->Prop:=fun b=>¬F b/\¬O b/\b < s.heap.objs.size
noncomputable abbrev sJ:Nat->Prop:=fun J=>False
structure wO (B:Bs)(F:AP)(J:(Addr->Prop)->zL->Prop):Prop where
 sub:∀z s,J z s->∀b,z b->¬F b/\¬B.T b/\b < s.heap.objs.size/\B.Hi b
 stay:∀z s s',J z s->gR B F ⟨z,sJ⟩ s s'->aJ B s'->J z s'
structure GR (B:Bs)(Γ:ah)(pe:Env) (rm:Nat)(ρ:ac)(F:AP)(J:(Addr->Prop)->zL->Prop)(p₀:Pv)(s₀:zL)(O z:AP)(p:Pv)(s:zL):Prop where
 x:Ctx B Γ (yG F O s) (gW F s) pe ρ s
 j:J z s
 oz:∀b,O b->¬z b
 op:∀b,O b->p.a b
 o0:∀b,O b->B.Hi b
 zp:∀b,z b->p.a b
 st:mW B F p s
 flt:∀b,F b->b < s.heap.objs.size
 e:ao B p₀ s₀ s
 up:∀b,p₀.a b->p.a b
 dn:∀b,p.a b->p₀.a b\/s₀.heap.objs.size<=b
 g:p.g=p₀.g
 dx:∀y ks,ρ y=some (.ownD ks)->y=rm
section
variable (O':B.Ok)
include O'
variable {Γ:ah}{pe:Env}{rm:Nat}{ρ ρ':ac}{F O z:AP}{J:(Addr->Prop)->zL->Prop}{p₀ p:Pv}{s₀ s s':zL}{A:Av}{K:Nat}
theorem Ctx.heapOnly {Wc W:AP}(X:Ctx B Γ Wc W pe ρ s)(h:s'.heap=s.heap):Ctx B Γ Wc W pe ρ s':=by
 obtain⟨hh,gg,d,t,os⟩:=s';dsimp only at h;subst h;exact⟨⟨X.good.base,X.good.size,X.good.ti,X.good.tlt⟩,X.fn,X.glob,X.blt,X.tW,X.cW,X.wlt,X.loc,X.locW,X.ow,X.code,X.kinds,X.cells,X.apart,X.cellW,X.vars,X.sealedW,X.owns⟩
theorem uK (flt:∀b,F b->b < s.heap.objs.size)(h:s.heap.objs.size<=s'.heap.objs.size):(bB (gW F s) fun b=>s.heap.objs.size<=b/\b < s'.heap.objs.size)=gW F s':=by
 funext b
 refine propext ⟨fun q=>?_,fun q=>?_⟩
 ·rcases q with⟨h1,h2⟩|⟨h1,h2⟩
  ·exact⟨h1,zI h2 h⟩
  ·exact⟨fun f=>zJ _ (zI (flt b f) h1),h2⟩
 ·rcases Dv b s.heap.objs.size with h3|h3
  ·exact .inl ⟨q.1,h3⟩
  ·exact .inr ⟨h3,q.2⟩
theorem rk (flt:∀b,F b->b < s.heap.objs.size)(ol:∀b,O b->b < s.heap.objs.size)(h:s.heap.objs.size<=s'.heap.objs.size):(bB (yG F O s) fun b=>s.heap.objs.size<=b/\b < s'.heap.objs.size)=yG F O s':=by
 funext b
 refine propext ⟨fun q=>?_,fun q=>?_⟩
 ·rcases q with⟨h1,h2,h3⟩|⟨h1,h2⟩
  ·exact⟨h1,h2,zI h3 h⟩
  ·exact⟨fun f=>zJ _ (zI (flt b f) h1),fun f=>zJ _ (zI (ol b f) h1),h2⟩
 ·rcases Dv b s.heap.objs.size with h3|h3
  ·exact .inl ⟨q.1,q.2.1,h3⟩
  ·exact .inr ⟨h3,q.2.2⟩
theorem GR.iter {q:Pv}(R:GR B Γ pe rm ρ F J p₀ s₀ O z p s)(j:wO B F J)(e:ao B q s s')(hq:∀b,q.a b->p.a b/\¬O b/\¬z b/\B.Hi b)(hg:q.g=sJ):GR B Γ pe rm ρ F J p₀ s₀ O z p s':=by
 have ol:∀b,O b->b < s.heap.objs.size:=fun b q=>(R.st.a b (R.op b q)).2.2;have X:=Ctx.grow O' R.x e (N:=fun b=>s.heap.objs.size<=b/\b < s'.heap.objs.size) (fun b w=>⟨(R.st.a b (hq b w).1).1,(hq b w).2.1,(R.st.a b (hq b w).1).2.2⟩) (fun b w=>(hq b w).2.2.2) fun b q=>q;rw[rk O' R.flt ol e.size,uK O' R.flt e.size] at X;refine⟨X,j.stay z s s' R.j ⟨fun b o t w x=>e.keep b o t (fun y=>?_) x,e.ck,e.size,fun i x w=>w.elim⟩ X.good,R.oz,R.op,R.o0,R.zp,⟨fun b w=>⟨(R.st.a b w).1,(R.st.a b w).2.1,zI (R.st.a b w).2.2 e.size⟩,fun i w=>zI (R.st.g i w) e.gsize,R.st.f⟩,fun b f=>zI (R.flt b f) e.size,?_,R.up,R.dn,R.g,R.dx⟩
 ·rcases w with w|w
  ·exact(R.st.a b (hq b y).1).1 w
  ·exact(hq b y).2.2.1 w
 ·exact R.e.trans e (fun b w=>(R.dn b (hq b w).1)) fun i w=>by rw[hg] at w;exact w.elim
theorem GR.eff (R:GR B Γ pe rm ρ F J p₀ s₀ O z p s)(j:wO B F J)(e:az B s s'):GR B Γ pe rm ρ F J p₀ s₀ O z p s':=
 R.iter O' j (e.toP ⟨fun J=>False,sJ⟩) (fun b w=>w.elim) rfl
theorem GR.own (R:GR B Γ pe rm ρ F J p₀ s₀ O z p s)(j:wO B F J)(X:Ctx B Γ (yG F O s) (gW F s) pe ρ' s')(e:ao B ⟨O,sJ⟩ s s')(hs:s'.heap.objs.size=s.heap.objs.size)(dx:∀y ks,ρ' y=some (.ownD ks)->y=rm):GR B Γ pe rm ρ' F J p₀ s₀ O z p s':=by
 have h1:yG F O s'=yG F O s:=by funext b;show(_/\_/\b < s'.heap.objs.size)=(_/\_/\b < s.heap.objs.size);exact zF hs rfl
 have h2:gW F s'=gW F s:=by funext b;show(_/\b < s'.heap.objs.size)=(_/\b < s.heap.objs.size);exact zF hs rfl
 refine⟨by refine zF h1<|zF h2 ?_;exact X,j.stay z s s' R.j ⟨fun b o t w x=>e.keep b o t (fun y=>?_) x,e.ck,e.size,fun i x w=>w.elim⟩ X.good,R.oz,R.op,R.o0,R.zp,⟨fun b w=>⟨(R.st.a b w).1,(R.st.a b w).2.1,zI (R.st.a b w).2.2 e.size⟩,fun i w=>zI (R.st.g i w) e.gsize,R.st.f⟩,fun b f=>zI (R.flt b f) e.size,?_,R.up,R.dn,R.g,dx⟩
 ·rcases w with w|w
  ·exact(R.st.a b (R.op b y)).1 w
  ·exact R.oz b y w
 ·exact R.e.trans e (fun b w=>R.dn b (R.op b w)) fun i w=>w.elim
theorem GR.wake (R:GR B Γ pe rm ρ F J p₀ s₀ O z p s)(j:wO B F J)(h:gR B F p s s')(g:aJ B s'):GR B Γ pe rm ρ F J p s' O z p s':=by
 have ol:∀b,O b->b < s.heap.objs.size:=fun b q=>(R.st.a b (R.op b q)).2.2
 have e:ao B ⟨yG F O s,sJ⟩ s { s with heap:=s'.heap }:=⟨fun b o t n x=>h.keep b o t (by
   by_cases f:F b
   ·exact .inl f
   ·refine .inr ?_
    by_cases oo:O b
    ·exact R.op b oo
    ·exact absurd ⟨f,oo,Al x⟩ n) x,h.ck,h.size,fun J=>g.ti,fun J J J e=>e,zW _,id,rfl⟩
 have X:=Ctx.grow' O' R.x e (N:=fun b=>s.heap.objs.size<=b/\b < s'.heap.objs.size) (fun b w=>w) ⟨g.base,g.size,g.ti,g.tlt⟩ fun b q=>q;replace X:=(uK O' R.flt h.size)▸(rk O' R.flt ol h.size)▸X;refine⟨Ctx.heapOnly O' X rfl,j.stay z s s' R.j ⟨fun b o t w x=>h.keep b o t (w.imp_right (R.zp b)) x,h.ck,h.size,fun i x w=>w.elim⟩ g,R.oz,R.op,R.o0,R.zp,⟨fun b w=>⟨(R.st.a b w).1,(R.st.a b w).2.1,zI (R.st.a b w).2.2 h.size⟩,fun i w=>?_,R.st.f⟩,fun b f=>zI (R.flt b f) h.size,ao.refl _ _,fun J w=>w,fun J w=>.inl w,rfl,R.dx⟩;have hi:=R.st.g i w;have h5:=h.gens i (s.gens[i]'hi) w (by simp[hi]);exact(BA.mp h5).1
end
end Mine
end
section
open PySem PySem.W PySem.W.X PySem.Calls PyProof.Rows
namespace Mine
variable {B:Bs}
inductive OldAt (B:Bs) (K:Nat) (f:Nat)(d r:D):Prop
 |mk (fa:Addr) (fo:Obj) (fd:BD) (m:B.mg (B.nm f)=some (.ref fa)) (nt:¬B.T fa) (g:B.h₀.get? fa=some fo) (e:fo.data=.func fd)
   (rr:∀A s W v,aJ B s->aB A K->(∀b,B.T b->W b)->(∀b,W b->b < s.heap.objs.size)->av B s.heap W d v->
    BZ B.M A (.call (.ref fa) ⟨[v],[]⟩) (fun r' s'=>∃u,r'=.ok (.ret u)/\az B s s'/\∀W',av B s'.heap W' r u) s)
noncomputable def nv (B:Bs) (K:Nat)(Ψ:Nat->D->Option D):Prop:=∀f d r,Ψ f d=some r->OldAt B K f d r
noncomputable abbrev zt (B:Bs) (K:Nat)(Γ:ah)(pe:Env) (rm:Nat)(ρ':ac)(F:AP)(J:(Addr->Prop)->zL->Prop)(l:List D)(c:Code)(fs:List Frame)(k:Sem Bt):Prop:=
 ∀A' p₁ s₁ O z p s',aB A' (K+1)->GR B Γ pe rm ρ' F J p₁ s₁ O z p s'->SegX B.M A' c k fs s' (kG B (K+1) F l p₁ s₁)
noncomputable def pX (B:Bs) (K:Nat)(Φ:bq)(Ψ:Nat->D->Option D) (rm:Nat)(st:Sg):Prop:=∀Γ ρ ys ρ',qg Φ Ψ rm Γ ρ st=some (ys,ρ')->∀F J l pe A c fs (KK:Flow->Sem Bt)(HH:Value->Sem Bt) gd lv p₀ s₀ O z p s,wO B F J->qb c fs->gd false=false->pe.scope.isCoroutine=false->aB A (K+1)->
 GR B Γ pe rm ρ F J p₀ s₀ O z p s->zt B K Γ pe rm ρ' F J l c fs (KK .next)->SegX B.M A c ((exec (st.py B.nm) pe).wrap KK HH gd lv) fs s (kG B (K+1) F (ys++l) p₀ s₀)
noncomputable def jr (B:Bs) (K:Nat)(Φ:bq)(Ψ:Nat->D->Option D) (rm:Nat)(ss:List Sg):Prop:=∀Γ ρ ys ρ',d8 Φ Ψ rm Γ ρ ss=some (ys,ρ')->∀F J l pe A c fs (KK:Flow->Sem Bt)(HH:Value->Sem Bt) gd lv p₀ s₀ O z p s,wO B F J->qb c fs->gd false=false->pe.scope.isCoroutine=false->aB A (K+1)->
 GR B Γ pe rm ρ F J p₀ s₀ O z p s->zt B K Γ pe rm ρ' F J l c fs (KK .next)->SegX B.M A c ((execs (i6 B.nm ss) pe).wrap KK HH gd lv) fs s (kG B (K+1) F (ys++l) p₀ s₀)
section
variable (O':B.Ok)
include O'
variable {Γ:ah}{pe:Env}{rm:Nat}{ρ ρ':ac}{F O z:AP}{J:(Addr->Prop)->zL->Prop}{p₀ p:Pv}{s₀ s s':zL}{A:Av}{K:Nat}{Φ:bq}{Ψ:Nat->D->Option D}
theorem av.flat {h h':Heap}{W W':AP}{d:D}{v:Value}(hf:d.flat=true)(r:av B h W d v):av B h' W' d v:=by
 cases d<;>first|exact r|(exact bG hf;done)
theorem gO {b:Addr}(h:gW F s b/\¬yG F O s b):O b:=by
 by_cases o:O b
 ·exact o
 ·exact absurd ⟨h.1.1,o,h.1.2⟩ h.2
theorem GR.inter (R:GR B Γ pe rm ρ F J p₀ s₀ O z p s):DW pe=false:=by
 unfold DW;refine zF R.x.fn ?_;rfl
theorem GR.store {x:Nat}{d:D}{v:Value}{Q:Unit->zL->Prop}(R:GR B Γ pe rm ρ F J p₀ s₀ O z p s)(j:wO B F J)(hm:Γ.mine ρ x=true)(r:av B s.heap (gW F s) d v)(k:∀s',GR B Γ pe rm (ρ.set x (.fz d)) F J p₀ s₀ O z p s'->ao B ⟨O,sJ⟩ s s'->Q () s'):
  wpAny B.M A (C6 pe (B.nm x) v) Q hY s:=by
 refine aS (bV O' hm) fun hk hns=>?_;refine Ctx.storeE' O' R.x hk hns (fun J e=>by exact nomatch e) (en:=.fz d) r (fun J o=>o.elim) fun s' X' e' hs J=>?_;have e2:ao B ⟨O,sJ⟩ s s':=e'.mono (fun b q=>gO O' (dA O' R.x hns b q)) fun i q=>q;refine k s' (R.own O' j X' e2 hs fun y ks h=>?_) e2
 by_cases hy:y=x
 ·rw[hy,ac.set_self O'] at h;exact nomatch h
 ·rw[ac.set_ne O' _ _ hy] at h;exact R.dx y ks h
theorem at_some {x:Nat}{d:D}(h:ρ.at x=some d):ρ x=some (.fz d)\/ρ x=some (.sealed d):=by
 unfold ac.at at h
 split at h
 ·rename_i e;obtain rfl:=zG h;exact .inl e
 ·rename_i e;obtain rfl:=zG h;exact .inr e
 ·exact ai h
theorem GR.name {x:Nat}{d:D}{xp:Pos}{Q:VS}{E:VS}(R:GR B Γ pe rm ρ F J p₀ s₀ O z p s)(h:ρ.at x=some d)(k:∀v,av B s.heap (gW F s) d v->Q v s):wpAny B.M A (eval (.Name (B.nm x) xp) pe) Q E s:=by
 refine Aw ?_ (O'.dbg x);rcases at_some O' h with h|h<;>
 ·refine am (R.x.vars x _ h) fun v l rv=>?_
  exact Ctx.name O' R.x l (k v rv) (O'.cld x)
theorem av.inF {d:D}{v:Value}(r:av B s.heap (gW F s) d v):av B s.heap (fun b=>¬F b) d v:=
 av.move O' (fun J J J x=>x) (fun b q=>by
  rcases Dv b s.heap.objs.size with h|h
  ·exact .inl ⟨q,h⟩
  ·exact .inr (AG h)) d v r
theorem y_nil:jr B K Φ Ψ rm []:=by
 intro Γ ρ ys ρ' h F J l pe A c fs KK HH gd lv p₀ s₀ O z p s j f hgd hco R G k;simp only[li,zV,BL] at h;refine aS h fun e91=>?_;subst e91;intro e92;subst e92;exact fM (k A p₀ s₀ O z p s R G)
theorem y_cons {st:Sg}{ss:List Sg}(h1:pX B K Φ Ψ rm st)(h2:jr B K Φ Ψ rm ss):jr B K Φ Ψ rm (st::ss):=by
 intro Γ ρ ys ρ' h F J l pe A c fs KK HH gd lv p₀ s₀ O z p s j f hgd hco R G k;simp only[jY,zQ,zO,zV,BL,Prod.exists] at h;obtain⟨y1,ρ1,e1,y2,ρ2,e2,rfl,rfl⟩:=h;refine zF (Az _ _ _) ?_;refine hH (h1 _ _ _ _ e1 F J (y2++l) pe A c fs _ HH gd lv p₀ s₀ O z p s j f hgd hco R G ?_);intro A' p₁ s₁ O1 z1 p1 s1 R1 G1;exact h2 _ _ _ _ e2 F J l pe A' c fs KK HH gd lv p₁ s₁ O1 z1 p1 s1 j f hgd hco R1 G1 k
theorem y_asg {x:Nat}{e:E}{xp q:Pos}(he:aW B K Φ e):pX B K Φ Ψ rm (.asg x e xp q):=by
 intro Γ ρ ys ρ' h F J l pe A c fs KK HH gd lv p₀ s₀ O z p s j f hgd hco R G k;simp only[nG,zQ,zO] at h;obtain⟨r,h1,d,hd,h⟩:=h
 split at h
 case isFalse=>exact ai h
 rename_i hc
 simp only[Bu,EO] at hc;simp only[zV,BL] at h;obtain⟨rfl,rfl⟩:=h;refine cA (AU (ci O' he h1 hd G.x (f.room A K R) fun v s1 e1 X1 r1=>?_) ?_)
 ·have G1:=G.eff O' j e1
  refine G1.store O' j hc.1.1 (av.flat O' hc.1.2 r1) fun s2 G2 e2=>?_;exact k A p₀ s₀ O z p s2 R G2
 ·have:=hc.2
  cases e<;>first|rfl|(exact nots this;done)
theorem y_pm {x f' y:Nat}{xp fp yp cp q:Pos}(HΨ:nv B K Ψ):pX B K Φ Ψ rm (.pm x f' y xp fp yp cp q):=by
 intro Γ ρ ys ρ' h F J l pe A c fs KK HH gd lv p₀ s₀ O z p s j f hgd hco R G k;simp only[qv,zQ,zO] at h;obtain⟨d,h1,r,h2,h⟩:=h
 split at h
 case isFalse=>exact ai h
 rename_i hc
 simp only[zV,BL] at h;obtain⟨rfl,rfl⟩:=h;obtain⟨fa,fo,fd,hmg,hT,hg0,hfd,hcall⟩:=HΨ _ _ _ h2;refine cA (AU (Bc (mt O' G.x hc.2 hmg ?_)) rfl);refine zF (show D2 cp (B8 [A0 (B.nm y) yp] pe)=[(false,eval (.Name (B.nm y) yp) pe)] from rfl) ?_;refine DZ (o:=fo) (fd:=fd) (evalArgs_plain (AJ (G.name O' h1 fun v rv=>Bn ⟨⟨G.x.good.base _ _ hT hg0,hfd⟩,?_⟩)));refine C4 (CV (hcall _ s (gW F s) v G.x.good (f.room A K R) G.x.tW' (fun b q=>q.2) rv) ?_);rintro r' s1 ⟨u,rfl,e1,ru⟩;have G1:=G.eff O' j e1;refine G1.store O' j hc.1 (ru _) fun s2 G2 e2=>?_;exact k A p₀ s₀ O z p s2 R G2
theorem y_yld {x:Nat}{xp yp q:Pos}:pX B K Φ Ψ rm (.yld x xp yp q):=by
 intro Γ ρ ys ρ' h F J l pe A c fs KK HH gd lv p₀ s₀ O z p s j f hgd hco R G k;simp only[nF,zQ,zO,zV,BL] at h;obtain⟨d,h1,rfl,rfl⟩:=h;refine xc f.split hgd f.guard (G.name O' h1 fun v rv=>?_) hco (G.inter O');intro l' k' q' hk';refine⟨v,l',k',c,q',fs,p,rfl,f.guard,G.e,G.up,G.dn,G.g,av.inF O' rv,G.st,fun A2 s2 st g2 R2=>?_⟩;refine zF hk' ?_;exact k A2 p s2 O z p s2 R2 (G.wake O' j st g2)
theorem y_if {cE:E}{a:List Sg}{q:Pos}(hc:eJ B K Φ cE)(ha:jr B K Φ Ψ rm a):pX B K Φ Ψ rm (.ifS cE a q):=by
 intro Γ ρ ys ρ' h F J l pe A c fs KK HH gd lv p₀ s₀ O z p s j f hgd hco R G k;simp only[jx,zQ,zO] at h;obtain⟨t,ht,h⟩:=h;show SegX B.M A c ((exec (.If (cE.py B.nm) (i6 B.nm a) [] q) pe).wrap KK HH gd lv) fs s _;refine zF (exec_If _ _ _ _ _) ?_;refine lV ?_;show SegX B.M A c (FE KK HH gd lv (EC (cE.py B.nm) pe (eval (cE.py B.nm) pe) >>= fun b=>if b then execs (i6 B.nm a) pe else execs [] pe)) fs s _;refine zF (Bx _ _)<|zF (BS _ _ _ _ _ _ _ _ _) ?_
 refine cA (se O' hc ht G.x (f.room A K R) fun s1 e1 X1=>?_);have G1:=G.eff O' j e1
 cases t with
 |true=>exact ha _ _ _ _ (h) F J l pe A c fs KK HH _ _ p₀ s₀ O z p s1 j f hgd hco R G1 k
 |false=>
  simp only[AK,if_false,zV,BL] at h;obtain⟨rfl,rfl⟩:=h;exact fM (env:=pe) (k A p₀ s₀ O z p s1 R G1)
inductive JIn (B:Bs)(F:AP)(J:(Addr->Prop)->zL->Prop)(I:List D->Pv->zL->Prop)(items:List D)(z':AP)(s:zL):Prop
 |mk (z:AP) (pi:Pv) (j:J z s) (i:I items pi s) (g:pi.g=sJ) (iff:∀b,z' b↔z b\/pi.a b) (dj:∀b,pi.a b->¬z b) (lo:∀b,pi.a b->B.Hi b)
theorem jin_ok {it:Addr}{I:List D->Pv->zL->Prop}{items:List D}(j:wO B F J)(ok:be B K F it I):wO B F (JIn B F J I items) where
 sub:=fun z' s ⟨z,pi,h1,h2,h3,h4,h5,h6⟩ b hb=>by
  rcases(h4 b).mp hb with q|q
  ·exact j.sub z s h1 b q
  ·have:=ok.sub _ _ _ h2 b q
   exact⟨this.1,this.2.1,this.2.2,h6 b q⟩
 stay:=fun z' s s' ⟨z,pi,h1,h2,h3,h4,h5,h6⟩ st g=>
  ⟨z,pi,j.stay z s s' h1 ⟨fun b o t q e=>st.keep b o t (q.imp_right fun q=>(h4 b).mpr (.inl q)) e,st.ck,st.size,fun i x q=>q.elim⟩ g,
   ok.stay _ _ _ _ h2 (fun b o t q e=>st.keep b o t (q.imp_right fun q=>(h4 b).mpr (.inr q)) e) st.ck st.size (fun i x q=>by rw[h3] at q;exact q.elim) g,h3,h4,h5,h6⟩
theorem y_loop {t:Nat}{tp:Pos}{body:List Sg}(hb:jr B K Φ Ψ rm body){it:Addr}{I:List D->Pv->zL->Prop}(ok:be B K F it I)(j:wO B F J){l:List D}{c:Code}{fs:List Frame}{kk:CI->Sem Bt}{ll:List Value}{cp:Pos}{next:Sem Bt}(hk:kk (.ok .next)=next)(f:qb c fs)(hco:pe.scope.isCoroutine=false):
  ∀(items:List D) (ρ:ac) (ys:List D) (ρ':ac),c8 Γ t (fun ρ=>d8 Φ Ψ rm Γ ρ body) ρ items=some (ys,ρ')->∀A p₀ s₀ O z pi p s,aB A (K+1)->GR B Γ pe rm ρ F J p₀ s₀ O z p s->I items pi s->pi.g=sJ->
   (∀b,pi.a b->p.a b/\¬O b/\¬z b/\B.Hi b)->zt B K Γ pe rm ρ' F J l c fs next->
   SegX B.M A (.forLoop (.Name (B.nm t) tp) (.ref it) (i6 B.nm body) [] pe) (GH table (.forLoop (.Name (B.nm t) tp) (.ref it) (i6 B.nm body) [] pe)) (.ret kk none false ll c cp []::fs) s (kG B (K+1) F (ys++l) p₀ s₀):=by
 intro items
 induction items with
 |nil=>
  intro ρ ys ρ' h A p₀ s₀ O z pi p s R G hI hg hp k;obtain⟨rfl,rfl⟩:=Prod.mk.inj (zG (show some ([],ρ)=some (ys,ρ') from h));have f2:=f.loop (.Name (B.nm t) tp) (.ref it) (i6 B.nm body) [] pe kk ll cp;refine tS (ok.done _ _ _ _ _ hI G.x.good ((f2.room A K R).less (by omega)) fun s1 e1=>?_);refine s_pop B.prog B.w A _ fs _ s1 (.ok .next) _ rfl kk none false ll c cp [] ?_;refine zF hk ?_;exact k A p₀ s₀ O z p s1 R (G.iter O' j e1 hp hg)
 |cons d rest ih=>
  intro ρ ys ρ' h A p₀ s₀ O z pi p s R G hI hg hp k;rw[yT] at h
  split at h
  case isFalse=>exact ai h
  rename_i hm
  simp only[zQ,zO,zV,BL,Prod.exists] at h;refine x2122 h fun y1 ρ1 e1 y2 ρ2 e2 e91=>?_;subst e91;intro e92;subst e92;have f2:=f.loop (.Name (B.nm t) tp) (.ref it) (i6 B.nm body) [] pe kk ll cp;refine tS (ok.next _ _ _ _ _ _ _ hI G.x.good ((f2.room A K R).less (by omega)) fun v s1 p1 ee hsub hnew hg1 rv hI1=>?_);have G1':=G.iter O' j ee hp hg;have sub1:=ok.sub _ _ _ hI1;have hnb:∀b,s.heap.objs.size<=b->¬O b/\¬z b:=fun b hb=>⟨fun q=>zJ _ (zI (G.st.a b (G.op b q)).2.2 hb),fun q=>zJ _ (zI (G.st.a b (G.zp b q)).2.2 hb)⟩;have hp1:∀b,p1.a b->¬O b/\¬z b/\B.Hi b:=fun b q=>by
   rcases hnew b q with w|w
   ·exact(hp b w).2
   ·exact⟨(hnb b w).1,(hnb b w).2,G.x.good.hi w⟩
  have G1:GR B Γ pe rm ρ F J p₀ s₀ O z ⟨fun b=>p.a b\/p1.a b,p.g⟩ s1:=⟨G1'.x,G1'.j,G1'.oz,fun b q=>.inl (G1'.op b q),G1'.o0,fun b q=>.inl (G1'.zp b q),⟨fun b q=>q.elim (G1'.st.a b) (sub1 b),G1'.st.g,G1'.st.f⟩,G1'.flt,G1'.e,fun b q=>.inl (G1'.up b q),
   fun b q=>q.elim (G1'.dn b) fun q=>(hnew b q).elim (fun w=>G1'.dn b (hp b w).1) fun w=>.inr (zH G.e.size w),G1'.g,G1'.dx⟩
  refine gD (BY (G1.store O' j hm (av.move O' (fun J J J x=>x) (fun b q=>.inl q.1) _ _ rv) fun s2 G2 eo=>?_))
  have hI2:I rest p1 s2:=ok.stay _ _ _ _ hI1 (fun b o nt q e=>eo.keep b o nt (fun w=>by
   rcases q with q|q
   ·exact(G1.st.a b (G1.op b w)).1 q
   ·exact(hp1 b q).1 w) e) eo.ck eo.size (fun i x q e=>eo.gens i x (fun w=>w.elim) e) G2.x.good
  intro KK2 HH2 hKK;have G3:GR B Γ pe rm (ρ.set t (.fz d)) F (JIn B F J I rest) p₀ s₀ O (fun b=>z b\/p1.a b) ⟨fun b=>p.a b\/p1.a b,p.g⟩ s2:=
   ⟨G2.x,⟨z,p1,G2.j,hI2,by refine zF hg1 ?_;exact hg,fun b=>Er,fun b q=>(hp1 b q).2.1,fun b q=>(hp1 b q).2.2⟩,fun b q w=>w.elim (G2.oz b q) fun w=>(hp1 b w).1 q,G2.op,G2.o0,fun b q=>q.elim (G2.zp b) .inr,G2.st,G2.flt,G2.e,G2.up,G2.dn,G2.g,G2.dx⟩
  refine zF (Az _ _ _) ?_;refine hb _ _ _ _ e1 F (JIn B F J I rest) (y2++l) pe A _ _ KK2 HH2 id id p₀ s₀ O _ _ s2 (jin_ok O' j ok) f2 rfl hco R G3 ?_;intro A' p₃ s₃ O3 z3 p4 s4 R4 G4;refine zF hKK ?_;obtain⟨z4,pi4,j4,hI4,hg4,hz4,hd4,h04⟩:=G4.j;refine s_again B.prog B.w A' _ _ _ s4 _ rfl ?_;exact ih ρ1 y2 ρ2 e2 A' p₃ s₃ O3 z4 pi4 p4 s4 R4 ⟨G4.x,j4,fun b q w=>G4.oz b q ((hz4 b).mpr (.inl w)),G4.op,G4.o0,fun b q=>G4.zp b ((hz4 b).mpr (.inl q)),G4.st,G4.flt,G4.e,G4.up,G4.dn,G4.g,G4.dx⟩ hI4 hg4
   (fun b q=>⟨G4.zp b ((hz4 b).mpr (.inr q)),fun w=>G4.oz b w ((hz4 b).mpr (.inr q)),hd4 b q,h04 b q⟩) k
theorem y_for {t y:Nat}{tp yp q:Pos}{body:List Sg}(hb:jr B K Φ Ψ rm body):pX B K Φ Ψ rm (.forS t tp y yp body q):=by
 intro Γ ρ ys ρ' h F J l pe A c fs KK HH gd lv p₀ s₀ O z p s j f hgd hco R G k;simp only[ln,zQ,zO] at h;refine ke h fun d h1 items hi h=>?_;refine sx_For (G.name O' h1 fun v rv=>?_) fun J=>rfl;have hF:Fz (gW F s) s.heap=F:=by
  funext b
  refine propext ⟨fun w=>?_,fun w=>⟨fun u=>u.1 w,G.flt b w⟩⟩
  by_cases u:F b
  ·exact u
  ·exact absurd ⟨u,w.2⟩ w.1
 refine ji O' (K:=K) hi G.x.tW' (fun b w=>w.2) rv fun I s2 ok hI hl e2=>?_;replace ok:=hF▸ok;intro kk ll cp hk;have G2:=G.eff O' j e2;have hsub:=ok.sub _ _ _ hI;have hnew:∀b,b=s.heap.objs.size->¬O b/\¬z b:=fun b hb=>by
  subst hb;exact⟨fun q=>zJ _ (G.st.a _ (G.op _ q)).2.2,fun q=>zJ _ (G.st.a _ (G.zp _ q)).2.2⟩
 have G3:GR B Γ pe rm ρ F J p₀ s₀ O z ⟨fun b=>p.a b\/b=s.heap.objs.size,p.g⟩ s2:=⟨G2.x,G2.j,G2.oz,fun b q=>.inl (G2.op b q),G2.o0,fun b q=>.inl (G2.zp b q),⟨fun b q=>q.elim (G2.st.a b) (hsub b),G2.st.g,G2.st.f⟩,G2.flt,G2.e,fun b q=>.inl (G2.up b q),
  fun b q=>q.elim (G2.dn b) fun q=>.inr (by refine zF q ?_;exact G.e.size),G2.g,G2.dx⟩
 refine zF hgd ?_;exact y_loop O' hb ok j (hk .next) f hco items ρ ys ρ' h A p₀ s₀ O z _ _ s2 R G3 hI rfl (fun b q=>⟨.inr q,(hnew b q).1,(hnew b q).2,by refine zF (show b=s.heap.objs.size from q) ?_;exact G.x.good.hi (zW _)⟩) k
end
end Mine
end
section
open PySem PySem.W PySem.W.X PySem.Calls PyProof.Rows
namespace Mine
variable {B:Bs}
section
variable (O':B.Ok)
include O'
variable {Γ:ah}{pe:Env}{rm:Nat}{ρ ρ':ac}{F O z:AP}{J:(Addr->Prop)->zL->Prop}{p₀ p:Pv}{s₀ s s':zL}{A:Av}{K:Nat}{Φ:bq}{Ψ:Nat->D->Option D}
theorem Ctx.setOwnD {Wc W:AP}{x:Nat}{ks ks':List (List Nat)}{a:Addr}{h':Heap}{t:Nat}(X:Ctx B Γ Wc W pe ρ s)(hx:ρ x=some (.ownD ks))(lv:cP B pe s.heap x (.ref a))(hW:W a)(hWc:¬Wc a)(hnl:a≠pe.locals)(hsy:(a==Cg)=false)
  (hs:Cm a s.heap h') (hd':h'.DictOf (AQ B.prog B.w) a (ks'.map fun k=>(cz k,Value.none))):
  Ctx B Γ Wc W pe (ρ.set x (.ownD ks')) { s with heap:=h',toks:=t }:=
 (Ctx.setAt O' (en':=.ownD ks') X hx lv rfl (fun J e=>nomatch e) (fun J e=>nomatch e) hs (fun J=>⟨a,rfl,hW,hWc,hnl,hsy,hd'⟩) fun b o=>o).1
theorem y_newD {x:Nat}{xp dp q:Pos}:pX B K Φ Ψ rm (.newD x xp dp q):=by
 intro Γ ρ ys ρ' h F J l pe A c fs KK HH gd lv p₀ s₀ O z p s j f hgd hco R G k;simp only[lj] at h
 split at h
 case isFalse=>exact ai h
 rename_i hc
 simp only[Bu,beq_iff_eq] at hc;simp only[zV,BL] at h;obtain⟨rfl,rfl⟩:=h;obtain⟨hm,rfl⟩:=hc;obtain⟨hk,hns⟩:=bV O' hm;refine cA (AU (wpAny_Dict_empty ?_) rfl);have e1:az B s { s with heap:=s.heap.push { cls:=.type "dict", data:=.dict #[] } }:=az.push O' _ s.toks
 have hsz:({ s with heap:=s.heap.push { cls:=.type "dict", data:=.dict #[] } }:zL).heap.objs.size=s.heap.objs.size+1:=Aq ..
 have G1:=G.eff O' j e1;have X1:=Ctx.growOwn O' G.x e1 (N:=fun b=>b=s.heap.objs.size) (fun b w=>by refine zF hsz<|zF w ?_;exact⟨zW _,AL _⟩);generalize hs1:({ s with heap:=s.heap.push { cls:=.type "dict", data:=.dict #[] } }:zL)=s1 at *
 have hnF:¬F s.heap.objs.size:=fun w=>zJ _ (G.flt _ w);have hnO:¬O s.heap.objs.size:=fun w=>zJ _ (G.st.a _ (G.op _ w)).2.2;have hnz:¬z s.heap.objs.size:=fun w=>zJ _ (G.st.a _ (G.zp _ w)).2.2;have hnT:¬B.T s.heap.objs.size:=(G.x.good.hi (zW _)).2;have hW1:(bB (gW F s) fun b=>b=s.heap.objs.size)=gW F s1:=by
  funext b
  refine propext ⟨fun w=>?_,fun w=>?_⟩
  ·rcases w with w|rfl
   ·exact⟨w.1,by refine zF hsz ?_;exact By w.2⟩
   ·exact⟨hnF,by refine zF hsz ?_;exact AL _⟩
  ·have:=w.2
   rw[hsz] at this;rcases Nat.lt_or_eq_of_le (DL this) with h|h
   ·exact .inl ⟨w.1,h⟩
   ·exact .inr h
 have hWc1:yG F O s=yG F (fun b=>O b\/b=s.heap.objs.size) s1:=by
  funext b
  refine propext ⟨fun w=>⟨w.1,fun u=>u.elim w.2.1 fun u=>zJ _ (u▸w.2.2),by refine zF hsz ?_;exact By w.2.2⟩,fun w=>⟨w.1,fun u=>w.2.1 (.inl u),?_⟩⟩;have:=w.2.2;rw[hsz] at this;exact Nat.lt_of_le_of_ne (DL this) fun u=>w.2.1 (.inr u)
 rw[hW1,hWc1] at X1
 have G2:GR B Γ pe x ρ F J p₀ s₀ (fun b=>O b\/b=s.heap.objs.size) z ⟨fun b=>p.a b\/b=s.heap.objs.size,p.g⟩ s1:=⟨X1,G1.j,fun b w=>w.elim (G1.oz b) fun w=>w▸hnz,fun b w=>w.imp (G1.op b) id,fun b w=>w.elim (G1.o0 b) fun w=>w▸G.x.good.hi (zW _),fun b w=>.inl (G1.zp b w),
  ⟨fun b w=>w.elim (G1.st.a b) fun w=>by subst w;exact⟨hnF,hnT,by refine zF hsz ?_;exact AL _⟩,G1.st.g,G1.st.f⟩,G1.flt,G1.e,fun b w=>.inl (G1.up b w),fun b w=>w.elim (G1.dn b) fun w=>.inr (by subst w;exact G.e.size),G1.g,G1.dx⟩
 have hdict:s1.heap.DictOf (AQ B.prog B.w) s.heap.objs.size []:=by refine zF (AM hs1) ?_;exact FS _
 have hloc:s.heap.objs.size≠pe.locals:=fun w=>zJ _ (by
  have:=G.x.wlt _ G.x.locW.1
  rw[<-w] at this;exact this)
 refine Ctx.storeE' O' G2.x hk hns (fun J e=>by exact nomatch e) (en:=.ownD []) ⟨_,rfl,⟨hnF,by refine zF hsz ?_;exact AL _⟩,fun w=>w.2.1 (.inr rfl),hloc,?_,hdict⟩ (fun b ob y e' w hy hρ hloc hb=>?_) fun s2 X2 e2 hs2 J=>?_
 ·rw[beq_eq_false_iff_ne]
  intro w;have:=O'.sysm;rw[<-w] at this;exact zJ _ (zI this G.x.good.size)
 ·obtain rfl:=Value.ref.inj ob
  exact rq O' G.x e1 (zW _) y e' w hρ hloc hb
 ·refine k A p₀ s₀ _ z _ s2 R (G2.own O' j X2 (e2.mono (fun b w=>gO O' (dA O' G2.x hns b w)) fun i w=>w) hs2 fun y ks h=>?_)
  by_cases hy:y=x
  ·exact hy
  ·rw[ac.set_ne O' _ _ hy] at h;exact G2.dx y ks h
omit O' in
theorem uf {a b:List Nat}(h:cz a=cz b):a=b:=congrArg (fun z:Str=>z.cps.toList) h
omit O' in
theorem vj (ks:List (List Nat))(i:List Nat):((ks.map fun k=>(cz k,Value.none)).any fun kv=>kv.1=cz i)=ks.contains i:=by
 induction ks with
 |nil=>rfl
 |cons a r ih=>
  simp only[z8,Dl,ih,Dy]
  congr 1
  by_cases h:a=i
  ·subst h;simp
  ·have h1:i≠a:=fun e=>h e.symm
   have h2:cz a≠cz i:=fun e=>h (uf e);simp[h1,h2]
theorem qx (ks:List (List Nat))(i:List Nat):(Dj (ks.map fun k=>(cz k,Value.none)) (cz i)).isSome=ks.contains i:=by
 refine zF (AM (vj _ _)) ?_
 induction ks with
 |nil=>rfl
 |cons a r ih=>
  simp only[z8,Dl,Dj,BC] at ih ⊢
  by_cases h:cz a=cz i
  ·simp[h]
  ·simp only[h,decide_false,Bool.false_or]
   exact ih
set_option tactic.hygienic true in
theorem y_ifNew {m y:Nat}{a:List Sg}{q1 q2 q3 q4 q5 q6 q7 q8 q:Pos}(ha:jr B K Φ Ψ rm a):pX B K Φ Ψ rm (.ifNew m y a q1 q2 q3 q4 q5 q6 q7 q8 q):=by
 intro Γ ρ ys ρ' h F J l pe A c fs KK HH gd lv p₀ s₀ O z p s j f hgd hco R G k;simp only[gp] at h
 split at h
 case h_2=>exact ai h
 rename_i ks i hm hy
 split at h
 case isFalse=>exact ai h
 rename_i hc
 obtain⟨rfl,hlen⟩:=hc;show SegX B.M A c ((exec (.If (.Compare (.Name (B.nm y) q1) [.NotIn] [.Name (B.nm m) q2] q3) (.Assign [.Subscript (.Name (B.nm m) q4) (.Name (B.nm y) q5) q6] (.Constant .none 0 q7) q8::i6 B.nm a) [] q) pe).wrap KK HH gd lv) fs s _;refine zF (exec_If _ _ _ _ _) ?_;refine lV ?_;show SegX B.M A c (FE KK HH gd lv (EC (.Compare (.Name (B.nm y) q1) [.NotIn] [.Name (B.nm m) q2] q3) pe (eval (.Compare (.Name (B.nm y) q1) [.NotIn] [.Name (B.nm m) q2] q3) pe) >>= fun b=>if b then execs (.Assign [.Subscript (.Name (B.nm m) q4) (.Name (B.nm y) q5) q6] (.Constant .none 0 q7) q8::i6 B.nm a) pe else execs [] pe)) fs s _;refine zF (Bx _ _)<|zF (BS _ _ _ _ _ _ _ _ _) ?_
 obtain⟨w,lw,a',rfl,hW,hWc,hnl,hsy,hd⟩:=G.x.vars m _ hm;refine cA (CG (G.name O' hy fun v rv=>?_) rfl);obtain⟨t,rfl,_⟩:=iD rv;refine Aw (Ctx.name O' G.x lw ?_ (O'.cld m)) (O'.dbg m);refine wpAny_notIn_of (knd:=AQ B.prog B.w) (k:=cz i) (strKind_is _ _ _ _) hsy hd.mapOf ?_;refine zF (qx O' _ _) ?_;refine AZ ?_;have G1:=G.eff O' j (az.toks (s.toks+1))
 cases hin:ks.contains i with
 |true=>
  rw[hin] at h;simp only[if_true,zV,BL] at h;obtain⟨rfl,rfl⟩:=h;exact fM (env:=pe) (k A p₀ s₀ O z p _ R G1)
 |false=>
  rw[hin] at h;simp only[AK,if_false] at h;simp only[Bool.not_false,if_true];refine hH (cA (Ee ?_ rfl));show wpAny _ _ (pure Value.none) _ _ _;refine zR (Aw (Ctx.name O' G1.x lw ?_ (O'.cld m)) (O'.dbg m));refine G1.name O' hy fun v rv=>?_;obtain⟨t,rfl,_⟩:=iD rv;refine wpAny_setItem_pairs (s:={ s with toks:=s.toks+1 }) (knd:=AQ B.prog B.w) (k:=cz i) (strKind_is _ _ _ _) hd (fun h' hd' hs'=>?_) (by refine zF (zX _) ?_;exact ax (BV (BU hlen (by simp[lim]))));have hst:stored (ks.map fun k=>(cz k,Value.none)) (cz i) Value.none=(ks++[i]).map fun k=>(cz k,Value.none):=by
   unfold stored;refine zF (vj _ _)<|zF hin ?_
   simp
  rw[hst] at hd';have X2:=Ctx.setOwnD (s:={ s with toks:=s.toks+1 }) (t:=s.toks+1+1) O' G1.x hm lw hW hWc hnl hsy hs' hd';have hO:O a':=gO O' ⟨hW,hWc⟩;have e2:ao B ⟨O,sJ⟩ { s with toks:=s.toks+1 } { s with heap:=h',toks:=s.toks+1+1 }:=
   (cg (s:={ s with toks:=s.toks+1 }) O' (G.st.a a' (G.op a' hO)).2.1 (ux hd fun q m=>by refine am (Ac.mp m) fun J J e91=>?_;subst e91;rfl) hs').mono (fun b w=>w▸hO) fun i w=>w
  have G2:=G1.own O' j X2 e2 hs'.1 fun y ks' h=>by
   by_cases hy:y=m
   ·exact hy
   ·rw[ac.set_ne O' _ _ hy] at h;exact G.dx y ks' h
  exact ha _ _ _ _ h F J l pe A c fs KK HH _ _ p₀ s₀ O z p _ j f hgd hco R G2 k
mutual
noncomputable def Sg.lms:Sg->List Lm
 |.asg _ e _ _=>e.lms
 |.forS _ _ _ _ body _=>sQ body
 |.ifS c a _=>c.lms++sQ a
 |.ifNew _ _ a _ _ _ _ _ _ _ _ _=>sQ a
 |.pm ..=>[]
 |.newD ..=>[]
 |.yld ..=>[]
noncomputable def sQ:List Sg->List Lm
 |[]=>[]
 |s::r=>s.lms++sQ r
end
noncomputable abbrev okY (B:Bs)(ss:List Sg):Prop:=fm B (sQ ss)
theorem sndYs (hK:24<=K)(P:bx B K Φ)(HΨ:nv B K Ψ):∀ss:List Sg,okY B ss->jr B K Φ Ψ rm ss:=
 Sg.rec_1 (motive_1:=fun st=>fm B st.lms->pX B K Φ Ψ rm st) (motive_2:=fun ss=>okY B ss->jr B K Φ Ψ rm ss)
  (fun J e J J h=>y_asg O' (snd O' hK P e h).1)
  (fun J J J J J J J J J=>y_pm O' HΨ)
  (fun J J J J J=>y_newD O')
  (fun J J J J J J ib h=>y_for O' (ib h))
  (fun c J J ia h=>y_if O' (snd O' hK P c (b9 h)).2 (ia (bt h)))
  (fun J J J J J J J J J J J J ia h=>y_ifNew O' (ia h))
  (fun J J J J J=>y_yld O')
  (fun J=>y_nil O')
  (fun J J is ir h=>y_cons O' (is (b9 h)) (ir (bt h)))
end
end Mine
end
section
open PySem PySem.W PySem.W.X PySem.Calls PyProof.Rows
namespace Mine
variable {B:Bs}
structure wJ (B:Bs) (id:Nat)(L:fq)(ps:List Nat)(sc:LK)(ss:List Sg):Prop where
 ls:B.LS id=some L
 body:L.body=.stmts (i6 B.nm ss)
 names:L.scope.names=aL B.nm sc
 kind:L.scope.kind=.function
 gen:L.scope.isGenerator=true
 co:L.scope.isCoroutine=false
 fr:L.fr=aD sc
 bind:∀(fd:BD) (vals:List Value),fd.params=L.params->fd.defaults=.none->fd.kwdefaults=.none->vals.length=ps.length->EE fd ⟨vals,[]⟩=pure ((ps.map B.nm).zip vals)
 nd:(sc.map (·.1)).Nodup
 kinds:∀x k,sc.lookup x=some k->k=.free\/k=.local\/k=.cell\/k=.globalImplicit
 ps:∀x∈ps,sc.lookup x=some .local\/sc.lookup x=some .cell
section
variable (O':B.Ok)
include O'
variable {Γ:ah}{pe:Env}{rm:Nat}{ρ ρ':ac}{F O z:AP}{J:(Addr->Prop)->zL->Prop}{p₀ p:Pv}{s₀ s s':zL}{A:Av}{K:Nat}{Φ:bq}{Ψ:Nat->D->Option D}
theorem km:∀(ps:List Nat)(args:List D)(ρ:ac),(∀y ks,ρ y≠some (.ownD ks))->∀y ks,aw ps args ρ y≠some (.ownD ks)
 |[],_,ρ,h=>by simpa [aw] using h
 |_::_,[],ρ,h=>by simpa [aw] using h
 |x::ps,d::args,ρ,h=>by
  have:=km ps args (ρ.set x (.fz d)) fun y ks=>by
   by_cases hy:y=x
   ·refine zF hy<|zF (ac.set_self O' _ _ _) ?_;simp
   ·refine zF (ac.set_ne O' _ _ hy) ?_;exact h y ks
  simpa [aw] using this
theorem wm {ss:List Sg}{l:List D}(hK:24<=K)(P:bx B K Φ)(HΨ:nv B K Ψ)(hb:okY B ss)(j:wO B F J)(hev:d8 Φ Ψ rm Γ ρ ss=some (l,ρ'))(hco:pe.scope.isCoroutine=false)(R:aB A (K+1))(G:GR B Γ pe rm ρ F J p₀ s₀ O z p s):
  SegX B.M A (.func (i6 B.nm ss) pe) (GH table (.func (i6 B.nm ss) pe)) [] s (kG B (K+1) F l p₀ s₀):=by
 show SegX B.M A _ (.point [] fun J=>((execs (i6 B.nm ss) pe).onRaise (leaving pe)) >>= fun f=>match f with|.ret v=>ret v|_=>ret .none) [] s _;refine xd ?_;refine zF (Gy _ _)<|zF (Bx _ _)<|zF (BS _ _ _ _ _ _ _ _ _) ?_
 have h:=sndYs (rm:=rm) O' hK P HΨ ss hb _ _ _ _ hev F J [] pe A (.func (i6 B.nm ss) pe) [];replace h:=(AF _)▸h;refine h _ _ _ _ p₀ s₀ O z p s j (qb.func _ _) rfl hco R G ?_;intro A' p₁ s₁ O1 z1 p1 s1 R1 G1;exact s_end B.prog B.w A' _ _ s1 (.ok (.ret .none)) _ rfl ⟨rfl,G1.e⟩
theorem pE {id:Nat}{L:fq}{ps:List Nat}{sc:LK}{ss:List Sg}{caps args l:List D}(Fx:wJ B id L ps sc ss)(hK:24<=K)(P:bx B K Φ)(HΨ:nv B K Ψ)(hb:okY B ss)
  (hl:ps.length=args.length) (hev:d8 Φ Ψ rm (aN sc 0) (aw ps args (cN (aD sc) caps)) ss=some (l,ρ')) (hlim:l.length<=lim):eP B (K+6) id caps args l:=by
 intro fa cv A s W vals g R tW wlt hlam rc ra;obtain⟨L',fo,fd,hls,hg,hfd,nw,lam⟩:=hlam;rw[Fx.ls] at hls;obtain rfl:=zG hls;obtain⟨c,oc,vs,t,hc1,hc2,J,hc4,hc5⟩:=lam.code;have hcd:s.heap.CodeRec fd.code fd.qualname:=⟨c,oc,vs,t,hc1,hc2,hc4,by refine zF lam.qual ?_;exact hc5⟩;have hvl:vals.length=ps.length:=by refine zF (aa.length ra) ?_;lia
 refine codeAny_call_generator R.lim hg hfd (by refine zF lam.scope ?_;exact Fx.co) (by refine zF lam.scope ?_;exact Fx.gen) (by refine zF lam.body ?_;exact Fx.body) hcd ?_;refine zF (Fx.bind fd vals lam.params lam.dfl.1 lam.dfl.2 hvl)<|zF lam.glob<|zF lam.blt ?_
 refine zR ?_;refine rA O' (sc:=sc) (f:=0) (ρc:=cN (aD sc) caps) (by refine zF lam.scope ?_;exact Fx.names) (by refine zF lam.scope ?_;exact Fx.kind) (.inl rfl) (uX O' lam Fx.fr Fx.nd Fx.kinds rc) g tW wlt Fx.ps hl ra fun s1 env W' X1 hW' e1 hall hsc=>?_;refine⟨aJ.lim O' (g.move e1),?_⟩;have hco:env.scope.isCoroutine=false:=by refine zF hsc<|zF lam.scope ?_;exact Fx.co
 generalize hs2:({ s1 with gens:=s1.gens.push (.fresh (.func (i6 B.nm ss) env)),toks:=s1.toks+1+1,heap:=s1.heap.push { cls:=.type "generator", data:=.fields #[.int s1.gens.size 0,.str fd.name s1.toks,.str fd.qualname (s1.toks+1)] } }:zL)=s2
 have hh2:s2.heap=s1.heap.push { cls:=.type "generator", data:=.fields #[.int s1.gens.size 0,.str fd.name s1.toks,.str fd.qualname (s1.toks+1)] }:=by exact zF (AM hs2) rfl
 have hg2:s2.gens=s1.gens.push (.fresh (.func (i6 B.nm ss) env)):=by exact zF (AM hs2) rfl
 have ho2:s2.os=s1.os:=by exact zF (AM hs2) rfl
 have hsz2:s2.heap.objs.size=s1.heap.objs.size+1:=by exact zF hh2<|zF (Aq _ _) rfl
 have keep2:∀b o,s1.heap.get? b=some o->s2.heap.get? b=some o:=fun b o e=>by refine zF hh2 ?_;exact z9 _ e
 have e2:az B s1 s2:=⟨fun b o J e=>keep2 b o e,fun b o J e=>keep2 b o e,by lia,fun x=>O'.tikeep _ _ x fun b o J e=>keep2 b o e,fun i x e=>by
   refine zF hg2<|zF (Array.getElem?_push) ?_
   have:=(BA.mp e).1
   refine zF (if_neg (by lia)) ?_;exact e,fun hb=>by refine zF hg2 ?_;exact AllBare.push hb rfl,ho2⟩
 refine⟨.ref s1.heap.objs.size,rfl,e1.trans e2,?_⟩
 let F:Addr->Prop:=Fz W s.heap
 let O:Addr->Prop:=fun b=>W' b/\¬W b
 have hw1:∀b,W' b->b < s1.heap.objs.size:=X1.wlt;have h1:gW F s1=W':=by
  funext b
  refine propext ⟨fun w=>?_,fun w=>⟨fun f=>(hW' b w).elim f.1 fun z=>zJ _ (zI f.2 z),hw1 b w⟩⟩
  by_cases wb:W b
  ·exact X1.cW b wb
  ·exact hall b (E4 fun z=>w.1 ⟨wb,z⟩) w.2
 have h2:yG F O s1=W:=by
  funext b
  refine propext ⟨fun w=>?_,fun w=>⟨fun f=>f.1 w,fun o=>o.2 w,hw1 b (X1.cW b w)⟩⟩
  by_cases wb:W b
  ·exact wb
  ·exact absurd ⟨hall b (E4 fun z=>w.1 ⟨wb,z⟩) w.2.2,wb⟩ w.2.1
 have hOn:∀b,O b->s.heap.objs.size<=b:=fun b o=>(hW' b o.1).resolve_left o.2
 let J:(Addr->Prop)->zL->Prop:=fun z J=>∀b,¬z b
 have j:wO B F J:=⟨fun z s h b hb=>absurd hb (h b),fun z s s' h J J=>h⟩;have st1:mW B F ⟨O,sJ⟩ s1:=⟨fun b o=>⟨fun f=>zJ _ (zI f.2 (hOn b o)),fun t=>o.2 (tW b t),hw1 b o.1⟩,fun i h=>h.elim,fun b f t=>f.1 (tW b t)⟩
 have hdx:∀y ks,aw ps args (cN (aD sc) caps) y=some (.ownD ks)->y=rm:=fun y ks h=>absurd h (km O' _ _ _ (fun y ks h=>by
  unfold cN at h;rw[Aa] at h;refine am h fun J J h=>?_
  cases h) y ks)
 have G1:GR B (aN sc 0) env rm (aw ps args (cN (aD sc) caps)) F J ⟨O,sJ⟩ s1 O (fun J=>False) ⟨O,sJ⟩ s1:=⟨by refine zF h1<|zF h2 ?_;exact X1,fun b h=>h,fun b o h=>h,fun b o=>o,fun b o=>g.hi (hOn b o),fun b h=>h.elim,st1,fun b f=>zI f.2 e1.size,ao.refl _ _,fun b o=>o,fun b o=>.inl o,rfl,hdx⟩;have hlow:¬F s1.heap.objs.size/\¬B.T s1.heap.objs.size/\s1.heap.objs.size < s2.heap.objs.size:=⟨fun f=>zJ _ (zI f.2 e1.size),fun t=>((g.move e1).hi (zW _)).2 t,by lia⟩;refine⟨s1.heap.objs.size,F,⟨fun b=>O b\/b=s1.heap.objs.size,fun i=>False\/i=s1.gens.size⟩,GI B (K+1) F s1.heap.objs.size,rfl,fun l p s h=>?_,sY O',⟨⟨⟨O,sJ⟩,s1.gens.size,.fresh (.func (i6 B.nm ss) env),.func (i6 B.nm ss) env,_,[],rfl,?_,?_,?_,fun o=>zJ _ (hw1 _ o.1),fun h=>h,.inl ⟨rfl,rfl,rfl⟩,fun A2 s3 st g3 R3=>?_⟩,hlow⟩,fun b f=>⟨f.1,?_⟩,fun b o=>?_,fun i h=>?_,hlim⟩
 ·obtain⟨⟨p₀,n,gs,c,t,fs,J,hig,J⟩,J⟩:=h
  exact hig.typeIs
 ·exact⟨_,_,_,by refine zF hh2 ?_;exact Aj _ rfl,rfl,rfl,rfl⟩
 ·refine zF hg2 ?_;simp
 ·exact st1.stay (by lia) (by refine zF hg2 ?_;simp)
 ·have G3:=G1.wake O' j (gR.trans ⟨fun b o J J e=>keep2 b o e,fun b o J e=>keep2 b o e,by lia,fun i x h=>h.elim⟩ st) g3
  exact wm O' hK P HΨ hb j hev hco R3 G3
 ·exact zI f.2 (zH e1.size e2.size)
 ·rcases o with o|rfl
  ·exact hOn b o
  ·exact e1.size
 ·rcases h with h|rfl
  ·exact h.elim
  ·exact(e1.toP ⟨fun J=>False,sJ⟩).gsize
end
end Mine
end
namespace Mine
variable {B:Bs}
noncomputable abbrev Bs.no (B:Bs):Bs:={ B with X:=none }
theorem sI {b:Addr}(t:B.no.T b):B.T b:=t.elim .inl fun⟨J,e,J2⟩=>ai e
theorem good_no (O:B.Ok){s:zL}(g:aJ B s):aJ B.no s:=
 ⟨fun b o t e=>g.base b o (fun t'=>t'.elim (fun z=>t (.inl z)) fun⟨x,hx,hd⟩=>absurd (Al e) (D3.mpr (hd▸(O.xk x hx).1))) e,g.size,⟨fun J e=>(ai e),g.ti.2⟩,fun b t=>g.tlt b (sI t)⟩
theorem lam_no {L:fq}{cv:List Value}{h:Heap}{W:AP}{fd:BD}(l:vo B L cv h W fd):vo B.no L cv h W fd:=⟨l.params,l.body,l.scope,l.glob,l.blt,l.dfl,l.qual,l.code,l.len,l.only,l.keys,l.nms,l.apart,l.cells⟩
theorem tT {B':Bs}{h h':Heap}{W W':AP}:∀{fs:List (List Nat)}{vs:List Value},aa B h W (fs.map .str) vs->aa B' h' W' (fs.map .str) vs
 |[],_,r=>r
 |f::fs,_,r=>by
  obtain⟨v,vs,rfl,rv,ra⟩:=r;exact⟨v,vs,rfl,rv,tT ra⟩
theorem uN {α:Type}{A:Av}{pe:Env}{x:Str}{xp:Pos}{body:List Stmt}{it:Addr}{P:List α->zL->Prop}{R:CI->zL->Prop}
  (h0:∀s,P [] s->wpAny B.M A (Do (.ref it)) (fun o s'=>o=none/\R (.ok .next) s') hY s)
  (h1:∀d l s,P (d::l) s->wpAny B.M A (Do (.ref it)) (fun o s'=>∃v,o=some v/\wpAny B.M A (C6 pe x v) (fun J s1=>wpAny B.M A (execs body pe) (fun f s2=>f=.next/\P l s2) hY s1) hY s') hY s):
  ∀(l:List α) (s:zL),P l s->BZ B.M A (.forLoop (.Name x xp) (.ref it) body [] pe) R s:=by
 intro l
 induction l with
 |nil=>
  intro s hp;refine CA ?_;show wpAny _ A ((DX (.Name x xp) (.ref it) body [] pe).onRaise (fun x=>do Dq x pe;Cp x)) _ _ s;refine DV ?_;simp only[DX];refine zK (AS (zK (D0 (Ak (h0 s hp) ?_ fun J J f=>f.elim))));rintro o s' ⟨rfl,hr⟩;exact zR ⟨rfl,codeAny_block (BF hr)⟩
 |cons d l ih=>
  intro s hp;refine CA ?_;show wpAny _ A ((DX (.Name x xp) (.ref it) body [] pe).onRaise (fun x=>do Dq x pe;Cp x)) _ _ s;refine DV ?_;simp only[DX];refine zK (AS (zK (D0 (Ak (h1 d l s hp) ?_ fun J J f=>f.elim))));rintro o s' ⟨v,rfl,hs⟩;refine zK (zR (zK (BY (Ak hs ?_ fun J J f=>f.elim))));intro J s1 hb;refine zK (Ak hb ?_ fun J J f=>f.elim);rintro f s2 ⟨rfl,hp2⟩;exact zR ⟨rfl,ih s2 hp2⟩
structure wK (ks vs:List (List Nat))(kvs:List (Str×Value)):Prop where
 k:kvs.map (·.1)=ks.map cz
 v:∀(i:Nat) (y:List Nat),vs[i]?=some y->∃(q:Str×Value) (t:Tok),kvs[i]?=some q/\q.2=.str (cz y) t
 l:vs.length=ks.length
theorem wK.snoc {ks vs:List (List Nat)}{kvs:List (Str×Value)}(h:wK ks vs kvs)(c p:List Nat)(t:Tok):wK (ks++[c]) (vs++[p]) (kvs++[(cz c,.str (cz p) t)]) where
 k:=by simp[h.k]
 v:=fun i y e=>by
  have hl:kvs.length=vs.length:=by
   have:=congrArg CD h.k;simp only[zX] at this;exact zF this<|zF h.l rfl
  by_cases hi:i < vs.length
  ·rw[DG hi] at e
   refine vw (h.v i y e) fun q t' h1 h2=>?_;exact⟨q,t',by refine zF (DG (by lia)) ?_;exact h1,h2⟩
  ·rw[Fv (by lia)] at e
   have h0:i - vs.length=0:=by
    have:=(Ap.mp e).1;simp only[AB,Cw] at this;lia
   rw[h0] at e;obtain rfl:=zG e;refine⟨_,t,by refine zF (Fv (by lia))<|zF (show i - kvs.length=0 by lia) ?_;rfl,rfl⟩
 l:=by simp[h.l]
theorem wK.new {ks vs:List (List Nat)}{kvs:List (Str×Value)}(h:wK ks vs kvs){c:List Nat}(hc:c ∉ ks)(v:Value):stored kvs (cz c) v=kvs++[(cz c,v)]:=by
 unfold stored;rw[if_neg];refine zF (Bool.not_eq_true _)<|zF (propext GP) ?_
 intro q hq e;have h1:q.1∈kvs.map (·.1):=Ac.mpr ⟨q,hq,rfl⟩;rw[h.k] at h1;refine am (Ac.mp h1) fun y hy e2=>?_;have e3:cz c=cz y:=(of_decide_eq_true e).symm.trans e2.symm;exact hc (uf e3▸hy)
noncomputable abbrev gk (l:List (List Nat)):List (List Nat):=l.flatMap fun p=>p.map fun c=>[c]
noncomputable abbrev iC (l:List (List Nat)):List (List Nat):=l.flatMap fun p=>p.map fun J=>p
noncomputable def rQ (B:Bs):Prop:=∀(A:Av)(s:zL)(a dx r:Addr)(t:Tok) (n:Nat)(E:VS)(Q:VS),aJ B s->s.heap.get? a=some (Cj B.C dx)->s.heap.get? dx=some (d4 B.w.params [.str (B.nm 19) t] [.ref r] n)->(∀t,Q .none { s with toks:=t })->wpAny B.M A (getAttr (.ref a) (B.nm 21) true) Q E s
noncomputable def pZ (B:Bs):Prop:=∀(A:Av)(s:zL)(a dx:Addr) (n:Nat)(ts:List Tok)(u v:Value)(pl:Sem Bool)(E:VS)(Q:Value×List Value->zL->Prop),aJ B s->s.heap.get? a=some (Cj B.C dx)->s.heap.get? dx=some (d4 B.w.params (([19,22].zip ts).map fun p=>Value.str (B.nm p.1) p.2) [u,v] n)->ts.length=2->Fe v=true->(∀t,Q (v,[]) { s with toks:=t })->wpAny B.M A (getMethod (.ref a) (B.nm 22) pl) Q E s
section
variable (O:B.Ok)(O0:B.no.Ok)
include O O0
variable {Wc W:AP}{pe:Env}{A:Av}{s:zL}{K:Nat}
noncomputable abbrev PVx (n:Nat):Pv:=⟨fun b=>n<=b,fun J=>False⟩
structure iO (B:Bs)(L q n x:Nat)(all allV:List (List Nat))(lk lv:List (List Nat))(s0 s:zL)(m:Str->Option Value):Prop where
 e:ao B.no (PVx n) s0 s
 ns:s.heap.Ns L m
 mx:m (B.nm x)=some (.ref q)
 d:∃ks vs kvs,s.heap.DictOf (AQ B.prog B.w) q kvs/\wK ks vs kvs/\ks++lk=all/\vs++lv=allV
theorem uq {L q n x:Nat}{all allV lk lv:List (List Nat)}{s0 s1:zL}{m:Str->Option Value}{it:Addr}{F:AP}{I:List D->Pv->zL->Prop}{d:D}{l:List D}{p:Pv}(P:iO B L q n x all allV lk lv s0 s1 m)(g0:aJ B.no s0)(hHi:∀b,n<=b->B.no.Hi b)(ok:be B.no K F it I)(hI:I (d::l) p s1)
  (hp:∀b,p.a b->n<=b/\b≠L/\b≠q) (hg:p.g=fun J=>False) (hL:L < s1.heap.objs.size) (hq:q < s1.heap.objs.size) (hLT:¬B.no.T L) (hqT:¬B.no.T q) (R:aB A (K - 4)){Q:Option Value->zL->Prop}
  (k:∀v s2 p2,iO B L q n x all allV lk lv s0 s2 m->av B.no s2.heap (fun b=>¬F b) d v->I l p2 s2->(∀b,p2.a b->p.a b\/s1.heap.objs.size<=b)->p2.g=(fun J=>False)->ao B.no p s1 s2->Q (some v) s2):wpAny B.M A (Do (.ref it)) Q hY s1:=by
 have g1:aJ B.no s1:=g0.moveP P.e fun b q=>hHi b q;refine ok.next _ _ _ _ _ _ _ hI g1 R fun v s2 p2 e2 hsub hnew hg2 rv hI2=>?_;refine k v s2 p2 ⟨P.e.trans e2 (fun b q=>.inl (hp b q).1) fun i q=>by rw[hg] at q;exact q.elim,BO.moved P.ns fun o e=>e2.keep L o hLT (fun z=>(hp L z).2.1 rfl) e,P.mx,?_⟩ rv hI2 hnew (hg2.trans hg) e2;refine x31 P.d fun ks vs kvs a b=>?_;exact⟨ks,vs,kvs,PySem.Heap.DictOf.at a fun o e=>e2.keep q o hqT (fun z=>(hp q z).2.2 rfl) e,b⟩
theorem ur {L q n x:Nat}{all allV lk lv:List (List Nat)}{s0 s1:zL}{m:Str->Option Value}{it:Addr}{F:AP}{I:List D->Pv->zL->Prop}{p:Pv}(P:iO B L q n x all allV lk lv s0 s1 m)(g0:aJ B.no s0)(hHi:∀b,n<=b->B.no.Hi b)(ok:be B.no K F it I)(hI:I [] p s1)
  (hp:∀b,p.a b->n<=b/\b≠L/\b≠q) (hg:p.g=fun J=>False) (hLT:¬B.no.T L) (hqT:¬B.no.T q) (R:aB A (K - 4)){Q:Option Value->zL->Prop}
  (k:∀s2,iO B L q n x all allV lk lv s0 s2 m->ao B.no p s1 s2->Q none s2):wpAny B.M A (Do (.ref it)) Q hY s1:=by
 have g1:aJ B.no s1:=g0.moveP P.e fun b q=>hHi b q;refine ok.done _ _ _ _ _ hI g1 R fun s2 e2=>?_;refine k s2 ⟨P.e.trans e2 (fun b q=>.inl (hp b q).1) fun i q=>by rw[hg] at q;exact q.elim,BO.moved P.ns fun o e=>e2.keep L o hLT (fun z=>(hp L z).2.1 rfl) e,P.mx,?_⟩ e2;refine x31 P.d fun ks vs kvs a b=>?_;exact⟨ks,vs,kvs,PySem.Heap.DictOf.at a fun o e=>e2.keep q o hqT (fun z=>(hp q z).2.2 rfl) e,b⟩
end
end Mine
namespace Mine
variable {B:Bs}
theorem no_ko {o:Obj}(h:B.no.KO o):kU o:=h.elim id fun h=>by obtain⟨J,J,J,J,e,J⟩:=h;exact ai e
theorem x7 {o:Obj}{es:Array DictEntry}{n:Nat}(d:o.data=.dict es n):¬B.no.KO o:=fun h=>by
 refine rY (no_ko h) fun J vs hv=>?_;rw[d] at hv;exact nomatch hv
structure zB (B:Bs)(pe:Env)(L q n x y z:Nat):Prop where
 fn:pe.scope.kind=.function
 loc:pe.locals=L
 kx:pe.kindOf (B.nm x)=some .local
 ky:pe.kindOf (B.nm y)=some .local
 kz:pe.kindOf (B.nm z)=some .local
 xy:x≠y
 xz:x≠z
 yz:y≠z
 nL:n<=L
 nq:n<=q
 Lq:L≠q
section
variable (O:B.Ok)(O0:B.no.Ok)
include O O0
variable {Wc W:AP}{pe:Env}{A:Av}{s:zL}{K:Nat}{L q n x y z:Nat}{all allV:List (List Nat)}{s0 s1:zL}{m:Str->Option Value}
theorem qO {lk lv:List (List Nat)}{u:Nat}{v:Value}(P:iO B L q n x all allV lk lv s0 s1 m)(hux:u≠x)(hk:pe.kindOf (B.nm u)=some .local)(Fr:zB B pe L q n x y z)(hLT:¬B.no.T L)(hqT:¬B.no.T q){Q:Unit->zL->Prop}
  (k:∀s2 m2,iO B L q n x all allV lk lv s0 s2 m2->m2 (B.nm u)=some v->(∀w,w≠u->m2 (B.nm w)=m (B.nm w))->ao B.no ⟨fun b=>b=L,fun J=>False⟩ s1 s2->Q () s2):wpAny B.M A (C6 pe (B.nm u) v) Q hY s1:=by
 have hn:=P.ns;refine CF hk (by refine zF Fr.loc ?_;exact hn) (fun h2 n2 sb=>?_) (by refine zF Fr.fn ?_;rfl);rw[Fr.loc] at n2 sb
 have e2:ao B.no ⟨fun b=>b=L,fun J=>False⟩ s1 { s1 with heap:=h2,toks:=s1.toks+1 }:=cg O0 hLT (fun o e=>by
  refine wL hn fun o' es ep e' hd J=>?_;obtain rfl:=zG (e.symm.trans e')
  exact x7 hd) sb
 refine k _ _ ⟨P.e.trans e2 (fun b q=>.inl (q▸Fr.nL)) fun i q=>q.elim,n2,?_,?_⟩ (by simp) (fun w hw=>?_) e2
 ·refine zF (if_neg (fun e=>hux (O.inj _ _ e).symm)) ?_;exact P.mx
 ·refine x31 P.d fun ks vs kvs a b=>?_
  exact⟨ks,vs,kvs,PySem.Heap.DictOf.at a fun o e=>e2.keep q o hqT (fun z=>Fr.Lq z.symm) e,b⟩
 ·exact zF (if_neg (fun e=>hw (O.inj _ _ e))) rfl
theorem pm_set {lk lv:List (List Nat)}{c fam:List Nat}{t1 t2:Tok}{p1 p2 p3 p4 p5:Pos}(P:iO B L q n x all allV (c::lk) (fam::lv) s0 s1 m)(Fr:zB B pe L q n x y z)(hqT:¬B.no.T q)(hLT:¬B.no.T L)(hnd:all.Nodup)(hlim:all.length<=lim)(hy:m (B.nm y)=some (.str (cz fam) t2))(hz:m (B.nm z)=some (.str (cz c) t1)){Q:Flow->zL->Prop}
  (k:∀s2,iO B L q n x all allV lk lv s0 s2 m->ao B.no ⟨fun b=>b=q,fun J=>False⟩ s1 s2->Q .next s2):
  wpAny B.M A (exec (.Assign [.Subscript (.Name (B.nm x) p1) (.Name (B.nm z) p2) p3] (.Name (B.nm y) p4) p5) pe) Q hY s1:=by
 refine x33 P.d fun ks vs kvs hd hr h1 h2=>?_;have hn:s1.heap.Ns pe.locals m:=by refine zF Fr.loc ?_;exact P.ns
 refine Ee (Aw (Af Fr.fn Fr.ky hn (v:=.str (cz fam) t2) hy ?_) (O.dbg y)) rfl;refine Aw (Af Fr.fn Fr.kx hn (v:=.ref q) P.mx ?_) (O.dbg x);refine Aw (Af Fr.fn Fr.kz hn (v:=.str (cz c) t1) hz ?_) (O.dbg z);have hkl:kvs.length=ks.length:=by
  have:=congrArg CD hr.k
  simpa using this
 have hall:ks.length+(lk.length+1)=all.length:=by refine zF (AM h1) ?_;simp
 have hc:c ∉ ks:=fun hm=>by
  rw[<-h1] at hnd;exact(C3.mp hnd).2.2 c hm c zU rfl
 refine wpAny_setItem_pairs (knd:=AQ B.prog B.w) (k:=cz c) (strKind_is _ _ _ _) hd (fun h' hd' hs'=>?_) (ax (by lia));rw[hr.new hc] at hd'
 have e2:ao B.no ⟨fun b=>b=q,fun J=>False⟩ s1 { s1 with heap:=h',toks:=s1.toks+1 }:=cg O0 hqT (fun o e=>by
  refine x33 hd fun o' es ep e' J hd J=>?_;obtain rfl:=zG (e.symm.trans e')
  exact x7 hd) hs'
 exact k _ ⟨P.e.trans e2 (fun b q=>.inl (q▸Fr.nq)) fun i q=>q.elim,BO.moved P.ns fun o e=>e2.keep L o hLT Fr.Lq e,P.mx,ks++[c],vs++[fam],_,hd',hr.snoc c fam t2,by simp[<-h1],by simp[<-h2]⟩ e2
theorem fj {it:Addr}{F:AP}{I:List D->Pv->zL->Prop}{l:List D}{p p':Pv}{s1 s2:zL}(ok:be B.no K F it I)(hI:I l p s1)(hg:p.g=fun J=>False)(e:ao B.no p' s1 s2)(h:∀b,F b\/p.a b->¬p'.a b)(g2:aJ B.no s2):I l p s2:=
 ok.stay _ _ _ _ hI (fun b o t q z=>e.keep b o t (h b q) z) e.ck e.size (fun i x q J=>by rw[hg] at q;exact q.elim) g2
theorem xV {rest:List (List Nat)}{fam:List Nat}{tf:Tok}{N:Nat}{it2:Addr}{F2:AP}{I2:List D->Pv->zL->Prop}{it1:Addr}{F1:AP}{I1:List D->Pv->zL->Prop}{p1v:Pv}{p1 p2 p3 p4 p5 pz:Pos}
  (Fr:zB B pe L q n x y z) (g0:aJ B.no s0) (hHi:∀b,n<=b->B.no.Hi b) (hLT:¬B.no.T L) (hqT:¬B.no.T q) (hnd:all.Nodup) (hlim:all.length<=lim) (R:aB A (K - 4)) (jb:be B.no K F2 it2 I2) (ok1:be B.no K F1 it1 I1)
  (hF1:∀b,F1 b->b < N/\b≠L/\b≠q) (hp1:∀b,p1v.a b->b < N/\b≠L/\b≠q) (hg1:p1v.g=fun J=>False) (hF2:∀b,F2 b->b≠L/\b≠q){RR:CI->zL->Prop}
  (hR:∀s m,iO B L q n x all allV (gk rest) (iC rest) s0 s m->I1 (rest.map .str) p1v s->N<=s.heap.objs.size->RR (.ok .next) s):
  ∀(cs:List Nat) (s:zL),(∃m pv,iO B L q n x all allV ((cs.map fun c=>[c])++gk rest) ((cs.map fun J=>fam)++iC rest) s0 s m/\m (B.nm y)=some (.str (cz fam) tf)/\I2 (cs.map fun c=>D.str [c]) pv s/\I1 (rest.map .str) p1v s/\(∀b,pv.a b->(n<=b/\b≠L/\b≠q)/\N<=b)/\pv.g=(fun J=>False)/\N<=s.heap.objs.size/\L < N/\q < N/\n<=N)->
   BZ B.M A (.forLoop (.Name (B.nm z) pz) (.ref it2) [.Assign [.Subscript (.Name (B.nm x) p1) (.Name (B.nm z) p2) p3] (.Name (B.nm y) p4) p5] [] pe) RR s:=by
 have gd:∀{s m lk lv},iO B L q n x all allV lk lv s0 s m->aJ B.no s:=fun P=>g0.moveP P.e fun b q=>hHi b q;refine uN (fun s h=>?_) (fun c cs s h=>?_)
 ·refine x29 h fun m pv P hy h2 h1 hpv hg hN hLN hqN hnN=>?_
  refine ur O O0 P g0 hHi jb h2 (fun b w=>(hpv b w).1) hg hLT hqT R fun s2 P2 e2=>⟨rfl,hR s2 m P2 ?_ (zH hN e2.size)⟩;exact fj O O0 ok1 h1 hg1 e2 (fun b w z=>zJ _ (zI (w.elim (fun w=>(hF1 b w).1) fun w=>(hp1 b w).1) (hpv b z).2)) (gd P2)
 ·refine x29 h fun m pv P hy h2 h1 hpv hg hN hLN hqN hnN=>?_
  refine uq O O0 P g0 hHi jb h2 (fun b w=>(hpv b w).1) hg (zI hLN hN) (zI hqN hN) hLT hqT R fun v s2 pv2 P2 rv h2' hnew hg2 e2=>?_;refine am (iD rv) fun t e91=>?_;subst e91;intro J;have h1':=fj O O0 ok1 h1 hg1 e2 (fun b w z=>zJ _ (zI (w.elim (fun w=>(hF1 b w).1) fun w=>(hp1 b w).1) (hpv b z).2)) (gd P2);have hpv2:∀b,pv2.a b->(n<=b/\b≠L/\b≠q)/\N<=b:=fun b w=>(hnew b w).elim (hpv b) fun w=>⟨⟨zH hnN (zH hN w),fun e=>zJ _ (zI (e▸hLN) (zH hN w)),fun e=>zJ _ (zI (e▸hqN) (zH hN w))⟩,zH hN w⟩;refine⟨_,rfl,qO O O0 P2 Fr.xz.symm Fr.kz Fr hLT hqT fun s3 m3 P3 hz hm3 e3=>?_⟩;have hy3:m3 (B.nm y)=some (.str (cz fam) tf):=(hm3 y Fr.yz).trans hy;have h1'':=fj O O0 ok1 h1' hg1 e3 (fun b w z=>w.elim (fun w=>(hF1 b w).2.1 z) fun w=>(hp1 b w).2.1 z) (gd P3);have h2'':=fj O O0 jb h2' hg2 e3 (fun b w z=>w.elim (fun w=>(hF2 b w).1 z) fun w=>(hpv2 b w).1.2.1 z) (gd P3);refine zZ (pm_set O O0 (c:=[c]) P3 Fr hqT hLT hnd hlim hy3 hz fun s4 P4 e4=>BF ⟨rfl,m3,pv2,P4,hy3,?_,?_,hpv2,hg2,zH hN (zH e2.size (zH e3.size e4.size)),hLN,hqN,hnN⟩)
  ·exact fj O O0 jb h2'' hg2 e4 (fun b w z=>w.elim (fun w=>(hF2 b w).2 z) fun w=>(hpv2 b w).1.2.2 z) (gd P4)
  ·exact fj O O0 ok1 h1'' hg1 e4 (fun b w z=>w.elim (fun w=>(hF1 b w).2.2 z) fun w=>(hp1 b w).2.2 z) (gd P4)
end
end Mine
namespace Mine
variable {B:Bs}
theorem tA {M:Model}{A:Av}{E:VS}{s:zL}{env:Env}{o:Expr}{name:Str}{apos pos:Pos}{Q:VS}(hbase:EU o name env (eval o env)=eval o env)(hline:(apos.endLine==pos.line)=true)
  (h:wpAny M A (eval o env) (fun ov s₁=>wpAny M A (getMethod ov name (do return (<-importBound o env).getD true)) (fun fx s₂=>wpAny M A (callWith pos fx.1 fx.2 [] []) Q E s₂) E s₁) E s):wpAny M A (eval (.Call (.Attribute o name apos) [] [] pos) env) Q E s:=by
 show wpAny M A (do
  let ov <-EU o name env (eval o env)
  DH apos.atName
  methodCall o name apos pos env ov 0 [] []) Q E s
 refine zF hbase ?_;refine zK (Ak h (fun ov s₁ h₁=>zK (AS ?_)) fun _ _ x=>x);unfold methodCall;refine zK (BE (show wpAny M A (getMethod ov name (do return (<-importBound o env).getD true)) _ _ _ from Ak h₁ (fun fx s₂ h₂=>?_) fun _ _ x=>x));have e:methodCallPos (methodCallForm 0 ([]:List (Bool×Sem Value)) ([]:List (Option Str×Sem Value))) o env apos pos=pure pos:=by
  unfold methodCallPos;exact zF hline<|zF (FT _)<|zF (if_pos rfl) rfl
 dsimp only;refine zF e ?_;exact zK (zR h₂)
theorem jk:∀fs:List (List Nat),(fs.map D.str).flatMap famD=fs
 |[]=>rfl
 |f::fs=>by refine zF z8<|zF Ao<|zF (jk fs) ?_;rfl
section
variable (O:B.Ok)(O0:B.no.Ok)
include O O0
variable {Wc W:AP}{pe:Env}{A:Av}{s:zL}{K:Nat}{L q n x y z:Nat}{all allV:List (List Nat)}{s0 s1:zL}{m:Str->Option Value}
theorem xU {it1:Addr}{F1:AP}{I1:List D->Pv->zL->Prop}{p1 p2 p3 p4 p5 pz py pn p6:Pos}
  (Fr:zB B pe L q n x y z) (g0:aJ B.no s0) (hHi:∀b,n<=b->B.no.Hi b) (hLT:¬B.no.T L) (hqT:¬B.no.T q) (hnd:all.Nodup) (hlim:all.length<=lim) (R:aB A (K - 4)) (ok1:be B.no K F1 it1 I1)
  (hF1:∀b,F1 b->b≠L/\b≠q){RR:CI->zL->Prop}
  (hR:∀s m,iO B L q n x all allV [] [] s0 s m->RR (.ok .next) s):
  ∀(l:List (List Nat)) (s:zL),(∃m pv,iO B L q n x all allV (gk l) (iC l) s0 s m/\I1 (l.map .str) pv s/\(∀b,pv.a b->n<=b/\b≠L/\b≠q)/\pv.g=(fun _=>False)/\L < s.heap.objs.size/\q < s.heap.objs.size/\n<=s.heap.objs.size/\∀b,F1 b->b < s.heap.objs.size)->
   BZ B.M A (.forLoop (.Name (B.nm y) py) (.ref it1) [.For (.Name (B.nm z) pz) (.Name (B.nm y) pn) [.Assign [.Subscript (.Name (B.nm x) p1) (.Name (B.nm z) p2) p3] (.Name (B.nm y) p4) p5] [] p6] [] pe) RR s:=by
 have gd:∀{s m lk lv},iO B L q n x all allV lk lv s0 s m->aJ B.no s:=fun P=>g0.moveP P.e fun b q=>hHi b q;refine uN (fun s h=>?_) (fun fam rest s h=>?_)
 ·obtain⟨m,pv,P,h1,hpv,hg,hLs,hqs,hns,hFs⟩:=h
  exact ur O O0 P g0 hHi ok1 h1 hpv hg hLT hqT R fun s2 P2 e2=>⟨rfl,hR s2 m P2⟩
 ·obtain⟨m,pv,P,h1,hpv,hg,hLs,hqs,hns,hFs⟩:=h
  refine uq O O0 P g0 hHi ok1 h1 hpv hg hLs hqs hLT hqT R fun v s2 pv2 P2 rv h1' hnew hg2 e2=>?_;obtain⟨t,rfl,hfl⟩:=iD rv;have hpv2:∀b,pv2.a b->n<=b/\b≠L/\b≠q:=fun b w=>(hnew b w).elim (hpv b) fun w=>⟨zH hns w,fun e=>zJ _ (zI (e▸hLs) w),fun e=>zJ _ (zI (e▸hqs) w)⟩;refine⟨_,rfl,qO O O0 P2 Fr.xy.symm Fr.ky Fr hLT hqT fun s3 m3 P3 hy3 hm3 e3=>?_⟩;have h1'':=fj O O0 ok1 h1' hg2 e3 (fun b w z=>w.elim (fun w=>(hF1 b w).1 z) fun w=>(hpv2 b w).2.1 z) (gd P3);have hn3:s3.heap.Ns pe.locals m3:=by refine zF Fr.loc ?_;exact P3.ns
  have h13:s.heap.objs.size<=s3.heap.objs.size:=zH e2.size e3.size;refine zZ (wpAny_For (Aw (Af Fr.fn Fr.ky hn3 (v:=.str (cz fam) t) hy3 ?_) (O.dbg y)) fun _=>rfl);have g3:=gd P3;refine ji O0 (K:=K) (x:=.str fam) (W:=fun b=>b < s3.heap.objs.size) rfl (fun b t=>g3.tlt b t) (fun b w=>w) ⟨⟨t,rfl⟩,hfl⟩ fun I2 s4 jb hI2 hl2 e4=>?_;have P4:iO B L q n x all allV (gk (fam::rest)) (iC (fam::rest)) s0 s4 m3:=⟨P3.e.trans (e4.toP ⟨fun _=>False,fun _=>False⟩) (fun b w=>w.elim) fun i w=>w.elim,BO.moved P3.ns fun o e=>e4.keep L o hLT e,P3.mx,let ⟨ks,vs,kvs,a,b⟩:=P3.d;⟨ks,vs,kvs,PySem.Heap.DictOf.at a fun o e=>e4.keep q o hqT e,b⟩⟩;have h14:=fj O O0 ok1 h1'' hg2 (e4.toP ⟨fun _=>False,fun _=>False⟩) (fun b w z=>z) (gd P4);have ek:gk (fam::rest)=(fam.map fun c=>[c])++gk rest:=Ao;have ev:iC (fam::rest)=(fam.map fun _=>fam)++iC rest:=Ao;rw[ek,ev] at P4;have sub1:=ok1.sub _ _ _ h1'';refine xV O O0 (rest:=rest) (fam:=fam) (tf:=t) (N:=s3.heap.objs.size) Fr g0 hHi hLT hqT hnd hlim R jb ok1 (fun b w=>⟨zI (hFs b w) h13,(hF1 b w).1,(hF1 b w).2⟩) (fun b w=>⟨(sub1 b w).2.2,(hpv2 b w).2.1,(hpv2 b w).2.2⟩) hg2 (fun b w=>absurd w.2 w.1) (fun s5 m5 P5 h15 hN5=>?_) fam s4 ⟨m3,_,P4,hy3,hI2,h14,fun b w=>?_,rfl,e4.size,zI hLs h13,zI hqs h13,zH hns h13⟩
  ·have h15s:s.heap.objs.size<=s5.heap.objs.size:=zH h13 hN5
   exact BF ⟨rfl,m5,pv2,P5,h15,hpv2,hg2,zI hLs h15s,zI hqs h15s,zH hns h15s,fun b w=>zI (hFs b w) h15s⟩
  ·have hb:b=s3.heap.objs.size:=w
   subst hb;exact⟨⟨zH hns h13,fun e=>zJ _ (zI (e▸hLs) h13),fun e=>zJ _ (zI (e▸hqs) h13)⟩,zW _⟩
theorem vY {ctx:Nat}{v:Value}:B3 (cz [9000]) [(B.nm ctx,v)].reverse=none:=by
 simp only[GM,List.reverse_nil,E9,z5,List.lookup_nil,show(cz [9000]==B.nm ctx)=false from beq_eq_false_iff_ne.mpr fun e=>O.nA ctx e.symm]
structure PmE (B:Bs)(pe:Env)(ctx x y z:Nat):Prop where
 fn:pe.scope.kind=.function
 kc:pe.kindOf (B.nm ctx)=some .local
 kx:pe.kindOf (B.nm x)=some .local
 ky:pe.kindOf (B.nm y)=some .local
 kz:pe.kindOf (B.nm z)=some .local
omit O O0 in
theorem PmE.kf {ctx x y z:Nat}(V:PmE B pe ctx x y z):(pe.scope.kind==.class||(pe.scope.kind==.module&&pe.locals != pe.globals))=false:=by refine zF V.fn ?_;rfl
section
variable {ctx y z:Nat}{x0:Lz}{m:Str->Option Value}{s s1:zL}{Q:Flow->zL->Prop}{E:VS}{q1 q2 q3 q4 q5 q6 q7 q8 q9 q10:Pos}
omit O0 in
theorem pm_made {t t':Tok}{n:Nat}{q:Addr}{bd:List Stmt}(V:PmE B pe ctx x y z)(hL:pe.locals=s.heap.objs.size)(hLT:¬B.T pe.locals)(g1:aJ B s1)(e1:az B s s1)(n1:s1.heap.Ns pe.locals m)(mc:m (B.nm ctx)=some (.ref x0.a))(mz:m (cz [9000])=none)
  (hga:s1.heap.get? x0.a=some (Cj B.C x0.dx)) (gx:s1.heap.get? x0.dx=some (d4 B.w.params [.str (B.nm 19) t,.str (B.nm 21) t'] [.ref x0.r,.ref q] n)) (hQ:∀s',az B s s'->Q (.ret (.ref q)) s'):
  wpAny B.M A (execs [.Assign [.Name (B.nm x) q1] (.Attribute (.Name (B.nm ctx) q2) (B.nm 21) q3) q4,.If (.Compare (.Name (B.nm x) q5) [.Is] [.Constant .none 0 q6] q7) bd [] q8,.Return (some (.Name (B.nm x) q9)) q10] pe) Q E s1:=by
 refine zZ (AU (EI (Aw (Af V.fn V.kc n1 mc ?_) (O.dbg ctx)) (by with_unfolding_all rfl)) rfl);refine O.attr _ _ x0.a x0.dx n [19,21] [t,t'] [.ref x0.r,.ref q] 21 (.ref q) _ _ g1 hga gx rfl rfl rfl (.inl (.inr (.inr rfl))) rfl fun tk=>?_;refine CF V.kx n1 (fun h2 n2 sb2=>?_) V.kf;refine zZ (FU (CG (Aw (Af V.fn V.kx n2 (v:=.ref q) (if_pos rfl) ?_) (O.dbg x)) rfl));refine ES ?_;show wpAny _ _ (FX (.ref q) .none >>= fun c=>pure (Value.bool c)) _ _ _;refine zF (show FX (.ref q) .none=pure false from rfl) ?_;refine zK (zR (zR (AZ (BF ?_))));refine zZ (CK (Aw (Af V.fn V.kx n2 (v:=.ref q) (if_pos rfl) ?_) (O.dbg x)));exact hQ _ (ao.toEff e1 (cg (s:=s1) O hLT (hV n1 mz) sb2) (fun b q=>by refine zF q<|zF hL ?_;exact zW _) fun i q=>q.elim)
theorem xi {x:Nat}{v:Value}{Q:Unit->zL->Prop}(hk:pe.kindOf (B.nm x)=some .local)(kf:(pe.scope.kind==.class||(pe.scope.kind==.module&&pe.locals != pe.globals))=false)(hLT:¬B.no.T pe.locals)(n1:s.heap.Ns pe.locals m)(mz:m (cz [9000])=none)
  (h:∀s',ao B.no ⟨fun b=>b=pe.locals,fun _=>False⟩ s s'->s'.heap.Ns pe.locals (fun y=>if y=B.nm x then some v else m y)->Q () s'):wpAny B.M A (C6 pe (B.nm x) v) Q E s:=
 CF hk n1 (fun _ n2 sb2=>h _ (cg O0 hLT (hV n1 mz) sb2) n2) kf
theorem mk_dict {Q:VS}{p:Pos}(h:∀s',az B.no s s'->s'.heap.DictOf (AQ B.prog B.w) s.heap.objs.size []->s'.heap.objs.size=s.heap.objs.size+1->Q (.ref s.heap.objs.size) s'):wpAny B.M A (eval (.Dict [] [] p) pe) Q E s:=
 wpAny_Dict_empty (h _ (az.push O0 _ _) (FS _) (Aq ..))
structure PmMid (B:Bs)(pe:Env)(ctx x:Nat)(x0:Lz)(t:Tok) (n:Nat)(s s5:zL)(q:Addr)(m:Str->Option Value):Prop where
 e:ao B.no ⟨fun b=>b=x0.dx\/pe.locals<=b,fun _=>False⟩ s s5
 ns:s5.heap.Ns pe.locals m
 mc:m (B.nm ctx)=some (.ref x0.a)
 mx:m (B.nm x)=some (.ref q)
 d:s5.heap.DictOf (AQ B.prog B.w) q []
 lq:pe.locals < q
 q5:q < s5.heap.objs.size
 g:∃t',s5.heap.get? x0.dx=some (d4 B.w.params [.str (B.nm 19) t,.str (B.nm 21) t'] [.ref x0.r,.ref q] (n+1))
theorem pm_mid {KF:Frag}(Z0:kF B.no KF)(hRaw:rQ B.no){x:Nat}{t:Tok}{n:Nat}{bd rest:List Stmt}{r1 r2 r3 r4 r5:Pos}(V:PmE B pe ctx x y z)(hcx:x≠ctx)(g0:aJ B.no s)(hL:pe.locals=s.heap.objs.size)(hdx0:¬B.no.T x0.dx)(nTa:¬B.no.T x0.a)
  (hga:s.heap.get? x0.a=some (Cj B.C x0.dx)) (gxs:s.heap.get? x0.dx=some (d4 B.w.params [.str (B.nm 19) t] [.ref x0.r] n)) (e1:az B.no s s1) (n1:s1.heap.Ns pe.locals m) (mc:m (B.nm ctx)=some (.ref x0.a)) (mz:m (cz [9000])=none)
  (k:∀s5 q m5,PmMid B pe ctx x x0 t n s s5 q m5->wpAny B.M A (execs bd pe) (fun f s'=>match f with|.next=>wpAny B.M A (execs rest pe) Q E s'|f=>Q f s') E s5):
  wpAny B.M A (execs (.Assign [.Name (B.nm x) q1] (.Attribute (.Name (B.nm ctx) q2) (B.nm 21) q3) q4::.If (.Compare (.Name (B.nm x) q5) [.Is] [.Constant .none 0 q6] q7) (.Assign [.Attribute (.Name (B.nm ctx) r1) (B.nm 21) r2,.Name (B.nm x) r3] (.Dict [] [] r4) r5::bd) [] q8::rest) pe) Q E s1:=by
 have hLT:¬B.no.T pe.locals:=fun h=>zJ _ (hL▸g0.tlt _ h);have hlt:∀{b:Addr}{o:Obj},s.heap.get? b=some o->b < pe.locals:=fun e=>hL▸Al e;have ncx:¬(B.nm ctx=B.nm x):=fun e=>hcx (O.inj _ _ e).symm;have nd:=CN (hlt gxs);refine zZ (AU (EI (Aw (Af V.fn V.kc n1 mc ?_) (O.dbg ctx)) (by with_unfolding_all rfl)) rfl);refine hRaw _ _ x0.a x0.dx x0.r t n _ _ (g0.move e1) (e1.keep _ _ nTa hga) (e1.keep _ _ hdx0 gxs) fun tk=>?_;refine xi O O0 (s:={ s1 with toks:=tk }) V.kx V.kf hLT n1 mz fun s2 e2 n2=>?_;have e02:ao B.no ⟨fun b=>b=pe.locals,fun _=>False⟩ s s2:=((e1.trans (az.toks _)).toP _).trans e2 (fun b q=>.inl q) fun i q=>q.elim;refine zZ (FU (CG (Aw (Af V.fn V.kx n2 (v:=.none) (if_pos rfl) ?_) (O.dbg x)) rfl));refine ES ?_;show wpAny _ _ (FX .none .none >>= fun c=>pure (Value.bool c)) _ _ _;refine zF (show FX .none .none=pure true from rfl) ?_;refine zK (zR (zR (AZ (zZ (wpAny_Assign_two (mk_dict O O0 fun s3 e23 hd3 hz3=>?_) rfl rfl)))));have e03:ao B.no ⟨fun b=>b=pe.locals,fun _=>False⟩ s s3:=e02.trans (e23.toP _) (fun b q=>.inl q) fun i q=>q.elim;have g3:aJ B.no s3:=g0.moveP e03 fun b q=>g0.hi (by refine zF q<|zF hL ?_;exact zW _);have n3:=BO.moved n2 fun o e=>e23.keep _ o hLT e;have gx3:=e03.keep x0.dx _ hdx0 nd gxs;have hLs2:pe.locals < s2.heap.objs.size:=n2.lt;refine zF (assign_Attribute _ _ _ _) ?_;refine zK (BE (Aw (Af V.fn V.kc n3 (v:=.ref x0.a) ((if_neg ncx).trans mc) ?_) (O.dbg ctx)));refine zK (AS (zK (BE (iW (B:=B.no) (Z0.z.here g3) (dU (e03.keep x0.a _ nTa (CN (hlt hga)) hga) gx3) Z0.set rfl Z0.z.plain (Z0.taker 21 (.inl (.inr (.inr rfl)))) Z0.hasDict (gC O0 (x:=19) (y:=21) (by decide)) gx3 (iE O0 (x:=19) (y:=21) (by decide)) rfl (by simp[fF]) fun h4 sb4 g4=>wpAny_release ?_))))
 have e34:ao B.no ⟨fun b=>b=x0.dx,fun _=>False⟩ s3 { s3 with heap:=h4,toks:=s3.toks+2 }:=cg (s:=s3) O0 hdx0 (fun o e=>by
  obtain rfl:=zG (gx3.symm.trans e)
  exact x7 rfl) sb4
 have hq2:¬s2.heap.objs.size=x0.dx:=fun e=>zJ _ (BU (hlt gxs) (e▸hLs2));have hqT:¬B.no.T s2.heap.objs.size:=fun h=>zJ _ (BU (g0.tlt _ h) (hL▸hLs2))
 refine BY (xi O O0 (s:={ s3 with heap:=h4,toks:=s3.toks+2 }) V.kx V.kf hLT (BO.moved n3 fun o e=>e34.keep _ o hLT nd.symm e) ((if_neg (O.nA x).symm).trans mz) fun s5 e45 n5=>k s5 s2.heap.objs.size _ ⟨((e03.mono (p':=⟨fun b=>b=x0.dx\/pe.locals<=b,fun _=>False⟩) (fun b q=>.inr (Ax q.symm)) fun i q=>q).trans e34 (fun b q=>.inl (.inl q)) fun i q=>q.elim).trans e45 (fun b q=>.inl (.inr (Ax q.symm))) fun i q=>q.elim,n5,
  (if_neg ncx).trans ((if_neg ncx).trans mc),if_pos rfl,PySem.Heap.DictOf.at (PySem.Heap.DictOf.at hd3 fun o e=>e34.keep _ o hqT hq2 e) fun o e=>e45.keep _ o hqT (Nat.ne_of_gt hLs2) e,hLs2,
  zI (by refine zF hz3 ?_;exact AL _) (zH e34.size e45.size),_,e45.keep _ _ hdx0 nd g4⟩)
theorem pm_raw {KF:Frag}(Z0:kF B.no KF)(hRaw:rQ B.no)(hIter:pZ B.no){x id:Nat}{t:Tok}{n:Nat}{fs:List (List Nat)}{r1 r2 r3 r4 r5 r6 r7 r8 r9 r10 r11 r12 r13 r14 r15 r16 r17 r18 r19:Pos}(hX:B.X=some x0)(hks:x0.ks=gk fs)(hvs:x0.vs=iC fs)
  (V:PmE B pe ctx x y z) (hcx:x≠ctx) (hcy:y≠ctx) (hcz:z≠ctx) (hxy:x≠y) (hxz:x≠z) (hyz:y≠z) (hline:(r9.endLine==r10.line)=true) (hK:8<=K) (hC:c7 B.no K id [.list (fs.map .str)] [] (.list (fs.map .str))) (R:aB A (K+1))
  (g:aJ B s) (tW:∀b,B.T b->W b) (wlt:∀b,W b->b < s.heap.objs.size) (hw:¬W x0.a) (hp:av B s.heap W (.thing [19,22] [.nil,.lam id [.list (fs.map .str)]]) (.ref x0.r)) (hL:pe.locals=s.heap.objs.size) (hdx0:¬B.no.T x0.dx)
  (hga:s.heap.get? x0.a=some (Cj B.C x0.dx)) (gxs:s.heap.get? x0.dx=some (d4 B.w.params [.str (B.nm 19) t] [.ref x0.r] n)) (e1:az B.no s s1) (n1:s1.heap.Ns pe.locals m) (mc:m (B.nm ctx)=some (.ref x0.a)) (mz:m (cz [9000])=none)
  (hQ:∀q s',az B s s'->(∀W',av B s'.heap W' (.dict ((gk fs).map .str) ((iC fs).map .str)) (.ref q))->Q (.ret (.ref q)) s'):
  wpAny B.M A (execs [.Assign [.Name (B.nm x) q1] (.Attribute (.Name (B.nm ctx) q2) (B.nm 21) q3) q4,.If (.Compare (.Name (B.nm x) q5) [.Is] [.Constant .none 0 q6] q7)
   [.Assign [.Attribute (.Name (B.nm ctx) r1) (B.nm 21) r2,.Name (B.nm x) r3] (.Dict [] [] r4) r5,
    .For (.Name (B.nm y) r6) (.Call (.Attribute (.Attribute (.Name (B.nm ctx) r7) (B.nm 19) r8) (B.nm 22) r9) [] [] r10)
     [.For (.Name (B.nm z) r11) (.Name (B.nm y) r12) [.Assign [.Subscript (.Name (B.nm x) r13) (.Name (B.nm z) r14) r15] (.Name (B.nm y) r16) r17] [] r18] [] r19] [] q8,.Return (some (.Name (B.nm x) q9)) q10] pe) Q E s1:=by
 have g0:aJ B.no s:=good_no O g;have hTdx:B.T x0.dx:=.inr ⟨x0,hX,rfl⟩;refine pm_mid O O0 Z0 hRaw V hcx g0 hL hdx0 (fun h=>hw (tW _ (sI h))) hga gxs e1 n1 mc mz fun s5 q m5 M=>?_;have hLT:¬B.no.T pe.locals:=fun h=>zJ _ (hL▸g0.tlt _ h);have hqT:¬B.T q:=fun h=>zJ _ (BU (g.tlt _ h) (hL▸M.lq));have ghi:∀b,pe.locals<=b->B.no.Hi b:=fun b h=>g0.hi (hL▸h);have hlt:∀{b:Addr}{o:Obj},s.heap.get? b=some o->b < pe.locals:=fun e=>hL▸Al e;have g5:aJ B.no s5:=g0.moveP M.e fun b q=>q.elim (fun q=>q▸⟨(O.xk x0 hX).1,hdx0⟩) (ghi b);have keep5:∀b o,¬W b->s.heap.get? b=some o->s5.heap.get? b=some o:=fun b o w e=>M.e.keep b o (fun t=>w (tW _ (sI t))) (fun q=>q.elim (fun q=>w (q▸tW _ hTdx)) fun q=>zJ _ (zI (hlt e) q)) e;obtain⟨t5,gx5⟩:=M.g;obtain⟨ar,dr,nr,tsr,dvr,er,wr,gr,wdr,gdr,lr1,lr2,rr⟩:=hp;obtain rfl:=Value.ref.inj er;obtain⟨v1,dv1,rfl,rv1,rr⟩:=rr;obtain⟨v2,dv2,rfl,rv2,rr⟩:=rr;obtain rfl:dv2=[]:=rr;obtain rfl:v1=.none:=rv1;obtain⟨fl,cv,rfl,wfl,lam,rc⟩:=rv2;refine zZ (wpAny_For (tA (by with_unfolding_all rfl) hline (EI (Aw (Af V.fn V.kc M.ns M.mc ?_) (O.dbg ctx)) (by with_unfolding_all rfl))) fun _=>rfl);refine O0.attr _ _ x0.a x0.dx _ [19,21] [t,t5] [.ref x0.r,.ref q] 19 (.ref x0.r) _ _ g5 (keep5 _ _ hw hga) gx5 rfl rfl rfl (.inl (.inl rfl)) rfl fun tk2=>?_;refine hIter _ _ x0.r dr nr tsr .none (.ref fl) _ _ _ (g5.move (az.toks _)) (keep5 _ _ wr gr) (keep5 _ _ wdr gdr) lr1 rfl fun tk3=>?_;obtain⟨L,fo',fd',ls,gfl,dfl,nwf,lamat⟩:=lam;refine DZ (o:=fo') (fd:=fd') (jl (fun _ h=>aG h) (Bn ⟨⟨keep5 _ _ wfl gfl,dfl⟩,?_⟩));have e56:az B.no s5 { s5 with toks:=tk3 }:=az.toks _;generalize({ s5 with toks:=tk3 }:zL)=s6 at e56 ⊢;have g6:=g5.move e56
 let W1:Addr->Prop:=fun b=>W b\/pe.locals<=b/\b < s6.heap.objs.size
 have sz56:=e56.size;have tW1:∀b,B.no.T b->W1 b:=fun b t=>.inl (tW b (sI t));have wlt1:∀b,W1 b->b < s6.heap.objs.size:=fun b w=>w.elim (fun w=>zI (wlt b w) (zH M.e.size sz56)) fun w=>w.2;have nT:∀b,¬W b->¬B.no.T b:=fun b w t=>w (tW b (sI t));have keep6:∀b o,¬W b->s.heap.get? b=some o->s6.heap.get? b=some o:=fun b o w e=>e56.keep b o (nT b w) (keep5 b o w e);have nW1:∀b o,¬W b->s.heap.get? b=some o->¬W1 b:=fun b o w e q=>q.elim w fun q=>zJ _ (zI (hlt e) q.1);have lam6:B.no.Lam id cv s6.heap W1 fl:=O0.lamkeep id cv s.heap W fl s6.heap W1 ⟨L,fo',fd',ls,gfl,dfl,nwf,lam_no lamat⟩ (fun b o w e=>w.elim (fun w=>keep6 b o w e) fun w=>e56.ck b o w (M.e.ck b o w e)) fun b w=>w.imp_right fun w=>AG (hL▸w.1);obtain⟨cl,cr,rfl,rcl,rcr⟩:=rc;obtain rfl:cr=[]:=rcr;obtain⟨al,avs,an,rfl,wal,gal,lal,ral⟩:=rcl;refine C4 (CV (hC fl [.ref al] _ s6 W1 [] g6 (R.less (CZ _)) tW1 wlt1 lam6 (aa.cons ⟨al,avs,an,rfl,nW1 _ _ wal gal,keep6 _ _ wal gal,lal,tT ral⟩ aa.nil) aa.nil) ?_);rintro r' s7 ⟨u,rfl,e67,ru⟩;show wpAny B.M _ (FB u) _ _ s7;refine ji O0 (K:=K) (x:=.list (fs.map .str)) (W:=W1) rfl tW1 (fun b w=>zI (wlt1 b w) e67.size) ru fun I1 s8 ok1 hI1 hl1 e78=>?_;have e58:=(e56.trans e67).trans e78;have hL5:pe.locals < s5.heap.objs.size:=M.ns.lt;have h67:s5.heap.objs.size<=s7.heap.objs.size:=zH sz56 e67.size;have L1:W1 pe.locals:=.inr ⟨zW _,zI hL5 sz56⟩;have Q1:W1 q:=.inr ⟨BV M.lq,zI M.q5 sz56⟩;have Fr:zB B pe pe.locals q pe.locals x y z:=⟨V.fn,rfl,V.kx,V.ky,V.kz,hxy,hxz,hyz,zW _,BV M.lq,CN M.lq⟩;have nq0:¬B.no.T q:=fun h=>hqT (sI h);obtain⟨_,xnd,x65,xl,xlim,xvl⟩:=O.xk x0 hX;refine xU O O0 (A:=A) (K:=K) (all:=gk fs) (allV:=iC fs) (s0:=s5) Fr g5 ghi hLT nq0 (hks▸xnd) (hks▸xlim) (R.less (zH (CJ _ _) (CZ _))) ok1 (fun b w=>⟨fun e=>w.1 (e▸L1),fun e=>w.1 (e▸Q1)⟩) (fun s9 m9 P9=>?_) fs s8
  ⟨_,_,⟨e58.toP _,BO.moved M.ns fun o e=>e58.keep _ o hLT e,M.mx,[],[],[],PySem.Heap.DictOf.at M.d fun o e=>e58.keep _ o nq0 e,⟨rfl,fun _ _ h=>(ai h),rfl⟩,rfl,rfl⟩,hI1,fun b w=>?_,rfl,zI hL5 e58.size,zI M.q5 e58.size,BV (zI hL5 e58.size),fun b w=>zI w.2 e78.size⟩
 ·show wpAny B.M _ (execs [] _) _ _ s9
  refine BF ?_;refine zZ (CK (Aw (Af V.fn V.kx P9.ns (v:=.ref q) P9.mx ?_) (O.dbg x)));obtain⟨ks,vs,kvs,⟨o9,es,ep,ho9,hx9,hdt,hky,hpr,hnd9⟩,hr9,k1,k2⟩:=P9.d;rw[AF] at k1 k2;have tab:B.TabO o9:=⟨x0,es,ep,kvs,hX,hx9,hdt,hky,hpr,by exact zF hr9.k<|zF k1<|zF hks rfl,hnd9,fun i y e=>hr9.v i y (by refine zF k2<|zF (AM hvs) ?_;exact e),xl,x65⟩;have e09:=M.e.trans P9.e (fun b q=>.inl (.inr q)) fun i q=>q.elim;have sy:(q==Cg)=false:=beq_eq_false_iff_ne.mpr fun e=>zJ _ (BU (zI (e.symm▸O.sysm) (hL▸g.size)) M.lq)
  have notT:∀b o,B.TabO o->s.heap.get? b=some o->¬B.no.T b:=fun b o tb h t=>t.elim (fun⟨f,c,e⟩=>by
   obtain⟨ps,hP,_⟩:=g.ti.2 f c _ e;obtain rfl:=zG (hP.symm.trans h)
   exact(yr (.inr tb)).elim (fun z=>nomatch z) fun z=>nomatch z) fun⟨_,e,_⟩=>ai e
  refine hQ _ _ ⟨fun b o nt h=>e09.keep b o (fun t=>nt (sI t)) (fun q=>q.elim (fun q=>nt (q▸hTdx)) fun q=>zJ _ (zI (hlt h) q)) h,
   fun b o ko h=>ko.elim (fun ic=>e09.ck b o (.inl ic) h) fun tb=>e09.keep b o (notT b o tb h) (fun q=>q.elim (fun q=>by
    subst q;obtain rfl:=zG (gxs.symm.trans h)
    exact kT (es:=(fF B.w.params [.str (B.nm 19) t] [.ref x0.r]).toArray) rfl (fun(q:Value.type "dict" = Value.type "code")=>nomatch q) (fun e he=>by
     obtain rfl:=zY.mp (show e∈[_] from he)
     exact beq_eq_false_iff_ne.mpr (O.nA 19)) (.inr tb)) fun q=>zJ _ (zI (hlt h) q)) h,
   e09.size,fun _=>⟨fun x1 h1=>?_,(e09.ti g0.ti).2⟩,fun i x h=>e09.gens i x (fun q=>q) h,e09.bare,e09.os⟩ fun W'=>⟨x0,_,o9,hX,rfl,hqT,ho9,tab,sy,by exact zF hks rfl,by exact zF hvs rfl,xvl⟩
  obtain rfl:=zG (hX.symm.trans h1);exact .made t _ (n+1) _ o9 (P9.e.keep _ _ hdx0 (fun q=>zJ _ (zI (hlt gxs) q)) gx5) hqT ho9 tab sy
 ·have hb:b=s7.heap.objs.size:=w
  subst hb;exact⟨BV (zI hL5 h67),fun e=>zJ _ (zI hL5 (e▸h67)),fun e=>zJ _ (zI M.q5 (e▸h67))⟩
end
theorem pm_call {KF:Frag}(Z0:kF B.no KF)(hRaw:rQ B.no)(hIter:pZ B.no){f ctx x y z id:Nat}{sc:LK}{fa:Addr}{fo:Obj}{fd:BD}{x0:Lz}{fs:List (List Nat)}{q1 q2 q3 q4 q5 q6 q7 q8 q9 q10 r1 r2 r3 r4 r5 r6 r7 r8 r9 r10 r11 r12 r13 r14 r15 r16 r17 r18 r19:Pos}(hX:B.X=some x0)
  (Fx:bC B f 0 [ctx] sc [.Assign [.Name (B.nm x) q1] (.Attribute (.Name (B.nm ctx) q2) (B.nm 21) q3) q4,.If (.Compare (.Name (B.nm x) q5) [.Is] [.Constant .none 0 q6] q7)
   [.Assign [.Attribute (.Name (B.nm ctx) r1) (B.nm 21) r2,.Name (B.nm x) r3] (.Dict [] [] r4) r5,
    .For (.Name (B.nm y) r6) (.Call (.Attribute (.Attribute (.Name (B.nm ctx) r7) (B.nm 19) r8) (B.nm 22) r9) [] [] r10)
     [.For (.Name (B.nm z) r11) (.Name (B.nm y) r12) [.Assign [.Subscript (.Name (B.nm x) r13) (.Name (B.nm z) r14) r15] (.Name (B.nm y) r16) r17] [] r18] [] r19] [] q8,.Return (some (.Name (B.nm x) q9)) q10] fa fo fd)
  (hl:∀y∈sc,y.2≠.cell) (hc:sc.lookup ctx=some .local) (hx:sc.lookup x=some .local) (hy:sc.lookup y=some .local) (hz':sc.lookup z=some .local) (hcx:x≠ctx) (hcy:y≠ctx) (hcz:z≠ctx) (hxy:x≠y) (hxz:x≠z) (hyz:y≠z) (hline:(r9.endLine==r10.line)=true) (hK:8<=K)
  (hL':c7 B.no K id [.list (fs.map .str)] [] (.list (fs.map .str))):
  OldAt B (K+4) f (.cx (.thing [19,22] [.nil,.lam id [.list (fs.map .str)]])) (.dict ((gk fs).map .str) ((iC fs).map .str)):=by
 refine⟨fa,fo,fd,Fx.mg,Fx.nT,Fx.at',Fx.data,fun A s W v g R tW wlt rv=>?_⟩;obtain⟨x',ex,rfl,hw,hga,hxk,hxv,hp⟩:=rv;obtain rfl:=zG (hX.symm.trans ex);have hfs:(D.thing [19,22] [.nil,.lam id [.list (fs.map .str)]]).fams=fs:=jk fs;have hks:x0.ks=gk fs:=by refine zF hxk ?_;unfold kJ;exact zF hfs rfl
 have hvs:x0.vs=iC fs:=by refine zF hxv ?_;unfold mZ;exact zF hfs rfl
 have ho:=g.base _ _ Fx.nT Fx.at';obtain⟨c,oc,cvs,t,hc1,hc2,hc3,hc4,hc5⟩:=Fx.code;have hcd:s.heap.CodeRec fd.code fd.qualname:=⟨c,oc,cvs,t,hc1,g.base _ _ hc2 hc3,hc4,hc5⟩;refine CH R.lim ho Fx.data Fx.co Fx.gen Fx.body hcd ?_;refine zF (Fx.bind [.ref x0.a] rfl)<|zF Fx.glob<|zF Fx.clos<|zF Fx.blt ?_
 refine zR ?_;have kd:∀u,sc.lookup u=some .local->fd.scope.names.lookup (B.nm u)=some .local:=fun u hu=>by refine zF Fx.names<|zF (cX O _ _) ?_;exact hu
 have hk1:=kd ctx hc;have hk2:=kd x hx;refine wpAny_newFunctionEnv (fun y hy=>?_) (fun y hy=>?_) (fun h1 n1 sb=>?_) Fx.kind
 ·rw[Fx.names] at hy
  simp only[aL,Ac] at hy;obtain⟨q,hq,rfl⟩:=hy;exact hl q hq
 ·simp only[z8,CL,AY,GL,Ab,Dc,or_false] at hy
  subst hy;exact hk1
 have n1:h1.Ns s.heap.objs.size (fun x_1=>B3 x_1 [(B.nm ctx,Value.ref x0.a)].reverse):=n1;have ex:∀b o,s.heap.get? b=some o->h1.get? b=some o:=fun b o e=>sb.extBut b o (fun q=>absurd (Al e) (by refine zF q ?_;exact zJ _)) (z9 _ e);have hz:s.heap.objs.size<=h1.objs.size:=by refine zF sb.1<|zF (Aq _ _) ?_;exact CZ _
 have e1:az B s { s with heap:=h1,toks:=s.toks+1 }:=az.heap O _ ex hz;refine⟨aJ.lim O (g.move e1),Eg ?_⟩;have mz:B3 (cz [9000]) [(B.nm ctx,Value.ref x0.a)].reverse=none:=vY O O0;have mc:B3 (B.nm ctx) [(B.nm ctx,Value.ref x0.a)].reverse=some (.ref x0.a):=C8;generalize hpe:newEnv fd.scope s.heap.objs.size AE [] (fd.qualname++Str.ofString ".<locals>.") (some fa) fd.code none Bq=pe
 have hL:pe.locals=s.heap.objs.size:=by refine zF (AM hpe) ?_;rfl
 have V:PmE B pe ctx x y z:=by
  refine zF (AM hpe) ?_;exact⟨Fx.kind,hk1,hk2,kd y hy,kd z hz'⟩
 rw[<-hL] at n1;rcases g.ti.1 x0 hX with⟨t,n,gx⟩|⟨t,t',n,q,o,gx,nt,go,ko,sy⟩
 ·have hdx0:¬B.no.T x0.dx:=fun t=>t.elim (fun⟨f,c,e⟩=>by
   obtain⟨ps,hP,_⟩:=g.ti.2 f c _ e
   rw[hP] at gx;exact nomatch gx) fun⟨_,e,_⟩=>ai e
  exact pm_raw O O0 Z0 hRaw hIter hX hks hvs V hcx hcy hcz hxy hxz hyz hline hK hL' (R.deeper.less (CZ _)) g tW wlt hw hp hL hdx0 hga gx (az.heap O0 _ ex hz) n1 mc mz fun q s' e r=>⟨_,rfl,e,r⟩
 ·have hdx0:¬B.no.T x0.dx:=fun t=>t.elim (fun⟨f,c,e⟩=>by
   obtain⟨ps,hP,_⟩:=g.ti.2 f c _ e
   rw[hP] at gx;exact nomatch gx) fun⟨_,e,_⟩=>ai e
  have hLT:¬B.T pe.locals:=fun h=>zJ _ (hL▸g.tlt _ h);exact pm_made O V hL hLT (g.move e1) e1 n1 mc mz (ex _ _ hga) (ex _ _ gx) fun s' e=>⟨_,rfl,e,fun W'=>⟨x0,q,o,hX,rfl,nt,e.ck _ _ (.inr ko) go,ko,sy,by exact zF hks rfl,by exact zF hvs rfl,(O.xk x0 hX).2.2.2.2.2⟩⟩
end
end Mine
section
open PySem PySem.W PySem.W.X PySem.Calls PyProof.Rows
namespace Mine
variable {B:Bs}
theorem oD (inj:∀x y,B.nm x=B.nm y->x=y){P:DB}{f:Nat}{v:Value}:∀(ns:List Nat)(ts:List Tok)(dv:List Value),ts.length=ns.length->dv.length=ns.length->((ns.zip dv).find? fun q=>q.1==f)=some (f,v)->
  ∃e,(fF P ((ns.zip ts).map fun p=>Value.str (B.nm p.1) p.2) dv).find? (·.key.isStr (B.nm f))=some e/\e.val=v
 |[],_,_,_,_,h=>by simp at h
 |_::_,[],_,h,_,_=>by simp at h
 |_::_,_::_,[],_,h,_=>by simp at h
 |n::ns,t::ts,d::dv,h1,h2,h=>by
  simp only[AY,BC] at h;simp only[fF,AY,z8,BC,Value.isStr]
  by_cases hn:n=f
  ·subst hn
   simp only[beq_self_eq_true,zV,BL,true_and] at h;exact⟨⟨keyOf P (.str (B.nm n) t),.str (B.nm n) t,d⟩,by simp only[beq_self_eq_true],h⟩
  ·have e1:(n==f)=false:=by simpa using hn
   have e2:(B.nm n==B.nm f)=false:=by
    rw[beq_eq_false_iff_ne];exact fun e=>hn (inj _ _ e)
   simp only[e1] at h;simp only[e2];exact oD inj ns ts dv (by simpa using h1) (by simpa using h2) h
theorem vi {KF:Frag}(inj:∀x y,B.nm x=B.nm y->x=y)(Z:kH B KF)(hga:Dr KF (.ref B.C) "__getattribute__" = some (some (.builtin "object.__getattribute__")))
  {ex:Bool}(hat:∀f,(f=19\/f=20\/f=21)\/f=22->∃attr,Dr KF (.ref B.C) (B.nm f)=some attr/\(match attr with|some a=>Gv KF a "__get__" | none=>some none)=some none) (hh:(clsIn KF B.C).any (·.hasDict)=true)
  (A:Av) (s:zL) (a dx:Addr) (n:Nat) (ns:List Nat) (ts:List Tok) (dv:List Value) (f:Nat) (v:Value) (E:VS) (Q:VS) (g:aJ B s) (hx:s.heap.get? a=some (Cj B.C dx))
  (hd:s.heap.get? dx=some { cls:=.type "dict", dict:=none,data:=.dict (fF B.w.params ((ns.zip ts).map fun p=>Value.str (B.nm p.1) p.2) dv).toArray n,slots:=#[] }) (l1:ts.length=ns.length) (l2:dv.length=ns.length)
  (hf:((ns.zip dv).find? fun q=>q.1==f)=some (f,v)) (hf3:(f=19\/f=20\/f=21)\/f=22) (hv:Fe v=true) (k:∀t,Q v { s with toks:=t }):wpAny B.M A (getAttr (.ref a) (B.nm f) ex) Q E s:=by
 have X:=Z.here g;refine am (hat f hf3) fun attr h1 h2=>?_;refine am (oD (P:=B.w.params) inj ns ts dv l1 l2 hf) fun e he e91=>?_;subst e91;obtain⟨cd,hc,hcd⟩:∃cd,clsIn KF B.C=some cd/\cd.hasDict=true:=by
  cases hc:clsIn KF B.C with
  |none=>rw[hc] at hh;exact bG hh
  |some cd=>rw[hc] at hh;exact⟨cd,rfl,hh⟩
 refine get_value (K:=KF) X (dU hx hd) hga ?_ hv (k _);have own:W.ownOf cd (some { cls:=.type "dict", dict:=none,data:=.dict (fF B.w.params ((ns.zip ts).map fun p=>Value.str (B.nm p.1) p.2) dv).toArray n,slots:=#[] }) (B.nm f)=some (some e.val):=by
  unfold W.ownOf;refine zF hcd<|zF (if_pos rfl) ?_
  unfold FC;simp only[BG];exact zF he rfl
 unfold findObj;refine zF hc<|zF (Ad _ _)<|zF h1<|zF (Ad _ _) ?_
 cases attr with
 |none=>
  simp only[Ad];refine zF own ?_;rfl
 |some a'=>
  simp only at h2;simp only[h2,Ad];refine zF own ?_;rfl
theorem raw_of {KF:Frag}(inj:∀x y,B.nm x=B.nm y->x=y)(Z:kH B KF)(hga:Dr KF (.ref B.C) "__getattribute__" = some (some (.builtin "object.__getattribute__"))) (h21:Dr KF (.ref B.C) (B.nm 21)=some (some .none)) (hget:Gv KF .none "__get__" = some none)
  (hh:(clsIn KF B.C).any (·.hasDict)=true) (hcop:copiedNames.contains (B.nm 21)=false):rQ B:=by
 intro A s a dx r t n E Q g hx hd k;obtain⟨cd,hc,hcd⟩:∃cd,clsIn KF B.C=some cd/\cd.hasDict=true:=by
  cases hc:clsIn KF B.C with
  |none=>rw[hc] at hh;exact bG hh
  |some cd=>rw[hc] at hh;exact⟨cd,rfl,hh⟩
 refine get_value (K:=KF) (Z.here g) (dU hx hd) hga ?_ rfl (k _);have e:(B.nm 19==B.nm 21)=false:=by
  rw[beq_eq_false_iff_ne];exact fun e=>absurd (inj _ _ e) (by decide)
 have own:W.ownOf cd (some (d4 B.w.params [.str (B.nm 19) t] [.ref r] n)) (B.nm 21)=some none:=by
  unfold W.ownOf;refine zF hcd<|zF (if_pos rfl) ?_
  exact ku e
 unfold findObj;refine zF hc<|zF (Ad _ _)<|zF h21<|zF (Ad _ _) ?_
 simp only[hget,Ad];refine zF own ?_;simp only[Ad,hcop,Bool.false_and,AK,if_false]
 rfl
theorem iter_of {KF:Frag}(inj:∀x y,B.nm x=B.nm y->x=y)(Z:kH B KF)(hga:Dr KF (.ref B.C) "__getattribute__" = some (some (.builtin "object.__getattribute__"))) (hgt:Dr KF (.ref B.C) "__getattr__" = some none)
  (hat:∀f,(f=19\/f=20\/f=21)\/f=22->∃attr,Dr KF (.ref B.C) (B.nm f)=some attr/\(match attr with|some a=>Gv KF a "__get__" | none=>some none)=some none) (h22:Dr KF (.ref B.C) (B.nm 22)=some none) (hh:(clsIn KF B.C).any (·.hasDict)=true):pZ B:=by
 intro A s a dx n ts u v pl E Q g hx hd hl hv k;refine method_usual (K:=KF) (Z.here g) (dU hx hd) hga hgt h22 rfl ?_;refine vi (KF:=KF) inj Z hga hat hh A s a dx n [19,22] ts [u,v] 22 v _ _ g hx hd hl rfl rfl (.inr rfl) hv k
end Mine
end
section
open PySem PySem.W PySem.W.X PySem.Calls PyProof.Rows
namespace Mine
theorem rT:∀(ns:List Str)(vals:List Value),ns.Nodup->vals.length=ns.length->(ns.filterMap fun n=>((ns.zip vals).lookup n).map (n,·))=ns.zip vals:=by
 have key:∀(ns:List Str) (vals:List Value) (pre:List (Str×Value)),ns.Nodup->(∀n∈ns,∀q∈pre,q.1≠n)->vals.length=ns.length->(ns.filterMap fun n=>((pre++ns.zip vals).lookup n).map (n,·))=ns.zip vals:=by
  intro ns
  induction ns with
  |nil=>intro vals pre J J J;simp
  |cons n ns ih=>
   intro vals pre hn hp hl
   cases vals with
   |nil=>simp at hl
   |cons v vals=>
    simp only[Bi] at hn;have h1:∀(l:List (Str×Value)) (pre:List (Str×Value)),(∀q∈pre,q.1≠n)->(pre++(n,v)::l).lookup n=some v:=by
     intro l pre hp
     induction pre with
     |nil=>simp
     |cons q r ihr=>
      obtain⟨a,b⟩:=q;have:(n==a)=false:=by
       rw[beq_eq_false_iff_ne];exact fun e=>hp (a,b) zU e.symm
      (refine zF EW ?_;rw[z5];refine zF this ?_)
      exact ihr fun q hq=>hp q (zT _ hq)
    refine zF AY<|zF Ep<|zF (h1 _ _ (hp n zU)) ?_
    simp only[Cd,EG,true_and]
    have:=ih vals (pre++[(n,v)]) hn.2 (fun m hm q hq=>by
     rcases z7.mp hq with h|h
     ·exact hp m (zT _ hm) q h
     ·simp only[Ab,Dc,or_false] at h
      subst h
      exact fun e=>hn.1 (by refine zF (show n=m from e) ?_;exact hm)) (by simpa using hl)
    simpa using this
 intro ns vals hn hl;exact key ns vals [] hn (fun _ _ q hq=>by exact aG hq) hl
theorem tN:∀(ns:List Str)(vals:List Value),vals.length=ns.length->∀n∈ns,((ns.zip vals).lookup n).isNone=false
 |[],_,_,n,h=>by exact aG h
 |_::_,[],h,_,_=>by simp at h
 |m::ns,v::vals,hl,n,h=>by
  (refine zF AY ?_;rw[z5])
  by_cases e:n=m
  ·subst e;simp
  ·refine zF (show(n==m)=false by simpa using e) ?_
   exact tN ns vals (by simpa using hl) n ((Ab.mp h).resolve_left e)
noncomputable def cU (nm:Nat->Str)(ps:List (Nat×Pos)):List Str:=(aP nm ps).args.map fun a=>a.arg
noncomputable def dfOf (N:List Str):List Value:=((none:Option (Array Value)).getD #[]).toList.drop (((none:Option (Array Value)).getD #[]).toList.length - N.length)
theorem tC (nm:Nat->Str)(ps:List (Nat×Pos))(fd:BD)(vals:List Value):∃(E1 E2:Sem (List (Str×Value)))(F:Str×Value->List (Str×Value)->Sem (ForInStep (List (Str×Value)))),
  EE { fd with params:=aP nm ps,defaults:=.none,kwdefaults:=.none } ⟨vals,[]⟩=
   if(decide (vals.length > (cU nm ps).length)&&true)=true then E1 else
   if(!(((cU nm ps).take ((cU nm ps).length - (dfOf (cU nm ps)).length)).filter fun n=>(((cU nm ps).zip vals).lookup n).isNone).isEmpty)=true then E2 else
   (forIn (((cU nm ps).drop ((cU nm ps).length - (dfOf (cU nm ps)).length)).zip (dfOf (cU nm ps))) ((cU nm ps).zip vals) F >>= fun s=>
    pure (((cU nm ps)++[]).filterMap fun n=>(s.lookup n).map (n,·))):=by
 refine⟨?_,?_,?_,?_⟩
 rotate_left 3
 ·exact rfl
theorem fd_eq {fd:BD}{p:Arguments}{d k:Value}(h1:fd.params=p)(h2:fd.defaults=d)(h3:fd.kwdefaults=k):fd={ fd with params:=p,defaults:=d,kwdefaults:=k }:=by exact zF (AM h1)<|zF (AM h2)<|zF (AM h3) rfl
theorem iM (nm:Nat->Str){ps:List (Nat×Pos)}(hn:(ps.map fun q=>nm q.1).Nodup)(fd:BD)(vals:List Value)(h1:fd.params=aP nm ps)(h2:fd.defaults=.none)(h3:fd.kwdefaults=.none)(hl:vals.length=ps.length):
  EE fd ⟨vals,[]⟩=pure ((ps.map fun q=>nm q.1).zip vals):=by
 refine x3 (tC nm ps fd vals) fun E1 E2 F h=>?_;have hN:cU nm ps=ps.map fun q=>nm q.1:=AO;have hd:dfOf (cU nm ps)=[]:=List.drop_nil;rw[fd_eq h1 h2 h3,h,hd,hN,if_neg,if_neg]
 ·show(forIn (List.zip (List.drop ((ps.map fun q=>nm q.1).length - 0) (ps.map fun q=>nm q.1)) []) ((ps.map fun q=>nm q.1).zip vals) F >>= _)=_
  refine zF Gz<|zF (AF _) ?_
  exact congrArg (pure (f:=Sem)) (rT _ _ hn (by simpa using hl))
 ·refine zF (List.filter_eq_nil_iff.mpr fun n hn'=>by refine zF (tN _ _ (by simpa using hl) n (List.mem_of_mem_take hn')) ?_;exact BQ) ?_
  exact BQ
 ·refine zF (decide_eq_false (by refine zF hl<|zF (zX _) ?_;exact zJ _)) ?_
  exact BQ
end Mine
end
section
open PySem PySem.W PySem.W.X PySem.Calls PyProof.Rows
set_option genInjectivity true
namespace Mine
variable {B:Bs}
structure FnV where
 params:Arguments
 body:Fn
 names:List (Str×NameKind)
 kind:ScopeKind
 gen:Bool
 co:Bool
 glob:Addr
 blt:Addr
 clos:List (Str×Addr)
 dfl:Value
 kw:Value
 code:Value
 qual:Str
noncomputable def mE (K:Frag)(a:Addr):Option FnV:=match K.lookup a with
 |some ⟨_,_,.func fd,_⟩=>some ⟨fd.params,fd.body,fd.scope.names,fd.scope.kind,fd.scope.isGenerator,fd.scope.isCoroutine,fd.globals,fd.builtins,fd.closure,fd.defaults,fd.kwdefaults,fd.code,fd.qualname⟩
 |_=>none
noncomputable def gM (K:Frag)(a:Addr):Option Str:=match K.lookup a with
 |some ⟨_,_,.fields vs,_⟩=>(match(vs[1]?:Option Value) with
  |some (.str q _)=>some q
  |_=>none)
 |_=>none
set_option tactic.hygienic true in
theorem kC {K:Frag}{a:Addr}{q:Str}(h:gM K a=some q):∃o vs t,K.lookup a=some o/\o.data=.fields vs/\vs[1]?=some (.str q t):=by
 unfold gM at h
 split at h
 case h_2=>exact ai h
 rename_i vs _ hk
 split at h
 case h_2=>exact ai h
 rename_i q' t hv
 obtain rfl:=zG h;exact⟨_,vs,t,hk,rfl,hv⟩
set_option tactic.hygienic true in
theorem rE {KF:Frag}(KX:KF.In B.h₀)(G:B.h₀.Ns AE B.mg){f fid:Nat}{ps:List (Nat×Pos)}{sc:LK}{body:List Stmt}{fa c:Addr}{qual:Str}
  (e1:nsIn KF AE (B.nm f)=some (some (.ref fa)))
  (e2:mE KF fa=some ⟨aP B.nm ps,.stmts body,aL B.nm sc,.function,false,false,AE,Bq,[],.none,.none,.ref c,qual⟩)
  (e3:gM KF c=some qual) (n1:¬B.T fa) (n2:¬B.T c) (hfid:fid=0\/(Value.ref c=B.cd fid/\qual++(".<locals>." : Str)=B.pq fid))
  (nd:(sc.map (·.1)).Nodup) (inj:∀x y,B.nm x=B.nm y->x=y) (np:(ps.map (·.1)).Nodup) (hk:∀q∈sc,q.2=.local\/q.2=.cell\/q.2=.globalImplicit) (hp:∀x∈ps.map (·.1),sc.lookup x=some .local\/sc.lookup x=some .cell):
  ∃fo fd,bC B f fid (ps.map (·.1)) sc body fa fo fd:=by
 unfold mE at e2
 split at e2
 case h_2=>exact ai e2
 rename_i cls dct fd sl hlk
 simp only[zV,FnV.mk.injEq] at e2;refine x0c e2 fun p1 p2 p3 p4 p5 p6 p7 p8 p9 p10 p11 p12 p13=>?_;refine wL (kC e3) fun oc vs t c1 c2 c3=>?_;have hmap:(ps.map (·.1)).map B.nm=ps.map fun q=>B.nm q.1:=by refine zF AO ?_;rfl
 refine⟨_,fd,mg_of KX G e1,n1,KX _ _ hlk,rfl,p2,p3,p4,p5,p6,p7,p8,p9,⟨c,oc,vs,t,p12,n2,KX _ _ c1,c2,by refine zF p13 ?_;exact c3⟩,fun vals hl=>?_,?_,nd,fun x k h=>hk (x,k) (mem_of_lookup' h),hp⟩
 ·refine zF hmap ?_
  refine iM B.nm ?_ fd vals p1 p10 p11 (by simpa using hl);refine zF (AM hmap) ?_;exact CO B.nm (fun a b hab e=>hab (inj _ _ e)) np
 ·rcases hfid with h|⟨h1,h2⟩
  ·exact .inl h
  ·exact .inr ⟨by refine zF p12 ?_;exact h1,by refine zF p13 ?_;exact h2⟩
where
 mem_of_lookup' {sc:LK}{x:Nat}{k:NameKind}(h:sc.lookup x=some k):(x,k)∈sc:=by
  induction sc with
  |nil=>exact ai h
  |cons a r ih=>
   obtain⟨y,j⟩:=a;rw[z5] at h
   split at h
   ·rename_i hxy
    have:x=y:=by simpa using hxy
    obtain rfl:=zG h;subst this;exact zU
   ·exact zT _ (ih h)
set_option tactic.hygienic true in
theorem v9 {KF:Frag}(KX:KF.In B.h₀){slf:Nat}{a1 a2:Pos}{fI c:Addr}{qual:Str}{p1 p2 p3 p4:Pos}(hfind:Dr KF (.ref B.C) "__init__" = some (some (.ref fI)))
  (e2:mE KF fI=some ⟨aP B.nm [(slf,a1),(19,a2)],.stmts [.Assign [.Attribute (.Name (B.nm slf) p1) (B.nm 19) p2] (.Name (B.nm 19) p3) p4],aL B.nm [(slf,.local),(19,.local)],.function,false,false,AE,Bq,[],.none,.none,.ref c,qual⟩)
  (e3:gM KF c=some qual) (n1:¬B.T fI) (n2:¬B.T c) (inj:∀x y,B.nm x=B.nm y->x=y) (hne:slf≠19):∃fo fd,jW B KF slf fI fo fd p1 p2 p3 p4:=by
 unfold mE at e2
 split at e2
 case h_2=>exact ai e2
 rename_i cls dct fd sl hlk
 simp only[zV,FnV.mk.injEq] at e2;refine x0c e2 fun q1 q2 q3 q4 q5 q6 q7 q8 q9 q10 q11 q12 q13=>?_;refine wL (kC e3) fun oc vs t c1 c2 c3=>?_;refine⟨_,fd,hfind,n1,KX _ _ hlk,rfl,q2,q3,q4,q5,q6,q7,q8,q9,⟨c,oc,vs,t,q12,n2,KX _ _ c1,c2,by refine zF q13 ?_;exact c3⟩,fun a b=>?_⟩;refine iM B.nm (ps:=[(slf,a1),(19,a2)]) ?_ fd [a,b] q1 q10 q11 rfl;simp only[z8,CL,Bi,Ab,Dc,or_false,not_false_eq_true,Ea,and_true];exact fun e=>hne (inj _ _ e)
end Mine
end
section
open PySem PySem.W PySem.W.X PySem.Calls PyProof.Rows
namespace Mine
variable {B:Bs}{K K':Nat}
theorem be.mono {F:AP}{it:Addr}{I:List D->Pv->zL->Prop}(h:be B K F it I)(hk:K<=K'):be B K' F it I where
 sub:=h.sub
 subg:=h.subg
 ft:=h.ft
 stay:=h.stay
 next:=fun d l p s A E Q hI g R k=>h.next d l p s A E Q hI g (R.less (Ej hk _)) k
 done:=fun p s A E Q hI g R k=>h.done p s A E Q hI g (R.less (Ej hk _)) k
 self:=fun l p s A E Q hI g R k=>h.self l p s A E Q hI g (R.less (Ej hk _)) k
theorem eY.mono {s s':zL}{W:AP}{v:Value}{l:List D}(h:eY B K s W v l s')(hk:K<=K'):eY B K' s W v l s':=by
 obtain⟨a,F,p,I,h1,h2,h3,h4,h5,h6,h7,h8⟩:=h;exact⟨a,F,p,I,h1,h2,h3.mono hk,h4,h5,h6,h7,h8⟩
theorem ch.mono {f:Nat}{args:List D}{d:D}(h:ch B K f args d)(hk:K<=K'):ch B K' f args d:=by
 obtain⟨fa,fo,fd,h1,h2,h3,h4,h5⟩:=h;exact⟨fa,fo,fd,h1,h2,h3,h4,fun A s W vals g R=>h5 A s W vals g (R.less hk)⟩
theorem c7.mono {id:Nat}{caps args:List D}{d:D}(h:c7 B K id caps args d)(hk:K<=K'):c7 B K' id caps args d:=
 fun fa cv A s W vals g R=>h fa cv A s W vals g (R.less hk)
theorem eP.mono {id:Nat}{caps args l:List D}(h:eP B K id caps args l)(hk:K<=K'):eP B K' id caps args l:=by
 intro fa cv A s W vals g R tW wlt hl rc ra;refine CV (h fa cv A s W vals g (R.less hk) tW wlt hl rc ra) ?_;rintro r s' ⟨v,h1,h2,h3⟩;exact⟨v,h1,h2,h3.mono hk⟩
theorem bx.mono {Φ:bq}(h:bx B K Φ)(hk:K<=K'):bx B K' Φ:=
 ⟨fun f args d e=>(h.call f args d e).mono hk,fun id caps args d e=>(h.lam id caps args d e).mono hk,fun id caps args l e1 e2=>(h.gen id caps args l e1 e2).mono hk⟩
theorem nv.mono {Ψ:Nat->D->Option D}(h:nv B K Ψ)(hk:K<=K'):nv B K' Ψ:=fun f d r e=>by
 obtain⟨fa,fo,fd,h1,h2,h3,h4,h5⟩:=h f d r e;exact⟨fa,fo,fd,h1,h2,h3,h4,fun A s W v g R=>h5 A s W v g (R.less hk)⟩
structure Tx where
 ps:List Nat
 sc:List (Nat×NameKind)
 fid:Nat
 ir:List St
noncomputable def l9 (Φ:bq) (N:Nat)(t:Tx)(args:List D):Option D:=if t.ps.length=args.length then(match aO Φ N (aN t.sc t.fid) (aw t.ps args fun J=>none) t.ir with
 |some (.rt d)=>some d
 |_=>none) else none
structure Lx where
 ps:List Nat
 sc:List (Nat×NameKind)
 e:E
noncomputable def runL (Φ:bq)(t:Lx)(all:List D):Option D:=if(aD t.sc).length+t.ps.length=all.length then
  (match ev Φ (aN t.sc 0) (aw t.ps (all.drop (aD t.sc).length) (cN (aD t.sc) (all.take (aD t.sc).length))) t.e with
  |some r=>r.asD
  |none=>none) else none
structure Gx where
 ps:List Nat
 sc:List (Nat×NameKind)
 rm:Nat
 ss:List Sg
noncomputable def vN (Φ:bq)(Ψ:Nat->D->Option D)(t:Gx)(all:List D):Option (List D):=if(aD t.sc).length+t.ps.length=all.length then
  (match d8 Φ Ψ t.rm (aN t.sc 0) (aw t.ps (all.drop (aD t.sc).length) (cN (aD t.sc) (all.take (aD t.sc).length))) t.ss with
  |some (l,_)=>if l.length<=lim then some l else none
  |none=>none) else none
section
variable (O:B.Ok)
include O
variable {Φ:bq}{Ψ:Nat->D->Option D}{N:Nat}
set_option tactic.hygienic true in
theorem uh {f:Nat}{t:Tx}{args:List D}{d:D}{fa:Addr}{fo:Obj}{fd:BD}(hd:bC B f t.fid t.ps t.sc (eZ B.nm t.ir) fa fo fd)(hok:jF B t.ir)(hK:24<=K)(P:bx B K Φ)(h:l9 Φ N t args=some d):ch B (K+2) f args d:=by
 unfold l9 at h
 split at h
 case isFalse=>exact ai h
 rename_i hl
 split at h
 case h_2=>exact ai h
 rename_i d' hev
 obtain rfl:=zG h;exact pL O hd hK P hok hl hev
theorem qX {id:Nat}{L:fq}{caps:List D}{cv:List Value}{h:Heap}{W:AP}{fa:Addr}(hL:B.LS id=some L)(hlam:B.Lam id cv h W fa)(rc:aa B h W caps cv):caps.length=L.fr.length:=by
 obtain⟨L',fo,fd,e,J,J,J,l⟩:=hlam;obtain rfl:=zG (hL.symm.trans e);exact zF (AM l.len)<|zF (aa.length rc) rfl
set_option tactic.hygienic true in
theorem ug {id:Nat}{L:fq}{t:Lx}{caps args:List D}{d:D}(hx:LExp B id L t.ps t.sc t.e)(hok:t.e.ok B)(hK:24<=K)(P:bx B K Φ)(h:runL Φ t (caps++args)=some d):c7 B (K+2) id caps args d:=by
 intro fa cv A s W vals g R tW wlt hlam rc ra;have hc:=qX O hx.ls hlam rc;replace hc:=hx.fr▸hc;unfold runL at h
 split at h
 case isFalse=>exact ai h
 rename_i hl
 rw[zM,hc] at hl;rw[<-hc,Eb,Fs] at h
 split at h
 case h_2=>exact ai h
 rename_i r hev
 exact px O hx hK P hok (by lia) hev h fa cv A s W vals g R tW wlt hlam rc ra
set_option tactic.hygienic true in
theorem runG_ok {id:Nat}{L:fq}{t:Gx}{caps args l:List D}(hx:wJ B id L t.ps t.sc t.ss)(hok:okY B t.ss)(hK:24<=K)(P:bx B K Φ)(HΨ:nv B K Ψ)(h:vN Φ Ψ t (caps++args)=some l):eP B (K+6) id caps args l:=by
 intro fa cv A s W vals g R tW wlt hlam rc ra;have hc:=qX O hx.ls hlam rc;rw[hx.fr] at hc;unfold vN at h
 split at h
 case isFalse=>exact ai h
 rename_i hl
 rw[zM,hc] at hl;rw[<-hc,Eb,Fs] at h
 split at h
 case h_2=>exact ai h
 rename_i l' ρ' hev
 split at h
 case isFalse=>exact ai h
 rename_i hlim
 obtain rfl:=zG h;exact pE O hx hK P HΨ hok (by lia) hev hlim fa cv A s W vals g R tW wlt hlam rc ra
noncomputable def bq.up (Φ:bq) (N:Nat)(Ψ:Nat->D->Option D)(tF:Nat->Option Tx)(tL:Nat->Option Lx)(tG:Nat->Option Gx):bq where
 call:=fun f args=>match tF f with
  |some t=>l9 Φ N t args
  |none=>Φ.call f args
 lam:=fun id all=>match tL id with
  |some t=>runL Φ t all
  |none=>Φ.lam id all
 gen:=fun id all=>match tG id with
  |some t=>vN Φ Ψ t all
  |none=>Φ.gen id all
set_option tactic.hygienic true in
theorem nP {tF:Nat->Option Tx}{tL:Nat->Option Lx}{tG:Nat->Option Gx}(hK:24<=K)(P:bx B K Φ)(HΨ:nv B K Ψ)(hF:∀f t,tF f=some t->jF B t.ir/\∃fa fo fd,bC B f t.fid t.ps t.sc (eZ B.nm t.ir) fa fo fd)
  (hL:∀id t,tL id=some t->t.e.ok B/\∃L,LExp B id L t.ps t.sc t.e) (hG:∀id t,tG id=some t->okY B t.ss/\tL id=none/\(∀all,Φ.lam id all=none)/\∃L,wJ B id L t.ps t.sc t.ss) (hgl:∀id t,tL id=some t->∀all,Φ.gen id all=none):
  bx B (K+6) (Φ.up N Ψ tF tL tG) where
 call:=fun f args d h=>by
  simp only[bq.up] at h
  split at h
  ·rename_i t ht
   refine x013 (hF f t ht) fun ok fa fo fd hd=>?_;exact(uh O hd ok hK P h).mono (by lia)
  ·exact(P.call f args d h).mono (by lia)
 lam:=fun id caps args d h=>by
  simp only[bq.up] at h
  split at h
  ·rename_i t ht
   refine rY (hL id t ht) fun ok L hx=>?_;exact(ug O hx ok hK P h).mono (by lia)
  ·exact(P.lam id caps args d h).mono (by lia)
 gen:=fun id caps args l h1 h=>by
  simp only[bq.up] at h h1
  split at h
  ·rename_i t ht
   refine x031 (hG id t ht) fun ok J J L hx=>?_;exact runG_ok O hx ok hK P HΨ h
  ·rename_i hn
   split at h1
   ·rename_i t ht
    rw[hgl id t ht] at h;exact ai h
   ·exact(P.gen id caps args l h1 h).mono (by lia)
end
end Mine
end
namespace Mine
noncomputable def pt:List String:=["len", "chr", "ord", "slice", "list", "range", "isinstance", "str", "set", "min", "find", "split", "join", "replace", "translate", "endswith", "append", "extend", "pop", "root", "tag", "parent_map", "iter", "_SelectorContext", "_special_chars_map", "self", "?26", "?27", "?28", "?29", "escape", "get_parent_map", "_is_wildcard_tag", "_prepare_tag", "prepare_child", "prepare_parent", "_raise_serialization_error", "_escape_cdata", "_escape_attrib", "_escape_attrib_html", "_escape_cdata_c14n", "_escape_attrib_c14n", "_law_cells", "_law_hand", "_law_spelled", "_law_means", "_law_drawn", "_law_pattern", "_law_ends", "_law_either", "_law_machine", "_law_thing", "_law_context", "_law_flags", "_law_due", "law", "pattern", "encode", "context", "_isinstance", "_str", "result", "elem", "select", "el_tag", "suffix", "no_ns", "ns", "ns_only", "RuntimeError", "token", "e", "next", "select_tag", "result_map", "parent", "text", "TypeError", "type", "AttributeError", "cells", "k", "script", "kind", "table", "out", "sign", "at", "code", "one", "other", "words", "leaf", ".0", "way", "again", "tree", "node", "starts", "word", "ends", "more", "first", "second", "letters", "steps", "outer", "told", "row", "atom", "guarded", "q", "p", "thing", "number", "machine", "rows", "families", "letter", "climb", "places", "flags", "picked", "climbed", "family", "due"]
noncomputable def bu (n:Nat):Str:=match pt[n]? with
 |some x=>Str.ofString x
 |none=>⟨(Ft n 63).toArray⟩
noncomputable def v8:List St:=[
  .ifS (.blt2 6 (.name 56 (qq 4 18 25)) (.bi 7 (qq 4 27 30)) (qq 4 7 17) (qq 4 7 31)) [.ret (.meth (.name 56 (qq 5 15 22)) 14 [(.name 24 (qq 5 33 51))] (qq 5 15 32) (qq 5 15 52)) (qq 5 8 52)] [.asg 56 (.blt2 7 (.name 56 (qq 7 22 29)) (.str [108,97,116,105,110,49] (qq 7 31 39)) (qq 7 18 21) (qq 7 18 40)) (qq 7 8 15) (qq 7 8 40),.ret (.meth (.meth (.name 56 (qq 8 15 22)) 14 [(.name 24 (qq 8 33 51))] (qq 8 15 32) (qq 8 15 52)) 57 [(.str [108,97,116,105,110,49] (qq 8 60 68))] (qq 8 15 59) (qq 8 15 69)) (qq 8 8 69)] ⟨4,4,8,69⟩]
noncomputable def n9:List (Nat×Pos):=[(56,qq 3 11 18)]
noncomputable def vM:List (Nat×NameKind):=[(56,.local),(6,.globalImplicit),(7,.globalImplicit),(24,.globalImplicit)]
noncomputable def cy:List St:=[
  .ret (.bop .Or [(.cmp (.slc (.name 20 (qq 19 11 14)) none (some (.int 3 (qq 19 16 17))) (qq 19 15 17) (qq 19 11 18)) .Eq (.str [123,42,125] (qq 19 22 27)) (qq 19 11 27)),(.cmp (.slc (.name 20 (qq 19 31 34)) (some (.neg 2 (qq 19 36 37) (qq 19 35 37))) none (qq 19 35 38) (qq 19 31 39)) .Eq (.str [125,42] (qq 19 43 47)) (qq 19 31 47))] (qq 19 11 47)) (qq 19 4 47)]
noncomputable def cw:List (Nat×Pos):=[(20,qq 18 21 24)]
noncomputable def dq:List (Nat×NameKind):=[(20,.local)]
noncomputable def aI:List Sg:=[.forS 62 (qq 73 16 20) 61 (qq 73 24 30) [.forS 71 (qq 74 20 21) 62 (qq 74 25 29) [.ifS (.cmp (.attr (.name 71 (qq 75 23 24)) 20 (qq 75 23 28)) .Eq (.name 20 (qq 75 32 35)) (qq 75 23 35)) [.yld 71 (qq 76 30 31) (qq 76 24 31) (qq 76 24 31)] ⟨75,20,76,31⟩] ⟨74,16,76,31⟩] ⟨73,12,76,31⟩]
noncomputable def bv:List (Nat×Pos):=[(58,qq 72 19 26),(61,qq 72 28 34)]
noncomputable def aZ:List (Nat×NameKind):=[(58,.local),(61,.local),(62,.local),(71,.local),(20,.free)]
noncomputable def bD (w:List Stmt):List St:=[
  .asg 20 (.idx (.name 70 (qq 58 10 15)) (.int 1 (qq 58 16 17)) (qq 58 10 18)) (qq 58 4 7) (qq 58 4 18),
  .ifS (.call 32 [(.name 20 (qq 59 24 27))] (qq 59 7 23) (qq 59 7 28)) [.raw w] [.ifS (.cmp (.slc (.name 20 (qq 69 11 14)) none (some (.int 2 (qq 69 16 17))) (qq 69 15 17) (qq 69 11 18)) .Eq (.str [123,125] (qq 69 22 26)) (qq 69 11 26)) [.asg 20 (.slc (.name 20 (qq 70 18 21)) (some (.int 2 (qq 70 22 23))) none (qq 70 22 24) (qq 70 18 25)) (qq 70 12 15) (qq 70 12 25)] [] ⟨69,8,70,25⟩,.seal 20,.defS 63 12 34 [(58,qq 72 19 26),(61,qq 72 28 34)] (i6 bu aI) [(58,.local),(61,.local),(62,.local),(71,.local),(20,.free)] true ⟨72,8,76,31⟩] ⟨59,4,76,31⟩,
  .ret (.name 63 (qq 77 11 17)) (qq 77 4 17)]
noncomputable def cR:List (Nat×Pos):=[(72,qq 57 18 22),(70,qq 57 24 29)]
noncomputable def dR:List (Nat×NameKind):=[(72,.local),(70,.local),(63,.local),(73,.cell),(20,.cell),(32,.globalImplicit),(33,.globalImplicit)]
noncomputable def aF:List Sg:=[.pm 21 31 58 (qq 81 8 18) (qq 81 21 35) (qq 81 36 43) (qq 81 21 44) (qq 81 8 44),.newD 74 (qq 82 8 18) (qq 82 21 23) (qq 82 8 23),.forS 62 (qq 83 12 16) 61 (qq 83 20 26) [.ifS (.cmp (.name 62 (qq 84 15 19)) .In (.name 21 (qq 84 23 33)) (qq 84 15 33)) [.asg 75 (.idx (.name 21 (qq 85 25 35)) (.name 62 (qq 85 36 40)) (qq 85 25 41)) (qq 85 16 22) (qq 85 16 41),.ifNew 74 75 [.yld 75 (qq 88 26 32) (qq 88 20 32) (qq 88 20 32)] (qq 86 19 25) (qq 86 33 43) (qq 86 19 43) (qq 87 20 30) (qq 87 31 37) (qq 87 20 38) (qq 87 41 45) (qq 87 20 45) ⟨86,16,88,32⟩] ⟨84,12,88,32⟩] ⟨83,8,88,32⟩]
noncomputable def bg:List (Nat×Pos):=[(58,qq 80 15 22),(61,qq 80 24 30)]
noncomputable def aV:List (Nat×NameKind):=[(58,.local),(61,.local),(21,.local),(74,.local),(62,.local),(75,.local),(31,.globalImplicit)]
noncomputable def bW:List St:=[
  .defS 63 11 35 [(58,qq 80 15 22),(61,qq 80 24 30)] (i6 bu aF) [(58,.local),(61,.local),(21,.local),(74,.local),(62,.local),(75,.local),(31,.globalImplicit)] true ⟨80,4,88,32⟩,
  .ret (.name 63 (qq 89 11 17)) (qq 89 4 17)]
noncomputable def dD:List (Nat×Pos):=[(72,qq 78 19 23),(70,qq 78 25 30)]
noncomputable def fe:List (Nat×NameKind):=[(72,.local),(70,.local),(63,.local)]
noncomputable def dk (hs:List ExceptHandler):List St:=[
  .tryS [.sub 76 [38] [38,97,109,112,59] (qq 100 11 14) (qq 100 18 22) (qq 100 11 22) (qq 101 12 16) (qq 101 19 23) (qq 101 19 31) (qq 101 32 35) (qq 101 37 44) (qq 101 19 45) (qq 101 12 45) ⟨100,8,101,45⟩,.sub 76 [60] [38,108,116,59] (qq 102 11 14) (qq 102 18 22) (qq 102 11 22) (qq 103 12 16) (qq 103 19 23) (qq 103 19 31) (qq 103 32 35) (qq 103 37 43) (qq 103 19 44) (qq 103 12 44) ⟨102,8,103,44⟩,.sub 76 [62] [38,103,116,59] (qq 104 11 14) (qq 104 18 22) (qq 104 11 22) (qq 105 12 16) (qq 105 19 23) (qq 105 19 31) (qq 105 32 35) (qq 105 37 43) (qq 105 19 44) (qq 105 12 44) ⟨104,8,105,44⟩,.ret (.name 76 (qq 106 15 19)) (qq 106 8 19)] hs ⟨99,4,108,40⟩]
noncomputable def di:List (Nat×Pos):=[(76,qq 98 18 22)]
noncomputable def d7:List (Nat×NameKind):=[(76,.local),(77,.globalImplicit),(79,.globalImplicit),(36,.globalImplicit)]
noncomputable def cY (hs:List ExceptHandler):List St:=[
  .tryS [.sub 76 [38] [38,97,109,112,59] (qq 111 11 14) (qq 111 18 22) (qq 111 11 22) (qq 112 12 16) (qq 112 19 23) (qq 112 19 31) (qq 112 32 35) (qq 112 37 44) (qq 112 19 45) (qq 112 12 45) ⟨111,8,112,45⟩,.sub 76 [60] [38,108,116,59] (qq 113 11 14) (qq 113 18 22) (qq 113 11 22) (qq 114 12 16) (qq 114 19 23) (qq 114 19 31) (qq 114 32 35) (qq 114 37 43) (qq 114 19 44) (qq 114 12 44) ⟨113,8,114,44⟩,.sub 76 [62] [38,103,116,59] (qq 115 11 14) (qq 115 18 22) (qq 115 11 22) (qq 116 12 16) (qq 116 19 23) (qq 116 19 31) (qq 116 32 35) (qq 116 37 43) (qq 116 19 44) (qq 116 12 44) ⟨115,8,116,44⟩,.sub 76 [34] [38,113,117,111,116,59] (qq 117 11 14) (qq 117 18 22) (qq 117 11 22) (qq 118 12 16) (qq 118 19 23) (qq 118 19 31) (qq 118 32 35) (qq 118 37 45) (qq 118 19 46) (qq 118 12 46) ⟨117,8,118,46⟩,.sub 76 [13] [38,35,49,51,59] (qq 119 11 15) (qq 119 19 23) (qq 119 11 23) (qq 120 12 16) (qq 120 19 23) (qq 120 19 31) (qq 120 32 36) (qq 120 38 45) (qq 120 19 46) (qq 120 12 46) ⟨119,8,120,46⟩,.sub 76 [10] [38,35,49,48,59] (qq 121 11 15) (qq 121 19 23) (qq 121 11 23) (qq 122 12 16) (qq 122 19 23) (qq 122 19 31) (qq 122 32 36) (qq 122 38 45) (qq 122 19 46) (qq 122 12 46) ⟨121,8,122,46⟩,.sub 76 [9] [38,35,48,57,59] (qq 123 11 15) (qq 123 19 23) (qq 123 11 23) (qq 124 12 16) (qq 124 19 23) (qq 124 19 31) (qq 124 32 36) (qq 124 38 45) (qq 124 19 46) (qq 124 12 46) ⟨123,8,124,46⟩,.ret (.name 76 (qq 125 15 19)) (qq 125 8 19)] hs ⟨110,4,127,40⟩]
noncomputable def cS:List (Nat×Pos):=[(76,qq 109 19 23)]
noncomputable def dS:List (Nat×NameKind):=[(76,.local),(77,.globalImplicit),(79,.globalImplicit),(36,.globalImplicit)]
noncomputable def bK (hs:List ExceptHandler):List St:=[
  .tryS [.sub 76 [38] [38,97,109,112,59] (qq 130 11 14) (qq 130 18 22) (qq 130 11 22) (qq 131 12 16) (qq 131 19 23) (qq 131 19 31) (qq 131 32 35) (qq 131 37 44) (qq 131 19 45) (qq 131 12 45) ⟨130,8,131,45⟩,.sub 76 [62] [38,103,116,59] (qq 132 11 14) (qq 132 18 22) (qq 132 11 22) (qq 133 12 16) (qq 133 19 23) (qq 133 19 31) (qq 133 32 35) (qq 133 37 43) (qq 133 19 44) (qq 133 12 44) ⟨132,8,133,44⟩,.sub 76 [34] [38,113,117,111,116,59] (qq 134 11 14) (qq 134 18 22) (qq 134 11 22) (qq 135 12 16) (qq 135 19 23) (qq 135 19 31) (qq 135 32 35) (qq 135 37 45) (qq 135 19 46) (qq 135 12 46) ⟨134,8,135,46⟩,.ret (.name 76 (qq 136 15 19)) (qq 136 8 19)] hs ⟨129,4,138,40⟩]
noncomputable def bI:List (Nat×Pos):=[(76,qq 128 24 28)]
noncomputable def cC:List (Nat×NameKind):=[(76,.local),(77,.globalImplicit),(79,.globalImplicit),(36,.globalImplicit)]
noncomputable def bZ (hs:List ExceptHandler):List St:=[
  .tryS [.sub 76 [38] [38,97,109,112,59] (qq 141 11 14) (qq 141 18 22) (qq 141 11 22) (qq 142 12 16) (qq 142 19 23) (qq 142 19 31) (qq 142 32 35) (qq 142 37 44) (qq 142 19 45) (qq 142 12 45) ⟨141,8,142,45⟩,.sub 76 [60] [38,108,116,59] (qq 143 11 14) (qq 143 18 22) (qq 143 11 22) (qq 144 12 16) (qq 144 19 23) (qq 144 19 31) (qq 144 32 35) (qq 144 37 43) (qq 144 19 44) (qq 144 12 44) ⟨143,8,144,44⟩,.sub 76 [62] [38,103,116,59] (qq 145 11 14) (qq 145 18 22) (qq 145 11 22) (qq 146 12 16) (qq 146 19 23) (qq 146 19 31) (qq 146 32 35) (qq 146 37 43) (qq 146 19 44) (qq 146 12 44) ⟨145,8,146,44⟩,.sub 76 [13] [38,35,120,68,59] (qq 147 11 15) (qq 147 19 23) (qq 147 11 23) (qq 148 12 16) (qq 148 19 23) (qq 148 19 31) (qq 148 32 36) (qq 148 38 45) (qq 148 19 46) (qq 148 12 46) ⟨147,8,148,46⟩,.ret (.name 76 (qq 149 15 19)) (qq 149 8 19)] hs ⟨140,4,151,40⟩]
noncomputable def bS:List (Nat×Pos):=[(76,qq 139 23 27)]
noncomputable def cJ:List (Nat×NameKind):=[(76,.local),(77,.globalImplicit),(79,.globalImplicit),(36,.globalImplicit)]
noncomputable def bL (hs:List ExceptHandler):List St:=[
  .tryS [.sub 76 [38] [38,97,109,112,59] (qq 154 11 14) (qq 154 18 22) (qq 154 11 22) (qq 155 12 16) (qq 155 19 23) (qq 155 19 31) (qq 155 32 35) (qq 155 37 44) (qq 155 19 45) (qq 155 12 45) ⟨154,8,155,45⟩,.sub 76 [60] [38,108,116,59] (qq 156 11 14) (qq 156 18 22) (qq 156 11 22) (qq 157 12 16) (qq 157 19 23) (qq 157 19 31) (qq 157 32 35) (qq 157 37 43) (qq 157 19 44) (qq 157 12 44) ⟨156,8,157,44⟩,.sub 76 [34] [38,113,117,111,116,59] (qq 158 11 14) (qq 158 18 22) (qq 158 11 22) (qq 159 12 16) (qq 159 19 23) (qq 159 19 31) (qq 159 32 35) (qq 159 37 45) (qq 159 19 46) (qq 159 12 46) ⟨158,8,159,46⟩,.sub 76 [9] [38,35,120,57,59] (qq 160 11 15) (qq 160 19 23) (qq 160 11 23) (qq 161 12 16) (qq 161 19 23) (qq 161 19 31) (qq 161 32 36) (qq 161 38 45) (qq 161 19 46) (qq 161 12 46) ⟨160,8,161,46⟩,.sub 76 [10] [38,35,120,65,59] (qq 162 11 15) (qq 162 19 23) (qq 162 11 23) (qq 163 12 16) (qq 163 19 23) (qq 163 19 31) (qq 163 32 36) (qq 163 38 45) (qq 163 19 46) (qq 163 12 46) ⟨162,8,163,46⟩,.sub 76 [13] [38,35,120,68,59] (qq 164 11 15) (qq 164 19 23) (qq 164 11 23) (qq 165 12 16) (qq 165 19 23) (qq 165 19 31) (qq 165 32 36) (qq 165 38 45) (qq 165 19 46) (qq 165 12 46) ⟨164,8,165,46⟩,.ret (.name 76 (qq 166 15 19)) (qq 166 8 19)] hs ⟨153,4,168,40⟩]
noncomputable def bJ:List (Nat×Pos):=[(76,qq 152 24 28)]
noncomputable def cD:List (Nat×NameKind):=[(76,.local),(77,.globalImplicit),(79,.globalImplicit),(36,.globalImplicit)]
noncomputable def dH:List St:=[
  .own 80 (.list [(.int 60 (qq 171 13 15)),(.int 46 (qq 171 17 19)),(.int 380 (qq 171 21 24)),(.int 6 (qq 171 26 27)),(.int 527 (qq 171 29 32)),(.int 1 (qq 171 34 35))] (qq 171 12 36)) (qq 171 4 9) (qq 171 4 36),
  .forS (.name 81 (qq 172 8 9)) (.blt 5 [(.blt 0 [(.name 82 (qq 172 23 29))] (qq 172 19 22) (qq 172 19 30))] (qq 172 13 18) (qq 172 13 31)) [.augI 80 (.bin (.name 81 (qq 173 14 15)) .Mod (.int 6 (qq 173 18 19)) (qq 173 14 19)) .Add (.idx (.name 82 (qq 173 24 30)) (.name 81 (qq 173 31 32)) (qq 173 24 33)) (qq 173 8 13) (qq 173 8 20) (qq 173 8 33)] ⟨172,4,173,33⟩,
  .frz 80,
  .ret (.name 80 (qq 174 11 16)) (qq 174 4 16)]
noncomputable def eD:List (Nat×Pos):=[(82,qq 170 15 21)]
noncomputable def ej:List (Nat×NameKind):=[(82,.local),(80,.local),(81,.local),(5,.globalImplicit),(0,.globalImplicit)]
noncomputable def fk:List St:=[
  .ifS (.cmp (.name 83 (qq 176 7 11)) .Eq (.int 0 (qq 176 15 16)) (qq 176 7 16)) [.ret (.call 37 [(.name 76 (qq 177 29 33))] (qq 177 15 28) (qq 177 15 34)) (qq 177 8 34)] [] ⟨176,4,177,34⟩,
  .ifS (.cmp (.name 83 (qq 178 7 11)) .Eq (.int 1 (qq 178 15 16)) (qq 178 7 16)) [.ret (.call 38 [(.name 76 (qq 179 30 34))] (qq 179 15 29) (qq 179 15 35)) (qq 179 8 35)] [] ⟨178,4,179,35⟩,
  .ifS (.cmp (.name 83 (qq 180 7 11)) .Eq (.int 2 (qq 180 15 16)) (qq 180 7 16)) [.ret (.call 39 [(.name 76 (qq 181 35 39))] (qq 181 15 34) (qq 181 15 40)) (qq 181 8 40)] [] ⟨180,4,181,40⟩,
  .ifS (.cmp (.name 83 (qq 182 7 11)) .Eq (.int 3 (qq 182 15 16)) (qq 182 7 16)) [.ret (.call 40 [(.name 76 (qq 183 34 38))] (qq 183 15 33) (qq 183 15 39)) (qq 183 8 39)] [] ⟨182,4,183,39⟩,
  .ret (.call 41 [(.name 76 (qq 184 31 35))] (qq 184 11 30) (qq 184 11 36)) (qq 184 4 36)]
noncomputable def fh:List (Nat×Pos):=[(76,qq 175 14 18),(83,qq 175 20 24)]
noncomputable def bQ:List (Nat×NameKind):=[(76,.local),(83,.local),(37,.globalImplicit),(38,.globalImplicit),(39,.globalImplicit),(40,.globalImplicit),(41,.globalImplicit)]
noncomputable def cc:List St:=[
  .asg 84 (.meth (.idx (.list [(.str [97,109,112,32,108,116,32,103,116,32,45,32,45,32,45,32,45] (qq 186 13 32)),(.str [97,109,112,32,108,116,32,103,116,32,113,117,111,116,32,35,49,51,32,35,49,48,32,35,48,57] (qq 186 34 62)),(.str [97,109,112,32,45,32,103,116,32,113,117,111,116,32,45,32,45,32,45] (qq 186 64 85)),(.str [97,109,112,32,108,116,32,103,116,32,45,32,35,120,68,32,45,32,45] (qq 186 87 108)),(.str [97,109,112,32,108,116,32,45,32,113,117,111,116,32,35,120,68,32,35,120,65,32,35,120,57] (qq 186 110 137))] (qq 186 12 138)) (.name 83 (qq 186 139 143)) (qq 186 12 144)) 11 [(.str [32] (qq 186 151 154))] (qq 186 12 150) (qq 186 12 155)) (qq 186 4 9) (qq 186 4 155),
  .asg 85 (.str [] (qq 187 10 12)) (qq 187 4 7) (qq 187 4 12),
  .forS (.name 86 (qq 188 8 12)) (.name 76 (qq 188 16 20)) [.asg 87 (.meth (.str [38,60,62,34,13,10,9] (qq 189 13 25)) 10 [(.name 86 (qq 189 31 35))] (qq 189 13 30) (qq 189 13 36)) (qq 189 8 10) (qq 189 8 36),.ifS (.bop .Or [(.cmp (.name 87 (qq 190 11 13)) .Lt (.int 0 (qq 190 16 17)) (qq 190 11 17)),(.cmp (.idx (.name 84 (qq 190 21 26)) (.name 87 (qq 190 27 29)) (qq 190 21 30)) .Eq (.str [45] (qq 190 34 37)) (qq 190 21 37))] (qq 190 11 37)) [.augN 85 .Add (.name 86 (qq 191 19 23)) (qq 191 12 15) (qq 191 12 23)] [.augN 85 .Add (.bin (.bin (.str [38] (qq 193 19 22)) .Add (.idx (.name 84 (qq 193 25 30)) (.name 87 (qq 193 31 33)) (qq 193 25 34)) (qq 193 19 34)) .Add (.str [59] (qq 193 37 40)) (qq 193 19 40)) (qq 193 12 15) (qq 193 12 40)] ⟨190,8,193,40⟩] ⟨188,4,193,40⟩,
  .ret (.name 85 (qq 194 11 14)) (qq 194 4 14)]
noncomputable def dE:List (Nat×Pos):=[(76,qq 185 17 21),(83,qq 185 23 27)]
noncomputable def dB:List (Nat×NameKind):=[(76,.local),(83,.local),(84,.local),(85,.local),(86,.local),(87,.local)]
noncomputable def eG:List St:=[
  .asg 88 (.blt 2 [(.name 86 (qq 196 15 19))] (qq 196 11 14) (qq 196 11 20)) (qq 196 4 8) (qq 196 4 20),
  .ret (.bop .Or [(.cmp (.name 88 (qq 197 11 15)) .In (.tup [(.int 32 (qq 197 20 22)),(.int 35 (qq 197 24 26)),(.int 36 (qq 197 28 30)),(.int 38 (qq 197 32 34)),(.int 45 (qq 197 36 38)),(.int 46 (qq 197 40 42)),(.int 63 (qq 197 44 46))] 0 (qq 197 19 47)) (qq 197 11 47)),(.cmp2 (.int 9 (qq 197 51 52)) .LtE (.name 88 (qq 197 56 60)) .LtE (.int 13 (qq 197 64 66)) (qq 197 51 66)),(.cmp2 (.int 40 (qq 197 70 72)) .LtE (.name 88 (qq 197 76 80)) .LtE (.int 43 (qq 197 84 86)) (qq 197 70 86)),(.cmp2 (.int 91 (qq 197 91 93)) .LtE (.name 88 (qq 197 97 101)) .LtE (.int 94 (qq 197 105 107)) (qq 197 91 107)),(.cmp2 (.int 123 (qq 197 113 116)) .LtE (.name 88 (qq 197 120 124)) .LtE (.int 126 (qq 197 128 131)) (qq 197 113 131))] (qq 197 11 132)) (qq 197 4 132)]
noncomputable def ew:List (Nat×Pos):=[(86,qq 195 15 19)]
noncomputable def eg:List (Nat×NameKind):=[(86,.local),(88,.local),(2,.globalImplicit)]
noncomputable def bY:List St:=[
  .asgT [(89,qq 199 4 7),(90,qq 199 9 14)] [0,0] 0 (.tup [(.blt 1 [(.bin (.idx (.name 80 (qq 199 22 27)) (.int 0 (qq 199 28 29)) (qq 199 22 30)) .Mod (.int 55296 (qq 199 33 38)) (qq 199 22 38))] (qq 199 18 21) (qq 199 18 39)),(.blt 1 [(.bin (.idx (.name 80 (qq 199 45 50)) (.int 1 (qq 199 51 52)) (qq 199 45 53)) .Mod (.int 55296 (qq 199 56 61)) (qq 199 45 61))] (qq 199 41 44) (qq 199 41 62))] 0 (qq 199 17 63)) (qq 199 4 14) (qq 199 4 63),
  .asg 91 (.list [(.name 89 (qq 200 13 16)),(.name 90 (qq 200 18 23)),(.bin (.name 89 (qq 200 25 28)) .Add (.name 90 (qq 200 31 36)) (qq 200 25 36)),(.str [] (qq 200 38 40)),(.str [38,108,116,59] (qq 200 42 48))] (qq 200 12 49)) (qq 200 4 9) (qq 200 4 49),
  .asg 92 (.comp (.idx (.name 91 (qq 201 12 17)) (.bin (.bin (.idx (.name 80 (qq 201 18 23)) (.int 2 (qq 201 24 25)) (qq 201 18 26)) .FloorDiv (.bin (.int 5 (qq 201 30 31)) .Pow (.name 81 (qq 201 35 36)) (qq 201 30 36)) (qq 201 18 36)) .Mod (.int 5 (qq 201 39 40)) (qq 201 18 40)) (qq 201 12 41)) [(.mk (.name 81 (qq 201 46 47)) (.blt 5 [(.int 4 (qq 201 57 58))] (qq 201 51 56) (qq 201 51 59)) [])] [(93,.local),(81,.local),(80,.free),(91,.free)] (qq 201 11 60)) (qq 201 4 8) (qq 201 4 60),
  .asg 94 (.comp (.idx (.list [(.str [] (qq 202 12 14)),(.str [124] (qq 202 16 19))] (qq 202 11 20)) (.bin (.bin (.idx (.name 80 (qq 202 21 26)) (.int 3 (qq 202 27 28)) (qq 202 21 29)) .FloorDiv (.bin (.int 4 (qq 202 33 34)) .Pow (.name 81 (qq 202 38 39)) (qq 202 33 39)) (qq 202 21 39)) .Mod (.int 2 (qq 202 42 43)) (qq 202 21 43)) (qq 202 11 44)) [(.mk (.name 81 (qq 202 49 50)) (.blt 5 [(.int 3 (qq 202 60 61))] (qq 202 54 59) (qq 202 54 62)) [])] [(93,.local),(81,.local),(80,.free)] (qq 202 10 63)) (qq 202 4 7) (qq 202 4 63),
  .asg 95 (.comp (.idx (.list [(.str [] (qq 203 14 16)),(.str [42] (qq 203 18 21))] (qq 203 13 22)) (.bin (.bin (.bin (.idx (.name 80 (qq 203 23 28)) (.int 3 (qq 203 29 30)) (qq 203 23 31)) .FloorDiv (.bin (.int 4 (qq 203 35 36)) .Pow (.name 81 (qq 203 40 41)) (qq 203 35 41)) (qq 203 23 41)) .FloorDiv (.int 2 (qq 203 45 46)) (qq 203 23 46)) .Mod (.int 2 (qq 203 49 50)) (qq 203 23 50)) (qq 203 13 51)) [(.mk (.name 81 (qq 203 56 57)) (.blt 5 [(.int 3 (qq 203 67 68))] (qq 203 61 66) (qq 203 61 69)) [])] [(93,.local),(81,.local),(80,.free)] (qq 203 12 70)) (qq 203 4 9) (qq 203 4 70),
  .asg 96 (.tup [(.tup [(.idx (.name 92 (qq 204 13 17)) (.int 0 (qq 204 18 19)) (qq 204 13 20)),(.idx (.name 92 (qq 204 22 26)) (.int 1 (qq 204 27 28)) (qq 204 22 29)),(.idx (.name 94 (qq 204 31 34)) (.int 0 (qq 204 35 36)) (qq 204 31 37)),(.idx (.name 95 (qq 204 39 44)) (.int 0 (qq 204 45 46)) (qq 204 39 47))] 0 (qq 204 12 48)),(.tup [(.idx (.name 92 (qq 204 51 55)) (.int 2 (qq 204 56 57)) (qq 204 51 58)),(.idx (.name 92 (qq 204 60 64)) (.int 3 (qq 204 65 66)) (qq 204 60 67)),(.idx (.name 94 (qq 204 69 72)) (.int 1 (qq 204 73 74)) (qq 204 69 75)),(.idx (.name 95 (qq 204 77 82)) (.int 1 (qq 204 83 84)) (qq 204 77 85))] 0 (qq 204 50 86)),(.idx (.name 94 (qq 204 88 91)) (.int 2 (qq 204 92 93)) (qq 204 88 94)),(.idx (.name 95 (qq 204 96 101)) (.int 2 (qq 204 102 103)) (qq 204 96 104))] 0 (qq 204 11 105)) (qq 204 4 8) (qq 204 4 105),
  .ret (.tup [(.name 96 (qq 205 12 16)),(.meth (.str [] (qq 205 18 20)) 12 [(.comp (.idx (.name 91 (qq 205 27 32)) (.bin (.bin (.idx (.name 80 (qq 205 33 38)) (.int 4 (qq 205 39 40)) (qq 205 33 41)) .FloorDiv (.bin (.int 5 (qq 205 45 46)) .Pow (.name 81 (qq 205 50 51)) (qq 205 45 51)) (qq 205 33 51)) .Mod (.int 5 (qq 205 54 55)) (qq 205 33 55)) (qq 205 27 56)) [(.mk (.name 81 (qq 205 61 62)) (.blt 5 [(.int 4 (qq 205 72 73))] (qq 205 66 71) (qq 205 66 74)) [])] [(93,.local),(81,.local),(80,.free),(91,.free)] (qq 205 26 75))] (qq 205 18 25) (qq 205 18 76))] 0 (qq 205 11 77)) (qq 205 4 77)]
noncomputable def ey:List (Nat×Pos):=[(80,qq 198 15 20)]
noncomputable def ei:List (Nat×NameKind):=[(80,.cell),(89,.local),(90,.local),(91,.cell),(92,.local),(94,.local),(95,.local),(96,.local),(1,.globalImplicit),(5,.globalImplicit)]
noncomputable def aX:List St:=[
  .ifS (.blt2 6 (.name 97 (qq 207 18 22)) (.bi 7 (qq 207 24 27)) (qq 207 7 17) (qq 207 7 28)) [.ret (.call 30 [(.call 44 [(.name 97 (qq 208 35 39)),(.name 83 (qq 208 41 45))] (qq 208 22 34) (qq 208 22 46))] (qq 208 15 21) (qq 208 15 47)) (qq 208 8 47)] [] ⟨207,4,208,47⟩,
  .ret (.bin (.bin (.bin (.bin (.bin (.str [40] (qq 209 11 14)) .Add (.call 47 [(.idx (.name 97 (qq 209 30 34)) (.int 0 (qq 209 35 36)) (qq 209 30 37)),(.name 83 (qq 209 39 43))] (qq 209 17 29) (qq 209 17 44)) (qq 209 11 44)) .Add (.idx (.name 97 (qq 209 47 51)) (.int 2 (qq 209 52 53)) (qq 209 47 54)) (qq 209 11 54)) .Add (.call 47 [(.idx (.name 97 (qq 209 70 74)) (.int 1 (qq 209 75 76)) (qq 209 70 77)),(.name 83 (qq 209 79 83))] (qq 209 57 69) (qq 209 57 84)) (qq 209 11 84)) .Add (.str [41] (qq 209 87 90)) (qq 209 11 90)) .Add (.idx (.name 97 (qq 209 93 97)) (.int 3 (qq 209 98 99)) (qq 209 93 100)) (qq 209 11 100)) (qq 209 4 100)]
noncomputable def bo:List (Nat×Pos):=[(97,qq 206 17 21),(83,qq 206 23 27)]
noncomputable def bn:List (Nat×NameKind):=[(97,.local),(83,.local),(6,.globalImplicit),(7,.globalImplicit),(30,.globalImplicit),(44,.globalImplicit),(47,.globalImplicit)]
noncomputable def bX:List St:=[
  .ifS (.blt2 6 (.name 97 (qq 211 18 22)) (.bi 7 (qq 211 24 27)) (qq 211 7 17) (qq 211 7 28)) [.ret (.comp (.bin (.name 81 (qq 212 16 17)) .Add (.blt 0 [(.name 97 (qq 212 24 28))] (qq 212 20 23) (qq 212 20 29)) (qq 212 16 29)) [(.mk (.name 81 (qq 212 34 35)) (.name 98 (qq 212 39 45)) [(.cmp (.slc (.name 99 (qq 212 49 53)) (some (.name 81 (qq 212 54 55))) (some (.bin (.name 81 (qq 212 56 57)) .Add (.blt 0 [(.name 97 (qq 212 64 68))] (qq 212 60 63) (qq 212 60 69)) (qq 212 56 69))) (qq 212 54 69) (qq 212 49 70)) .Eq (.name 97 (qq 212 74 78)) (qq 212 49 78))])] [(93,.local),(81,.local),(0,.globalImplicit),(97,.free),(99,.free)] (qq 212 15 79)) (qq 212 8 79)] [] ⟨211,4,212,79⟩,
  .asg 100 (.call 48 [(.idx (.name 97 (qq 213 21 25)) (.int 0 (qq 213 26 27)) (qq 213 21 28)),(.name 99 (qq 213 30 34)),(.name 98 (qq 213 36 42))] (qq 213 11 20) (qq 213 11 43)) (qq 213 4 8) (qq 213 4 43),
  .ifS (.cmp (.idx (.name 97 (qq 214 7 11)) (.int 2 (qq 214 12 13)) (qq 214 7 14)) .Eq (.str [124] (qq 214 18 21)) (qq 214 7 21)) [.asg 100 (.bin (.name 100 (qq 215 15 19)) .Add (.comp (.name 81 (qq 215 23 24)) [(.mk (.name 81 (qq 215 29 30)) (.call 48 [(.idx (.name 97 (qq 215 44 48)) (.int 1 (qq 215 49 50)) (qq 215 44 51)),(.name 99 (qq 215 53 57)),(.name 98 (qq 215 59 65))] (qq 215 34 43) (qq 215 34 66)) [(.cmp (.name 81 (qq 215 70 71)) .NotIn (.name 100 (qq 215 79 83)) (qq 215 70 83))])] [(93,.local),(81,.local),(100,.free)] (qq 215 22 84)) (qq 215 15 84)) (qq 215 8 12) (qq 215 8 84)] [.asg 100 (.call 48 [(.idx (.name 97 (qq 217 25 29)) (.int 1 (qq 217 30 31)) (qq 217 25 32)),(.name 99 (qq 217 34 38)),(.name 100 (qq 217 40 44))] (qq 217 15 24) (qq 217 15 45)) (qq 217 8 12) (qq 217 8 45)] ⟨214,4,217,45⟩,
  .ifS (.cmp (.idx (.name 97 (qq 218 7 11)) (.int 3 (qq 218 12 13)) (qq 218 7 14)) .Eq (.str [42] (qq 218 18 21)) (qq 218 7 21)) [.asg 101 (.comp (.name 81 (qq 219 16 17)) [(.mk (.name 81 (qq 219 22 23)) (.name 100 (qq 219 27 31)) [(.cmp (.name 81 (qq 219 35 36)) .NotIn (.name 98 (qq 219 44 50)) (qq 219 35 50))])] [(93,.local),(81,.local),(98,.free)] (qq 219 15 51)) (qq 219 8 12) (qq 219 8 51),.ifS (.cmp (.name 101 (qq 220 11 15)) .Eq (.list [] (qq 220 19 21)) (qq 220 11 21)) [.ret (.name 98 (qq 221 19 25)) (qq 221 12 25)] [] ⟨220,8,221,25⟩,.ret (.call 48 [(.name 97 (qq 222 25 29)),(.name 99 (qq 222 31 35)),(.bin (.name 98 (qq 222 37 43)) .Add (.name 101 (qq 222 46 50)) (qq 222 37 50))] (qq 222 15 24) (qq 222 15 51)) (qq 222 8 51)] [] ⟨218,4,222,51⟩,
  .ret (.name 100 (qq 223 11 15)) (qq 223 4 15)]
noncomputable def dy:List (Nat×Pos):=[(97,qq 210 14 18),(99,qq 210 20 24),(98,qq 210 26 32)]
noncomputable def dw:List (Nat×NameKind):=[(97,.cell),(99,.cell),(98,.cell),(100,.cell),(101,.local),(6,.globalImplicit),(7,.globalImplicit),(48,.globalImplicit)]
noncomputable def dZ:List St:=[
  .ret (.tup [(.bop .Or [(.idx (.name 102 (qq 225 12 17)) (.int 0 (qq 225 18 19)) (qq 225 12 20)),(.idx (.name 103 (qq 225 24 30)) (.int 0 (qq 225 31 32)) (qq 225 24 33))] (qq 225 12 33)),(.bin (.idx (.name 102 (qq 225 35 40)) (.int 1 (qq 225 41 42)) (qq 225 35 43)) .Add (.idx (.name 103 (qq 225 46 52)) (.int 1 (qq 225 53 54)) (qq 225 46 55)) (qq 225 35 55)),(.bin (.idx (.name 102 (qq 225 57 62)) (.int 2 (qq 225 63 64)) (qq 225 57 65)) .Add (.idx (.name 103 (qq 225 68 74)) (.int 2 (qq 225 75 76)) (qq 225 68 77)) (qq 225 57 77))] 0 (qq 225 11 78)) (qq 225 4 78)]
noncomputable def dY:List (Nat×Pos):=[(102,qq 224 16 21),(103,qq 224 23 29)]
noncomputable def fv:List (Nat×NameKind):=[(102,.local),(103,.local)]
noncomputable def cL:List St:=[
  .asgT [(104,qq 227 4 11),(105,qq 227 13 18),(106,qq 227 20 25)] [1,1,1] 0 (.tup [(.list [(.str [] (qq 227 30 32))] (qq 227 29 33)),(.list [] (qq 227 35 37)),(.list [] (qq 227 39 41))] 0 (qq 227 28 42)) (qq 227 4 25) (qq 227 4 42),
  .asgT [(107,qq 228 4 8),(108,qq 228 10 13),(87,qq 228 15 17)] [0,0,0] 0 (.tup [(.tup [(.bool false (qq 228 22 27)),(.list [] (qq 228 29 31)),(.list [] (qq 228 33 35))] 0 (qq 228 21 36)),(.tup [(.bool true (qq 228 39 43)),(.list [] (qq 228 45 47)),(.list [] (qq 228 49 51))] 0 (qq 228 38 52)),(.int 0 (qq 228 54 55))] 0 (qq 228 20 56)) (qq 228 4 17) (qq 228 4 56),
  .whl (.cmp (.name 87 (qq 229 10 12)) .Lt (.blt 0 [(.name 56 (qq 229 19 26))] (qq 229 15 18) (qq 229 15 27)) (qq 229 10 27)) [.asgT [(86,qq 230 8 12),(109,qq 230 14 18)] [0,0] 0 (.tup [(.idx (.name 56 (qq 230 22 29)) (.name 87 (qq 230 30 32)) (qq 230 22 33)),(.nil (qq 230 35 39))] 0 (qq 230 21 40)) (qq 230 8 18) (qq 230 8 40),.augN 87 .Add (.int 1 (qq 231 14 15)) (qq 231 8 10) (qq 231 8 15),.ifS (.cmp (.name 86 (qq 232 11 15)) .Eq (.str [40] (qq 232 19 22)) (qq 232 11 22)) [.app 106 (.tup [(.name 107 (qq 233 26 30)),(.name 108 (qq 233 32 35))] 0 (qq 233 25 36)) (qq 233 12 17) (qq 233 12 24) (qq 233 12 37) (qq 233 12 37),.asgT [(107,qq 234 12 16),(108,qq 234 18 21)] [0,0] 0 (.tup [(.tup [(.bool false (qq 234 26 31)),(.list [] (qq 234 33 35)),(.list [] (qq 234 37 39))] 0 (qq 234 25 40)),(.tup [(.bool true (qq 234 43 47)),(.list [] (qq 234 49 51)),(.list [] (qq 234 53 55))] 0 (qq 234 42 56))] 0 (qq 234 24 57)) (qq 234 12 21) (qq 234 12 57)] [.ifS (.cmp (.name 86 (qq 235 13 17)) .Eq (.str [124] (qq 235 21 24)) (qq 235 13 24)) [.asgT [(107,qq 236 12 16),(108,qq 236 18 21)] [0,0] 0 (.tup [(.call 49 [(.name 107 (qq 236 37 41)),(.name 108 (qq 236 43 46))] (qq 236 25 36) (qq 236 25 47)),(.tup [(.bool true (qq 236 50 54)),(.list [] (qq 236 56 58)),(.list [] (qq 236 60 62))] 0 (qq 236 49 63))] 0 (qq 236 24 64)) (qq 236 12 21) (qq 236 12 64)] [.ifS (.cmp (.name 86 (qq 237 13 17)) .Eq (.str [41] (qq 237 21 24)) (qq 237 13 24)) [.asg 109 (.call 49 [(.name 107 (qq 238 31 35)),(.name 108 (qq 238 37 40))] (qq 238 19 30) (qq 238 19 41)) (qq 238 12 16) (qq 238 12 41),.popU 106 [(107,qq 239 12 16),(108,qq 239 18 21)] 0 (qq 239 24 29) (qq 239 24 33) (qq 239 24 35) (qq 239 12 21) (qq 239 12 35)] [.asg 110 (.cmp (.name 86 (qq 241 22 26)) .Eq (.str [92] (qq 241 30 34)) (qq 241 22 34)) (qq 241 12 19) (qq 241 12 34),.ifS (.name 110 (qq 242 15 22)) [.asg 86 (.slc (.name 56 (qq 243 23 30)) (some (.name 87 (qq 243 31 33))) (some (.bin (.name 87 (qq 243 34 36)) .Add (.int 1 (qq 243 39 40)) (qq 243 34 40))) (qq 243 31 40) (qq 243 23 41)) (qq 243 16 20) (qq 243 16 41),.augN 87 .Add (.int 1 (qq 244 22 23)) (qq 244 16 18) (qq 244 16 23)] [] ⟨242,12,244,23⟩,.ifS (.cmp (.call 45 [(.name 86 (qq 245 26 30))] (qq 245 15 25) (qq 245 15 31)) .NotEq (.name 110 (qq 245 35 42)) (qq 245 15 42)) [.ret (.nil (qq 246 23 27)) (qq 246 16 27)] [] ⟨245,12,246,27⟩,.app 104 (.name 86 (qq 247 27 31)) (qq 247 12 19) (qq 247 12 26) (qq 247 12 32) (qq 247 12 32),.asg 109 (.tup [(.bool false (qq 248 20 25)),(.list [(.bin (.blt 0 [(.name 104 (qq 248 32 39))] (qq 248 28 31) (qq 248 28 40)) .Sub (.int 1 (qq 248 43 44)) (qq 248 28 44))] (qq 248 27 45)),(.list [(.bin (.blt 0 [(.name 104 (qq 248 52 59))] (qq 248 48 51) (qq 248 48 60)) .Sub (.int 1 (qq 248 63 64)) (qq 248 48 64))] (qq 248 47 65))] 0 (qq 248 19 66)) (qq 248 12 16) (qq 248 12 66)] ⟨237,8,248,66⟩] ⟨235,8,248,66⟩] ⟨232,8,248,66⟩,.ifS (.cmp (.name 109 (qq 249 11 15)) .IsNot (.nil (qq 249 23 27)) (qq 249 11 27)) [.ifS (.cmp (.slc (.name 56 (qq 250 15 22)) (some (.name 87 (qq 250 23 25))) (some (.bin (.name 87 (qq 250 26 28)) .Add (.int 1 (qq 250 31 32)) (qq 250 26 32))) (qq 250 23 32) (qq 250 15 33)) .Eq (.str [42] (qq 250 37 40)) (qq 250 15 40)) [.augN 87 .Add (.int 1 (qq 251 22 23)) (qq 251 16 18) (qq 251 16 23),.ext 105 (.comp (.tup [(.name 111 (qq 252 31 32)),(.name 112 (qq 252 34 35))] 0 (qq 252 30 36)) [(.mk (.name 111 (qq 252 41 42)) (.idx (.name 109 (qq 252 46 50)) (.int 2 (qq 252 51 52)) (qq 252 46 53)) []),(.mk (.name 112 (qq 252 58 59)) (.idx (.name 109 (qq 252 63 67)) (.int 1 (qq 252 68 69)) (qq 252 63 70)) [])] [(93,.local),(111,.local),(112,.local),(109,.free)] (qq 252 29 71)) (qq 252 16 21) (qq 252 16 28) (qq 252 16 72) (qq 252 16 72),.asg 109 (.tup [(.bool true (qq 253 24 28)),(.idx (.name 109 (qq 253 30 34)) (.int 1 (qq 253 35 36)) (qq 253 30 37)),(.idx (.name 109 (qq 253 39 43)) (.int 2 (qq 253 44 45)) (qq 253 39 46))] 0 (qq 253 23 47)) (qq 253 16 20) (qq 253 16 47)] [] ⟨250,12,253,47⟩,.ext 105 (.comp (.tup [(.name 111 (qq 254 27 28)),(.name 112 (qq 254 30 31))] 0 (qq 254 26 32)) [(.mk (.name 111 (qq 254 37 38)) (.idx (.name 108 (qq 254 42 45)) (.int 2 (qq 254 46 47)) (qq 254 42 48)) []),(.mk (.name 112 (qq 254 53 54)) (.idx (.name 109 (qq 254 58 62)) (.int 1 (qq 254 63 64)) (qq 254 58 65)) [])] [(93,.local),(111,.local),(112,.local),(109,.free)] (qq 254 25 66)) (qq 254 12 17) (qq 254 12 24) (qq 254 12 67) (qq 254 12 67),.asg 108 (.tup [(.bop .And [(.idx (.name 108 (qq 255 19 22)) (.int 0 (qq 255 23 24)) (qq 255 19 25)),(.idx (.name 109 (qq 255 30 34)) (.int 0 (qq 255 35 36)) (qq 255 30 37))] (qq 255 19 37)),(.bin (.idx (.name 108 (qq 255 39 42)) (.int 1 (qq 255 43 44)) (qq 255 39 45)) .Add (.ife (.idx (.name 108 (qq 255 60 63)) (.int 0 (qq 255 64 65)) (qq 255 60 66)) (.idx (.name 109 (qq 255 49 53)) (.int 1 (qq 255 54 55)) (qq 255 49 56)) (.list [] (qq 255 72 74)) (qq 255 49 74)) (qq 255 39 75)),(.bin (.idx (.name 109 (qq 255 77 81)) (.int 2 (qq 255 82 83)) (qq 255 77 84)) .Add (.ife (.idx (.name 109 (qq 255 98 102)) (.int 0 (qq 255 103 104)) (qq 255 98 105)) (.idx (.name 108 (qq 255 88 91)) (.int 2 (qq 255 92 93)) (qq 255 88 94)) (.list [] (qq 255 111 113)) (qq 255 88 113)) (qq 255 77 114))] 0 (qq 255 18 115)) (qq 255 12 15) (qq 255 12 115)] [] ⟨249,8,255,115⟩] ⟨229,4,255,115⟩,
  .ext 105 (.comp (.tup [(.int 0 (qq 256 19 20)),(.name 112 (qq 256 22 23))] 0 (qq 256 18 24)) [(.mk (.name 112 (qq 256 29 30)) (.idx (.name 108 (qq 256 34 37)) (.int 1 (qq 256 38 39)) (qq 256 34 40)) [])] [(93,.local),(112,.local)] (qq 256 17 41)) (qq 256 4 9) (qq 256 4 16) (qq 256 4 42) (qq 256 4 42),
  .frz 104,
  .frz 105,
  .ret (.tup [(.name 104 (qq 257 12 19)),(.name 105 (qq 257 21 26)),(.bin (.idx (.name 108 (qq 257 28 31)) (.int 2 (qq 257 32 33)) (qq 257 28 34)) .Add (.ife (.idx (.name 108 (qq 257 45 48)) (.int 0 (qq 257 49 50)) (qq 257 45 51)) (.list [(.int 0 (qq 257 39 40))] (qq 257 38 41)) (.list [] (qq 257 57 59)) (qq 257 38 59)) (qq 257 28 60))] 0 (qq 257 11 61)) (qq 257 4 61)]
noncomputable def dF:List (Nat×Pos):=[(56,qq 226 17 24)]
noncomputable def dC:List (Nat×NameKind):=[(56,.local),(104,.local),(105,.local),(106,.local),(107,.local),(108,.local),(87,.local),(86,.local),(109,.cell),(110,.local),(0,.globalImplicit),(49,.globalImplicit),(45,.globalImplicit)]
noncomputable def eH:List St:=[
  .asg 115 (.call 50 [(.name 56 (qq 267 27 34))] (qq 267 14 26) (qq 267 14 35)) (qq 267 4 11) (qq 267 4 35),
  .ifS (.cmp (.name 115 (qq 268 7 14)) .Is (.nil (qq 268 18 22)) (qq 268 7 22)) [.ret (.nil (qq 269 15 19)) (qq 269 8 19)] [] ⟨268,4,269,19⟩,
  .asgU [(104,qq 270 4 11),(105,qq 270 13 18),(100,qq 270 20 24)] 0 (.name 115 (qq 270 27 34)) (qq 270 4 24) (qq 270 4 34),
  .asgT [(116,qq 271 4 8),(117,qq 271 10 18)] [2,1] 0 (.tup [(.comp (.list [] (qq 271 23 25)) [(.mk (.name 118 (qq 271 30 36)) (.name 104 (qq 271 40 47)) [])] [(93,.local),(118,.local)] (qq 271 22 48)),(.comp (.blt 1 [(.bin (.int 9000 (qq 271 55 59)) .Add (.name 112 (qq 271 62 63)) (qq 271 55 63))] (qq 271 51 54) (qq 271 51 64)) [(.mk (.name 112 (qq 271 69 70)) (.blt 5 [(.blt 0 [(.name 104 (qq 271 84 91))] (qq 271 80 83) (qq 271 80 92))] (qq 271 74 79) (qq 271 74 93)) [])] [(93,.local),(112,.local),(1,.globalImplicit)] (qq 271 50 94))] 0 (qq 271 21 95)) (qq 271 4 18) (qq 271 4 95),
  .augI 117 (.int 0 (qq 272 13 14)) .Add (.blt 1 [(.int 999 (qq 272 23 26))] (qq 272 19 22) (qq 272 19 27)) (qq 272 4 12) (qq 272 4 15) (qq 272 4 27),
  .forS (.name 81 (qq 273 8 9)) (.blt 5 [(.blt 0 [(.name 105 (qq 273 23 28))] (qq 273 19 22) (qq 273 19 29))] (qq 273 13 18) (qq 273 13 30)) [.asgU [(111,qq 274 8 9),(112,qq 274 11 12)] 0 (.idx (.name 105 (qq 274 15 20)) (.name 81 (qq 274 21 22)) (qq 274 15 23)) (qq 274 8 12) (qq 274 8 23),.asg 20 (.bin (.bin (.str [120] (qq 275 14 17)) .Add (.idx (.name 104 (qq 275 20 27)) (.name 112 (qq 275 28 29)) (qq 275 20 30)) (qq 275 14 30)) .Add (.str [120] (qq 275 33 36)) (qq 275 14 36)) (qq 275 8 11) (qq 275 8 36),.ext2 116 (.name 111 (qq 276 13 14)) (.list [(.call 51 [(.blt 1 [(.bin (.int 1000 (qq 276 39 43)) .Add (.name 81 (qq 276 46 47)) (qq 276 39 47))] (qq 276 35 38) (qq 276 35 48)),(.name 20 (qq 276 50 53))] (qq 276 24 34) (qq 276 24 54)),(.call 51 [(.blt 1 [(.int 999 (qq 276 71 74))] (qq 276 67 70) (qq 276 67 75)),(.bin (.name 20 (qq 276 77 80)) .Add (.name 20 (qq 276 83 86)) (qq 276 77 86))] (qq 276 56 66) (qq 276 56 87))] (qq 276 23 88)) (qq 276 8 12) (qq 276 8 15) (qq 276 8 22) (qq 276 8 89) (qq 276 8 89),.augI 117 (.name 112 (qq 277 17 18)) .Add (.blt 1 [(.bin (.int 1000 (qq 277 27 31)) .Add (.name 81 (qq 277 34 35)) (qq 277 27 35))] (qq 277 23 26) (qq 277 23 36)) (qq 277 8 16) (qq 277 8 19) (qq 277 8 36)] ⟨273,4,277,36⟩,
  .frz 116,
  .frz 117,
  .asgT [(58,qq 278 4 11),(119,qq 278 13 18)] [0,0] 0 (.tup [(.call 52 [(.name 117 (qq 278 35 43))] (qq 278 22 34) (qq 278 22 44)),(.call 35 [(.nil (qq 278 61 65)),(.tup [(.str [46,46] (qq 278 68 72)),(.str [] (qq 278 74 76))] 0 (qq 278 67 77))] (qq 278 46 60) (qq 278 46 78))] 0 (qq 278 21 79)) (qq 278 4 18) (qq 278 4 79),
  .asgT [(120,qq 279 4 10),(121,qq 279 12 17)] [0,1] 0 (.tup [(.list [(.int 0 (qq 279 22 23))] (qq 279 21 24)),(.list [(.cmp (.int 0 (qq 279 27 28)) .In (.name 100 (qq 279 32 36)) (qq 279 27 36))] (qq 279 26 37))] 0 (qq 279 20 38)) (qq 279 4 17) (qq 279 4 38),
  .forS (.name 86 (qq 280 8 12)) (.name 76 (qq 280 16 20)) [.pick 122 123 120 119 58 113 124 (.calle (.call 34 [(.nil (qq 281 31 35)),(.tup [(.str [] (qq 281 38 40)),(.bin (.bin (.str [120] (qq 281 42 45)) .Add (.name 86 (qq 281 48 52)) (qq 281 42 52)) .Add (.str [120] (qq 281 55 58)) (qq 281 42 58))] 0 (qq 281 37 59))] (qq 281 17 30) (qq 281 17 60)) [(.nil (qq 281 61 65)),(.comp (.idx (.name 116 (qq 281 68 72)) (.name 111 (qq 281 73 74)) (qq 281 68 75)) [(.mk (.name 111 (qq 281 80 81)) (.name 120 (qq 281 85 91)) [])] [(93,.local),(111,.local),(116,.free)] (qq 281 67 92))] (qq 281 17 93)) (.list [(.str [] (qq 282 34 36))] (qq 282 33 37)) (.attr (.name 113 (qq 282 41 46)) 19 (qq 282 41 51)) (.bin (.blt 2 [(.idx (.name 124 (qq 283 22 28)) (.int 0 (qq 283 29 30)) (qq 283 22 31))] (qq 283 18 21) (qq 283 18 32)) .Sub (.int 9000 (qq 283 35 39)) (qq 283 18 39)) [(93,.local),(113,.local)] [(93,.local),(124,.local),(2,.globalImplicit)] (qq 281 8 14) (qq 281 8 93) (qq 282 8 15) (qq 282 18 23) (qq 282 24 31) (qq 282 56 61) (qq 282 65 71) (qq 282 40 72) (qq 282 33 72) (qq 282 18 73) (qq 282 8 73) (qq 283 8 14) (qq 283 44 50) (qq 283 54 61) (qq 283 17 62) (qq 283 8 62),.ifS (.cmp (.lens (.name 120 (qq 284 19 25)) (qq 284 11 14) (qq 284 15 18) (qq 284 15 26) (qq 284 11 27)) .Lt (.blt 0 [(.name 120 (qq 284 34 40))] (qq 284 30 33) (qq 284 30 41)) (qq 284 11 41)) [.ret (.nil (qq 285 19 23)) (qq 285 12 23)] [] ⟨284,8,285,23⟩,.app 121 (.cmp (.comp (.name 112 (qq 286 22 23)) [(.mk (.name 112 (qq 286 28 29)) (.name 120 (qq 286 33 39)) [(.cmp (.name 112 (qq 286 43 44)) .In (.name 100 (qq 286 48 52)) (qq 286 43 52))])] [(93,.local),(112,.local),(100,.free)] (qq 286 21 53)) .NotEq (.list [] (qq 286 57 59)) (qq 286 21 59)) (qq 286 8 13) (qq 286 8 20) (qq 286 8 60) (qq 286 8 60)] ⟨280,4,286,60⟩,
  .frz 121,
  .ret (.name 121 (qq 287 11 16)) (qq 287 4 16)]
noncomputable def bR:List (Nat×Pos):=[(56,qq 266 15 22),(76,qq 266 24 28)]
noncomputable def eh:List (Nat×NameKind):=[(56,.local),(76,.local),(115,.local),(104,.local),(105,.local),(100,.cell),(112,.local),(116,.cell),(117,.local),(81,.local),(111,.local),(20,.local),(58,.local),(119,.local),(120,.local),(121,.local),(86,.local),(122,.local),(123,.local),(50,.globalImplicit),(5,.globalImplicit),(0,.globalImplicit),(1,.globalImplicit),(51,.globalImplicit),(52,.globalImplicit),(35,.globalImplicit),(34,.globalImplicit),(8,.globalImplicit)]
noncomputable def dT:List St:=[
  .own 125 (.bin (.comp (.bool false (qq 289 11 16)) [(.mk (.name 86 (qq 289 21 25)) (.call 44 [(.name 99 (qq 289 42 46)),(.name 83 (qq 289 48 52))] (qq 289 29 41) (qq 289 29 53)) [])] [(93,.local),(86,.local)] (qq 289 10 54)) .Add (.list [(.bool false (qq 289 58 63))] (qq 289 57 64)) (qq 289 10 64)) (qq 289 4 7) (qq 289 4 64),
  .forS (.name 81 (qq 290 8 9)) (.call 48 [(.name 96 (qq 290 23 27)),(.name 99 (qq 290 29 33)),(.list [(.int 0 (qq 290 36 37))] (qq 290 35 38))] (qq 290 13 22) (qq 290 13 39)) [.seti 125 (.blt 0 [(.call 44 [(.slc (.name 99 (qq 291 29 33)) none (some (.name 81 (qq 291 35 36))) (qq 291 34 36) (qq 291 29 37)),(.name 83 (qq 291 39 43))] (qq 291 16 28) (qq 291 16 44))] (qq 291 12 15) (qq 291 12 45)) (.bool true (qq 291 49 53)) (qq 291 8 11) (qq 291 8 46) (qq 291 8 53)] ⟨290,4,291,53⟩,
  .frz 125,
  .ret (.name 125 (qq 292 11 14)) (qq 292 4 14)]
noncomputable def fQ:List (Nat×Pos):=[(96,qq 288 13 17),(99,qq 288 19 23),(83,qq 288 25 29)]
noncomputable def fN:List (Nat×NameKind):=[(96,.local),(99,.local),(83,.local),(125,.local),(81,.local),(44,.globalImplicit),(48,.globalImplicit),(0,.globalImplicit)]
noncomputable def sW:List St:=[
  .asg 80 (.call 42 [(.name 82 (qq 294 23 29))] (qq 294 12 22) (qq 294 12 30)) (qq 294 4 9) (qq 294 4 30),
  .asg 83 (.bin (.idx (.name 80 (qq 295 11 16)) (.int 5 (qq 295 17 18)) (qq 295 11 19)) .Mod (.int 5 (qq 295 22 23)) (qq 295 11 23)) (qq 295 4 8) (qq 295 4 23),
  .asgU [(96,qq 296 4 8),(99,qq 296 10 14)] 0 (.call 46 [(.name 80 (qq 296 28 33))] (qq 296 17 27) (qq 296 17 34)) (qq 296 4 14) (qq 296 4 34),
  .ret (.cmp (.call 53 [(.call 47 [(.name 96 (qq 297 35 39)),(.name 83 (qq 297 41 45))] (qq 297 22 34) (qq 297 22 46)),(.call 43 [(.name 99 (qq 297 58 62)),(.name 83 (qq 297 64 68))] (qq 297 48 57) (qq 297 48 69))] (qq 297 11 21) (qq 297 11 70)) .Eq (.call 54 [(.name 96 (qq 297 83 87)),(.name 99 (qq 297 89 93)),(.name 83 (qq 297 95 99))] (qq 297 74 82) (qq 297 74 100)) (qq 297 11 100)) (qq 297 4 100)]
noncomputable def sF:List (Nat×Pos):=[(82,qq 293 8 14)]
noncomputable def xJ:List (Nat×NameKind):=[(82,.local),(80,.local),(83,.local),(96,.local),(99,.local),(42,.globalImplicit),(46,.globalImplicit),(53,.globalImplicit),(47,.globalImplicit),(43,.globalImplicit),(54,.globalImplicit)]
noncomputable def i8:List (Nat×Pos):=[(114,qq 258 15 21),(20,qq 258 23 26)]
noncomputable def o6:List (Nat×NameKind):=[(114,.local),(20,.local),(113,.local),(23,.globalImplicit)]
noncomputable def fi:List (Nat×Pos):=[(58,qq 10 19 26)]
noncomputable def iY:List (Nat×NameKind):=[(58,.local),(21,.local),(112,.local),(71,.local)]
noncomputable def mq:List (Nat×Pos):=[]
noncomputable def fW:E:=(.name 117 (qq 264 24 32))
noncomputable def jg:List (Nat×NameKind):=[(117,.free)]
noncomputable def gA:List (Nat×Pos):=[(117,qq 262 17 25)]
noncomputable def l7:List (Nat×NameKind):=[(117,.cell),(19,.local),(23,.globalImplicit)]
noncomputable def gb (n:String):Option (List Stmt):=PySem.Challenge.pw_wb0058_01.main.body.findSome? fun s=>match s with
 |.FunctionDef x _ b _ _ _ _ _ _ _=>if x=Str.ofString n then some b else none
 |_=>none
noncomputable def dW:Option (List Stmt)->List ExceptHandler
 |some (.Try _ hs _ _ _::_)=>hs
 |_=>[]
noncomputable def sk:Option (List Stmt)->List Stmt
 |some (_::.If _ a _ _::_)=>a
 |_=>[]
noncomputable abbrev mV:List Stmt:=[.Assign [.Name (bu 113) (qq 259 4 9)] (.Call (.Name (bu 23) (qq 259 12 28)) [E.py bu (.name 114 (qq 259 29 35))] [] (qq 259 12 36)) (qq 259 4 36),.Assign [.Attribute (.Name (bu 113) (qq 260 4 9)) (bu 20) (qq 260 4 13)] (.Name (bu 20) (qq 260 16 19)) (qq 260 4 19),.Return (some (.Name (bu 113) (qq 261 11 16))) (qq 261 4 16)]
noncomputable abbrev g9:List Stmt:=[.Assign [(.Name (bu 21) (qq 11 4 14))] (.Attribute (.Name (bu 58) (qq 11 17 24)) (bu 21) (qq 11 17 35)) (qq 11 4 35),.If (.Compare (.Name (bu 21) (qq 12 7 17)) [.Is] [.Constant .none 0 (qq 12 21 25)] (qq 12 7 25)) [.Assign [(.Attribute (.Name (bu 58) (qq 13 8 15)) (bu 21) (qq 13 8 26)),(.Name (bu 21) (qq 13 29 39))] (.Dict [] [] (qq 13 42 44)) (qq 13 8 44),.For (.Name (bu 112) (qq 14 12 13)) (.Call (.Attribute (.Attribute (.Name (bu 58) (qq 14 17 24)) (bu 19) (qq 14 17 29)) (bu 22) (qq 14 17 34)) [] [] (qq 14 17 36)) [.For (.Name (bu 71) (qq 15 16 17)) (.Name (bu 112) (qq 15 21 22)) [.Assign [.Subscript (.Name (bu 21) (qq 16 16 26)) (.Name (bu 71) (qq 16 27 28)) (qq 16 16 29)] (.Name (bu 112) (qq 16 32 33)) (qq 16 16 33)] [] ⟨15,12,16,33⟩] [] ⟨14,8,16,33⟩] [] ⟨12,4,16,33⟩,.Return (some (.Name (bu 21) (qq 17 11 21))) (qq 17 4 21)]
noncomputable abbrev jS:List Stmt:=[.Assign [(.Name (bu 19) (qq 263 4 8))] (.Call (.Name (bu 23) (qq 263 11 27)) [.Constant .none 0 (qq 263 28 32)] [] (qq 263 11 33)) (qq 263 4 33),.Assign [.Attribute (.Name (bu 19) (qq 264 4 8)) (bu 22) (qq 264 4 13)] (.Lambda (aP bu mq) (fW.py bu) (bA bu jg) (qq 264 16 32)) (qq 264 4 32),.Return (some (.Call (.Name (bu 23) (qq 265 11 27)) [(.Name (bu 19) (qq 265 28 32))] [] (qq 265 11 33))) (qq 265 4 33)]
end Mine
namespace Mine
noncomputable abbrev K2 (w:World):Frag:=k1 w.params
noncomputable def ctF:Nat->Option (Addr×Addr):=fL [(34,(53,49)),(35,(60,56)),(52,(194,190))]
theorem mO {P:Nat->Addr×Addr->Prop}(h2:P 34 (53,49))(h3:P 35 (60,56))(h4:P 52 (194,190)):∀f q,ctF f=some q->P f q:=
 bj (zN.mpr ⟨h2,zN.mpr ⟨h3,zN.mpr ⟨h4,Cs _⟩⟩⟩)
noncomputable def pqF (f:Nat):Str:=if f=34 then "prepare_child.<locals>." else if f=35 then "prepare_parent.<locals>." else if f=52 then "_law_context.<locals>." else ""
noncomputable def qfF (f:Nat):Str:=if f=34 then "prepare_child.<locals>.select" else if f=35 then "prepare_parent.<locals>.select" else if f=52 then "_law_context.<locals>.<lambda>" else ""
noncomputable def gls (f:Nat)(ps:List (Nat×Pos))(ss:List Sg)(sc:LK):fq:=⟨aP bu ps,.stmts (i6 bu ss),{ bA bu sc with isGenerator:=true },qfF f,aD sc⟩
noncomputable def lsF:Nat->Option fq:=fL [(0,⟨aP bu mq,.expr (fW.py bu),bA bu jg,qfF 52,aD jg⟩),
 (11,gls 35 bg aF aV),(12,gls 34 bv aI aZ)]
noncomputable def B2 (w:World)(h₀:Heap)(mg mb:Str->Option Value)(X:Option Lz):Bs:={ prog:=PySem.Challenge.pw_wb0058_01,w:=w,h₀:=h₀,mg:=mg,mb:=mb,C:=78,nm:=bu,CT:=ctF,qf:=qfF,pq:=pqF,LS:=lsF,X:=X }
structure bc (w:World)(h₀:Heap)(mg mb:Str->Option Value):Prop where
 k:(K2 w).In h₀
 g:h₀.Ns AE mg
 b:h₀.Ns Bq mb
 nolimit:h₀.NoLimit
 builtins:∀x:Str,x ≠ "__name__" -> mb x=bootBuiltins x
 bmain:∃bm ob,mg "__builtins__" = some (.ref bm)/\bm≠Bq/\h₀.get? bm=some ob/\ob.cls=.type "module" /\ ob.dict=some Bq/\ob.data=.plain
 tabs:∀P,P=42\/P=49\/P=56\/P=190->h₀.get? P=some (tabObj #[])
 low:Cg < h₀.objs.size
noncomputable def eI (h₀:Heap)(X:Option Lz):Prop:=∀x,X=some x->h₀.objs.size<=x.dx/\x.ks.Nodup/\x.ks[0]?=some [9000]/\x.vs.length=x.ks.length/\x.ks.length<=lim/\∀y∈x.vs,y.length<=lim
theorem v3:(pt.map Str.ofString).Nodup:=by decide +kernel
theorem vZ:(pt.map fun x=>(Str.ofString x).cps.size).all (· < pt.length)=true:=by decide +kernel
theorem pu {n:Nat}{s:String}(h:pt[n]?=some s):bu n=Str.ofString s:=by unfold bu;exact zF h rfl
theorem x9 {n:Nat}(h:pt[n]?=none):bu n=⟨(Ft n 63).toArray⟩:=by unfold bu;exact zF h rfl
theorem fU:∀x y,bu x=bu y->x=y:=by
 intro x y h;have short:∀{n:Nat}{s:String},pt[n]?=some s->(bu n).cps.size < pt.length:=fun{n s} e=>by
  refine zF (pu e) ?_;have:=Ag.mp vZ ((Str.ofString s).cps.size) (Ac.mpr ⟨s,BK e,rfl⟩)
  simpa using this
 have long:∀{n:Nat},pt[n]?=none->(bu n).cps.size=n/\pt.length<=n:=fun{n} e=>by
  refine zF (x9 e) ?_;exact⟨by simp,by simpa using e⟩
 cases hx:pt[x]? with
 |some s=>
  cases hy:pt[y]? with
  |some t=>
   rw[pu hx,pu hy] at h;have h1:(pt.map Str.ofString)[x]?=some (Str.ofString s):=by refine zF (AR)<|zF hx ?_;rfl
   have h2:(pt.map Str.ofString)[y]?=some (Str.ofString t):=by refine zF (AR)<|zF hy ?_;rfl
   have hlx:=(Ap.mp h1).1;exact(GN hlx v3).mp (by exact zF h1<|zF h2<|zF h rfl)
  |none=>
   have:=short hx;have:=long hy;rw[h] at *
   lia
 |none=>
  cases hy:pt[y]? with
  |some t=>
   have:=short hy;have:=long hx;rw[h] at *
   lia
  |none=>
   have h1:=long hx;have h2:=long hy;rw[h] at h1
   lia
section
variable {w:World}{h₀:Heap}{mg mb:Str->Option Value}{X:Option Lz}
theorem T2 {P:Addr}(Y:eI h₀ X)(t:(B2 w h₀ mg mb X).T P):(P=42\/P=49\/P=56\/P=190)\/h₀.objs.size<=P:=by
 rcases t with⟨f,c,h⟩|⟨x,e,rfl⟩
 ·exact .inl (mO (P:=fun J q=>q.2=42\/q.2=49\/q.2=56\/q.2=190) (.inr (.inl rfl)) (.inr (.inr (.inl rfl))) (.inr (.inr (.inr rfl))) f (c,P) h)
 ·exact .inr (Y x e).1
theorem nT2 {a:Addr}(Y:eI h₀ X)(h:(a==42||a==49||a==56||a==190)=false)(l:a < h₀.objs.size):¬(B2 w h₀ mg mb X).T a:=by
 intro t;rcases T2 Y t with(rfl|rfl|rfl|rfl)|q
 iterate 4 exact DU (show true=false from h)
 exact zJ _ (Ay q l)
theorem bc.lt (T:bc w h₀ mg mb){a:Addr}(h:((K2 w).lookup a).isSome=true):a < h₀.objs.size:=by
 obtain⟨o,e⟩:=DF.mp h;exact Al (T.k a o e)
theorem nTk (T:bc w h₀ mg mb)(Y:eI h₀ X){a:Addr}(h:(((K2 w).lookup a).isSome&&!(a==42||a==49||a==56||a==190))=true):¬(B2 w h₀ mg mb X).T a:=by
 rw[Bu,EO] at h;exact nT2 Y h.2 (T.lt h.1)
theorem cls2 (T:bc w h₀ mg mb)(Y:eI h₀ X):kH (B2 w h₀ mg mb X) (K2 w) where
 in₀:=T.k
 nT:=fun a o e t=>by
  have key:∀P,(K2 w).lookup P=none->(K2 w).lookup P=some o->False:=fun P h1 h2=>by replace h2:=h1▸h2;cases h2
  rcases T2 Y t with(rfl|rfl|rfl|rfl)|q
  ·exact key 42 (by rfl) e
  ·exact key 49 (by rfl) e
  ·exact key 56 (by rfl) e
  ·exact key 190 (by rfl) e
  ·exact zJ _ (Ay q (Al (T.k a o e)))
 makes:=by rfl
 init:=⟨75,by rfl,by rfl⟩
 plain:=by rfl
theorem set2 (T:bc w h₀ mg mb)(Y:eI h₀ X):kF (B2 w h₀ mg mb X) (K2 w) where
 z:=cls2 T Y
 set:=by rfl
 taker:=fun f h=>by rcases h with(rfl|rfl|rfl)|rfl<;>kernel_rfl
 hasDict:=by rfl
 keep:=by rfl
end
end Mine
namespace Mine
section
variable {w:World}{h₀:Heap}{mg mb:Str->Option Value}{X:Option Lz}
theorem uC (s:String)(h:(pt.map Str.ofString).all (· != Str.ofString s)=true)(h2:(Str.ofString s).cps.size < pt.length) (n:Nat):bu n≠Str.ofString s:=by
 intro e
 cases hn:pt[n]? with
 |some t=>
  rw[pu hn] at e;have:=Ag.mp h (Str.ofString t) (Ac.mpr ⟨t,BK hn,rfl⟩);rw[e] at this;simp at this
 |none=>
  rw[x9 hn] at e;have h3:pt.length<=n:=by simpa using hn
  have h4:(⟨(Ft n 63).toArray⟩:Str).cps.size=n:=by simp
  rw[e] at h4
  lia
theorem tB (T:bc w h₀ mg mb):mg "__builtins__" = some (.ref 4):=mg_of T.k T.g (by rfl)
theorem gf (T:bc w h₀ mg mb){f:Nat}{v:Value}(h1:nsIn (K2 w) AE (bu f)=some none)(h2:bootBuiltins (bu f)=some v):mg (bu f)=none/\mb (bu f)=some v:=
 ⟨mg_none_of T.k T.g h1,by exact zF (T.builtins _ (uC "__name__" (by decide +kernel) (by decide +kernel) f))<|zF h2 rfl⟩
theorem blts2 (T:bc w h₀ mg mb):∀f v,dX f=some v->mg (bu f)=none/\mb (bu f)=some v:=
 bj (zN.mpr ⟨gf T (by rfl) (by rfl),zN.mpr ⟨gf T (by rfl) (by rfl),zN.mpr ⟨gf T (by rfl) (by rfl),zN.mpr ⟨gf T (by rfl) (by rfl),zN.mpr ⟨gf T (by rfl) (by rfl),zN.mpr ⟨gf T (by rfl) (by rfl),zN.mpr ⟨gf T (by rfl) (by rfl),Cs _⟩⟩⟩⟩⟩⟩⟩)
theorem zl:∀f,(f=19\/f=20\/f=21)\/f=22->∃attr,Dr (K2 w) (.ref 78) (bu f)=some attr/\(match attr with|some a=>Gv (K2 w) a "__get__" | none=>some none)=some none:=by
 intro f hf;rcases hf with(rfl|rfl|rfl)|rfl
 ·exact⟨none,by rfl,rfl⟩
 ·exact⟨none,by rfl,rfl⟩
 ·exact⟨some .none,by rfl,by rfl⟩
 ·exact⟨none,by rfl,rfl⟩
theorem uW (T:bc w h₀ mg mb){f:Nat}{c P:Addr}(h:ctF f=some (c,P)):CodeHd h₀ c P:=
 mO (P:=fun J q=>CodeHd h₀ q.1 q.2) (codeHd_of_K T.k (by rfl)) (codeHd_of_K T.k (by rfl)) (codeHd_of_K T.k (by rfl)) f (c,P) h
theorem bat2 (T:bc w h₀ mg mb){P:Addr}(hP:(4:Addr)≠P):h₀.BuiltinsAt mg P:=by
 refine x25 T.bmain fun bm ob h1 h2 h3 h4 h5 h6=>?_;have h7:some (Value.ref bm)=some (.ref 4):=h1.symm.trans (tB T)
 cases h7
 exact⟨4,ob,h1,h2,by decide,hP,h3,h4,h5,h6⟩
theorem hd2 (T:bc w h₀ mg mb)(Y:eI h₀ X){f:Nat}{c P:Addr}(h:ctF f=some (c,P)):¬(B2 w h₀ mg mb X).T c/\AE≠P/\h₀.BuiltinsAt mg P:=
 mO (P:=fun J q=>¬(B2 w h₀ mg mb X).T q.1/\AE≠q.2/\h₀.BuiltinsAt mg q.2) ⟨nTk T Y (by rfl),by decide,bat2 T (by decide)⟩ ⟨nTk T Y (by rfl),by decide,bat2 T (by decide)⟩ ⟨nTk T Y (by rfl),by decide,bat2 T (by decide)⟩ f (c,P) h
noncomputable def ctR:Nat->Option (Nat×Addr):=fL [(49,(34,53)),(56,(35,60)),(190,(52,194))]
theorem zc {f:Nat}{c P:Addr}(h:ctF f=some (c,P)):ctR P=some (f,c):=mO (P:=fun f q=>ctR q.2=some (f,q.1)) rfl rfl rfl f (c,P) h
theorem jb (T:bc w h₀ mg mb)(Y:eI h₀ X):(B2 w h₀ mg mb X).Ok where
 inj:=fU
 nA:=uC "\u2328" (by decide +kernel) (by decide +kernel)
 xk:=Y
 hd:=fun f c P h=>by
  refine vx (hd2 T Y h) fun h1 h2 h3=>?_;exact⟨uW T h,h1,h2,h3,fun bm h4=>by cases h4.symm.trans (tB T);exact nT2 Y rfl (let ⟨_,_,h5,_,h6,_⟩:=T.bmain;by cases h5.symm.trans (tB T);exact Al h6)⟩
 ctinj:=fun f f' c c' P h h'=>by
  cases(zc h).symm.trans (zc h')
  exact⟨rfl,rfl⟩
 g:=T.g
 b:=T.b
 gT:=nT2 Y rfl T.g.lt
 bT:=nT2 Y rfl T.b.lt
 nolimit:=T.nolimit
 csT:=nT2 Y rfl (let ⟨_,h,_⟩:=T.nolimit;h.lt)
 sysm:=T.low
 blts:=blts2 T
 mnm:=bj (zN.mpr ⟨rfl,zN.mpr ⟨rfl,zN.mpr ⟨rfl,zN.mpr ⟨rfl,zN.mpr ⟨rfl,zN.mpr ⟨rfl,zN.mpr ⟨rfl,zN.mpr ⟨rfl,zN.mpr ⟨rfl,Cs _⟩⟩⟩⟩⟩⟩⟩⟩⟩)
 dbg:=fun x=>by
  rw[beq_eq_false_iff_ne];exact uC "__debug__" (by decide +kernel) (by decide +kernel) x
 cld:=fun x=>by
  rw[beq_eq_false_iff_ne];exact uC "__classdict__" (by decide +kernel) (by decide +kernel) x
 attr:=vi (B:=B2 w h₀ mg mb X) fU (cls2 T Y) (by rfl) zl (by rfl)
end
end Mine
namespace Mine
section
variable {w:World}{h₀:Heap}{mg mb:Str->Option Value}{X:Option Lz}
theorem df (T:bc w h₀ mg mb)(Y:eI h₀ X){f fid:Nat}{ps:List (Nat×Pos)}{sc:LK}{body:List Stmt}{fa c:Addr}{qual:Str}
  (e1:nsIn (K2 w) AE (bu f)=some (some (.ref fa)))
  (e2:mE (K2 w) fa=some ⟨aP bu ps,.stmts body,aL bu sc,.function,false,false,AE,Bq,[],.none,.none,.ref c,qual⟩)
  (e3:gM (K2 w) c=some qual) (hn:(((K2 w).lookup fa).isSome&&!(fa==42||fa==49||fa==56||fa==190)&&(((K2 w).lookup c).isSome&&!(c==42||c==49||c==56||c==190)))=true)
  (hfid:fid=0\/(Value.ref c=(B2 w h₀ mg mb X).cd fid/\qual++(".<locals>." : Str)=(B2 w h₀ mg mb X).pq fid))
  (hd:decide ((sc.map (·.1)).Nodup/\(ps.map (·.1)).Nodup/\(∀q∈sc,q.2=.local\/q.2=.cell\/q.2=.globalImplicit)/\∀x∈ps.map (·.1),sc.lookup x=some .local\/sc.lookup x=some .cell)=true):
  ∃fo fd,bC (B2 w h₀ mg mb X) f fid (ps.map (·.1)) sc body fa fo fd:=
 have d:=of_decide_eq_true hd;have z:=As.mp hn
 rE (B:=B2 w h₀ mg mb X) (KF:=K2 w) T.k T.g e1 e2 e3 (nTk T Y z.1) (nTk T Y z.2) hfid d.1 fU d.2.1 d.2.2.1 d.2.2.2
theorem za (T:bc w h₀ mg mb)(Y:eI h₀ X):∃fo fd,bC (B2 w h₀ mg mb X) 30 0 (n9.map (·.1)) vM (eZ bu v8) 26 fo fd:=
 df T Y (ps:=n9) (c:=25) (qual := "escape") (by rfl) (by rfl) (by rfl) (AH true) (.inl rfl) (AH true)
theorem jO (T:bc w h₀ mg mb)(Y:eI h₀ X):∃fo fd,bC (B2 w h₀ mg mb X) 31 0 (fi.map (·.1)) iY g9 33 fo fd:=
 df T Y (ps:=fi) (c:=32) (qual := "get_parent_map") (by rfl) (by rfl) (by rfl) (AH true) (.inl rfl) (AH true)
theorem jo (T:bc w h₀ mg mb)(Y:eI h₀ X):∃fo fd,bC (B2 w h₀ mg mb X) 32 0 (cw.map (·.1)) dq (eZ bu cy) 40 fo fd:=
 df T Y (ps:=cw) (c:=39) (qual := "_is_wildcard_tag") (by rfl) (by rfl) (by rfl) (AH true) (.inl rfl) (AH true)
theorem kN (T:bc w h₀ mg mb)(Y:eI h₀ X):∃fo fd,bC (B2 w h₀ mg mb X) 34 34 (cR.map (·.1)) dR (eZ bu (bD (sk (gb "prepare_child")))) 54 fo fd:=
 df T Y (ps:=cR) (c:=53) (qual := "prepare_child") (by rfl) (by rfl) (by rfl) (AH true) (.inr ⟨by kernel_rfl,by kernel_rfl⟩) (AH true)
theorem jN (T:bc w h₀ mg mb)(Y:eI h₀ X):∃fo fd,bC (B2 w h₀ mg mb X) 35 35 (dD.map (·.1)) fe (eZ bu bW) 61 fo fd:=
 df T Y (ps:=dD) (c:=60) (qual := "prepare_parent") (by rfl) (by rfl) (by rfl) (AH true) (.inr ⟨by kernel_rfl,by kernel_rfl⟩) (AH true)
theorem mN (T:bc w h₀ mg mb)(Y:eI h₀ X):∃fo fd,bC (B2 w h₀ mg mb X) 37 0 (di.map (·.1)) d7 (eZ bu (dk (dW (gb "_escape_cdata")))) 96 fo fd:=
 df T Y (ps:=di) (c:=95) (qual := "_escape_cdata") (by rfl) (by rfl) (by rfl) (AH true) (.inl rfl) (AH true)
theorem kP (T:bc w h₀ mg mb)(Y:eI h₀ X):∃fo fd,bC (B2 w h₀ mg mb X) 38 0 (cS.map (·.1)) dS (eZ bu (cY (dW (gb "_escape_attrib")))) 103 fo fd:=
 df T Y (ps:=cS) (c:=102) (qual := "_escape_attrib") (by rfl) (by rfl) (by rfl) (AH true) (.inl rfl) (AH true)
theorem gJ (T:bc w h₀ mg mb)(Y:eI h₀ X):∃fo fd,bC (B2 w h₀ mg mb X) 39 0 (bI.map (·.1)) cC (eZ bu (bK (dW (gb "_escape_attrib_html")))) 110 fo fd:=
 df T Y (ps:=bI) (c:=109) (qual := "_escape_attrib_html") (by rfl) (by rfl) (by rfl) (AH true) (.inl rfl) (AH true)
theorem g8 (T:bc w h₀ mg mb)(Y:eI h₀ X):∃fo fd,bC (B2 w h₀ mg mb X) 40 0 (bS.map (·.1)) cJ (eZ bu (bZ (dW (gb "_escape_cdata_c14n")))) 117 fo fd:=
 df T Y (ps:=bS) (c:=116) (qual := "_escape_cdata_c14n") (by rfl) (by rfl) (by rfl) (AH true) (.inl rfl) (AH true)
theorem gK (T:bc w h₀ mg mb)(Y:eI h₀ X):∃fo fd,bC (B2 w h₀ mg mb X) 41 0 (bJ.map (·.1)) cD (eZ bu (bL (dW (gb "_escape_attrib_c14n")))) 124 fo fd:=
 df T Y (ps:=bJ) (c:=123) (qual := "_escape_attrib_c14n") (by rfl) (by rfl) (by rfl) (AH true) (.inl rfl) (AH true)
theorem rJ (T:bc w h₀ mg mb)(Y:eI h₀ X):∃fo fd,bC (B2 w h₀ mg mb X) 42 0 (eD.map (·.1)) ej (eZ bu dH) 131 fo fd:=
 df T Y (ps:=eD) (c:=130) (qual := "_law_cells") (by rfl) (by rfl) (by rfl) (AH true) (.inl rfl) (AH true)
theorem tu (T:bc w h₀ mg mb)(Y:eI h₀ X):∃fo fd,bC (B2 w h₀ mg mb X) 43 0 (fh.map (·.1)) bQ (eZ bu fk) 138 fo fd:=
 df T Y (ps:=fh) (c:=137) (qual := "_law_hand") (by rfl) (by rfl) (by rfl) (AH true) (.inl rfl) (AH true)
theorem ni (T:bc w h₀ mg mb)(Y:eI h₀ X):∃fo fd,bC (B2 w h₀ mg mb X) 44 0 (dE.map (·.1)) dB (eZ bu cc) 145 fo fd:=
 df T Y (ps:=dE) (c:=144) (qual := "_law_spelled") (by rfl) (by rfl) (by rfl) (AH true) (.inl rfl) (AH true)
theorem rG (T:bc w h₀ mg mb)(Y:eI h₀ X):∃fo fd,bC (B2 w h₀ mg mb X) 45 0 (ew.map (·.1)) eg (eZ bu eG) 152 fo fd:=
 df T Y (ps:=ew) (c:=151) (qual := "_law_means") (by rfl) (by rfl) (by rfl) (AH true) (.inl rfl) (AH true)
theorem rI (T:bc w h₀ mg mb)(Y:eI h₀ X):∃fo fd,bC (B2 w h₀ mg mb X) 46 0 (ey.map (·.1)) ei (eZ bu bY) 157 fo fd:=
 df T Y (ps:=ey) (c:=156) (qual := "_law_drawn") (by rfl) (by rfl) (by rfl) (AH true) (.inl rfl) (AH true)
theorem fA (T:bc w h₀ mg mb)(Y:eI h₀ X):∃fo fd,bC (B2 w h₀ mg mb X) 47 0 (bo.map (·.1)) bn (eZ bu aX) 164 fo fd:=
 df T Y (ps:=bo) (c:=163) (qual := "_law_pattern") (by rfl) (by rfl) (by rfl) (AH true) (.inl rfl) (AH true)
theorem mM (T:bc w h₀ mg mb)(Y:eI h₀ X):∃fo fd,bC (B2 w h₀ mg mb X) 48 0 (dy.map (·.1)) dw (eZ bu bX) 169 fo fd:=
 df T Y (ps:=dy) (c:=168) (qual := "_law_ends") (by rfl) (by rfl) (by rfl) (AH true) (.inl rfl) (AH true)
theorem pM (T:bc w h₀ mg mb)(Y:eI h₀ X):∃fo fd,bC (B2 w h₀ mg mb X) 49 0 (dY.map (·.1)) fv (eZ bu dZ) 176 fo fd:=
 df T Y (ps:=dY) (c:=175) (qual := "_law_either") (by rfl) (by rfl) (by rfl) (AH true) (.inl rfl) (AH true)
theorem nj (T:bc w h₀ mg mb)(Y:eI h₀ X):∃fo fd,bC (B2 w h₀ mg mb X) 50 0 (dF.map (·.1)) dC (eZ bu cL) 181 fo fd:=
 df T Y (ps:=dF) (c:=180) (qual := "_law_machine") (by rfl) (by rfl) (by rfl) (AH true) (.inl rfl) (AH true)
theorem rF (T:bc w h₀ mg mb)(Y:eI h₀ X):∃fo fd,bC (B2 w h₀ mg mb X) 51 0 (i8.map (·.1)) o6 mV 188 fo fd:=
 df T Y (ps:=i8) (c:=187) (qual := "_law_thing") (by rfl) (by rfl) (by rfl) (AH true) (.inl rfl) (AH true)
theorem nk (T:bc w h₀ mg mb)(Y:eI h₀ X):∃fo fd,bC (B2 w h₀ mg mb X) 52 52 (gA.map (·.1)) l7 jS 195 fo fd:=
 df T Y (ps:=gA) (c:=194) (qual := "_law_context") (by rfl) (by rfl) (by rfl) (AH true) (.inr ⟨by kernel_rfl,by kernel_rfl⟩) (AH true)
theorem rH (T:bc w h₀ mg mb)(Y:eI h₀ X):∃fo fd,bC (B2 w h₀ mg mb X) 53 0 (bR.map (·.1)) eh (eZ bu eH) 200 fo fd:=
 df T Y (ps:=bR) (c:=199) (qual := "_law_flags") (by rfl) (by rfl) (by rfl) (AH true) (.inl rfl) (AH true)
theorem wA (T:bc w h₀ mg mb)(Y:eI h₀ X):∃fo fd,bC (B2 w h₀ mg mb X) 54 0 (fQ.map (·.1)) fN (eZ bu dT) 205 fo fd:=
 df T Y (ps:=fQ) (c:=204) (qual := "_law_due") (by rfl) (by rfl) (by rfl) (AH true) (.inl rfl) (AH true)
theorem d_law (T:bc w h₀ mg mb)(Y:eI h₀ X):∃fo fd,bC (B2 w h₀ mg mb X) 55 0 (sF.map (·.1)) xJ (eZ bu sW) 212 fo fd:=
 df T Y (ps:=sF) (c:=211) (qual := "law") (by rfl) (by rfl) (by rfl) (AH true) (.inl rfl) (AH true)
theorem y9 (T:bc w h₀ mg mb)(Y:eI h₀ X):∃fo fd,jW (B2 w h₀ mg mb X) (K2 w) 25 75 fo fd (qq 94 8 12) (qq 94 8 17) (qq 94 20 24) (qq 94 8 24):=
 v9 (B:=B2 w h₀ mg mb X) (KF:=K2 w) T.k (slf:=25) (a1:=(qq 93 17 21)) (a2:=(qq 93 23 27)) (fI:=75) (c:=74) (qual := "_SelectorContext.__init__") (by rfl) (by rfl) (by rfl) (nTk T Y (by rfl)) (nTk T Y (by rfl)) fU (by decide)
end
end Mine
namespace Mine
mutual
noncomputable def D.pl:D->Bool
 |.dict ..=>false
 |.cx _=>false
 |.thing ns vs=>ns.length != 1&&rR vs
 |.list l=>rR l
 |.tup l=>rR l
 |.lam _ l=>rR l
 |_=>true
noncomputable def rR:List D->Bool
 |[]=>true
 |d::r=>d.pl&&rR r
end
inductive jV (h:Heap)(b:Addr):Prop
 |mk (o:Obj) (es:Array DictEntry) (n:Nat) (g:h.get? b=some o) (d:o.data=.dict es n) (s:es.size=1)
 |dead (g:h.get? b=none)
theorem jV.no {h:Heap}{b:Addr}{o:Obj}(l:jV h b)(g:h.get? b=some o)(d:∀es n,o.data=.dict es n->es.size≠1):False:=by
 obtain⟨o',es,n,g',d',s⟩|g':=l
 rotate_left
 ·rw[g] at g';exact jG g'
 obtain rfl:=zG (g.symm.trans g');exact d es n d' s
section
variable {B:Bs}{X:Option Lz}{h:Heap}{W W':AP}
theorem lam_sw (hW:∀b,W' b->W b\/jV h b){id:Nat}{cv:List Value}{a:Addr}(l:B.Lam id cv h W a):Bs.Lam { B with X:=X } id cv h W' a:=by
 obtain⟨L,fo,fd,e,g,d,nw,l⟩:=l;refine⟨L,fo,fd,e,g,d,fun q=>(hW a q).elim nw fun z=>z.no g fun es n e=>(by rw[d] at e;exact nomatch e),l.params,l.body,l.scope,l.glob,l.blt,l.dfl,l.qual,l.code,l.len,l.only,l.keys,l.nms,l.apart,fun i x v h1 h2=>?_⟩;refine x1211 (l.cells i x v h1 h2) fun c h3 h4 o h5 h6=>?_;exact⟨c,h3,fun q=>(hW c q).elim h4 fun z=>z.no h5 fun es n e=>(by rw[h6] at e;exact nomatch e),o,h5,h6⟩
mutual
theorem av.sw (hW:∀b,W' b->W b\/jV h b):∀(d:D)(v:Value),d.pl=true->av B h W d v->av { B with X:=X } h W' d v
 |.nil,_,_,r=>r
 |.bool _,_,_,r=>r
 |.int _,_,_,r=>r
 |.str _,_,_,r=>r
 |.list ds,v,p,r=>by
  simp only[av] at r ⊢;obtain⟨a,vs,n,e,w,g,l,r⟩:=r;exact⟨a,vs,n,e,fun q=>(hW a q).elim w fun z=>z.no g fun es n e=>(nomatch e),g,l,aa.sw hW ds _ p r⟩
 |.tup ds,v,p,r=>by
  simp only[av] at r ⊢;obtain⟨a,vs,n,e,w,g,l,r⟩:=r;exact⟨a,vs,n,e,fun q=>(hW a q).elim w fun z=>z.no g fun es n e=>(nomatch e),g,l,aa.sw hW ds _ p r⟩
 |.dict _ _,_,p,_=>bG p
 |.cx _,_,p,_=>bG p
 |.thing ns ds,v,p,r=>by
  simp only[av] at r ⊢;obtain⟨a,dx,n,ts,dv,e,w,g,wx,gx,l1,l2,r⟩:=r;refine aS (As.mp (show(ns.length != 1&&rR ds)=true from p)) fun p1 p2=>?_;have hn:ns.length≠1:=by simpa using p1
  refine⟨a,dx,n,ts,dv,e,fun q=>(hW a q).elim w fun z=>z.no g fun es n e=>(nomatch e),g,fun q=>(hW dx q).elim wx fun z=>z.no gx fun es n e=>?_,gx,l1,l2,aa.sw hW ds _ p2 r⟩
  cases e
  have h3:=aa.length r;refine zF Bp ?_;unfold fF;simp only[zX,List.length_zip]
  lia
 |.lam id caps,v,p,r=>by
  simp only[av] at r ⊢;obtain⟨a,cv,e,w,l,r⟩:=r;refine⟨a,cv,e,fun q=>(hW a q).elim w fun z=>?_,lam_sw hW l,aa.sw hW caps _ p r⟩;obtain⟨L,fo,fd,J,g,d,J⟩:=l;exact z.no g fun es n e=>(by rw[d] at e;exact nomatch e)
 |.bi _,_,_,r=>r
theorem aa.sw (hW:∀b,W' b->W b\/jV h b):∀(d:List D)(v:List Value),rR d=true->aa B h W d v->aa { B with X:=X } h W' d v
 |[],_,_,r=>r
 |d::ds,vs,p,r=>by
  simp only[aa] at r ⊢;obtain⟨v,r',e,h1,h2⟩:=r;refine aS (As.mp (show(d.pl&&rR ds)=true from p)) fun p1 p2=>?_;exact⟨v,r',e,av.sw hW d v p1 h1,aa.sw hW ds r' p2 h2⟩
end
end
section
variable {B:Bs}(O:B.Ok)
include O
variable {KF:Frag}{Γ:ah}{ρ:ac}{K:Nat}
noncomputable def phiN:bq:=⟨fun J J=>none,fun J J=>none,fun J J=>none⟩
theorem zb {slf:Nat}{fI:Addr}{fo:Obj}{fd:BD}{p1 p2 p3 p4:Pos}(Z:kF B KF)(F:jW B KF slf fI fo fd p1 p2 p3 p4)(hne:slf≠19)(hK:24<=K){y id fl:Nat}{lps:List (Nat×Pos)}{lb:E}{lsc:LK}{fams:D}{q1 q2 q3 q4 q5 q6 q7 q8 q9 q10 q11 q12 q13:Pos}
  (hC:B.mg (B.nm 23)=some (.ref B.C)) (k23:Γ 23=some .globalImplicit) (kr:Γ 19=some .local) (ky:Γ y=some .cell) (hy:y≠19) (hl:vn B id fl lps lb lsc) (hfr:aD lsc=[y]) (hsc:em Γ lsc=true) (hf0:fl≠0) (hff:Γ.f=fl) (hρ:ρ y=some (.fz fams)) (hr:ρ 19=none) (hpl:fams.pl=true):
  qd B K Γ ρ [.Assign [.Name (B.nm 19) q1] (.Call (.Name (B.nm 23) q2) [.Constant .none 0 q3] [] q4) q5,.Assign [.Attribute (.Name (B.nm 19) q6) (B.nm 22) q7] (.Lambda (aP B.nm lps) (lb.py B.nm) (bA B.nm lsc) q8) q9,.Return (some (.Call (.Name (B.nm 23) q10) [.Name (B.nm 19) q11] [] q12)) q13]
   (.thing [19] [.thing [19,22] [.nil,.lam id [fams]]]):=by
 intro Wc W0 pe A s Q E X0 R k
 have hseal:=tX O (K:=K) (Φ:=phiN) (N:=0) (x:=y) Γ ρ (.nx (ρ.set y (.sealed fams))) (by
  simp only[gq];refine zF hρ ?_
  simp only[ky,if_true]) Wc W0 pe A s Q E [.Assign [.Name (B.nm 19) q1] (.Call (.Name (B.nm 23) q2) [.Constant .none 0 q3] [] q4) q5,.Assign [.Attribute (.Name (B.nm 19) q6) (B.nm 22) q7] (.Lambda (aP B.nm lps) (lb.py B.nm) (bA B.nm lsc) q8) q9,.Return (some (.Call (.Name (B.nm 23) q10) [.Name (B.nm 19) q11] [] q12)) q13] X0 R
 refine hseal ?_;intro s0 Wc' W g0 X e0;have kr':=(X.kinds 19 _ kr).1;refine zZ (AU (Bc (mt O X k23 hC ?_)) rfl);refine callWith_K (Z.z.here X.good) Z.keep ?_ (aA B.nm (Mine.E.nil q3) _ _) rfl;refine zF (show D2 q4 (B8 [.Constant .none 0 q3] pe)=[(false,eval (.Constant .none 0 q3) pe)] from(bO O B.nm q4 pe [Mine.E.nil q3]).trans (by refine zF aU<|zF (aA _ _ _ _) ?_;rfl)) ?_;refine AJ (ES (Bn ⟨Z.z.here X.good,?_⟩));refine C4 (jJ O Z F hne X.good (R.less (by lia)) fun s1 xx dx tk e1 hx hdx gx gd=>?_);have X1:=X.move O e1;have nlow:∀b,s0.heap.objs.size<=b->¬W b:=fun b hb q=>zJ _ (zI (X.wlt _ q) hb);have new:∀b,s0.heap.objs.size<=b->¬B.T b:=fun b hb t=>(X.good.hi hb).2 t;have hns:¬aq (ρ.set y (.sealed fams)) 19:=fun⟨d,e⟩=>by
  have e':(if 19=y then some (dL.sealed fams) else ρ 19)=some (.sealed d):=e;rw[if_neg hy.symm,hr] at e';exact ai e'
 refine Ctx.storeE' O X1 (.inl kr) hns (en:=.fz (.thing [19] [.nil])) (fun J e=>nomatch e) ?_ (fun J e=>e.elim) fun s2 X2 e2 hs2 hl2=>?_
 ·show av B s1.heap W (.thing [19] [.nil]) (.ref xx)
  simp only[av];exact⟨xx,dx,1,[tk],[.none],rfl,nlow _ hx,gx,nlow _ hdx,gd,rfl,rfl,aa.cons rfl aa.nil⟩
 have LT:¬B.T pe.locals:=fun q=>X.locW.2 (X.tW _ q);have zo:=dA O X1 hns;have gx2:=e2.keep _ _ (new _ hx) (fun q=>nlow _ hx (zo _ q).1) gx;have gd2:=e2.keep _ _ (new _ hdx) (fun q=>nlow _ hdx (zo _ q).1) gd;refine am (cP.ns O kr' hl2.1) fun m2 n2 hm2=>?_;refine zZ (Dm ?_)
 refine ci O (t4 O hl (K:=K) (Φ:=phiN) (p:=q8)) (x:=.lam id [fams]) (r:=.d (.lam id [fams])) (by
  refine zF qm<|zF (if_pos ⟨hsc,hf0,hff⟩)<|zF hfr ?_
  simp[ac.set,hy]) rfl X2 R fun vl s3 e3 X3 rl=>?_
 have gx3:=e3.keep _ _ (new _ hx) gx2;have gd3:=e3.keep _ _ (new _ hdx) gd2;have n3:=BO.moved n2 fun o z=>e3.keep _ o LT z;have hLd:pe.locals≠dx:=fun q=>nlow _ hdx (q▸X.locW.1);refine Aw (Af X.fn kr' n3 (v:=.ref xx) hm2 ?_) (O.dbg 19);refine iW (B:=B) (Z.z.here X3.good) (dU gx3 gd3) Z.set rfl Z.z.plain (Z.taker 22 (.inr rfl)) Z.hasDict (gC O (x:=19) (y:=22) (by decide)) gd3 (iE O (x:=19) (y:=22) (by decide)) rfl (by simp[fF]) fun h4 sb4 gd4=>?_;have nko:∀o,s3.heap.get? dx=some o->¬B.KO o:=fun o e=>by
  obtain rfl:=zG (gd3.symm.trans e);exact kT (es:=(fF B.w.params [.str (B.nm 19) tk] [.none]).toArray) rfl (fun(q:Value.type "dict" = Value.type "code")=>nomatch q) fun e he=>by
   obtain rfl:=zY.mp (show e∈[_] from he);exact beq_eq_false_iff_ne.mpr (O.nA 19)
 have e4:ao B ⟨fun b=>b=dx,fun J=>False⟩ s3 { s3 with heap:=h4,toks:=s3.toks+2 }:=cg O (new _ hdx) nko sb4;have g4:aJ B { s3 with heap:=h4,toks:=s3.toks+2 }:=X3.good.moveP e4 fun b q=>q▸X.good.hi hdx;have n4:h4.Ns pe.locals m2:=BO.moved n3 fun o z=>sb4.extBut _ _ hLd z
 have gx4:h4.get? xx=some (Cj B.C dx):=sb4.extBut _ _ (by
  intro q;rw[q,gd3] at gx3
  exact nomatch gx3) gx3
 have gm4:h4.Ns pe.globals B.mg:=by
  refine zF X.glob ?_;exact BO.moved O.g fun o e=>g4.base _ _ O.gT e
 refine zZ (CK (Bc (EF X.fn (X.kinds _ _ k23).1 (loadGlobal_global gm4 hC ?_) (O.dbg 23))));refine callWith_K (Z.z.here g4) Z.keep ?_ (aA B.nm (.name 19 q11) _ _) rfl;refine zF (show D2 q12 (B8 [.Name (B.nm 19) q11] pe)=[(false,eval (.Name (B.nm 19) q11) pe)] from(bO O B.nm q12 pe [.name 19 q11]).trans (by refine zF aU<|zF (aA _ _ _ _) ?_;rfl)) ?_;refine AJ (Aw (Af X.fn kr' n4 (v:=.ref xx) hm2 (Bn ⟨Z.z.here g4,?_⟩)) (O.dbg 19));refine C4 (jJ O Z F hne g4 (R.less (by lia)) fun s5 x5 d5 tk5 e5 hx5 hd5 gx5 gd5=>?_);have sz04:s0.heap.objs.size<=h4.objs.size:=zH e1.size (zH e2.size (zH e3.size e4.size));have low:∀b,s0.heap.objs.size<=b->¬Wc b:=fun b hb q=>nlow b hb (X.cW _ (g0.c b q));have eA:ao B (d3 W0 Wc) s s1:=e0.trans (e1.toP ⟨fun J=>False,fun J=>False⟩) (fun b q=>q.elim) fun i q=>q.elim;have eB:ao B (d3 W0 Wc) s s3:=(eA.trans e2 (fun b q=>g0.own b (zo b q).1 (zo b q).2) fun i q=>q.elim).trans (e3.toP ⟨fun J=>False,fun J=>False⟩) (fun b q=>q.elim) fun i q=>q.elim
 ·have eC:ao B (d3 W0 Wc) s s5:=(eB.trans e4 (fun b q=>.inr (by refine zF q ?_;exact zH e0.size hdx)) fun i q=>q.elim).trans (e5.toP ⟨fun J=>False,fun J=>False⟩) (fun b q=>q.elim) fun i q=>q.elim
  refine k _ _ eC ?_;have hsw:∀b,bB W (fun b=>b=dx) b->W b\/jV s3.heap b:=fun b q=>q.imp_right fun q=>by
   subst q;exact .mk _ _ _ gd3 rfl rfl
  have pl:(D.lam id [fams]).pl=true:=by
   show(fams.pl&&true)=true;refine zF hpl ?_;rfl
  have r3:av B s3.heap (bB W fun b=>b=dx) (.lam id [fams]) vl:=av.sw (X:=B.X) hsw _ _ pl rl;have r4:av B h4 (bB W fun b=>b=dx) (.lam id [fams]) vl:=av.move O (fun b o q z=>sb4.extBut b o (fun w=>q.elim (fun q=>q (.inr w)) fun q=>nko o (w▸z) q) z) (fun b q=>.inl q) _ _ r3;have r5:av B s5.heap Wc (.lam id [fams]) vl:=av.move O (fun b o q z=>q.elim (fun q=>e5.keep b o (fun t=>q (.inl (X.tW' b t))) z) fun q=>e5.ck b o q z) (fun b q=>.inl (.inl (X.cW b (g0.c b q)))) _ _ r4;simp only[av] at r5 ⊢;have hx54:∀b,s0.heap.objs.size<=b->¬B.T b:=new;refine⟨x5,d5,1,[tk5],[.ref xx],rfl,low _ (zH sz04 hx5),gx5,low _ (zH sz04 hd5),gd5,rfl,rfl,aa.cons ?_ aa.nil⟩;simp only[av];exact⟨xx,dx,_,[tk,_],[.none,vl],rfl,low _ hx,e5.keep _ _ (new _ hx) gx4,low _ hdx,e5.keep _ _ (new _ hdx) gd4,rfl,rfl,aa.cons rfl (aa.cons r5 aa.nil)⟩
end
end Mine
namespace Mine
noncomputable def qe:List Nat:=[40,41,91,93,123,125,63,42,43,45,124,94,36,92,46,38,126,35,32,9,10,13,11,12]
noncomputable def rn (c:Nat):Option (List Nat):=if qe.contains c then some [92,c] else none
noncomputable def wt (w:World):Array DictEntry:=match(K2 w).lookup 16 with
 |some ⟨_,_,.dict es _,_⟩=>es
 |_=>#[]
noncomputable def y0 (e:DictEntry):Bool:=match e.key with
 |.int k _=>e.hash==hashInt k&&(match k with|.ofNat n=>qe.contains n|_=>false)
 |_=>false
noncomputable def hit72 (es:List DictEntry) (c:Nat):Bool:=match((es.find? fun e=>Value.isInt (c:Int) e.key).map (·.val):Option Value) with
 |some (.str y _)=>y==⟨#[92,c]⟩
 |_=>false
theorem oC (w:World):(wt w).toList.all y0=true:=by rfl
theorem ws (w:World):qe.all (hit72 (wt w).toList)=true:=by rfl
noncomputable def n72 (w:World):Nat:=match(K2 w).lookup 16 with
 |some ⟨_,_,.dict _ n,_⟩=>n
 |_=>0
theorem yW (w:World):(K2 w).lookup 16=some ⟨.type "dict", none,.dict (wt w) (n72 w), #[]⟩:=by rfl
noncomputable def f72 (w:World) (k:Int):Option Value:=findBy Value.isInt (wt w) k
set_option tactic.hygienic true in
theorem tab72 (w:World):zw (f72 w) rn:=by
 intro c;unfold rn
 by_cases hc:qe.contains c=true
 ·refine zF (if_pos hc) ?_
  refine⟨rfl,?_⟩;have:=Ag.mp (ws w) c (by simpa using hc);unfold hit72 at this
  split at this
  ·rename_i y t he
   have hy:y=⟨#[92,c]⟩:=by simpa using this
   refine⟨t,?_⟩;unfold f72 findBy;exact zF (AM (Ey))<|zF he<|zF hy rfl
  ·exact bG this
 ·refine zF (if_neg hc) ?_
  show f72 w c=none;unfold f72 findBy;refine zF (AM (Ey)) ?_;have:(wt w).toList.find? (fun e=>Value.isInt (c:Int) e.key)=none:=by
   refine zF (propext (EA)) ?_;intro e he;have h:=Ag.mp (oC w) e he;unfold y0 at h
   split at h
   ·rename_i k t hk
    refine zF hk ?_;replace h:=As.mp h;intro hi;have hk':k=(c:Int):=by
     simp only[Value.isInt] at hi
     first
      |exact(by simpa using hi)
      |exact(by simpa using hi:(c:Int)=k).symm
    subst hk';exact hc (by simpa using h.2)
   ·exact bG h
  refine zF this ?_;rfl
section
variable {w:World}{h₀:Heap}{mg mb:Str->Option Value}{X:Option Lz}
set_option tactic.hygienic true in
theorem map72 (T:bc w h₀ mg mb):h₀.MapOf (PySem.intKind PySem.Challenge.pw_wb0058_01 w) 16 (f72 w):=by
 refine⟨_,wt w,n72 w,T.k _ _ (yW w),⟨rfl,rfl,rfl⟩,rfl,fun e he=>?_,fun k=>rfl⟩;have h:=Ag.mp (oC w) e (by simpa using he);unfold y0 at h
 split at h
 ·rename_i k t hk
  simp only[Bu,beq_iff_eq] at h;exact⟨k,by refine zF hk ?_;simp[PySem.intKind,Value.isInt],h.1⟩
 ·exact bG h
noncomputable def c35 (args:List D):Option D:=(lst1 args).bind fun a=>a.str?.bind fun l=>if l.length<=lim/\(ki rn l).length<=lim then some (.str (ki rn l)) else none
noncomputable def c52 (args:List D):Option D:=(lst2 args).map fun q=>.thing [19,20] [q.1,q.2]
noncomputable abbrev da (l:List D):D:=.thing [19,22] [.nil,.lam 0 [.list l]]
noncomputable def c53 (args:List D):Option D:=(lst1 args).bind fun a=>a.list?.bind fun l=>if rR l then some (.thing [19] [da l]) else none
noncomputable def cF:bq where
 call:=fun f args=>(fL [(30,c35),(51,c52),(52,c53)] f).bind fun g=>g args
 lam:=fun _ _=>none
 gen:=fun _ _=>none
noncomputable def inn:D->D
 |.cx d=>d
 |d=>d
open Classical in
noncomputable def iF (f:Nat)(d:D):Option D:=if f=31/\d=.cx (da ((inn d).fams.map .str)) then some (.dict ((gk (inn d).fams).map .str) ((iC (inn d).fams).map .str)) else none
open Classical in
theorem psi_inv {f:Nat}{d r:D}(h:iF f d=some r):f=31/\∃fs:List (List Nat),d=.cx (.thing [19,22] [.nil,.lam 0 [.list (fs.map .str)]])/\r=.dict ((gk fs).map .str) ((iC fs).map .str):=
 ⟨(aE h).1.1,(inn d).fams,(aE h).1.2,(aE h).2.symm⟩
open Classical in
theorem psi_eq (fs:List (List Nat)):iF 31 (.cx (da (fs.map .str)))=some (.dict ((gk fs).map .str) ((iC fs).map .str)):=by
 have e:(inn (.cx (da (fs.map .str)))).fams=fs:=jk fs;unfold iF;exact zF e<|zF (if_pos ⟨rfl,rfl⟩) rfl
theorem vq:eI h₀ none:=fun _ e=>ai e
noncomputable def lxT:Lx:=⟨mq.map (·.1),jg,fW⟩
theorem call35 (T:bc w h₀ mg mb)(Y:eI h₀ X){args:List D}{d:D}(h:c35 args=some d):ch (B2 w h₀ mg mb X) 26 30 args d:=by
 obtain⟨a,ha,h0⟩:=af h;obtain rfl:=uG ha;obtain⟨l,hl',h1⟩:=af h0;obtain⟨hl,rfl⟩:=aE h1;have:=str?_eq hl';subst this;obtain⟨fo,fd,F⟩:=za T Y;refine pK (jb T Y) (K:=24) F rfl ?_;exact rB (jb T Y) (x:=56) (l:=l) (d:=16) (f:=f72 w) (g:=rn) (by rfl) (by rfl) (by rfl) (by rfl) (show mg (bu 24)=some (.ref 16) from mg_of T.k T.g (by rfl)) (nTk T Y (by rfl)) (by decide) (map72 T) (tab72 w) hl.2 (by decide)
theorem call52 (T:bc w h₀ mg mb)(Y:eI h₀ X){args:List D}{d:D}(h:c52 args=some d):ch (B2 w h₀ mg mb X) 26 51 args d:=by
 obtain⟨q,ha,rfl⟩:=aK h;obtain rfl:=lst2_eq ha;obtain⟨fo,fd,F⟩:=rF T Y;obtain⟨fo',fd',FI⟩:=y9 T Y;refine pK (jb T Y) (K:=24) F rfl ?_;exact sj (jb T Y) (set2 T Y) FI (by decide) (by lia) (x:=113) (t:=20) (f:=20) (e:=.name 114 (qq 259 29 35)) (Φ:=cF) (show mg (bu 23)=some (.ref 78) from mg_of T.k T.g (by rfl)) (by rfl) (by rfl) (by rfl) (by decide) (by rfl) (.inl rfl) (lZ (jb T Y)) (by rfl)
theorem lo0:vn (B2 w h₀ mg mb X) 0 52 mq fW jg:=⟨rfl,by show qfF 52=pqF 52++_;rfl,194,190,rfl⟩
theorem call53 (T:bc w h₀ mg mb)(Y:eI h₀ X){args:List D}{d:D}(h:c53 args=some d):ch (B2 w h₀ mg mb X) 26 52 args d:=by
 obtain⟨a,ha,h0⟩:=af h;obtain rfl:=uG ha;obtain⟨l,hl,h1⟩:=af h0;obtain rfl:=list?_eq hl;obtain⟨hp,rfl⟩:=aE h1;obtain⟨fo,fd,F⟩:=nk T Y;obtain⟨fo',fd',FI⟩:=y9 T Y;refine pK (jb T Y) (K:=24) F rfl ?_;exact zb (jb T Y) (set2 T Y) FI (by decide) (by decide) (y:=117) (id:=0) (fl:=52) (lps:=mq) (lb:=fW) (lsc:=jg) (show mg (bu 23)=some (.ref 78) from mg_of T.k T.g (by rfl)) (by rfl) (by rfl) (by rfl) (by decide) lo0 (by rfl) (by rfl) (by decide) (by rfl) (by rfl) (by rfl) hp
theorem base2 (T:bc w h₀ mg mb)(Y:eI h₀ X):bx (B2 w h₀ mg mb X) 26 cF where
 lam:=fun id caps args d h=>by exact ai h
 gen:=fun id caps args l _ h=>by exact ai h
 call:=fun f args d h=>by
  obtain⟨g,hg,h1⟩:=af h;exact bj (P:=fun f g=>g args=some d->ch (B2 w h₀ mg mb X) 26 f args d) (zN.mpr ⟨call35 T Y,zN.mpr ⟨call52 T Y,zN.mpr ⟨call53 T Y,Cs _⟩⟩⟩) f g hg h1
end
end Mine
namespace Mine
noncomputable abbrev NN:Nat:=100
noncomputable def iI (n:String):List ExceptHandler:=dW (gb n)
noncomputable def tx (ps:List (Nat×Pos))(sc:LK) (fid:Nat)(ir:List St):Tx:=⟨ps.map (·.1),sc,fid,ir⟩
noncomputable def tF1:Nat->Option Tx:=fL [(32,tx cw dq 0 cy),
 (37,tx di d7 0 (dk (iI "_escape_cdata"))),
 (38,tx cS dS 0 (cY (iI "_escape_attrib"))),
 (39,tx bI cC 0 (bK (iI "_escape_attrib_html"))),
 (40,tx bS cJ 0 (bZ (iI "_escape_cdata_c14n"))),
 (41,tx bJ cD 0 (bL (iI "_escape_attrib_c14n"))),
 (42,tx eD ej 0 dH),
 (44,tx dE dB 0 cc),
 (45,tx ew eg 0 eG),
 (46,tx ey ei 0 bY),
 (49,tx dY fv 0 dZ),
 (35,tx dD fe 35 bW)]
noncomputable def tG1:Nat->Option Gx:=fL [(11,⟨bg.map (·.1),aV,74,aF⟩),(12,⟨bv.map (·.1),aZ,74,aI⟩)]
noncomputable def tF2:Nat->Option Tx:=fL [(43,tx fh bQ 0 fk),
 (34,tx cR dR 34 (bD (sk (gb "prepare_child")))),
 (47,tx bo bn 0 aX),
 (48,tx dy dw 0 bX),
 (50,tx dF dC 0 cL)]
noncomputable def tF3:Nat->Option Tx:=fL [(47,tx bo bn 0 aX)]
noncomputable def tF4:Nat->Option Tx:=fL [(47,tx bo bn 0 aX)]
noncomputable def tFE:Nat->Option Tx:=fL [(48,tx dy dw 0 bX)]
noncomputable def tF9:Nat->Option Tx:=fL [(54,tx fQ fN 0 dT)]
noncomputable def no {α:Type}(_:Nat):Option α:=none
noncomputable def br:bq:=cF.up NN iF tF1 no tG1
noncomputable def jE:bq:=br.up NN iF tF2 no no
noncomputable def phi3:bq:=jE.up NN iF tF3 no no
noncomputable def cT:bq:=phi3.up NN iF tF4 no no
noncomputable def eE:Nat->bq
 |0=>cT
 |n+1=>(eE n).up NN iF tFE no no
noncomputable def qR:bq:=(eE 40).up NN iF tF9 no no
noncomputable def ym:Tx:=tx sF xJ 0 sW
section
variable {w:World}{h₀:Heap}{mg mb:Str->Option Value}{X:Option Lz}
theorem mu {sc:LK}(h:sc.all (fun q=>q.2==.free||q.2==.local||q.2==.cell||q.2==.globalImplicit)=true):∀x k,sc.lookup x=some k->k=.free\/k=.local\/k=.cell\/k=.globalImplicit:=by
 intro x k hk;have:=Ag.mp h (x,k) (rE.mem_of_lookup' hk);simp only[Cx,beq_iff_eq] at this;rcases this with((h|h)|h)|h
 ·exact .inl h
 ·exact .inr (.inl h)
 ·exact .inr (.inr (.inl h))
 ·exact .inr (.inr (.inr h))
theorem x8 {ps:List (Nat×Pos)}(h:(ps.map (·.1)).Nodup):(ps.map fun q=>bu q.1).Nodup:=by
 have:(ps.map fun q=>bu q.1)=(ps.map (·.1)).map bu:=by refine zF AO ?_;rfl
 refine zF this ?_;exact CO bu (fun a b hab e=>hab (fU _ _ e)) h
theorem pV {ps:List (Nat×Pos)}(h:(ps.map (·.1)).Nodup):∀(fd:BD)(vals:List Value),fd.params=aP bu ps->fd.defaults=.none->fd.kwdefaults=.none->vals.length=(ps.map (·.1)).length->EE fd ⟨vals,[]⟩=pure (((ps.map (·.1)).map bu).zip vals):=by
 intro fd vals h1 h2 h3 hl;have:=iM bu (x8 h) fd vals h1 h2 h3 (by simpa using hl);refine zF this<|zF AO ?_;rfl
theorem gx11:wJ (B2 w h₀ mg mb X) 11 (gls 35 bg aF aV) (bg.map (·.1)) aV aF:=
 ⟨rfl,rfl,rfl,rfl,rfl,rfl,rfl,pV (by decide),by decide,mu (by decide),by decide⟩
theorem gx12:wJ (B2 w h₀ mg mb X) 12 (gls 34 bv aI aZ) (bv.map (·.1)) aZ aI:=
 ⟨rfl,rfl,rfl,rfl,rfl,rfl,rfl,pV (by decide),by decide,mu (by decide),by decide⟩
theorem lx0:LExp (B2 w h₀ mg mb X) 0 ⟨aP bu mq,.expr (fW.py bu),bA bu jg,qfF 52,aD jg⟩ (mq.map (·.1)) jg fW:=
 ⟨rfl,rfl,rfl,rfl,rfl,rfl,rfl,pV (by decide),by decide,mu (by decide),by decide⟩
theorem do11 {p:List (Nat×Pos)}(h:p=bg):qc (B2 w h₀ mg mb X) 63 11 35 p (i6 bu aF) aV true:=by
 subst h;exact⟨rfl,by show qfF 35=pqF 35++bu 63;rfl,⟨60,56,rfl⟩,rfl⟩
theorem do12 {p:List (Nat×Pos)}(h:p=bv):qc (B2 w h₀ mg mb X) 63 12 34 p (i6 bu aI) aZ true:=by
 subst h;exact⟨rfl,by show qfF 34=pqF 34++bu 63;rfl,⟨53,49,rfl⟩,rfl⟩
end
end Mine
namespace Mine
section
variable {w:World}{h₀:Heap}{mg mb:Str->Option Value}{X:Option Lz}
theorem sP {B:Bs}{l:List Lm}(h:l=[]):fm B l:=by subst h;exact yh
theorem k32:jF (B2 w h₀ mg mb X) cy:=cG (by rfl) (by rfl)
theorem k42:jF (B2 w h₀ mg mb X) dH:=cG (by rfl) (by rfl)
theorem k43:jF (B2 w h₀ mg mb X) fk:=cG (by rfl) (by rfl)
theorem k44:jF (B2 w h₀ mg mb X) cc:=cG (by rfl) (by rfl)
theorem k45:jF (B2 w h₀ mg mb X) eG:=cG (by rfl) (by rfl)
theorem k46:jF (B2 w h₀ mg mb X) bY:=cG (by rfl) (by rfl)
theorem k47:jF (B2 w h₀ mg mb X) aX:=cG (by rfl) (by rfl)
theorem k48:jF (B2 w h₀ mg mb X) bX:=cG (by rfl) (by rfl)
theorem k49:jF (B2 w h₀ mg mb X) dZ:=cG (by rfl) (by rfl)
theorem k50:jF (B2 w h₀ mg mb X) cL:=cG (by rfl) (by rfl)
theorem k54:jF (B2 w h₀ mg mb X) dT:=cG (by rfl) (by rfl)
theorem k55:jF (B2 w h₀ mg mb X) sW:=cG (by rfl) (by rfl)
theorem k37:jF (B2 w h₀ mg mb X) (dk (iI "_escape_cdata")):=cG (by rfl) (by rfl)
theorem k38:jF (B2 w h₀ mg mb X) (cY (iI "_escape_attrib")):=cG (by rfl) (by rfl)
theorem k39:jF (B2 w h₀ mg mb X) (bK (iI "_escape_attrib_html")):=cG (by rfl) (by rfl)
theorem k40:jF (B2 w h₀ mg mb X) (bZ (iI "_escape_cdata_c14n")):=cG (by rfl) (by rfl)
theorem k41:jF (B2 w h₀ mg mb X) (bL (iI "_escape_attrib_c14n")):=cG (by rfl) (by rfl)
theorem k35:jF (B2 w h₀ mg mb X) bW:=⟨(show m7 bW=[] by rfl)▸yh,(show nh bW=[⟨63,11,35,bg,i6 bu aF,aV,true⟩] by rfl)▸zN.mpr ⟨do11 rfl,dfs0⟩⟩
theorem k34 (v:List Stmt):jF (B2 w h₀ mg mb X) (bD v):=⟨(show m7 (bD v)=[] by rfl)▸yh,(show nh (bD v)=[⟨63,12,34,bv,i6 bu aI,aZ,true⟩] by rfl)▸zN.mpr ⟨do12 rfl,dfs0⟩⟩
theorem kl0:fW.ok (B2 w h₀ mg mb X):=sP (l:=fW.lms) (by rfl)
theorem kg11:okY (B2 w h₀ mg mb X) aF:=sP (l:=sQ aF) (by rfl)
theorem kg12:okY (B2 w h₀ mg mb X) aI:=sP (l:=sQ aI) (by rfl)
noncomputable def FOk (B:Bs) (f:Nat)(t:Tx):Prop:=jF B t.ir/\∃fa fo fd,bC B f t.fid t.ps t.sc (eZ B.nm t.ir) fa fo fd
noncomputable def GOk (B:Bs)(tL:Nat->Option Lx)(Φ:bq) (id:Nat)(t:Gx):Prop:=okY B t.ss/\tL id=none/\(∀all,Φ.lam id all=none)/\∃L,wJ B id L t.ps t.sc t.ss
theorem lam0_ok (T:bc w h₀ mg mb)(Y:eI h₀ X)(l:List D):c7 (B2 w h₀ mg mb X) 28 0 [.list l] [] (.list l):=
 ug (jb T Y) (K:=26) (t:=lxT) lx0 kl0 (by decide) (base2 T Y) (by rfl)
theorem raw2 (T:bc w h₀ mg mb)(Y:eI h₀ X):rQ (B2 w h₀ mg mb X):=raw_of (KF:=K2 w) fU (cls2 T Y) (by rfl) (by rfl) (by rfl) (by rfl) (by rfl)
theorem iter2 (T:bc w h₀ mg mb)(Y:eI h₀ X):pZ (B2 w h₀ mg mb X):=iter_of (KF:=K2 w) fU (cls2 T Y) (by rfl) (by rfl) zl (by rfl) (by rfl)
theorem vX (T:bc w h₀ mg mb)(Y:eI h₀ X):nv (B2 w h₀ mg mb X) 32 iF:=by
 intro f d r h;refine x0111 (psi_inv h) fun e91=>?_;subst e91;intro fs e92;subst e92;intro e93;subst e93;refine x2 (jO T Y) fun fo fd F=>?_
 cases X with
 |none=>exact⟨33,fo,fd,F.mg,F.nT,F.at',F.data,fun A s W v g R tW wlt rv=>by obtain⟨x,e,J⟩:=rv;exact ai e⟩
 |some x0=>exact pm_call (B:=B2 w h₀ mg mb (some x0)) (jb T Y) (jb T vq) (set2 T vq) (raw2 T vq) (iter2 T vq) (K:=28) (ctx:=58) (x:=21) (y:=112) (z:=71) (x0:=x0) rfl F (by decide) (by rfl) (by rfl) (by rfl) (by rfl) (by decide) (by decide) (by decide) (by decide) (by decide) (by decide) (by decide) (by decide) (lam0_ok T vq _)
theorem ph1 (T:bc w h₀ mg mb)(Y:eI h₀ X):bx (B2 w h₀ mg mb X) 38 br:=
 nP (jb T Y) (K:=32) (by decide) ((base2 T Y).mono (by decide)) (vX T Y) (bj (P:=FOk _) (zN.mpr ⟨⟨k32,_,jo T Y⟩,zN.mpr ⟨⟨k37,_,mN T Y⟩,zN.mpr ⟨⟨k38,_,kP T Y⟩,zN.mpr ⟨⟨k39,_,gJ T Y⟩,zN.mpr ⟨⟨k40,_,g8 T Y⟩,zN.mpr ⟨⟨k41,_,gK T Y⟩,zN.mpr ⟨⟨k42,_,rJ T Y⟩,zN.mpr ⟨⟨k44,_,ni T Y⟩,zN.mpr ⟨⟨k45,_,rG T Y⟩,zN.mpr ⟨⟨k46,_,rI T Y⟩,zN.mpr ⟨⟨k49,_,pM T Y⟩,zN.mpr ⟨⟨k35,_,jN T Y⟩,fun J hq=>aG hq⟩⟩⟩⟩⟩⟩⟩⟩⟩⟩⟩⟩)) (fun i t h=>ai h)
  (bj (P:=GOk _ no cF) (zN.mpr ⟨⟨kg11,rfl,fun J=>rfl,_,gx11⟩,zN.mpr ⟨⟨kg12,rfl,fun J=>rfl,_,gx12⟩,fun J hq=>aG hq⟩⟩)) (fun i t h=>ai h)
theorem ph2 (T:bc w h₀ mg mb)(Y:eI h₀ X):bx (B2 w h₀ mg mb X) 44 jE:=
 nP (jb T Y) (K:=38) (by decide) (ph1 T Y) ((vX T Y).mono (by decide)) (bj (P:=FOk _) (zN.mpr ⟨⟨k43,_,tu T Y⟩,zN.mpr ⟨⟨k34 _,_,kN T Y⟩,zN.mpr ⟨⟨k47,_,fA T Y⟩,zN.mpr ⟨⟨k48,_,mM T Y⟩,zN.mpr ⟨⟨k50,_,nj T Y⟩,fun J hq=>aG hq⟩⟩⟩⟩⟩)) (fun i t h=>ai h) (fun i t h=>ai h) (fun i t h=>ai h)
theorem ph3 (T:bc w h₀ mg mb)(Y:eI h₀ X):bx (B2 w h₀ mg mb X) 50 phi3:=
 nP (jb T Y) (K:=44) (by decide) (ph2 T Y) ((vX T Y).mono (by decide)) (bj (P:=FOk _) (zN.mpr ⟨⟨k47,_,fA T Y⟩,fun J hq=>aG hq⟩)) (fun i t h=>ai h) (fun i t h=>ai h) (fun i t h=>ai h)
theorem ph4 (T:bc w h₀ mg mb)(Y:eI h₀ X):bx (B2 w h₀ mg mb X) 56 cT:=
 nP (jb T Y) (K:=50) (by decide) (ph3 T Y) ((vX T Y).mono (by decide)) (bj (P:=FOk _) (zN.mpr ⟨⟨k47,_,fA T Y⟩,fun J hq=>aG hq⟩)) (fun i t h=>ai h) (fun i t h=>ai h) (fun i t h=>ai h)
theorem phE (T:bc w h₀ mg mb)(Y:eI h₀ X):∀n:Nat,bx (B2 w h₀ mg mb X) (56+6 * n) (eE n)
 |0=>ph4 T Y
 |n+1=>nP (jb T Y) (K:=56+6 * n) (by lia) (phE T Y n) ((vX T Y).mono (by lia)) (bj (P:=FOk _) (zN.mpr ⟨⟨k48,_,mM T Y⟩,fun J hq=>aG hq⟩)) (fun i t h=>ai h) (fun i t h=>ai h) (fun i t h=>ai h)
theorem ph9 (T:bc w h₀ mg mb)(Y:eI h₀ X):bx (B2 w h₀ mg mb X) 302 qR:=
 nP (jb T Y) (K:=296) (by decide) (phE T Y 40) ((vX T Y).mono (by decide)) (bj (P:=FOk _) (zN.mpr ⟨⟨k54,_,wA T Y⟩,fun J hq=>aG hq⟩)) (fun i t h=>ai h) (fun i t h=>ai h) (fun i t h=>ai h)
end
end Mine
namespace Mine
section
variable {B:Bs}(O:B.Ok)
include O
variable {Γ:ah}{K N:Nat}{Φ:bq}{pe:Env}{A:Av}
theorem tY:∀(ss:List St),(∀st∈ss,b0 B K Φ N st)->∀(ρ ρ':ac),aO Φ N Γ ρ ss=some (.nx ρ')->∀(Wc W:AP)(s:zL)(Q:Flow->zL->Prop)(E:VS)(rest:List Stmt),Ctx B Γ Wc W pe ρ s->aB A K->
  (∀s' Wc' W',SG Wc W s Wc' W'->Ctx B Γ Wc' W' pe ρ' s'->ao B (d3 W Wc) s s'->wpAny B.M A (execs rest pe) Q E s')->wpAny B.M A (execs (eZ B.nm ss++rest) pe) Q E s
 |[],_,ρ,ρ',h,Wc,W,s,Q,E,rest,X,R,k=>by
  cases h
  exact k s Wc W (SG.refl O _ _ _) X (ao.refl _ _)
 |st::ss,hs,ρ,ρ',h,Wc,W,s,Q,E,rest,X,R,k=>by
  simp only[e9,zQ,zO] at h;refine am h fun o1 ho1 h=>?_;refine zF (show eZ B.nm (st::ss)++rest=St.py B.nm st++(eZ B.nm ss++rest) from Az _ _ _) ?_;refine hs st zU Γ ρ o1 ho1 Wc W pe A s Q E (eZ B.nm ss++rest) X R ?_
  cases o1 with
  |nx ρ1=>
   intro s1 Wc1 W1 g1 X1 e1;refine tY ss (fun x hx=>hs x (zT _ hx)) ρ1 ρ' h Wc1 W1 s1 Q E rest X1 R fun s2 Wc2 W2 g2 X2 e2=>?_;exact k s2 Wc2 W2 (SG.trans O g1 e1.size g2) X2 (SG.eff O g1 e1 e2)
  |rt d=>exact nomatch h
end
noncomputable def nmK:List Nat:=[76,100,116,119]
noncomputable def gw (ρ:ac)(root:D):ac:=fun x=>if x=58 then some (.fz (.cx root)) else if nmK.contains x then ρ x else none
noncomputable def de (ρ:ac):Prop:=∀y d,ρ y≠some (.sealed d)
structure SwOk (ρ:ac)(root:D):Prop where
 ns:de ρ
 at':ρ 58=some (.fz (.thing [19] [root]))
 pl:∀x,nmK.contains x=true->∀e,ρ x=some e->∃d,e=.fz d/\d.pl=true
 rt:∃l,root=da l/\rR l=true
 nd:(kJ root).Nodup
 k65:(kJ root)[0]?=some [9000]
 len:(mZ root).length=(kJ root).length
 kl:(kJ root).length<=lim
 vl:∀y∈mZ root,y.length<=lim
section
variable {B:Bs}{Γ:ah}{Wc W:AP}{pe:Env}{ρ:ac}{s:zL}
theorem cP.sw {X:Option Lz}{h:Heap}{x:Nat}{v:Value}(l:cP B pe h x v):cP { B with X:=X } pe h x v:=
 l.elim (fun⟨k,m,n,e⟩=>.inl ⟨k,m,n,e⟩) fun⟨k,c,e,hc⟩=>.inr ⟨k,c,e,hc⟩
theorem Ctx.switch (X:Ctx B Γ Wc W pe ρ s)(hB:B.X=none){root:D}(S:SwOk ρ root):∃x:Lz,x.ks=kJ root/\x.vs=mZ root/\¬W x.dx/\jV s.heap x.dx/\Ctx { B with X:=some x } Γ (bB Wc fun b=>b=x.dx) (bB W fun b=>b=x.dx) pe (gw ρ root) s:=by
 refine am (X.vars 58 _ S.at') fun v lv rv=>?_;refine am S.rt fun l e91=>?_;subst e91;intro hpl;simp only[aR,av] at rv;obtain⟨a,dx,n,ts,dv,rfl,wa,ga,wdx,gdx,l1,l2,rr⟩:=rv;obtain⟨vr,rest,rfl,r1,r2⟩:=rr;obtain rfl:rest=[]:=r2;obtain⟨t,rfl⟩:∃t,ts=[t]:=by
  match ts,l1 with
  |[t],_=>exact⟨t,rfl⟩
 have gdx:s.heap.get? dx=some { cls:=.type "dict", dict:=none,data:=.dict (fF B.w.params [.str (B.nm 19) t] [vr]).toArray n,slots:=#[] }:=gdx
 have lone:jV s.heap dx:=.mk _ _ _ gdx rfl rfl;have hvr:∃r,vr=.ref r:=by
  simp only[av] at r1;obtain⟨a',J,J,J,J,e,J⟩:=r1;exact⟨a',e⟩
 refine x1 hvr fun r e91=>?_;subst e91;have hsw:∀b,bB W (fun b=>b=dx) b->W b\/jV s.heap b:=fun b q=>q.imp_right fun q=>by cases(show b=dx from q);exact lone
 have nT:∀b,b≠dx->¬B.T b->¬Bs.T { B with X:=some ⟨a,dx,r,kJ (da l),mZ (da l)⟩ } b:=fun b h1 h2 t=>t.elim (fun⟨f,c,e⟩=>h2 (.inl ⟨f,c,e⟩)) fun⟨x,e,q⟩=>by
  obtain rfl:=zG e;exact h1 q.symm
 have hLd:pe.locals≠dx:=fun q=>wdx (q▸X.locW.1);have cne:∀c v,s.heap.IsCell c v->c≠dx:=fun c v hc q=>by
  subst q;refine am hc fun o g d=>?_;obtain rfl:=zG (gdx.symm.trans g);exact nomatch d
 have noseal:∀y,¬aq (gw ρ (da l)) y:=fun y ⟨d,e⟩=>by
  unfold gw at e
  split at e
  ·exact nomatch e
  ·split at e
   ·exact S.ns y d e
   ·exact ai e
 have nosealρ:∀y,¬aq ρ y:=fun y ⟨d,e⟩=>S.ns y d e;have val:∀x e,gw ρ (da l) x=some e->(x=58/\e=.fz (.cx (da l)))\/(ρ x=some e/\∃d,e=.fz d/\d.pl=true):=fun x e h=>by
  unfold gw at h
  split at h
  ·rename_i hx;exact .inl ⟨hx,(zG h).symm⟩
  ·split at h
   ·rename_i hc;exact .inr ⟨h,S.pl x hc e h⟩
   ·exact ai h
 refine⟨⟨a,dx,r,kJ (da l),mZ (da l)⟩,rfl,rfl,wdx,lone,?_⟩
 exact{
  good:=⟨fun b o t h=>X.good.base b o (fun q=>t (q.elim .inl fun⟨x,e,J⟩=>(by rw[hB] at e;exact ai e))) h,X.good.size,⟨fun x e=>by obtain rfl:=zG e;exact .raw t n gdx,X.good.ti.2⟩,fun b t=>t.elim (fun t=>X.good.tlt b (.inl t)) fun⟨x,e,q⟩=>by obtain rfl:=zG e;exact q▸Al gdx⟩
  fn:=X.fn
  glob:=X.glob
  blt:=X.blt
  tW:=fun b t=>t.elim (fun t=>.inl (X.tW b (.inl t))) fun⟨x,e,q⟩=>by obtain rfl:=zG e;exact .inr q.symm
  cW:=fun b q=>q.imp_left (X.cW b)
  wlt:=fun b q=>q.elim (X.wlt b) fun q=>q▸Al gdx
  loc:=X.loc
  locW:=⟨.inl X.locW.1,fun q=>q.elim X.locW.2 hLd⟩
  ow:=fun b q n=>q.elim (fun w=>let h:=X.ow b w fun z=>n (.inl z);⟨h.1,nT b (fun z=>n (.inr z)) h.2⟩) fun z=>absurd (.inr z) n
  code:=X.code
  kinds:=X.kinds
  cells:=fun x c h=>let ⟨⟨v,hv⟩,h2⟩:=X.cells x c h;⟨⟨v,hv⟩,nT c (cne c _ hv) h2⟩
  apart:=X.apart
  cellW:=fun x c h=>.inr (let ⟨⟨v,hv⟩,_⟩:=X.cells x c h;let z:=(X.cellW x c h).resolve_left (nosealρ x);⟨.inl z.1,fun q=>q.elim z.2 (cne c _ hv)⟩)
  vars:=fun x e h=>by
   rcases val x e h with⟨rfl,rfl⟩|⟨h1,d,rfl,hp⟩
   ·refine⟨.ref a,lv.sw,?_⟩
    simp only[aR,av];have wa':¬bB W (fun b=>b=dx) a:=fun q=>q.elim wa fun q=>by
     subst q;exact nomatch (zG (ga.symm.trans gdx))
    have r3:av { B with X:=some ⟨a,dx,r,kJ (da l),mZ (da l)⟩ } s.heap (bB W fun b=>b=dx) (da l) (.ref r):=av.sw hsw _ _ (by
     show((([19,22]:List Nat).length != 1)&&(true&&((rR l&&true)&&true)))=true
     refine zF hpl ?_;rfl) r1
    simp only[av] at r3;exact⟨⟨a,dx,r,kJ (da l),mZ (da l)⟩,rfl,rfl,wa',ga,rfl,rfl,r3⟩
   ·refine am (X.vars x _ h1) fun v lv rv=>?_
    exact⟨v,lv.sw,av.sw hsw d v hp rv⟩
  sealedW:=fun x q=>absurd q (noseal x)
  owns:=fun x y e e' v v' b h1 h2 l1 l2 o1 o2=>by
   rcases val x e h1 with⟨rfl,rfl⟩|⟨h1,d,rfl,hp⟩<;>exact o1.elim }
end
end Mine
namespace Mine
noncomputable def wM:List St:=eH.take 9
noncomputable def fdB:List St:=eH.drop 9
noncomputable abbrev ΓD:ah:=aN eh 0
structure Found (args:List D)(ρ1:ac)(root d:D):Prop where
 al:args.length=2
 ap:rR args=true
 a:aO cT NN ΓD (aw (bR.map (·.1)) args fun J=>none) wM=some (.nx ρ1)
 sw:SwOk ρ1 root
 b:aO cT NN ΓD (gw ρ1 root) fdB=some (.rt d)
 pl:d.pl=true
noncomputable def gS (args:List D)(d:D):Prop:=∃ρ1 root,Found args ρ1 root d
theorem gS.uniq {args:List D}{d d':D}(h:gS args d)(h':gS args d'):d=d':=by
 refine x2 h fun ρ1 root h=>?_;refine x2 h' fun ρ2 root' h'=>?_
 cases h.a.symm.trans h'.a
 cases h.sw.at'.symm.trans h'.sw.at'
 cases h.b.symm.trans h'.b
 rfl
open Classical in
noncomputable def c56 (args:List D):Option D:=if h:∃d,gS args d then some h.choose else none
theorem c56_of {args:List D}{d:D}(h:gS args d):c56 args=some d:=by
 have h':∃d,gS args d:=⟨d,h⟩;unfold c56;exact zF (dif_pos h')<|zF (gS.uniq h'.choose_spec h) rfl
theorem of_c56 {args:List D}{d:D}(h:c56 args=some d):gS args d:=by
 unfold c56 at h
 split at h
 case isFalse=>exact ai h
 rename_i h'
 obtain rfl:=zG h;exact h'.choose_spec
noncomputable def fE:bq:={ qR with call:=fun f args=>if f=53 then c56 args else qR.call f args }
section
variable {w:World}{h₀:Heap}{mg mb:Str->Option Value}
theorem call56 (T:bc w h₀ mg mb){args:List D}{d:D}(hc:c56 args=some d):ch (B2 w h₀ mg mb none) 58 53 args d:=by
 refine x2 (of_c56 hc) fun ρ1 root F0=>?_;have O:=jb T (X:=none) vq;refine x2 (rH T (X:=none) vq) fun fo fd F=>?_;refine⟨200,fo,fd,F.mg,F.nT,F.at',F.data,fun A s W vals g R tW wlt ra=>?_⟩;have ho:=g.base _ _ F.nT F.at';obtain⟨c,oc,vs,t,hc1,hc2,hc3,hc4,hc5⟩:=F.code;have hcd:s.heap.CodeRec fd.code fd.qualname:=⟨c,oc,vs,t,hc1,g.base _ _ hc2 hc3,hc4,hc5⟩;have hl:(bR.map (·.1)).length=args.length:=by refine zF F0.al ?_;rfl
 have hvl:vals.length=(bR.map (·.1)).length:=by exact zF (aa.length ra)<|zF hl rfl
 refine CH R.lim ho F.data F.co F.gen F.body hcd ?_;refine zF (F.bind vals hvl)<|zF F.glob<|zF F.clos<|zF F.blt ?_
 refine zR ?_;have wp:∀b,(bB W fun b=>jV s.heap b/\b < s.heap.objs.size) b->b < s.heap.objs.size:=fun b q=>q.elim (wlt b) (·.2);have ra':aa (B2 w h₀ mg mb none) s.heap (bB W fun b=>jV s.heap b/\b < s.heap.objs.size) args vals:=aa.sw (X:=none) (fun b q=>q.imp_right (·.1)) args vals F0.ap ra;refine kY O (sc:=eh) (f:=0) (ρc:=fun J=>none) F.names F.kind F.fid ⟨F.nd,fun x k h=>.inr (F.kinds x k h),fun x h=>?_,fun x c h=>by simp at h,AW,fun z h=>(by exact aG h),fun x e h=>by exact ai h⟩ g (fun b t=>.inl (tW b t)) wp F.ps hl ra' fun s1 env W' X1 hW' e1=>?_
 ·rcases F.kinds x _ h with h|h|h<;>exact nomatch h
 refine⟨aJ.lim O (g.move e1),Eg ?_⟩;refine zF (show eZ bu eH=eZ bu wM++eZ bu fdB by rfl) ?_;refine tY O (K:=56) (N:=NN) (Φ:=cT) wM (fun st hst=>sndSt O (by decide) (ph4 T vq) st ?_) _ ρ1 F0.a _ _ s1 _ _ _ X1 R.deeper fun s2 Wc2 W2 g2 X2 e2=>?_
 ·exact(show ∀st∈wM,st.ok _ from fun st hs=>⟨(show wM.all (fun st=>st.lms.isEmpty)=true by rfl)|>fun q=>by
   have:=Ag.mp q st hs;refine zF (DS.mp this) ?_;exact yh,(show wM.all (fun st=>st.dfs.isEmpty)=true by rfl)|>fun q=>by
   have:=Ag.mp q st hs
   refine zF (DS.mp this) ?_;exact dfs0⟩) st hst
 refine x14 (Ctx.switch X2 rfl F0.sw) fun x hk hv hdx hlone Xx=>?_;have dxs:s.heap.objs.size<=x.dx:=by
  refine E4 fun hlt=>?_;have nT:¬(B2 w h₀ mg mb none).T x.dx:=fun t=>hdx (X2.tW' _ t);have nW:¬(bB W fun b=>jV s.heap b/\b < s.heap.objs.size) x.dx:=fun q=>hdx (X2.cW _ (g2.c _ q))
  cases ho:s.heap.get? x.dx with
  |none=>exact nW (.inr ⟨.dead ho,hlt⟩)
  |some o=>
   have k1:=e1.keep _ _ nT ho;have k2:=e2.keep _ _ nT (fun q=>(hW' _ q.1).elim nW fun z=>zJ _ (zI hlt z)) k1;obtain⟨o',es,n,g',d',sz⟩|g':=hlone
   ·obtain rfl:=zG (k2.symm.trans g')
    exact nW (.inr ⟨.mk _ es n ho d' sz,hlt⟩)
   ·rw[k2] at g';exact jG g'
 have Y:eI h₀ (some x):=fun x' e=>by
  obtain rfl:=zG e;exact⟨zH g.size dxs,hk▸F0.sw.nd,hk▸F0.sw.k65,hk▸hv▸F0.sw.len,hk▸F0.sw.kl,hv▸F0.sw.vl⟩
 have Ox:=jb T Y;have Xx:Ctx (B2 w h₀ mg mb (some x)) ΓD (bB Wc2 fun b=>b=x.dx) (bB W2 fun b=>b=x.dx) env (gw ρ1 root) s2:=Xx;refine xE Ox (K:=56) (N:=NN) (Φ:=cT) (by decide) (ph4 T Y) fdB (cG (by rfl) (by rfl)) _ _ _ F0.b _ _ _ _ _ _ _ Xx R.deeper ?_;intro v s3 e3 r3;have rv:av (B2 w h₀ mg mb none) s3.heap W d v:=av.sw (B:=B2 w h₀ mg mb (some x)) (X:=none) (fun b q=>.inl (.inl (g2.c _ (.inl q)))) d v F0.pl r3;have ne:∀b o,s.heap.get? b=some o->b≠x.dx:=fun b o h q=>zJ _ (zI (Al h) (q▸dxs));have own:∀b,b < s.heap.objs.size->¬((bB W2 fun b=>b=x.dx) b/\¬(bB Wc2 fun b=>b=x.dx) b):=fun b hb q=>by
  rcases q.1 with q1|q1
  ·rcases g2.own b q1 (fun z=>q.2 (.inl z)) with z|z
   ·exact(hW' b z.1).elim z.2 fun z=>zJ _ (zI hb z)
   ·exact zJ _ (zI hb (zH e1.size z))
  ·exact q.2 (.inr q1)
 have own1:∀b,b < s.heap.objs.size->¬(W' b/\¬(bB W fun b=>jV s.heap b/\b < s.heap.objs.size) b):=fun b hb q=>(hW' b q.1).elim q.2 fun z=>zJ _ (zI hb z);have nTx:∀b,b≠x.dx->¬(B2 w h₀ mg mb none).T b->¬(B2 w h₀ mg mb (some x)).T b:=fun b h1 h2 t=>t.elim (fun t=>h2 (.inl t)) fun⟨x',e,q⟩=>by obtain rfl:=zG e;exact h1 q.symm
 refine⟨v,rfl,⟨fun b o nt h=>?_,fun b o ko h=>?_,zH e1.size (zH e2.size e3.size),fun J=>⟨fun J e=>(ai e),(e3.ti Xx.good.ti).2⟩,fun i x h=>?_,fun h=>e3.bare (e2.bare (e1.bare h)),e3.os.trans (e2.os.trans e1.os)⟩,rv⟩
 ·exact e3.keep b o (nTx b (ne b o h) nt) (own b (Al h)) (e2.keep b o nt (own1 b (Al h)) (e1.keep b o nt h))
 ·have ic:kU o:=no_ko (B:=B2 w h₀ mg mb none) ko
  exact e3.ck b o (.inl ic) (e2.ck b o (.inl ic) (e1.ck b o (.inl ic) h))
 ·exact e3.gens i x (fun q=>q) (e2.gens i x (fun q=>q) (e1.gens i x h))
theorem ph10 (T:bc w h₀ mg mb):bx (B2 w h₀ mg mb none) 302 fE where
 lam:=(ph9 T vq).lam
 gen:=(ph9 T vq).gen
 call:=fun f args d h=>by
  by_cases hf:f=53
  ·subst hf
   exact(call56 T h).mono (by decide)
  ·exact(ph9 T vq).call f args d ((if_neg hf).symm.trans h)
theorem pw (T:bc w h₀ mg mb){args:List D}{d:D}(h:l9 fE NN ym args=some d):ch (B2 w h₀ mg mb none) 304 55 args d:=by
 refine x2 (d_law T (X:=none) vq) fun fo fd F=>?_;exact uh (jb T vq) (t:=ym) F k55 (by decide) (ph10 T) h
end
end Mine
namespace Mine
theorem top2 {w:World}{s₀ s₁:zL}{mg mb:Str->Option Value}{R:WRecords}{loose:List Str}{XP:(Str->Option Value)->Heap->Prop}{p:Program}(G:Ground p loose R XP w s₀ mg mb s₁.heap)(K:(K2 w).In s₁.heap)(H:∀P∈[42,49,56,190],s₁.heap.get? P=some (tabObj #[])):bc w s₁.heap mg mb where
 k:=K
 g:=G.T.g
 b:=G.T.b
 nolimit:=G.T.nolimit
 builtins:=G.T.builtins
 bmain:=G.T.bmain
 tabs:=fun P h=>H P (by rcases h with rfl|rfl|rfl|rfl<;>simp)
 low:=G.low
section
variable {w:World}{h₀:Heap}{mg mb:Str->Option Value}
theorem T2n {P:Addr}(t:(B2 w h₀ mg mb none).T P):P=42\/P=49\/P=56\/P=190:=by
 rcases t with⟨f,c,h⟩|⟨J,e,J⟩
 ·exact mO (P:=fun J q=>q.2=42\/q.2=49\/q.2=56\/q.2=190) (.inr (.inl rfl)) (.inr (.inr (.inl rfl))) (.inr (.inr (.inr rfl))) f (c,P) h
 ·exact ai e
theorem yE {s:zL}(T:bc w s.heap mg mb):aJ (B2 w s.heap mg mb none) s where
 base:=fun b o J e=>e
 size:=zW _
 ti:=⟨fun J e=>(ai e),fun f c P h=>⟨#[],T.tabs P (T2n (.inl ⟨f,c,h⟩)),trivial,fun pos v hv=>by exact ai hv⟩⟩
 tlt:=fun b t=>Al (T.tabs b (T2n t))
theorem room2:aB callerA 304:=⟨rfl,by decide +kernel,by decide +kernel⟩
theorem old_of {s s':zL}(T:bc w s.heap mg mb)(e:az (B2 w s.heap mg mb none) s s'):OldK s.heap s'.heap:=by
 have tab:∀P,(B2 w s.heap mg mb none).T P->isCodeTable s.heap P/\∃ps,s'.heap.get? P=some (tabObj ps):=fun P t=>by
  obtain⟨f,c,h⟩:∃f c,ctF f=some (c,P):=t.elim id fun⟨J,e,J2⟩=>ai e;refine x94 (uW T h) fun o vs J J J J J J J h1 h2 h3 h4 J=>?_;refine am ((e.ti (yE T).ti).2 f c P h) fun ps h5 J=>?_;exact⟨⟨c,o,vs,h1,h2,h3,h4⟩,ps,h5⟩
 refine⟨fun b o ho=>?_,fun b o ho=>?_⟩
 ·by_cases t:(B2 w s.heap mg mb none).T b
  ·refine rY (tab b t) fun h1 ps h2=>?_
   have h3:=T.tabs b (T2n t);obtain rfl:=zG (ho.symm.trans h3);exact .inr (.inl ⟨h1,rfl, #[],ps,rfl,by refine zF h2 ?_;simp⟩)
  ·exact .inl (e.keep b o t ho)
 ·by_cases t:(B2 w s.heap mg mb none).T b
  ·refine rY (tab b t) fun h1 ps h2=>?_
   exact⟨_,h2⟩
  ·exact⟨o,e.keep b o t ho⟩
noncomputable def WInv (P:DB)(h:Heap)(v:Value):WData->Prop
 |.int i=>∃t,v=.int i t
 |.list xs=>∃a vs,v=.ref a/\h.get? a=some { cls:=.type "list", data:=.seq vs.toArray }/\WellAll P h vs xs
 |_=>True
theorem w_inv {P:DB}{h:Heap}{v:Value}{d:WData}(w:Well P h v d):WInv P h v d:=by
 cases w with
 |int i t=>exact⟨t,rfl⟩
 |list h1 h2=>exact⟨_,_,rfl,h1,h2⟩
 |_=>exact trivial
noncomputable def WsInv (P:DB)(h:Heap)(vs:List Value):List WData->Prop
 |[]=>vs=[]
 |d::r=>∃v us,vs=v::us/\Well P h v d/\WellAll P h us r
theorem wT {P:DB}{h:Heap}{vs:List Value}{ds:List WData}(w:WellAll P h vs ds):WsInv P h vs ds:=by
 cases w with
 |nil=>exact rfl
 |cons h1 h2=>exact⟨_,_,rfl,h1,h2⟩
theorem n0 {B:Bs}{P:DB}{h:Heap}{W:AP}:∀(l:List Int)(vs:List Value),WellAll P h vs (ofPys (l.map Em))->aa B h W (l.map D.int) vs
 |[],vs,r=>(show vs=[] from wT r)▸aa.nil
 |i::l,vs,r=>by
  refine lM (wT r) fun v us e h1 h2=>?_;rw[e];exact aa.cons (w_inv h1) (n0 l us h2)
theorem vP {B:Bs}{P:DB}{h:Heap}{W:AP}{l:List Int}{a:Addr}(hl:l.length<=63)(r:Well P h (.ref a) (ofPy (.list (l.map Em))))(nT:∀o,h.get? a=some o->o.cls=.type "list" -> ¬W a):av B h W (.list (l.map .int)) (.ref a):=by
 refine lM (w_inv r) fun a' vs e h1 h2=>?_
 cases e
 exact⟨a,_,_,rfl,nT _ h1 rfl,h1,by rw[zX];exact zH hl (by decide),n0 l vs h2⟩
end
theorem post2 (a:List WData):PySem.Challenge.rw_wb0058_01.row.claim.post a (WData.bool true) a=true:=by kernel_rfl
set_option tactic.hygienic true in
set_option maxHeartbeats 4000000 in
theorem fin2 (plain:∀l:List Int,l.length<=63->l9 fE NN ym [.list (l.map .int)]=some (.bool true)):PySem.Challenge.rw_wb0058_01.Holds:=by
 refine hd ?_;intro w s₀ s₁ mg mb G Y a hmg hg args vals as hpre hlay hrd hwl hlo;have T:=top2 G (km_in_of Y) (km_tabs_of Y);clear Y;refine cps ?_;intro PP kk
 wrow_args hpre hlay hrd hwl hlo
 rename_i l _ _ _ _ _ _ _ la _ _ _ _ w1 _ _ _ hlen _
 have hlen':l.length<=63:=by lia
 obtain⟨fa,fo,fd,h1,h2,h3,h4,h5⟩:=pw T (plain l hlen');have e1:mg (FP "law")=some (.ref fa):=h1
 have e2:mg (FP "law")=some (.ref a):=hmg
 replace e1:=e2▸e1
 cases e1
 have rl:av (B2 w s₁.heap mg mb none) s₁.heap (B2 w s₁.heap mg mb none).T (.list (l.map .int)) (.ref la):=vP hlen' w1 fun o ho hc t=>by
  have h6:=(T.tabs la (T2n t)).symm.trans ho;rw[<-zG h6] at hc;exact nomatch hc
 refine kk ?_;clear kk PP;refine C4 (CV (h5 callerA s₁ (B2 w s₁.heap mg mb none).T [.ref la] (yE T) room2 (fun b t=>t) (fun b t=>(yE T).tlt b t) (aa.cons rl aa.nil)) ?_);rintro r s' ⟨v,rfl,e,rv⟩;simp only[av] at rv;subst rv;refine⟨.inl ⟨.bool true,.bool true,[],rfl,fun J=>rfl,.bool true,?_,fun J=>⟨Ea,fun b hb=>by exact aG hb⟩⟩,old_of T e,e.os,e.bare (by refine zF hg ?_;exact AllBare.empty)⟩;exact post2 _
end Mine
namespace Mine
section
variable {Φ:bq}{Γ:ah}{ρ:ac}{N:Nat}{d x y z:D}{p q r:Pos}
theorem ab {n:Nat}(h:ρ n=some (.fz d)):ev Φ Γ ρ (.name n p)=some (.d d):=by exact zF eL<|zF h rfl
theorem e_nameS {n:Nat}(h:ρ n=some (.sealed d)):ev Φ Γ ρ (.name n p)=some (.d d):=by exact zF eL<|zF h rfl
theorem e_nameO {n:Nat}{l:List D}(h:ρ n=some (.own l)):ev Φ Γ ρ (.name n p)=some (.own l):=by exact zF eL<|zF h rfl
theorem ak {i:Int}:ev Φ Γ ρ (.int i p)=some (.d (.int i)):=by exact zF qo rfl
theorem mJ:ev Φ Γ ρ (.nil p)=some (.d .nil):=by exact zF qk rfl
theorem fy {b:Bool}:ev Φ Γ ρ (.bool b p)=some (.d (.bool b)):=by exact zF nC rfl
theorem aT {l:List Nat}(h:l.length<=lim):ev Φ Γ ρ (.str l p)=some (.d (.str l)):=by(refine zF qi ?_;rw[mkS];refine zF (if_pos h) ?_);rfl
theorem e_neg {i:Int}:ev Φ Γ ρ (.neg i p q)=some (.d (.int (-i))):=by exact zF ql rfl
theorem bf {a b:E}{op:CS}(h1:ev Φ Γ ρ a=some (.d x))(h2:ev Φ Γ ρ b=some (.d y))(h3:D.bin op x y=some z):ev Φ Γ ρ (.bin a op b p)=some (.d z):=by
 refine zF qu<|zF h1<|zF h2 ?_;simp[R.asB,h3]
theorem kB {a b:E}{op:CmpOp}{c:Bool}(h1:ev Φ Γ ρ a=some (.d x))(h2:ev Φ Γ ρ b=some (.d y))(h3:D.cmp op x y=some c):ev Φ Γ ρ (.cmp a op b p)=some (.d (.bool c)):=by
 refine zF qs<|zF h1<|zF h2 ?_;simp[R.asB,h3]
theorem bF {a b:E}{op:CmpOp}{c:Bool}(h1:ev Φ Γ ρ a=some (.d x))(h2:ev Φ Γ ρ b=some (.d y))(h3:D.cmp op x y=some c):e7 Φ Γ ρ (.cmp a op b p)=some c:=by
 refine zF nH<|zF h1<|zF h2 ?_;simp[R.asB,h3]
theorem aC {a i:E}(h1:ev Φ Γ ρ a=some (.d x))(h2:ev Φ Γ ρ i=some (.d y))(h3:D.item x y=some z):ev Φ Γ ρ (.idx a i p)=some (.d z):=by
 refine zF ld<|zF h1<|zF h2 ?_;simp[R.asB,R.asD,h3]
theorem mI {a:E}{lo hi:Option E}{l h:Option D}(h1:ev Φ Γ ρ a=some (.d x))(h2:yU Φ Γ ρ lo=some l)(h3:yU Φ Γ ρ hi=some h)(h4:D.slice x l h=some z):ev Φ Γ ρ (.slc a lo hi p q)=some (.d z):=by
 refine zF qj<|zF h1<|zF h2<|zF h3 ?_;simp[R.asB,h4]
theorem pp:yU Φ Γ ρ none=some none:=by exact zF lI rfl
theorem fw {e:E}(h:ev Φ Γ ρ e=some (.d x)):yU Φ Γ ρ (some e)=some (some x):=by refine zF lH<|zF h ?_;rfl
theorem aQ {es:List E}{l:List D}(h1:iJ Φ Γ ρ es=some l)(h2:l.length<=lim):ev Φ Γ ρ (.list es p)=some (.d (.list l)):=by
 refine zF ju<|zF h1 ?_;simp[uD,h2]
theorem db {es:List E}{l:List D}{k:Nat}(h1:iJ Φ Γ ρ es=some l)(h2:l.length<=lim):ev Φ Γ ρ (.tup es k p)=some (.d (.tup l)):=by
 refine zF qh<|zF h1 ?_;exact if_pos h2
theorem au:iJ Φ Γ ρ []=some []:=by exact zF nJ rfl
theorem ad {e:E}{r:List E}{l:List D}(h1:ev Φ Γ ρ e=some (.d x))(h2:iJ Φ Γ ρ r=some l):iJ Φ Γ ρ (e::r)=some (x::l):=by
 refine zF lJ<|zF h1<|zF h2 ?_;rfl
theorem y5 {a:E}{f:Nat}(hn:a.isName=true)(h1:ev Φ Γ ρ a=some (.d x))(h2:D.fld f x=some z):ev Φ Γ ρ (.attr a f p)=some (.d z):=by
 refine zF nE<|zF (if_pos hn)<|zF h1 ?_;simp[R.asD,h2]
theorem bh {f:Nat}{es:List E}{l:List D}(h1:iJ Φ Γ ρ es=some l)(hg:Γ f=some .globalImplicit)(h2:Φ.call f l=some d):ev Φ Γ ρ (.call f es p q)=some (.d d):=by
 refine zF jv<|zF h1 ?_;simp[hg,h2]
theorem t_call {f:Nat}{es:List E}{l:List D}{b:Bool}(h1:iJ Φ Γ ρ es=some l)(hg:Γ f=some .globalImplicit)(h2:Φ.call f l=some (.bool b)):e7 Φ Γ ρ (.call f es p q)=some b:=by
 refine zF lu<|zF h1 ?_;simp[hg,h2]
theorem fZ {e:E}{n:Nat}(h1:ev Φ Γ ρ e=some (.d (.int (n:Int))))(hg:Γ 5=some .globalImplicit)(hn:n<=lim):ev Φ Γ ρ (.blt 5 [e] p q)=some (.it ((z6 n).map fun(i:Nat)=>.int (i:Int))):=by
 refine zF nD<|zF (if_pos hg)<|zF h1 ?_
 have:(0:Int)<=(n:Int)/\(n:Int)<=(lim:Int):=⟨by lia,by lia⟩;simp only[R.asD,zQ,Ad];refine zF (if_pos this) ?_;rfl
theorem ed {f:Nat}{e:E}(h1:ev Φ Γ ρ e=some (.d x))(hg:Γ f=some .globalImplicit)(hf:f≠4/\f≠5)(h2:D.builtin f [x]=some z):ev Φ Γ ρ (.blt f [e] p q)=some (.d z):=by
 refine zF (jw hf.1 hf.2)<|zF (if_pos hg)<|zF h1 ?_
 simp[R.asB,h2]
theorem tm {a e:E}{m:Nat}(hb:(a.isBase&&p.endLine==q.line)=true)(h1:ev Φ Γ ρ a=some (.d x))(h2:ev Φ Γ ρ e=some (.d y))(h3:D.method x m [y]=some z):ev Φ Γ ρ (.meth a m [e] p q)=some (.d z):=by
 refine zF rX<|zF (if_pos hb)<|zF h1<|zF h2 ?_;simp[R.asD,h3]
theorem y3 {t a b:E}{c:Bool}{r:R}(h1:e7 Φ Γ ρ t=some c)(h2:(if c then ev Φ Γ ρ a else ev Φ Γ ρ b)=some r):ev Φ Γ ρ (.ife t a b p)=some r:=by
 refine zF qr<|zF h1 ?_;exact h2
theorem b_or0:wN Φ Γ ρ .Or []=some false:=by refine zF nK ?_;rfl
theorem xb {op:DE}{es:List E}{c:Bool}(h:wN Φ Γ ρ op es=some c):e7 Φ Γ ρ (.bop op es p)=some c:=by exact zF nI<|zF h rfl
theorem eO {α β:Type}{sc:LK}{n:Nat}{tp:Pos}{body:ac->Option (List β)}{g:α->List β}{c:α->D}(hf:(Tg.name n tp).fit sc ρ=true):∀l:List α,(∀a∈l,body (ρ.set n (.fz (c a)))=some (g a))->dI sc (.name n tp) body ρ (l.map c)=some (l.flatMap g)
 |[],_=>rfl
 |a::l,h=>by
  refine zF z8<|zF fu<|zF (if_pos hf) ?_
  show((body (ρ.set n (.fz (c a)))).bind fun x=>(dI sc (.name n tp) body ρ (l.map c)).bind fun y=>some (x++y))=_;refine zF (h a (zU ..))<|zF (eO hf l fun b hb=>h b (zT _ hb)) ?_
  rfl
theorem mF {α β:Type}(k:α->β)(l:List α):(l.flatMap fun a=>[k a])=l.map k:=by
 induction l with
 |nil=>rfl
 |cons a l ih=>refine zF Ao<|zF ih ?_;rfl
theorem uP {α β:Type}(b:α->Bool)(k:α->β)(l:List α):(l.flatMap fun a=>if b a then[k a] else[])=(l.filter b).map k:=by
 induction l with
 |nil=>rfl
 |cons a l ih=>
  refine zF Ao<|zF ih<|zF EV ?_
  cases b a<;>rfl
theorem f3 {α:Type}{elt it:E}{n:Nat}{tp:Pos}{sc:LK}{r:R}{l:List α}{c k:α->D}(ho:em Γ sc=true)(h1:ev Φ Γ ρ it=some r)(h2:r.asI=some (l.map c))(hf:(Tg.name n tp).fit sc (ρ.cut sc)=true)
  (h:∀a∈l,ev Φ (ay Γ sc) ((ρ.cut sc).set n (.fz (c a))) elt=some (.d (k a))) (hl:l.length<=lim):ev Φ Γ ρ (.comp elt [.mk (.name n tp) it []] sc p)=some (.d (.list (l.map k))):=by
 refine zF ix<|zF (if_pos ho)<|zF h1 ?_
 simp only[zQ,Ad,h2];rw[eO (g:=fun a=>[k a]) hf l fun a ha=>?_]
 ·refine zF (mF _ _) ?_;simp[uD,hl]
 ·simp[eM,fC,h a ha,R.asD]
theorem gI {α:Type}{elt it t:E}{n:Nat}{tp:Pos}{sc:LK}{r:R}{l:List α}{c k:α->D}{b:α->Bool}(ho:em Γ sc=true)(h1:ev Φ Γ ρ it=some r)(h2:r.asI=some (l.map c))(hf:(Tg.name n tp).fit sc (ρ.cut sc)=true)
  (ht:∀a∈l,e7 Φ (ay Γ sc) ((ρ.cut sc).set n (.fz (c a))) t=some (b a)) (h:∀a∈l,b a=true->ev Φ (ay Γ sc) ((ρ.cut sc).set n (.fz (c a))) elt=some (.d (k a))) (hl:l.length<=lim):
  ev Φ Γ ρ (.comp elt [.mk (.name n tp) it [t]] sc p)=some (.d (.list ((l.filter b).map k))):=by
 refine zF ix<|zF (if_pos ho)<|zF h1 ?_
 simp only[zQ,Ad,h2];rw[eO (g:=fun a=>if b a then[k a] else[]) hf l fun a ha=>?_]
 ·have:=F6 b l
  refine zF (uP _ _ _) ?_;simp[uD];lia
 ·simp only[lL,eM,ht a ha,zQ,Ad]
  cases hb:b a
  ·simp
  ·simp[fC,h a ha hb,R.asD]
theorem cn {n:Nat}{e:E}(h:ev Φ Γ ρ e=some (.d d))(hm:Γ.mine ρ n=true):bb Φ N Γ ρ (.asg n e p q)=some (.nx (ρ.set n (.fz d))):=by
 refine zF lE<|zF h ?_;exact if_pos hm
theorem s_own {n:Nat}{es:List E}{l:List D}(h:iJ Φ Γ ρ es=some l)(hm:Γ.mine ρ n=true)(hl:l.length<=lim):bb Φ N Γ ρ (.own n (.list es r) p q)=some (.nx (ρ.set n (.own l))):=by
 refine zF fK ?_;simp[h,hm,hl]
theorem xM {n:Nat}{e:E}{l:List D}{q1 q2 q3 q4:Pos}(hn:ρ n=some (.own l))(h:ev Φ Γ ρ e=some (.d d))(hq:(q2.endLine==q3.line)=true)(hl:l.length < lim):bb Φ N Γ ρ (.app n e q1 q2 q3 q4)=some (.nx (ρ.set n (.own (l++[d])))):=by
 refine zF lF<|zF hn ?_;simp only;refine zF (if_pos hq)<|zF h ?_;exact if_pos hl
theorem s_seal {n:Nat}(h:ρ n=some (.fz d))(hc:Γ n=some .cell):bb Φ N Γ ρ (.seal n)=some (.nx (ρ.set n (.sealed d))):=by
 refine zF gq<|zF h ?_;exact if_pos hc
theorem nX {n:Nat}{l:List D}(h:ρ n=some (.own l)):bb Φ N Γ ρ (.frz n)=some (.nx (ρ.set n (.fz (.list l)))):=by
 exact zF iA<|zF h rfl
theorem s_if {e:E}{a b:List St}{c:Bool}{o:gh}(h:e7 Φ Γ ρ e=some c)(h2:(if c then aO Φ N Γ ρ a else aO Φ N Γ ρ b)=some o):bb Φ N Γ ρ (.ifS e a b p)=some o:=by
 refine zF lC<|zF h ?_;exact h2
theorem eT {e:E}{a b:List St}{o:gh}(h:e7 Φ Γ ρ e=some true)(h2:aO Φ N Γ ρ a=some o):bb Φ N Γ ρ (.ifS e a b p)=some o:=s_if h h2
theorem c9 {e:E}{a b:List St}{o:gh}(h:e7 Φ Γ ρ e=some false)(h2:aO Φ N Γ ρ b=some o):bb Φ N Γ ρ (.ifS e a b p)=some o:=s_if h h2
theorem dO {e:E}(h:ev Φ Γ ρ e=some (.d d)):bb Φ N Γ ρ (.ret e p)=some (.rt d):=by
 refine zF iz<|zF h ?_;rfl
theorem qL {t:Tg}{it:E}{body:List St}{r:R}{l:List D}{o:gh}(h1:ev Φ Γ ρ it=some r)(h2:r.asI=some l)(h3:eX Γ t (fun ρ=>aO Φ N Γ ρ body) ρ l=some o):bb Φ N Γ ρ (.forS t it body p)=some o:=by
 refine zF j5<|zF h1 ?_;simp[h2,h3]
theorem aH:aO Φ N Γ ρ []=some (.nx ρ):=by exact zF lG rfl
theorem aj {ρ':ac}{s:St}{r:List St}{o:Option gh}(h:bb Φ N Γ ρ s=some (.nx ρ'))(h2:aO Φ N Γ ρ' r=o):aO Φ N Γ ρ (s::r)=o:=by
 refine zF e9<|zF h ?_;exact h2
theorem cm {s:St}{r:List St}(h:bb Φ N Γ ρ s=some (.rt d)):aO Φ N Γ ρ (s::r)=some (.rt d):=by
 refine zF e9<|zF h ?_;rfl
theorem yP {t:Tg}{body:ac->Option gh}:eX Γ t body ρ []=some (.nx ρ):=by exact zF kb rfl
theorem tc {n:Nat}{tp:Pos}{body:ac->Option gh}{ρ':ac}{l:List D}{o:Option gh}(hm:Γ.mine ρ n=true)(h1:body (ρ.set n (.fz d))=some (.nx ρ'))(h2:eX Γ (.name n tp) body ρ' l=o):eX Γ (.name n tp) body ρ (d::l)=o:=by
 (refine zF iQ ?_;rw[rO];refine zF (if_pos hm) ?_);simp only[zQ,Ad,h1];exact h2
theorem c_eqI {a b:Int}:D.cmp .Eq (.int a) (.int b)=some (a==b):=by
 show some (BI (.int a) (.int b))=_;simp only[BI]
theorem gP {a b:List Nat}:D.cmp .Eq (.str a) (.str b)=some (a==b):=rfl
end
section
variable {Φ:bq}{Γ:ah}{ρ:ac}{N:Nat}{d x y z:D}{p q r:Pos}
theorem tP {op:DE}{e:E}{b:Bool}(h:ev Φ Γ ρ e=some (.d (.bool b))):rS Φ Γ ρ op [e]=some (.d (.bool b)):=by
 refine zF iy<|zF h ?_;simp[R.asD,D.truth]
theorem sa {op:DE}{es:List E}{e:E}{b:Bool}(h:ev Φ Γ ρ e=some (.d (.bool b)))(hb:(b==(op==.Or))=true):rS Φ Γ ρ op (e::es)=some (.d (.bool b)):=by
 refine zF iy<|zF h ?_;simp only[R.asD,D.truth,zQ,Ad,hb,FT,if_true]
theorem sd {op:DE}{es:List E}{e:E}{b:Bool}{r:Option R}(h:ev Φ Γ ρ e=some (.d (.bool b)))(hb:(es.isEmpty||b==(op==.Or))=false)(h2:rS Φ Γ ρ op es=r):rS Φ Γ ρ op (e::es)=r:=by
 refine zF iy<|zF h ?_;simp only[R.asD,D.truth,zQ,Ad,hb,AK,if_false];exact h2
theorem v_or {a b:E}{c1 c2:Bool}(h1:ev Φ Γ ρ a=some (.d (.bool c1)))(h2:ev Φ Γ ρ b=some (.d (.bool c2))):ev Φ Γ ρ (.bop .Or [a,b] p)=some (.d (.bool (c1||c2))):=by
 refine zF gn ?_
 cases c1
 ·exact sd h1 rfl (tP h2)
 ·exact sa h1 rfl
theorem b_orT {es:List E}{e:E}(h1:e7 Φ Γ ρ e=some true):wN Φ Γ ρ .Or (e::es)=some true:=by refine zF iB<|zF h1 ?_;rfl
theorem zj {es:List E}{e:E}{r:Option Bool}(h1:e7 Φ Γ ρ e=some false)(h2:wN Φ Γ ρ .Or es=r):wN Φ Γ ρ .Or (e::es)=r:=by refine zF iB<|zF h1 ?_;exact h2
theorem e_bltB {f:Nat}{e:E}{r:R}(h1:ev Φ Γ ρ e=some r)(k1:r.asB=some x)(hg:Γ f=some .globalImplicit)(hf:f≠4/\f≠5)(h2:D.builtin f [x]=some z):ev Φ Γ ρ (.blt f [e] p q)=some (.d z):=by
 refine zF (jw hf.1 hf.2)<|zF (if_pos hg)<|zF h1 ?_;simp[k1,h2]
theorem je:yV Φ Γ ρ [] []=some []:=rfl
theorem iG {m:Nat}{ms:List Nat}{e:E}{es:List E}{en:dL}{l:List dL}(h1:ev Φ Γ ρ e=some (.d d))(h2:oE m e d=some en)(h3:yV Φ Γ ρ ms es=some l):yV Φ Γ ρ (m::ms) (e::es)=some (en::l):=by
 show(do let d <-(<-ev Φ Γ ρ e).asD;let en <-oE m e d;let r <-yV Φ Γ ρ ms es;some (en::r))=_;refine zF h1 ?_;simp[R.asD,h2,h3]
theorem jf {ms:List Nat}{e:E}{es:List E}{l:List dL}(h1:ev Φ Γ ρ e=some (.d d))(h3:yV Φ Γ ρ ms es=some l):yV Φ Γ ρ (0::ms) (e::es)=some (.fz d::l):=iG h1 rfl h3
theorem fO {xs:List (Nat×Pos)}{ms:List Nat}{k k':Nat}{es:List E}{l:List dL}{p q r:Pos}(h:yV Φ Γ ρ ms es=some l)(h1:xs.length=l.length)(h2:(es.any E.notConst||es.all E.isConst)=true)(h3:(xs.map (·.1)).Nodup)(h4:xs.all (fun q=>Γ.mine ρ q.1)=true)(hl:l.length<=lim):bb Φ N Γ ρ (.asgT xs ms k (.tup es k' r) p q)=some (.nx (fc (xs.zip l) ρ)):=by
 refine zF ka ?_;simp only[h,zQ,Ad];exact zF (if_pos ⟨h1,h2,h3,h4,hl⟩) rfl
theorem sB {xs:List (Nat×Pos)}{k:Nat}{e:E}{ds:List D}(h:ev Φ Γ ρ e=some (.d (.tup ds)))(he:e.isUn=true)(h1:xs.length=ds.length)(h4:xs.all (fun q=>Γ.mine ρ q.1)=true):bb Φ N Γ ρ (.asgU xs k e p q)=some (.nx (jA xs ds ρ)):=by
 refine zF j9<|zF (if_pos he)<|zF h ?_;simp only[zQ,Ad,R.asD];exact zF (if_pos ⟨h1,h4⟩) rfl
theorem sA {n:Nat}{i e:E}{l l':List D}(hx:ρ n=some (.own l))(h1:ev Φ Γ ρ i=some (.d x))(h2:ev Φ Γ ρ e=some (.d y))(h3:oM l x y=some l'):bb Φ N Γ ρ (.augI n i .Add e p q r)=some (.nx (ρ.set n (.own l'))):=by
 refine zF j8<|zF hx ?_;simp[h1,h2,R.asD,h3]
theorem xL {n:Nat}{e:E}{t u:List Nat}(h:ρ n=some (.fz (.str t)))(h2:ev Φ Γ ρ e=some (.d (.str u)))(hl:(t++u).length<=lim)(hm:Γ.mine ρ n=true):bb Φ N Γ ρ (.augN n .Add e p q)=some (.nx (ρ.set n (.fz (.str (t++u))))):=by
 refine zF gu<|zF h ?_
 simp only[h2,zQ,Ad,R.asD];refine zF (show D.bin .Add (.str t) (.str u)=some (.str (t++u)) from if_pos hl) ?_;simp only[Ad];exact zF (if_pos hm) rfl
theorem s_frz2 {n:Nat}{ll:List (List D)}(h:ρ n=some (.own2 ll))(hl:ll.all (fun r=>decide (r.length<=lim))=true):bb Φ N Γ ρ (.frz n)=some (.nx (ρ.set n (.fz (.list (ll.map .list))))):=by
 refine zF iA<|zF h ?_;simp only;exact zF (if_pos hl) rfl
theorem s_whl {c:E}{b:List St}{o:gh}(h:jL (fun ρ=>e7 Φ Γ ρ c) (fun ρ=>aO Φ N Γ ρ b) N ρ=some o):bb Φ N Γ ρ (.whl c b p)=some o:=by exact zF lA<|zF h rfl
theorem w_stop {c:ac->Option Bool}{b:ac->Option gh}{n:Nat}(h:c ρ=some false):jL c b (n+1) ρ=some (.nx ρ):=by
 show(do let t <-c ρ;if t then _ else some (gh.nx ρ))=_;refine zF h ?_;rfl
theorem w_step {c:ac->Option Bool}{b:ac->Option gh}{n:Nat}{ρ':ac}{o:Option gh}(h:c ρ=some true)(h2:b ρ=some (.nx ρ'))(h3:jL c b n ρ'=o):jL c b (n+1) ρ=o:=by
 show(do let t <-c ρ;if t then(do match <-b ρ with|.nx ρ2=>jL c b n ρ2|.rt d=>some (.rt d)) else some (gh.nx ρ))=_;refine zF h ?_;simp[h2,h3]
end
theorem ae {ρ:ac}{x:Nat}{e:dL}:ρ.set x e x=some e:=by unfold ac.set;exact zF (if_pos rfl) rfl
theorem set_ne {ρ:ac}{x y:Nat}{e:dL}(h:y≠x):ρ.set x e y=ρ y:=by unfold ac.set;exact zF (if_neg h) rfl
theorem sN {ρ:ac}{x y:Nat}{e:dL}{v:Option dL}(k:ρ y=v)(h:Nat.beq y x=false:=by rfl):ρ.set x e y=v:=(set_ne (Nat.ne_of_beq_eq_false h)).trans k
theorem de.set {ρ:ac}(h:de ρ) (x:Nat)(d:D):de (ρ.set x (.fz d)):=by
 intro y e he;unfold ac.set at he
 split at he
 ·exact nomatch he
 ·exact h y e he
theorem mm {ps:List Nat}{args:List D}:de (aw ps args fun J=>none):=by
 have:∀(l:List (Nat×D)) (ρ:ac),de ρ->de (l.foldl (fun ρ q=>ρ.set q.1 (.fz q.2)) ρ):=by
  intro l
  induction l with
  |nil=>intro ρ h;exact h
  |cons a l ih=>intro ρ h;exact ih _ (h.set _ _)
 exact this _ _ fun y d h=>by cases h
theorem de.setO {ρ:ac}(h:de ρ) (x:Nat)(d:List D):de (ρ.set x (.own d)):=by
 intro y e he;unfold ac.set at he
 split at he
 ·exact nomatch he
 ·exact h y e he
theorem de.mine {ρ:ac}{Γ:ah}(h:de ρ){x:Nat}(hk:(Γ x==some .local||Γ x==some .cell)=true):Γ.mine ρ x=true:=by
 unfold ah.mine;refine zF hk ?_
 cases he:ρ x with
 |none=>rfl
 |some e=>cases e with
  |sealed d=>exact absurd he (h x d)
  |_=>rfl
theorem de.setD {ρ:ac}(h:de ρ) (x:Nat)(l:List (List Nat)):de (ρ.set x (.ownD l)):=by
 intro y e he;unfold ac.set at he
 split at he
 ·exact nomatch he
 ·exact h y e he
theorem de.set2 {ρ:ac}(h:de ρ) (x:Nat)(d:List (List D)):de (ρ.set x (.own2 d)):=by
 intro y e he;unfold ac.set at he
 split at he
 ·exact nomatch he
 ·exact h y e he
theorem ui {Φ:bq}{N:Nat}{t:Tx}{args:List D}{d:D}(hl:t.ps.length=args.length)(h:aO Φ N (aN t.sc t.fid) (aw t.ps args fun J=>none) t.ir=some (.rt d)):l9 Φ N t args=some d:=by
 unfold l9;exact zF (if_pos hl)<|zF h rfl
theorem bw {Φ' Φ:bq}{N:Nat}{Ψ:Nat->D->Option D}{tF:Nat->Option Tx}{tL:Nat->Option Lx}{tG:Nat->Option Gx}{f:Nat}{args:List D}{d:D}(t:Tx)(e:Φ'=Φ.up N Ψ tF tL tG)(ht:tF f=some t)(hl:t.ps.length=args.length)(h:aO Φ N (aN t.sc t.fid) (aw t.ps args fun J=>none) t.ir=some (.rt d)):Φ'.call f args=some d:=by
 subst e;show(match tF f with|some t=>l9 Φ N t args|none=>Φ.call f args)=_;refine zF ht ?_;exact ui hl h
section
variable {Φ:bq}{Ψ:Nat->D->Option D}{rm:Nat}{Γ:ah}{ρ:ac}
theorem dP:d8 Φ Ψ rm Γ ρ []=some ([],ρ):=by exact zF li rfl
theorem bP {ρ1 ρ2:ac}{s:Sg}{r:List Sg}{a b:List D}(h:qg Φ Ψ rm Γ ρ s=some (a,ρ1))(h2:d8 Φ Ψ rm Γ ρ1 r=some (b,ρ2)):d8 Φ Ψ rm Γ ρ (s::r)=some (a++b,ρ2):=by
 refine zF jY<|zF h ?_;simp[h2]
theorem wQ {c:E}{a:List Sg}{p:Pos}{l:List D}{ρ1:ac}(h:e7 Φ Γ ρ c=some true)(h2:d8 Φ Ψ rm Γ ρ a=some (l,ρ1)):qg Φ Ψ rm Γ ρ (.ifS c a p)=some (l,ρ1):=by
 refine zF jx<|zF h ?_;simp[h2]
theorem rU {c:E}{a:List Sg}{p:Pos}(h:e7 Φ Γ ρ c=some false):qg Φ Ψ rm Γ ρ (.ifS c a p)=some ([],ρ):=by
 refine zF jx<|zF h ?_;simp
theorem wP {x:Nat}{p q r:Pos}{d:D}(h:ρ.at x=some d):qg Φ Ψ rm Γ ρ (.yld x p q r)=some ([d],ρ):=by
 refine zF nF<|zF h ?_;rfl
theorem wR {x:Nat}{e:E}{d:D}{p q:Pos}(h:ev Φ Γ ρ e=some (.d d))(hm:Γ.mine ρ x=true)(hf:d.flat=true)(he:e.isCp=false):qg Φ Ψ rm Γ ρ (.asg x e p q)=some ([],ρ.set x (.fz d)):=by
 refine zF nG<|zF h ?_;simp[R.asD,hm,hf,he]
theorem rV {t y:Nat}{tp yp p:Pos}{body:List Sg}{d:D}{items l:List D}{ρ1:ac}(h:ρ.at y=some d)(h2:(R.d d).asI=some items)(h3:c8 Γ t (fun ρ=>d8 Φ Ψ rm Γ ρ body) ρ items=some (l,ρ1)):qg Φ Ψ rm Γ ρ (.forS t tp y yp body p)=some (l,ρ1):=by
 refine zF ln<|zF h ?_;simp[h2,h3]
theorem ye_pm {x f y:Nat}{q1 q2 q3 q4 q5:Pos}{d r:D}(h:ρ.at y=some d)(h2:Ψ f d=some r)(hm:Γ.mine ρ x=true)(hg:Γ f=some .globalImplicit):qg Φ Ψ rm Γ ρ (.pm x f y q1 q2 q3 q4 q5)=some ([],ρ.set x (.fz r)):=by
 refine zF qv<|zF h ?_;simp[h2,hm,hg]
theorem ye_newD {x:Nat}{q1 q2 q3:Pos}(hm:Γ.mine ρ x=true)(hx:x=rm):qg Φ Ψ rm Γ ρ (.newD x q1 q2 q3)=some ([],ρ.set x (.ownD [])):=by
 refine zF lj<|zF hm<|zF hx ?_;simp
theorem gm {t:Nat}{body:ac->Option (List D×ac)}{d:D}{r a b:List D}{ρ1 ρ2:ac}(hm:Γ.mine ρ t=true)(h:body (ρ.set t (.fz d))=some (a,ρ1))(h2:c8 Γ t body ρ1 r=some (b,ρ2)):c8 Γ t body ρ (d::r)=some (a++b,ρ2):=by
 (rw[c8];refine zF (if_pos hm)<|zF h ?_);simp[h2]
end
theorem yF {Φ' Φ:bq}{N:Nat}{Ψ:Nat->D->Option D}{tF:Nat->Option Tx}{tL:Nat->Option Lx}{tG:Nat->Option Gx}{i:Nat}{all l:List D}{ρ':ac}(t:Gx)(e:Φ'=Φ.up N Ψ tF tL tG)(ht:tG i=some t)(hl:(aD t.sc).length+t.ps.length=all.length)
  (h:d8 Φ Ψ t.rm (aN t.sc 0) (aw t.ps (all.drop (aD t.sc).length) (cN (aD t.sc) (all.take (aD t.sc).length))) t.ss=some (l,ρ')) (hlim:l.length<=lim):Φ'.gen i all=some l:=by
 subst e;show(match tG i with|some t=>vN Φ Ψ t all|none=>Φ.gen i all)=_;refine zF ht ?_;show vN Φ Ψ t all=_;unfold vN;refine zF (if_pos hl)<|zF h ?_
 simp only;exact zF (if_pos hlim) rfl
theorem s_defS {Φ:bq}{Γ:ah}{ρ:ac}{N x id f:Nat}{ps:List (Nat×Pos)}{b:List Stmt}{sc:LK}{g:Bool}{p:Pos}{caps:List D}(h:em Γ sc=true/\f≠0/\Γ.f=f/\Γ.mine ρ x=true)(hc:(aD sc).mapM (fun x=>match ρ x with|some (.sealed d)=>some d|_=>none)=some caps):
  bb Φ N Γ ρ (.defS x id f ps b sc g p)=some (.nx (ρ.set x (.fz (.lam id caps)))):=by
 refine zF j7<|zF (if_pos h) ?_
 exact(congrArg (fun o:Option (List D)=>o.bind fun caps=>some (gh.nx (ρ.set x (.fz (.lam id caps))))) hc).trans rfl
theorem int_eq (a b:Nat):((a:Int)==(b:Int))=decide (a=b):=by
 (refine zF (propext CW) ?_;rw[beq_iff_eq,decide_eq_true_eq]);exact Int.ofNat_inj
theorem mR {n k:Nat}(h:k<=n):Dk n (k:Int)=k:=by
 unfold Dk;exact zF (if_neg (GQ.mpr (Ar k)))<|zF (Int.min_eq_left (C5.mpr h))<|zF (Int.max_eq_right (Ar k))<|zF (Co _) rfl
theorem su {t:List Nat}{i:Int}(hi:-(lim:Int)<=i/\i<=lim):D.slice (.str t) none (some (.int i))=some (.str (t.take (Dk t.length i))):=by
 have e:D.bnd (some (.int i))=some (some i):=by show(if _ then _ else _)=_;exact zF (if_pos hi) rfl
 unfold D.slice;refine zF e ?_;show some (D.str (gL none (some i) t))=_;simp[gL]
theorem slc_lo {t:List Nat}{i:Int}(hi:-(lim:Int)<=i/\i<=lim):D.slice (.str t) (some (.int i)) none=some (.str (t.drop (Dk t.length i))):=by
 have e:D.bnd (some (.int i))=some (some i):=by show(if _ then _ else _)=_;exact zF (if_pos hi) rfl
 unfold D.slice;refine zF e ?_;show some (D.str (gL (some i) none t))=_;simp only[gL,Option.elim];exact zF (Cu (by simp)) rfl
noncomputable def stP:St->List St×List St×E×Pos
 |.forS (.name _ p) it b _=>(b,[],it,p)
 |.whl c b _=>(b,[],c,qq 0 0 0)
 |.ifS c a b _=>(a,b,c,qq 0 0 0)
 |.asg _ e _ _=>([],[],e,qq 0 0 0)
 |.app _ e _ _ _ _=>([],[],e,qq 0 0 0)
 |_=>([],[],.nil (qq 0 0 0),qq 0 0 0)
noncomputable def tpOf (s:St):Pos:=(stP s).2.2.2
noncomputable def yR (s:St):E:=(stP s).2.2.1
noncomputable def gQ (s:St):List St:=(stP s).1
noncomputable def tj (s:St):List St:=(stP s).2.1
noncomputable def wS:Sg->List Sg
 |.forS _ _ _ _ b _=>b
 |_=>[]
noncomputable abbrev kn:St:=.raw []
noncomputable abbrev y00:Sg:=.newD 0 (qq 0 0 0) (qq 0 0 0) (qq 0 0 0)
end Mine
namespace Mine
noncomputable def rp (c:Nat)(z:List Nat)(l:List Nat):List Nat:=l.flatMap fun k=>if k=c then z else[k]
theorem iZ (c:Nat)(z:List Nat):∀l:List Nat,c ∉ l->rp c z l=l
 |[],_=>rfl
 |k::r,h=>by
  have h1:¬k=c:=fun e=>h (e▸zU ..);have ih:=iZ c z r fun m=>h (zT _ m);unfold rp at ih ⊢;refine zF Ao<|zF (if_neg h1)<|zF ih ?_;rfl
theorem nY (c:Nat)(z a b:List Nat):rp c z (a++b)=rp c z a++rp c z b:=Eo
theorem uk (c:Nat)(z:List Nat):∀parts:List Str,(∀p∈parts,c ∉ p.cps.toList)->rp c z (Str.join ⟨#[c]⟩ parts).cps.toList=(Str.join ⟨z.toArray⟩ parts).cps.toList
 |[],_=>rfl
 |[p],h=>iZ c z _ (h p (zY.mpr rfl))
 |p::q::r,h=>by
  have ih:=uk c z (q::r) fun a ha=>h a (zT _ ha);show rp c z (p++⟨#[c]⟩++Str.join ⟨#[c]⟩ (q::r)).cps.toList=(p++⟨z.toArray⟩++Str.join ⟨z.toArray⟩ (q::r)).cps.toList;simp only[Str.cps_append,CP];refine zF (nY _ _ _ _)<|zF (nY _ _ _ _)<|zF ih<|zF (iZ c z _ (h p (zU ..))) ?_
  show p.cps.toList++rp c z [c]++_=_;simp[rp]
theorem xf (t z:List Nat) (c:Nat):lW t [c] z=rp c z t:=by
 show(Gi ⟨t.toArray⟩ ⟨#[c]⟩ ⟨z.toArray⟩).cps.toList=rp c z t;exact zF (StrLaws.replace_one _ _ _)<|zF (AM (uk c z _ (StrLaws.split_free _ c)))<|zF (StrLaws.join_split _ _) rfl
theorem pO (t:List Nat) (c:Nat):Du ⟨t.toArray⟩ ⟨[c].toArray⟩=decide (c∈t):=by
 have:=Gb ⟨t.toArray⟩ c
 simpa [Du] using this
noncomputable def cH (m:List (Nat×List Nat)) (c:Nat):List Nat:=(m.lookup c).getD [c]
noncomputable def w7 (m:List (Nat×List Nat)) (c:Nat):Bool:=(m.lookup c).isNone&&m.all fun q=>!q.2.contains c
theorem cV {α β:Type} [BEq α] [LawfulBEq α]:∀{l:List (α×β)}{a:α}{b:β},l.lookup a=some b->(a,b)∈l
 |(x,y)::l,a,b,h=>by
  rw[z5] at h
  split at h
  ·rename_i e;obtain rfl:=zG h;rw[beq_iff_eq] at e;subst e;exact zU ..
  ·exact zT _ (cV h)
theorem om {α β:Type} [BEq α] [LawfulBEq α](a:α):∀(l m:List (α×β)),(l++m).lookup a=(l.lookup a).or (m.lookup a)
 |[],m=>by simp
 |(x,y)::l,m=>by
  (refine zF EW ?_;rw[z5,z5])
  split
  ·simp
  ·exact om a l m
theorem qC {m:List (Nat×List Nat)}{c:Nat}{z w:List Nat}(h:w7 m c=true):rp c z (w.flatMap (cH m))=w.flatMap (cH (m++[(c,z)])):=by
 unfold w7 at h;rw[Bu] at h;obtain⟨h1,h2⟩:=h;have h1:m.lookup c=none:=by simpa using h1
 unfold rp;refine zF List.flatMap_assoc ?_
 congr 1
 funext k
 show rp c z (cH m k)=_;unfold cH;rw[om]
 cases hk:m.lookup k with
 |some v=>
  have:=Ag.mp h2 _ (cV hk);exact iZ c z v (by simpa using this)
 |none=>
  simp only[Option.none_or,EM]
  by_cases e:k=c
  ·subst e;simp[rp,B3]
  ·have:(k==c)=false:=by simpa using e
   simp[rp,B3,this,e]
theorem oV {m:List (Nat×List Nat)}(h:m.all (fun q=>decide (q.2.length<=6))=true)(w:List Nat):(w.flatMap (cH m)).length<=6 * w.length:=by
 induction w with
 |nil=>simp
 |cons k w ih=>
  have:(cH m k).length<=6:=by
   unfold cH
   cases hk:m.lookup k with
   |none=>simp
   |some v=>simpa using Ag.mp h _ (cV hk)
  have e:6 * (w.length+1)=6+6 * w.length:=by exact zF (Nat.mul_add _ _ _)<|zF (E6 _)<|zF (B0 _ _) rfl
  refine zF Ao<|zF zM<|zF AB<|zF e ?_
  exact Ah this ih
theorem xI {ρ:ac}{x:Nat}{e:dL}(h:ρ x=some e):ρ.set x e=ρ:=by
 funext y
 unfold ac.set
 by_cases hy:y=x
 ·subst hy;exact zF (if_pos rfl)<|zF h rfl
 ·exact zF (if_neg hy) rfl
theorem sub_ar {a w z:Nat}(l1:a<=6 * w)(hw:w<=100)(h3:z<=6):a+(a+1) * z<=16777216:=
 have h:a<=600:=zH l1 (Bh 6 hw)
 zH (Ah h (DC (B9 h) h3)) (by decide)
theorem iU {Φ:bq}{N:Nat}{Γ:ah}{ρ:ac}{x c:Nat}{z w:List Nat}{m:List (Nat×List Nat)}{q1 q2 q3 q4 q5 q6 q7 q8 q9 q10 q11:Pos}(hm:(Γ x==some .local||Γ x==some .cell)=true)(hx:ρ x=some (.fz (.str (w.flatMap (cH m)))))(hw:w.length<=100)
  (h1:w7 m c=true) (h2:m.all (fun q=>decide (q.2.length<=6))=true) (h3:z.length<=6) (hz:[c]≠z) (hq:q6.endLine=q9.line):
  bb Φ N Γ ρ (.sub x [c] z q1 q2 q3 q4 q5 q6 q7 q8 q9 q10 q11)=some (.nx (ρ.set x (.fz (.str (w.flatMap (cH (m++[(c,z)]))))))):=by
 refine zF lB ?_;refine zF hx ?_;have hmine:Γ.mine ρ x=true:=by unfold ah.mine;refine zF hm<|zF hx ?_;rfl
 have l1:=oV h2 w;have l2:(w.flatMap (cH (m++[(c,z)]))).length<=6 * w.length:=oV (by refine zF List.all_append<|zF h2 ?_;simpa using h3) w;have e1:lW (w.flatMap (cH m)) [c] z=w.flatMap (cH (m++[(c,z)])):=by exact zF (xf _ _ _)<|zF (qC h1) rfl
 simp only;have h4:(w.flatMap (cH m)).length+((w.flatMap (cH m)).length+1) * z.length<=16777216:=sub_ar l1 (by assumption) h3;have h5:(lW (w.flatMap (cH m)) [c] z).length<=lim:=by refine zF e1 ?_;unfold lim;lia
 refine zF (if_pos ⟨hmine,hz,h4,h5,hq⟩) ?_
 ·refine zF e1<|zF (pO _ _) ?_
  by_cases hc:c∈w.flatMap (cH m)
  ·exact zF (decide_eq_true hc)<|zF (if_pos rfl) rfl
  ·refine zF (decide_eq_false hc)<|zF (if_neg BQ) ?_
   congr 2
   refine zF (AM (qC h1))<|zF (iZ c z _ hc) ?_
   exact(xI hx).symm
noncomputable abbrev amp:List Nat:=[38,97,109,112,59]
noncomputable abbrev alt:List Nat:=[38,108,116,59]
noncomputable abbrev agt:List Nat:=[38,103,116,59]
noncomputable abbrev aqu:List Nat:=[38,113,117,111,116,59]
noncomputable def m0:List (Nat×List Nat):=[(38,amp),(60,alt),(62,agt)]
noncomputable def m1:List (Nat×List Nat):=[(38,amp),(60,alt),(62,agt),(34,aqu),(13,[38,35,49,51,59]),(10,[38,35,49,48,59]),(9,[38,35,48,57,59])]
noncomputable def m2:List (Nat×List Nat):=[(38,amp),(62,agt),(34,aqu)]
noncomputable def m3:List (Nat×List Nat):=[(38,amp),(60,alt),(62,agt),(13,[38,35,120,68,59])]
noncomputable def m4:List (Nat×List Nat):=[(38,amp),(60,alt),(34,aqu),(9,[38,35,120,57,59]),(10,[38,35,120,65,59]),(13,[38,35,120,68,59])]
noncomputable def oh (k:Nat):List (Nat×List Nat):=if k=0 then m0 else if k=1 then m1 else if k=2 then m2 else if k=3 then m3 else m4
theorem gH (w:List Nat):w.flatMap (cH [])=w:=by
 have:cH []=fun c=>[c]:=by funext c;rfl
 refine zF this ?_
 induction w with
 |nil=>rfl
 |cons a w ih=>refine zF Ao<|zF ih ?_;rfl
theorem hs_ne {hs:List ExceptHandler}(h:hs.isEmpty=false){Φ:bq}{N:Nat}{Γ:ah}{ρ:ac}{b:List St}{p:Pos}:bb Φ N Γ ρ (.tryS b hs p)=aO Φ N Γ ρ b:=by
 refine zF jZ<|zF h ?_;rfl
theorem jm {Φ:bq}{N:Nat}{Γ:ah}{ρ:ac}{d:D}{p q:Pos}:aO Φ N Γ (ρ.set 76 (.fz d)) [.ret (.name 76 p) q]=some (.rt d):=by
 refine cm ?_;refine zF iz<|zF eL ?_;simp[ac.set,R.asD]
theorem iT {Φ:bq}{N:Nat}{Γ:ah}{ρ:ac}{d:D}{hs:List ExceptHandler}{b:List St}{p:Pos}(hh:hs.isEmpty=false)(h:aO Φ N Γ ρ b=some (.rt d)):aO Φ N Γ ρ [.tryS b hs p]=some (.rt d):=by
 refine cm ?_;exact zF (hs_ne hh)<|zF h rfl
theorem wD {w:List Nat}(hw:w.length<=100):br.call 37 [.str w]=some (.str (w.flatMap (cH m0))):=
 bw (tx di d7 0 (dk (iI "_escape_cdata"))) (Φ:=cF) rfl rfl rfl (iT (by rfl) (by(repeat (refine aj (iU (by rfl) (by first|rfl|(show some (dL.fz (D.str _))=_;rw[gH])) ‹_› (by decide) (by decide) (by decide) (by decide) (by rfl)) ?_));exact jm))
theorem tE {w:List Nat}(hw:w.length<=100):br.call 38 [.str w]=some (.str (w.flatMap (cH m1))):=
 bw (tx cS dS 0 (cY (iI "_escape_attrib"))) (Φ:=cF) rfl rfl rfl (iT (by rfl) (by(repeat (refine aj (iU (by rfl) (by first|rfl|(show some (dL.fz (D.str _))=_;rw[gH])) ‹_› (by decide) (by decide) (by decide) (by decide) (by rfl)) ?_));exact jm))
theorem yC {w:List Nat}(hw:w.length<=100):br.call 39 [.str w]=some (.str (w.flatMap (cH m2))):=
 bw (tx bI cC 0 (bK (iI "_escape_attrib_html"))) (Φ:=cF) rfl rfl rfl (iT (by rfl) (by(repeat (refine aj (iU (by rfl) (by first|rfl|(show some (dL.fz (D.str _))=_;rw[gH])) ‹_› (by decide) (by decide) (by decide) (by decide) (by rfl)) ?_));exact jm))
theorem zf {w:List Nat}(hw:w.length<=100):br.call 40 [.str w]=some (.str (w.flatMap (cH m3))):=
 bw (tx bS cJ 0 (bZ (iI "_escape_cdata_c14n"))) (Φ:=cF) rfl rfl rfl (iT (by rfl) (by(repeat (refine aj (iU (by rfl) (by first|rfl|(show some (dL.fz (D.str _))=_;rw[gH])) ‹_› (by decide) (by decide) (by decide) (by decide) (by rfl)) ?_));exact jm))
theorem zr {w:List Nat}(hw:w.length<=100):br.call 41 [.str w]=some (.str (w.flatMap (cH m4))):=
 bw (tx bJ cD 0 (bL (iI "_escape_attrib_c14n"))) (Φ:=cF) rfl rfl rfl (iT (by rfl) (by(repeat (refine aj (iU (by rfl) (by first|rfl|(show some (dL.fz (D.str _))=_;rw[gH])) ‹_› (by decide) (by decide) (by decide) (by decide) (by rfl)) ?_));exact jm))
theorem k5 {k:Nat}(hk:k < 5):k=0\/k=1\/k=2\/k=3\/k=4:=
 have h:∀k,k < 5->k=0\/k=1\/k=2\/k=3\/k=4:=by decide
 h k hk
theorem oT (l:List Nat):(ki rn l).length<=2 * l.length:=sh (fun c y h=>by unfold rn at h;split at h<;>cases h;rfl) l
theorem te {w:List Nat}(hw:w.length<=100):br.call 30 [.str w]=some (.str (ki rn w)):=by
 have l2:=oT w;show(if _/\_ then _ else _)=_;exact zF (if_pos ⟨by unfold lim;lia,by unfold lim;lia⟩) rfl
noncomputable def cI (k:Nat)(w:List Nat):List Nat:=w.flatMap (cH (oh k))
theorem yD {w:List Nat}{k:Nat}(hk:k < 5)(hw:w.length<=100):jE.call 43 [.str w,.int k]=some (.str (cI k w)):=by
 refine bw (tx fh bQ 0 fk) (Φ:=br) rfl rfl rfl ?_;have nx:∀{a:Int}{f:Nat}{p1 p2 p3 p4 p7 p8 p9 p10:Pos}{r:List St}{o:Option gh},(((k:Nat):Int)==a)=false->
   aO br NN (aN bQ 0) (aw [76,83] [.str w,.int k] fun J=>none) r=o->
   aO br NN (aN bQ 0) (aw [76,83] [.str w,.int k] fun J=>none) (.ifS (.cmp (.name 83 p1) .Eq (.int a p2) p3) [.ret (.call f [.name 76 p4] p7 p8) p9] [] p10::r)=o:=fun h h2=>
  aj (c9 (bF (ab rfl) ak (c_eqI.trans (by exact zF h rfl))) aH) h2
 have cl:∀{f:Nat}{p4 p7 p8 p9:Pos}{r:List St},(aN bQ 0) f=some .globalImplicit->br.call f [.str w]=some (.str (cI k w))->
   aO br NN (aN bQ 0) (aw [76,83] [.str w,.int k] fun J=>none) (.ret (.call f [.name 76 p4] p7 p8) p9::r)=some (.rt (.str (cI k w))):=fun hf h2=>
  cm (dO (bh (ad (ab rfl) au) hf h2))
 have rt:∀{a:Int}{f:Nat}{p1 p2 p3 p4 p7 p8 p9 p10:Pos}{r:List St},(((k:Nat):Int)==a)=true->(aN bQ 0) f=some .globalImplicit->br.call f [.str w]=some (.str (cI k w))->
   aO br NN (aN bQ 0) (aw [76,83] [.str w,.int k] fun J=>none) (.ifS (.cmp (.name 83 p1) .Eq (.int a p2) p3) [.ret (.call f [.name 76 p4] p7 p8) p9] [] p10::r)=some (.rt (.str (cI k w))):=fun h hf h2=>
  cm (eT (bF (ab rfl) ak (c_eqI.trans (by exact zF h rfl))) (cl hf h2))
 rcases k5 hk with rfl|rfl|rfl|rfl|rfl
 ·exact rt rfl rfl (wD hw)
 ·exact nx rfl (rt rfl rfl (tE hw))
 ·exact nx rfl (nx rfl (rt rfl rfl (yC hw)))
 ·exact nx rfl (nx rfl (nx rfl (rt rfl rfl (zf hw))))
 ·exact nx rfl (nx rfl (nx rfl (nx rfl (cl rfl (zr hw)))))
end Mine
namespace Mine
theorem de.all {ρ:ac}{Γ:ah}(h:de ρ){xs:List (Nat×Pos)}(hk:xs.all (fun q=>Γ q.1==some .local||Γ q.1==some .cell)=true):xs.all (fun q=>Γ.mine ρ q.1)=true:=
 Ag.mpr fun q hq=>h.mine (Ag.mp hk q hq)
theorem sR:2<=lim:=by decide
noncomputable abbrev ΓS:ah:=aN dB 0
noncomputable def sr:List St:=gQ (cc.getD 2 kn)
noncomputable def tb (k:Nat):List (List Nat):=
 if k=0 then[[97,109,112],[108,116],[103,116],[45],[45],[45],[45]]
 else if k=1 then[[97,109,112],[108,116],[103,116],[113,117,111,116],[35,49,51],[35,49,48],[35,48,57]]
 else if k=2 then[[97,109,112],[45],[103,116],[113,117,111,116],[45],[45],[45]]
 else if k=3 then[[97,109,112],[108,116],[103,116],[45],[35,120,68],[45],[45]]
 else[[97,109,112],[108,116],[45],[113,117,111,116],[35,120,68],[35,120,65],[35,120,57]]
noncomputable def gSpB (c:Int):Bool:=((([32,35,36,38,45,46,63]:List Int).any fun y=>y==c)||((decide ((9:Int)<=c)&&decide (c<=13))||((decide ((40:Int)<=c)&&decide (c<=43))||((decide ((91:Int)<=c)&&decide (c<=94))||((decide ((123:Int)<=c)&&decide (c<=126))||false)))))
theorem gSp_low:(z6 127).all (fun c=>gSpB c==qe.contains c)=true:=by decide +kernel
theorem jh {c:Nat}{k:Int}(h:¬c < 127)(hk:k < 127):decide ((c:Int)<=k)=false:=decide_eq_false fun q=>h (BW.mp (show(c:Int) < ((127:Nat):Int) from DD q hk))
theorem oL {c:Nat}(h:¬c < 127):∀l:List Int,l.all (fun y=>decide (y < 127))=true->(l.any fun y=>y==(c:Int))=false
 |[],_=>rfl
 |y::l,e=>by
  refine aS (As.mp (show(decide (y < 127)&&_)=true from e)) fun e1 e2=>?_;have hy:(y==(c:Int))=false:=beq_eq_false_iff_ne.mpr fun q=>by have:=of_decide_eq_true e1;lia
  show(y==(c:Int)||_)=false;refine zF hy<|zF (oL h l e2) ?_;rfl
theorem gSp_hi {c:Nat}(h:¬c < 127):gSpB c=false:=by
 unfold gSpB;refine zF (oL h _ (by decide))<|zF (jh h (by decide))<|zF (jh h (by decide))<|zF (jh h (by decide))<|zF (jh h (by decide)) ?_
 simp only[CE,Ew]
theorem spL_hi {c:Nat}(h:¬c < 127):qe.contains c=false:=by
 have e:qe.all (fun y=>decide (y < 127))=true:=by decide
 refine zF (propext GU) ?_;intro q;exact h (of_decide_eq_true (Ag.mp e c (Au.mp q)))
theorem wg (c:Nat):gSpB c=qe.contains c:=by
 by_cases h:c < 127
 ·exact beq_iff_eq.mp (Ag.mp gSp_low c (BH.mpr h))
 ·exact zF (gSp_hi h)<|zF (spL_hi h) rfl
theorem yH (c:Nat):((([32,35,36,38,45,46,63]:List Int).any fun y=>y==(c:Int))||((decide ((9:Int)<=c)&&decide ((c:Int)<=13))||((decide ((40:Int)<=c)&&decide ((c:Int)<=43))||((decide ((91:Int)<=c)&&decide ((c:Int)<=94))||((decide ((123:Int)<=c)&&decide ((c:Int)<=126))||false)))))=qe.contains c:=wg c
theorem v7 (c:Int)(l:List Int):D.cmp .In (.int c) (.tup (l.map .int))=some (l.any fun y=>y==c):=by
 have e:(l.map D.int).mapM (D.pd 4)=some (l.map .int):=by
  induction l with
  |nil=>rfl
  |cons a l ih=>(refine zF z8 ?_;rw[CC];refine zF ih ?_);rfl
 show(do let p <-D.pd 5 (.int c);let q <-(l.map D.int).mapM (D.pd 4);some (q.any fun y=>BI y p))=_;refine zF e ?_;show some ((l.map Em).any fun y=>BI y (.int c))=_;refine zF List.any_map ?_
 rfl
noncomputable abbrev dQ:List Nat:=[38,60,62,34,13,10,9]
theorem find7 {c:Nat}(h:c ∉ dQ):Ei ⟨dQ.toArray⟩ ⟨[c].toArray⟩=-1:=by
 have:=Gb ⟨dQ.toArray⟩ c;rw[decide_eq_false (h)] at this;have h2:EX ⟨dQ.toArray⟩ ⟨#[c]⟩ 0 (⟨dQ.toArray⟩:Str).length 1=[]:=by simpa using this
 unfold Ei;show(match EX ⟨dQ.toArray⟩ ⟨#[c]⟩ 0 (⟨dQ.toArray⟩:Str).length 1 with|i::_=>(i:Int)|[]=>-1)=-1;exact zF h2 rfl
noncomputable def okT (k j:Nat):Bool:=match(tb k)[j]?,dQ[j]? with
 |some w,some c=>decide (w.length<=10)&&(cH (oh k) c==(if w==[45] then[c] else[38]++w++[59]))&&(Ei ⟨dQ.toArray⟩ ⟨[c].toArray⟩==(j:Int))
 |_,_=>false
theorem okT_all:∀k,k < 5->∀j,j < 7->okT k j=true:=by decide +kernel
set_option tactic.hygienic true in
theorem sign2 {ρ:ac}{k c:Nat}{out:List Nat}(hk:k < 5)(hN:de ρ)(h86:ρ 86=some (.fz (.str [c])))(h87:ρ 87=some (.fz (.int (Ei ⟨dQ.toArray⟩ ⟨[c].toArray⟩))))(h84:ρ 84=some (.fz (.list ((tb k).map .str))))(h85:ρ 85=some (.fz (.str out)))(hl:out.length+12<=lim):
  bb cF NN ΓS ρ (sr.getD 1 kn)=some (.nx (ρ.set 85 (.fz (.str (out++cH (oh k) c))))):=by
 have one:∀{r1 r2 r3:Pos},aO cF NN ΓS ρ [.augN 85 .Add (.name 86 r1) r2 r3]=some (.nx (ρ.set 85 (.fz (.str (out++[c]))))):=fun{r1 r2 r3}=>aj (xL h85 (ab h86) (by refine zF zM ?_;exact zH (by simp) hl) (hN.mine rfl)) aH
 by_cases hc:c∈dQ
 ·obtain⟨j,hj⟩:=Gc hc
  have hj7:j < 7:=(Ap.mp hj).1;have hok:=okT_all k hk j hj7;unfold okT at hok;rw[hj] at hok
  split at hok
  case h_2=>exact bG hok
  rename_i w c' hw he
  obtain rfl:=zG he;simp only[Bu,decide_eq_true_eq,beq_iff_eq] at hok;obtain⟨⟨hwl,ht⟩,hf⟩:=hok;replace h87:=hf▸h87;have hit:D.item (.list ((tb k).map .str)) (.int (j:Int))=some (.str w):=by
   show(eR ((tb k).map D.str).length (j:Int)).bind (((tb k).map D.str)[·]?)=_;have hlt:=(Ap.mp hw).1;have:eR ((tb k).map D.str).length (j:Int)=some j:=by
    unfold eR;refine zF (if_pos (by lia))<|zF (if_pos (by refine zF (zX _) ?_;lia)) ?_;rfl
   refine zF this ?_;simp[hw]
  have c1:∀{p1 p2 p3:Pos},e7 cF ΓS ρ (.cmp (.name 87 p1) .Lt (.int 0 p2) p3)=some false:=fun{p1 p2 p3}=>bF (ab h87) ak (show some (decide ((j:Int) < 0))=_ by exact zF (decide_eq_false (by lia)) rfl);have c2:∀{p4 p5 p6 p7 p8:Pos},e7 cF ΓS ρ (.cmp (.idx (.name 84 p4) (.name 87 p5) p6) .Eq (.str [45] p7) p8)=some (w==[45]):=fun{p4 p5 p6 p7 p8}=>bF (aC (ab h84) (ab h87) hit) (aT (by decide)) gP;refine zF ht ?_
  cases hb:w==[45] with
  |true=>
   refine zF (if_pos (beq_iff_eq.mp hb)) ?_;exact eT (xb (zj c1 (b_orT (c2.trans (congrArg some hb))))) one
  |false=>
   refine zF (if_neg (beq_eq_false_iff_ne.mp hb)) ?_;have l2:([38]++w++[59]).length<=12:=by simp;lia
   have k1:D.bin .Add (.str [38]) (.str w)=some (.str ([38]++w)):=if_pos (zH (show _<=12 by simp;lia) (by decide));have k2:D.bin .Add (.str ([38]++w)) (.str [59])=some (.str ([38]++w++[59])):=if_pos (zH l2 (by decide));exact c9 (xb (zj c1 (zj (c2.trans (congrArg some hb)) b_or0))) (aj (xL h85 (bf (bf (aT (by decide)) (aC (ab h84) (ab h87) hit) k1) (aT (by decide)) k2) (by refine zF zM ?_;exact zH (AA l2 _) hl) (hN.mine rfl)) aH)
 ·have e:cH (oh k) c=[c]:=by
   have hs:(oh k).all (fun q=>dQ.contains q.1)=true:=by rcases k5 hk with rfl|rfl|rfl|rfl|rfl<;>decide
   unfold cH
   cases hq:(oh k).lookup c with
   |none=>rfl
   |some v=>exact absurd (Au.mp (Ag.mp hs _ (cV hq))) hc
  refine zF e ?_;rw[find7 hc] at h87;exact eT (xb (b_orT (bF (ab h87) ak rfl))) one
theorem xH {ρ:ac}{k c:Nat}{out:List Nat}(hk:k < 5)(hN:de ρ)(h86:ρ 86=some (.fz (.str [c])))(h84:ρ 84=some (.fz (.list ((tb k).map .str))))(h85:ρ 85=some (.fz (.str out)))(hl:out.length+13<=lim):
  ∃ρ',aO cF NN ΓS ρ sr=some (.nx ρ')/\de ρ'/\ρ' 85=some (.fz (.str (out++cH (oh k) c)))/\ρ' 84=some (.fz (.list ((tb k).map .str))):=by
 let f:=Ei ⟨dQ.toArray⟩ ⟨[c].toArray⟩
 let ρ1:=ρ.set 87 (.fz (.int f))
 have N1:de ρ1:=hN.set _ _;have e2:=sign2 (ρ:=ρ1) hk N1 (sN h86) ae (sN h84) (sN h85) (by lia);exact⟨_,aj (cn (tm rfl (aT (by decide)) (ab h86) rfl) (hN.mine rfl)) (aj e2 aH),N1.set _ _,ae,sN (sN h84)⟩
theorem tR {k:Nat}(hk:k < 5) (c:Nat):(cH (oh k) c).length<=6:=by
 have:=oV (m:=oh k) (by rcases k5 hk with rfl|rfl|rfl|rfl|rfl<;>decide) [c]
 simpa using this
theorem gv {k:Nat}(hk:k < 5)(w:List Nat):(cI k w).length<=6 * w.length:=by
 unfold cI
 induction w with
 |nil=>simp
 |cons c w ih=>
  have:=tR hk c;refine zF Ao<|zF zM<|zF AB ?_;lia
theorem lU {k c:Nat}{w:List Nat}:cI k (c::w)=cH (oh k) c++cI k w:=Ao
theorem oU {k:Nat}{a b:List Nat}:cI k (a++b)=cI k a++cI k b:=Eo
theorem nV {tp:Pos}{k:Nat}(hk:k < 5):∀(l:List Nat){ρ:ac}{out:List Nat},de ρ->ρ 84=some (.fz (.list ((tb k).map .str)))->ρ 85=some (.fz (.str out))->out.length+6 * l.length+13<=lim->
  ∃ρ',eX ΓS (.name 86 tp) (fun ρ=>aO cF NN ΓS ρ sr) ρ (l.map fun c=>.str [c])=some (.nx ρ')/\ρ' 85=some (.fz (.str (out++cI k l)))
 |[],ρ,out,hN,h84,h85,hl=>⟨ρ,yP,by refine zF h85 ?_;simp[cI]⟩
 |c::l,ρ,out,hN,h84,h85,hl=>by
  replace hl:=AB▸hl;have hlen:=tR hk c;refine x13 (xH (c:=c) hk (hN.set 86 (.str [c])) ae (sN h84) (sN h85) (by lia)) fun ρ1 r1 N1 o1 u1=>?_;refine am (nV hk l (tp:=tp) N1 u1 o1 (by refine zF zM ?_;lia)) fun ρ2 r2 o2=>?_;refine⟨ρ2,tc (hN.mine rfl) r1 r2,?_⟩;refine zF o2 ?_;rw[Az, <-lU]
theorem kj {w:List Nat}{k:Nat}(hk:k < 5)(hw:w.length<=100):br.call 44 [.str w,.int k]=some (.str (cI k w)):=by
 refine bw (tx dE dB 0 cc) (Φ:=cF) rfl rfl rfl ?_;have N0:de (aw [76,83] [.str w,.int (k:Int)] fun _=>none):=mm;have N1:=N0.set 84 (.list ((tb k).map .str));have N2:=N1.set 85 (.str []);refine am (nV (tp:=(tpOf (cc.getD 2 kn))) hk w N2 (sN ae) ae (by show _<=1048576;simp;lia)) fun ρ3 r3 o3=>?_;refine aj (cn (d:=.list ((tb k).map .str)) ?_ (N0.mine rfl)) (aj (cn (aT (by decide)) (N1.mine rfl)) (aj (qL (ab (d:=.str w) rfl) rfl r3) (cm (dO (ab o3)))));rcases k5 hk with rfl|rfl|rfl|rfl|rfl<;>exact tm rfl (aC (aQ (ad (aT (by decide)) (ad (aT (by decide)) (ad (aT (by decide)) (ad (aT (by decide)) (ad (aT (by decide)) au))))) (by decide)) (ab rfl) rfl) (aT (by decide)) (by kernel_rfl)
end Mine
namespace Mine
section
variable {Φ:bq}{Γ:ah}{ρ:ac}{N:Nat}{d x y z:D}{p q r:Pos}
theorem e_cmp2 {a b e:E}{o1 o2:CmpOp}{c1 c2:Bool}(h1:ev Φ Γ ρ a=some (.d x))(h2:ev Φ Γ ρ b=some (.d y))(h3:ev Φ Γ ρ e=some (.d z))(k1:D.cmp o1 x y=some c1)(k2:D.cmp o2 y z=some c2):ev Φ Γ ρ (.cmp2 a o1 b o2 e p)=some (.d (.bool (c1&&c2))):=by
 refine zF nB<|zF h1<|zF h2<|zF h3 ?_;cases c1<;>simp[R.asB,k1,k2]
theorem y4 {op:DE}{es:List E}{r:R}(h:rS Φ Γ ρ op es=some r):ev Φ Γ ρ (.bop op es p)=some r:=by exact zF gn<|zF h rfl
theorem vOr {es:List E}{e:E}{b1 b2:Bool}(h:ev Φ Γ ρ e=some (.d (.bool b1)))(h2:rS Φ Γ ρ .Or es=some (.d (.bool b2)))(hn:es.isEmpty=false):rS Φ Γ ρ .Or (e::es)=some (.d (.bool (b1||b2))):=by
 cases b1 with
 |true=>exact sa h rfl
 |false=>exact sd h (by rw[hn];rfl) h2
theorem vAnd {es:List E}{e:E}{b1 b2:Bool}(h:ev Φ Γ ρ e=some (.d (.bool b1)))(h2:rS Φ Γ ρ .And es=some (.d (.bool b2)))(hn:es.isEmpty=false):rS Φ Γ ρ .And (e::es)=some (.d (.bool (b1&&b2))):=by
 cases b1 with
 |true=>exact sd h (by rw[hn];rfl) h2
 |false=>exact sa h rfl
end
theorem v5 {c:Nat}:br.call 45 [.str [c]]=some (.bool (qe.contains c)):=by
 refine bw (tx ew eg 0 eG) (Φ:=cF) rfl rfl rfl ?_;have N0:de (aw [86] [.str [c]] fun _=>none):=mm;refine aj (cn (ed (ab rfl) rfl (by decide) rfl) (N0.mine rfl)) (cm (dO (y4 ?_)));have c1:∀{a b:Int}{p1 p2 p3 p4:Pos}{ρ:ac},ρ 88=some (.fz (.int (c:Int)))->ev cF (aN eg 0) ρ (.cmp2 (.int a p1) .LtE (.name 88 p2) .LtE (.int b p3) p4)=some (.d (.bool (decide (a<=c)&&decide ((c:Int)<=b)))):=fun h=>e_cmp2 ak (ab h) ak rfl rfl;refine Dn (vOr (kB (ab ae) (db (ad ak (ad ak (ad ak (ad ak (ad ak (ad ak (ad ak au))))))) (by decide)) (v7 (c:Int) [32,35,36,38,45,46,63])) (vOr (c1 ae) (vOr (c1 ae) (vOr (c1 ae) (tP (c1 ae)) rfl) rfl) rfl) rfl) ?_;refine congrArg (fun b=>some (R.d (.bool b))) ?_;have:=yH c
 simpa using this
structure Fg where
 n:Bool
 a:List Nat
 z:List Nat
noncomputable def il (l:List Nat):D:=.list (l.map fun(i:Nat)=>.int (i:Int))
noncomputable def Fg.d (f:Fg):D:=.tup [.bool f.n,il f.a,il f.z]
noncomputable def Fg.or (f g:Fg):Fg:=⟨f.n||g.n,f.a++g.a,f.z++g.z⟩
theorem iH {l m:List Nat}(h:l.length+m.length<=lim):D.bin .Add (il l) (il m)=some (il (l++m)):=by
 show(if(l.map _++m.map _).length<=lim then _ else _)=_;refine Dn (if_pos (by simpa using h)) ?_;unfold il;rw[Br]
theorem mH {f g:Fg}(h1:f.a.length+g.a.length<=lim)(h2:f.z.length+g.z.length<=lim):br.call 49 [f.d,g.d]=some (f.or g).d:=by
 refine bw (tx dY fv 0 dZ) (Φ:=cF) rfl rfl rfl ?_;exact cm (dO (db (ad (y4 (vOr (aC (ab rfl) ak rfl) (tP (aC (ab rfl) ak rfl)) rfl)) (ad (bf (aC (ab rfl) ak rfl) (aC (ab rfl) ak rfl) (iH h1)) (ad (bf (aC (ab rfl) ak rfl) (aC (ab rfl) ak rfl) (iH h2)) au))) (zS rfl)))
end Mine
namespace Mine
theorem ud {n m:Nat}(h:m < n):eR n (m:Int)=some m:=by
 unfold eR;refine zF (if_pos (Ar m))<|zF (if_pos (BW.mpr h)) ?_
 rfl
theorem jK {l:List D}{m:Nat}{d:D}(h:l[m]?=some d):D.item (.list l) (.int (m:Int))=some d:=by
 show(eR l.length (m:Int)).bind (l[·]?)=_;exact zF (ud (Ap.mp h).1) h
theorem sX (l:List Int){m:Nat}(h:m < l.length):D.item (.list (l.map .int)) (.int (m:Int))=some (.int (l[m])):=
 jK (by refine zF AR ?_;exact zF (Am h) rfl)
theorem add_int {cs:List Int}{j:Nat}{y:Int}(h:j < cs.length):oM (cs.map .int) (.int (j:Int)) (.int y)=some ((cs.set j (cs[j]+y)).map .int):=by
 show(if 0<=(j:Int)/\(j:Int) < (cs.map D.int).length then((cs.map D.int)[(j:Int).toNat]?).bind fun z=>(tD z (.int y)).map fun w=>(cs.map D.int).set (j:Int).toNat w else none)=_;refine zF (if_pos ⟨Ar j,by refine zF (zX _) ?_;exact BW.mpr h⟩)<|zF (Co _)<|zF (AR)<|zF (Am h) ?_
 show some ((cs.map D.int).set j (.int (cs[j]+y)))=_;exact zF List.map_set rfl
theorem mod6 (m:Nat):D.bin .Mod (.int (m:Int)) (.int 6)=some (.int ((m % 6:Nat):Int)):=by
 show(if(0:Int) < 6 then some (D.int (Gm (m:Int) 6)) else none)=_;refine zF (if_pos (by decide))<|zF (Int.fmod_eq_emod_of_nonneg _ (by decide)) ?_
 rfl
theorem uM {Γ:ah}{x:Nat}{tp:Pos}{body:ac->Option gh}{I:Nat->ac->Prop}{n:Nat}(hm:∀i ρ,I i ρ->Γ.mine ρ x=true)(st:∀i,i < n->∀ρ,I i ρ->∃ρ',body (ρ.set x (.fz (.int (i:Int))))=some (.nx ρ')/\I (i+1) ρ'){ρ:ac}(h:I 0 ρ):
  ∃ρ',eX Γ (.name x tp) body ρ ((z6 n).map fun(i:Nat)=>.int (i:Int))=some (.nx ρ')/\I n ρ':=by
 have key:∀(k m:Nat) (ρ:ac),m+k=n->I m ρ->∃ρ',eX Γ (.name x tp) body ρ ((List.range' m k).map fun(i:Nat)=>.int (i:Int))=some (.nx ρ')/\I n ρ':=by
  intro k
  induction k with
  |zero=>intro m ρ e h;exact⟨ρ,yP,by refine zF (AM e) ?_;exact h⟩
  |succ k ih=>
   intro m ρ e h;refine am (st m (by lia) ρ h) fun ρ1 r1 h1=>?_;refine am (ih (m+1) ρ1 (by lia) h1) fun ρ2 r2 h2=>?_;refine zF List.range'_succ<|zF z8 ?_
   exact⟨ρ2,tc (hm _ _ h) r1 r2,h2⟩
 refine zF List.range_eq_range' ?_;exact key n 0 ρ (by lia) h
noncomputable abbrev ΓC:ah:=aN ej 0
theorem wC (l:List Int)(hl:l.length<=63):∃cs:List Int,cs.length=6/\br.call 42 [.list (l.map .int)]=some (.list (cs.map .int)):=by
 have N0:de (aw [82] [.list (l.map .int)] fun J=>none):=mm;have N1:=N0.setO 80 ([60,46,380,6,527,1].map D.int);obtain⟨ρ',r,hN,cs,k,hc,J⟩:=uM (Γ:=ΓC) (x:=81) (n:=l.length) (tp:=(qq 172 8 9)) (body:=fun ρ=>aO cF NN ΓC ρ (gQ (dH.getD 1 kn))) (I:=fun i ρ=>de ρ/\∃cs:List Int,ρ 80=some (.own (cs.map .int))/\cs.length=6/\ρ 82=some (.fz (.list (l.map .int))))
  (fun i ρ h=>h.1.mine rfl) (fun m hm ρ ⟨hN,cs,h82,hc,h84⟩=>by
   refine⟨_,aj (sA (sN h82) (bf (ab ae) ak (mod6 m)) (aC (ab (sN h84)) (ab ae) (sX l hm)) (add_int (by lia))) aH,(hN.set 81 _).setO 80 _,_,ae,Cv.trans hc,sN (sN h84)⟩) (ρ:=(aw [82] [.list (l.map .int)] fun J=>none).set 80 (.own ([60,46,380,6,527,1].map D.int))) ⟨N1,_,ae,rfl,rfl⟩
 refine⟨cs,hc,bw (tx eD ej 0 dH) (Φ:=cF) (Φ':=br) (tF:=tF1) rfl rfl rfl ?_⟩;exact aj (s_own (ad ak (ad ak (ad ak (ad ak (ad ak (ad ak au)))))) (N0.mine rfl) (by decide)) (aj (qL (fZ (n:=l.length) (ed (ab (d:=.list (l.map .int)) rfl) rfl (by decide) (by show some (D.int ((l.map D.int).length:Int))=_;exact zF (zX _) rfl)) rfl (by unfold lim;lia)) rfl r) (aj (nX k) (cm (dO (ab ae)))))
noncomputable def yd (z:Int) (m:Nat):Nat:=(Gm z (m:Int)).toNat
theorem jI {z:Int}{m:Nat}(hm:0 < m):yd z m < m:=
 have hm':(0:Int) < m:=Fm.mpr hm
 (F9 (Ga _ hm')).mpr (Int.fmod_lt_of_pos _ hm')
theorem jH {z:Int}{m:Nat}(hm:0 < m):D.bin .Mod (.int z) (.int (m:Int))=some (.int (yd z m:Int)):=by
 have hm':(0:Int) < m:=Fm.mpr hm;refine(if_pos hm':D.bin .Mod (.int z) (.int (m:Int))=some (.int (Gm z m))).trans ?_;exact congrArg (fun z:Int=>some (D.int z)) (GC (Ga _ hm')).symm
theorem yK {c m:Int}(h:0 < m/\m < 1073741824):D.bin .FloorDiv (.int c) (.int m)=some (.int (Gp c m)):=if_pos h
noncomputable def fg (c:Int)(b k:Nat):Int:=Gp c ((b ^ k:Nat):Int)
theorem uQ {c:Int}{b k:Nat}(hb:1<=b/\b<=12)(hk:k<=5){Φ:bq}{Γ:ah}{ρ:ac}{e:E}{n:Nat}{p1 p2 p3 p4:Pos}(he:ev Φ Γ ρ e=some (.d (.int c)))(hn:ρ n=some (.fz (.int (k:Int)))):ev Φ Γ ρ (.bin e .FloorDiv (.bin (.int (b:Int) p1) .Pow (.name n p2) p3) p4)=some (.d (.int (fg c b k))):=by
 have hpow:b ^ k < 1073741824:=Ay (zH (Nat.pow_le_pow_left hb.2 k) (Nat.pow_le_pow_right (by decide) hk)) (by decide);have hpos:0 < b ^ k:=Nat.pow_pos hb.1;have e1:D.bin .Pow (.int (b:Int)) (.int (k:Int))=some (.int ((b ^ k:Nat):Int)):=by
  refine(if_pos (c:=0<=(b:Int)/\(b:Int)<=16/\0<=(k:Int)/\(k:Int)<=16) ⟨Ar _,show(b:Int)<=((16:Nat):Int) from C5.mpr (zH hb.2 (by decide)),Ar _,show(k:Int)<=((16:Nat):Int) from C5.mpr (zH hk (by decide))⟩).trans ?_;exact zF (Co _)<|zF (Int.natCast_pow _ _) rfl
 exact bf he (bf ak (ab hn) e1) (if_pos ⟨Fm.mpr hpos,show((b ^ k:Nat):Int) < ((1073741824:Nat):Int) from BW.mpr hpow⟩)
theorem uZ {i:Int}(h:0<=i/\i < 55296):D.builtin 1 [.int i]=some (.str [i.toNat]):=by
 show(bltF 1).bind (fun g=>g (.int i))=_;exact if_pos h
theorem uY {c:Int}{Φ:bq}{Γ:ah}{ρ:ac}{e:E}{p1 p2 p3 p4:Pos}(hg:Γ 1=some .globalImplicit)(he:ev Φ Γ ρ e=some (.d (.int c))):ev Φ Γ ρ (.blt 1 [.bin e .Mod (.int 55296 p1) p2] p3 p4)=some (.d (.str [yd c 55296])):=by
 exact ed (bf he ak (jH (m:=55296) (by decide))) hg (by decide) (by refine(uZ ⟨Ar _,show(yd c 55296:Int) < ((55296:Nat):Int) from BW.mpr (jI (by decide))⟩).trans ?_;rfl)
theorem dK {a b:List Nat}(h:(a++b).length<=lim):D.bin .Add (.str a) (.str b)=some (.str (a++b)):=if_pos h
inductive Rx where
 |w (t:List Nat)
 |nd (a b:Rx) (alt star:Bool)
noncomputable def dN (c:Nat)(b:Bool):List Nat:=if b then[c] else[]
noncomputable def Rx.d:Rx->D
 |.w t=>.str t
 |.nd a b alt star=>.tup [a.d,b.d,.str (dN 124 alt),.str (dN 42 star)]
noncomputable def jy (a b:Nat):List (List Nat):=[[a],[b],[a,b],[],[38,108,116,59]]
noncomputable def dM (a b i:Nat):List Nat:=(jy a b).getD i []
theorem tO {a b i:Nat}(hi:i < 5):D.item (.list ((jy a b).map .str)) (.int (i:Int))=some (.str (dM a b i)):=by
 refine jK ?_
 match i with
 |0=>rfl
 |1=>rfl
 |2=>rfl
 |3=>rfl
 |4=>rfl
 |i+5=>lia
theorem gi {a b i:Nat}:(dM a b i).length<=4:=by
 match i with
 |0=>exact(by decide:1<=4)
 |1=>exact(by decide:1<=4)
 |2=>exact(by decide:2<=4)
 |3=>exact(by decide:0<=4)
 |4=>exact(by decide:4<=4)
 |i+5=>exact Ae _
theorem qS {c i:Nat}(hi:i < 2):D.item (.list [.str [],.str [c]]) (.int (i:Int))=some (.str (dN c (i==1))):=by
 refine jK ?_
 match i with
 |0=>rfl
 |1=>rfl
 |i+2=>lia
noncomputable def bN (a b:Nat)(f:Nat->Nat)(g h:Nat->Bool):Rx:=
 .nd (.nd (.w (dM a b (f 0))) (.w (dM a b (f 1))) (g 0) (h 0)) (.nd (.w (dM a b (f 2))) (.w (dM a b (f 3))) (g 1) (h 1)) (g 2) (h 2)
theorem xg (l:List (List Nat)):(l.map D.str).mapM D.str?=some l:=by
 induction l with
 |nil=>rfl
 |cons a l ih=>(refine zF z8 ?_;rw[CC];refine zF ih ?_);rfl
theorem join_ev {l:List (List Nat)}(h:2<=l.length)(h2:l.flatten.length<=lim):D.mjoin (.str []) (.list (l.map .str))=some (.str l.flatten):=by
 show((l.map D.str).mapM D.str?).bind (fun ls=>if([]:List Nat)=[]/\2<=ls.length/\ls.flatten.length<=lim then some (D.str ls.flatten) else none)=_;refine zF (xg l) ?_;exact if_pos ⟨rfl,h,h2⟩
noncomputable abbrev ΓDr:ah:=aN ei 0
theorem ww {cs:List Int}(hc:cs.length=6):∃a b f g h,∃w:List Nat,w.length<=16/\br.call 46 [.list (cs.map .int)]=some (.tup [(bN a b f g h).d,.str w]):=by
 have ct:∀{n:Nat}(hn:n < cs.length){Γ:ah}{ρ:ac}{p1 p2 p3:Pos},ρ 80=some (.fz (.list (cs.map .int)))->ev cF Γ ρ (.idx (.name 80 p1) (.int (n:Int) p2) p3)=some (.d (.int cs[n])):=fun{n} hn {Γ ρ p1 p2 p3} h=>aC (ab h) ak (sX cs hn);have N0:de (aw [80] [.list (cs.map .int)] fun J=>none):=mm
 let a:=yd cs[0] 55296
 let b:=yd cs[1] 55296
 let f:Nat->Nat:=fun k=>yd (fg cs[2] 5 k) 5
 let g:Nat->Bool:=fun k=>yd (fg cs[3] 4 k) 2==1
 let h:Nat->Bool:=fun k=>yd (Gp (fg cs[3] 4 k) 2) 2==1
 let q:Nat->Nat:=fun k=>yd (fg cs[4] 5 k) 5
 let ρ1:=((aw [80] [.list (cs.map .int)] fun J=>none).set 89 (.fz (.str [a]))).set 90 (.fz (.str [b]))
 have N1:de ρ1:=(N0.set _ _).set _ _
 let ρ2:=ρ1.set 91 (.fz (.list ((jy a b).map .str)))
 have N2:de ρ2:=N1.set _ _
 let ρ3:=ρ2.set 92 (.fz (.list ((z6 4).map fun k=>.str (dM a b (f k)))))
 have N3:de ρ3:=N2.set _ _
 let ρ4:=ρ3.set 94 (.fz (.list ((z6 3).map fun k=>.str (dN 124 (g k)))))
 have N4:de ρ4:=N3.set _ _
 let ρ5:=ρ4.set 95 (.fz (.list ((z6 3).map fun k=>.str (dN 42 (h k)))))
 have N5:de ρ5:=N4.set _ _;have lf:ev cF ΓDr ρ2 (yR (bY.getD 2 kn))=some (.d (.list ((z6 4).map fun k=>.str (dM a b (f k))))):=
  f3 (l:=z6 4) (c:=fun(k:Nat)=>.int (k:Int)) (by rfl) (fZ (n:=4) ak rfl (by decide)) rfl (by rfl) (fun k hk=>aC (ab (d:=.list ((jy a b).map .str)) rfl) (bf (uQ (b:=5) (by decide) (BV (BU (BH.mp hk) (by decide))) (ct (n:=2) (by refine zF hc ?_;decide) rfl) ae) ak (jH (m:=5) (by decide))) (tO (jI (by decide)))) (by decide)
 have wy:ev cF ΓDr ρ3 (yR (bY.getD 3 kn))=some (.d (.list ((z6 3).map fun k=>.str (dN 124 (g k))))):=
  f3 (l:=z6 3) (c:=fun(k:Nat)=>.int (k:Int)) (by rfl) (fZ (n:=3) ak rfl (by decide)) rfl (by rfl) (fun k hk=>aC (aQ (ad (aT (by decide)) (ad (aT (by decide)) au)) (by decide)) (bf (uQ (b:=4) (by decide) (BV (BU (BH.mp hk) (by decide))) (ct (n:=3) (by refine zF hc ?_;decide) rfl) ae) ak (jH (m:=2) (by decide))) (qS (jI (by decide)))) (by decide)
 have ag:ev cF ΓDr ρ4 (yR (bY.getD 4 kn))=some (.d (.list ((z6 3).map fun k=>.str (dN 42 (h k))))):=
  f3 (l:=z6 3) (c:=fun(k:Nat)=>.int (k:Int)) (by rfl) (fZ (n:=3) ak rfl (by decide)) rfl (by rfl) (fun k hk=>aC (aQ (ad (aT (by decide)) (ad (aT (by decide)) au)) (by decide)) (bf (bf (uQ (b:=4) (by decide) (BV (BU (BH.mp hk) (by decide))) (ct (n:=3) (by refine zF hc ?_;decide) rfl) ae) ak (yK (by decide))) ak (jH (m:=2) (by decide))) (qS (jI (by decide)))) (by decide)
 let wl:List (List Nat):=(z6 4).map fun k=>dM a b (q k)
 have hw:wl.flatten.length<=16:=by
  show(dM a b (q 0)++(dM a b (q 1)++(dM a b (q 2)++(dM a b (q 3)++[])))).length<=16;have h0:=gi (a:=a) (b:=b) (i:=q 0);have h1:=gi (a:=a) (b:=b) (i:=q 1);have h2:=gi (a:=a) (b:=b) (i:=q 2);have h3:=gi (a:=a) (b:=b) (i:=q 3);simp only[zM,Cw];lia
 refine⟨a,b,f,g,h,wl.flatten,hw,bw (tx ey ei 0 bY) (Φ:=cF) (Φ':=br) (tF:=tF1) rfl rfl rfl ?_⟩;have w3:D.bin .Add (.str [a]) (.str [b])=some (.str [a,b]):=dK (a:=[a]) (b:=[b]) sR;have c92:ρ5 92=some (.fz (.list ((z6 4).map fun k=>.str (dM a b (f k))))):=rfl;have c94:ρ5 94=some (.fz (.list ((z6 3).map fun k=>.str (dN 124 (g k))))):=rfl;have c95:ρ5 95=some (.fz (.list ((z6 3).map fun k=>.str (dN 42 (h k))))):=rfl;have tr:ev cF ΓDr ρ5 (yR (bY.getD 5 kn))=some (.d (bN a b f g h).d):=
  db (ad (db (ad (aC (ab c92) ak rfl) (ad (aC (ab c92) ak rfl) (ad (aC (ab c94) ak rfl) (ad (aC (ab c95) ak rfl) au)))) (zS rfl)) (ad (db (ad (aC (ab c92) ak rfl) (ad (aC (ab c92) ak rfl) (ad (aC (ab c94) ak rfl) (ad (aC (ab c95) ak rfl) au)))) (zS rfl)) (ad (aC (ab c94) ak rfl) (ad (aC (ab c95) ak rfl) au)))) (zS rfl)
 have jn:D.method (.str []) 12 [.list (wl.map .str)]=some (.str wl.flatten):=by
  exact join_ev (l:=wl) (zS rfl) (zH hw (by decide))
 exact aj (fO (jf (uY rfl (ct (n:=0) (by refine zF hc ?_;decide) rfl)) (jf (uY rfl (ct (n:=1) (by refine zF hc ?_;decide) rfl)) je)) rfl rfl (by decide) (N0.all rfl) sR)
  (aj (cn (d:=.list ((jy a b).map .str)) (aQ (ad (ab rfl) (ad (ab rfl) (ad (bf (ab (d:=.str [a]) rfl) (ab (d:=.str [b]) rfl) w3) (ad (aT (by decide)) (ad (aT (by decide)) au))))) (zS rfl)) (N1.mine rfl))
   (aj (cn lf (N2.mine rfl)) (aj (cn wy (N3.mine rfl)) (aj (cn ag (N4.mine rfl)) (aj (cn tr (N5.mine rfl)) (cm (dO (db (ad (ab ae) (ad (tm rfl (aT (by decide))
    (f3 (l:=z6 4) (c:=fun(k:Nat)=>.int (k:Int)) (k:=fun k=>.str (dM a b (q k))) (by rfl) (fZ (n:=4) ak rfl (by decide)) rfl (by rfl) (fun k hk=>aC (ab (d:=.list ((jy a b).map .str)) rfl) (bf (uQ (b:=5) (by decide) (BV (BU (BH.mp hk) (by decide))) (ct (n:=4) (by refine zF hc ?_;decide) rfl) ae) ak (jH (m:=5) (by decide))) (tO (jI (by decide)))) (by decide)) jn) au)) (zS rfl)))))))))
end Mine
namespace Mine
noncomputable abbrev LP:=List (Nat×Nat)
noncomputable abbrev oO:=List Nat->Prop
noncomputable def Rd (S:LP)(L:List Nat):Nat->List Nat->Nat->Prop
 |q,[],e=>q=e
 |q,c::v,e=>∃p,(q,p)∈S/\L[p]?=some c/\Rd S L p v e
noncomputable def tM (S:LP)(L:List Nat)(f:Fg):oO
 |[]=>f.n=true
 |c::v=>∃p,p∈f.a/\L[p]?=some c/\∃e,e∈f.z/\Rd S L p v e
noncomputable def tK (A B:oO):oO:=fun u=>∃u1 u2,u=u1++u2/\A u1/\B u2
inductive Str (A:oO):oO
 |nil:Str A []
 |cons (u1 u2:List Nat) (h:A u1) (h2:Str A u2):Str A (u1++u2)
noncomputable def Lg (k:Nat):Rx->oO
 |.w t=>fun u=>u=cI k t
 |.nd a b alt star=>if star then Str (if alt then fun u=>Lg k a u\/Lg k b u else tK (Lg k a) (Lg k b)) else if alt then fun u=>Lg k a u\/Lg k b u else tK (Lg k a) (Lg k b)
noncomputable def cj (z a:List Nat):LP:=z.flatMap fun q=>a.map fun p=>(q,p)
theorem bH {z a:List Nat}{x:Nat×Nat}:x∈cj z a↔x.1∈z/\x.2∈a:=by
 unfold cj;rw[De]
 constructor
 ·rintro⟨q,h1,h2⟩
  obtain⟨p,h3,h4⟩:=Ac.mp h2;exact h4▸⟨h1,h3⟩
 ·rintro⟨h1,h2⟩
  exact⟨x.1,h1,Ac.mpr ⟨x.2,h2,rfl⟩⟩
structure Mc where
 L:List Nat
 S:LP
 r:Fg
noncomputable def Mc.cat (m:Mc)(f:Fg):Mc:=⟨m.L,m.S++cj m.r.z f.a,⟨m.r.n&&f.n,m.r.a++(if m.r.n then f.a else[]),f.z++(if f.n then m.r.z else[])⟩⟩
noncomputable def Mc.sign (m:Mc) (c:Nat):Mc:=Mc.cat ⟨m.L++[c],m.S,m.r⟩ ⟨false,[m.L.length],[m.L.length]⟩
noncomputable def e0:Fg:=⟨false,[],[]⟩
noncomputable def e1:Fg:=⟨true,[],[]⟩
noncomputable def Mc.fresh (m:Mc):Mc:=⟨m.L,m.S,e1⟩
noncomputable def Mc.shut (m m2:Mc)(f:Fg)(star:Bool):Mc:=Mc.cat ⟨m2.L,if star then m2.S++cj f.z f.a else m2.S,m.r⟩ ⟨star||f.n,f.a,f.z⟩
noncomputable def Rx.mc (k:Nat):Rx->Mc->Mc
 |.w t,m=>(cI k t).foldl Mc.sign m
 |.nd a b alt star,m=>
  let m1:=a.mc k m.fresh
  if alt then let m2:=b.mc k m1.fresh;m.shut m2 ((e0.or m1.r).or m2.r) star
  else let m2:=b.mc k m1;m.shut m2 (e0.or m2.r) star
section
variable {S S':LP}{L L':List Nat}{n:Nat}
theorem n7 (h1:∀x∈S,x∈S')(h2:∀x∈S',n<=x.1->x∈S/\n<=x.2):∀(v:List Nat)(p e:Nat),n<=p->(Rd S' L p v e↔Rd S L p v e)
 |[],p,e,hp=>Er
 |c::v,p,e,hp=>
  ⟨fun⟨q,a,b,d⟩=>⟨q,(h2 _ a hp).1,b,(n7 h1 h2 v q e (h2 _ a hp).2).mp d⟩,fun⟨q,a,b,d⟩=>⟨q,h1 _ a,b,(n7 h1 h2 v q e (h2 _ (h1 _ a) hp).2).mpr d⟩⟩
theorem i5 (h2:∀x∈S,n<=x.1->n<=x.2):∀(v:List Nat)(p e:Nat),n<=p->Rd S L p v e->n<=e
 |[],p,e,hp,h=>Eq.subst (show p=e from h) hp
 |c::v,p,e,hp,⟨q,a,b,d⟩=>i5 h2 v q e (h2 _ a hp) d
theorem un (hL:∀p,p < n->L'[p]?=L[p]?)(h1:∀x∈S,x∈S'/\x.2 < n)(h2:∀x∈S',x∈S\/n<=x.2)(h3:∀x∈S',n<=x.1->n<=x.2):∀(v:List Nat)(p e:Nat),e < n->(Rd S' L' p v e↔Rd S L p v e)
 |[],p,e,he=>Er
 |c::v,p,e,he=>
  ⟨fun⟨q,a,b,d⟩=>(h2 _ a).elim (fun a=>⟨q,a,(hL q (h1 _ a).2).symm.trans b,(un hL h1 h2 h3 v q e he).mp d⟩) fun hq=>absurd (i5 h3 v q e hq d) (E3 he),
   fun⟨q,a,b,d⟩=>⟨q,(h1 _ a).1,(hL q (h1 _ a).2).trans b,(un hL h1 h2 h3 v q e he).mpr d⟩⟩
theorem mf {z a:List Nat}{S1:LP}(hL:∀p,p < n->L'[p]?=L[p]?)(h1:∀x∈S,x∈S'/\x.2 < n)(h2:∀x∈S',x.1 < n->x∈S\/(x.1∈z/\x.2∈a))(h3:∀x∈S',n<=x.1->x∈S1/\n<=x.2)(h4:∀x∈S1,x∈S')(h5:∀q∈z,∀p∈a,(q,p)∈S')(ha:∀p∈a,n<=p):
  ∀(v:List Nat) (p e:Nat),p < n->n<=e->(Rd S' L' p v e↔∃v1 c v2 x y,v=v1++c::v2/\Rd S L p v1 x/\x∈z/\y∈a/\L'[y]?=some c/\Rd S1 L' y v2 e)
 |[],p,e,hp,he=>⟨fun h=>absurd he (E3 ((show p=e from h)▸hp)),fun⟨v1,c,v2,x,y,e1,_⟩=>absurd e1 (by simp)⟩
 |c::v,p,e,hp,he=>by
  constructor
  ·rintro⟨q,h,b,d⟩
   rcases h2 _ h hp with h6|⟨h6,h7⟩
   ·have hq:=(h1 _ h6).2
    obtain⟨v1,c1,v2,x,y,ev,g1,g2,g3,g4,g5⟩:=(mf hL h1 h2 h3 h4 h5 ha v q e hq he).mp d;exact⟨c::v1,c1,v2,x,y,by rw[ev];rfl,⟨q,h6,(hL q hq).symm.trans b,g1⟩,g2,g3,g4,g5⟩
   ·exact⟨[],c,v,p,q,rfl,rfl,h6,h7,b,(n7 h4 h3 v q e (ha q h7)).mp d⟩
  ·rintro⟨v1,c1,v2,x,y,ev,g1,g2,g3,g4,g5⟩
   cases v1 with
   |nil=>
    obtain⟨rfl,rfl⟩:=AN ev;obtain rfl:p=x:=g1;exact⟨y,h5 p g2 y g3,g4,(n7 h4 h3 v y e (ha y g3)).mpr g5⟩
   |cons c2 v1=>
    obtain⟨rfl,ev2⟩:=AN ev;obtain⟨q,a1,a2,a3⟩:=g1;have hq:=(h1 _ a1).2;exact⟨q,(h1 _ a1).1,(hL q hq).trans a2,(mf hL h1 h2 h3 h4 h5 ha v q e hq he).mpr ⟨v1,c1,v2,x,y,ev2,a3,g2,g3,g4,g5⟩⟩
end
structure Mc.Ok (m:Mc):Prop where
 s:∀x∈m.S,x.1 < m.L.length/\x.2 < m.L.length
 a:∀p∈m.r.a,p < m.L.length
 z:∀p∈m.r.z,p < m.L.length
structure Ex (m m':Mc)(A:oO):Prop where
 ok:m'.Ok
 L:m.L <+: m'.L
 S1:∀x∈m.S,x∈m'.S
 S2:∀x∈m'.S,x∈m.S\/(m.L.length<=x.2/\(x.1∈m.r.z\/m.L.length<=x.1))
 a:∀p∈m'.r.a,p∈m.r.a\/m.L.length<=p
 z:∀p∈m'.r.z,p∈m.r.z\/m.L.length<=p
 acc:∀u,tM m'.S m'.L m'.r u↔tK (tM m.S m.L m.r) A u
theorem cat_nil (A:oO)(u:List Nat):tK A (fun v=>v=[]) u↔A u:=
 ⟨fun⟨u1,u2,e,h1,h2⟩=>by subst h2;rw[AF] at e;exact e▸h1,fun h=>⟨u,[],(AF u).symm,h,rfl⟩⟩
theorem wE (A B C:oO)(u:List Nat):tK (tK A B) C u↔tK A (tK B C) u:=
 ⟨fun⟨_,u3,e,⟨u1,u2,e2,h1,h2⟩,h3⟩=>⟨u1,u2++u3,by rw[e,e2,Az],h1,u2,u3,rfl,h2,h3⟩,fun⟨u1,_,e,h1,u2,u3,e2,h2,h3⟩=>⟨u1++u2,u3,by rw[e,e2,Az],⟨u1,u2,rfl,h1,h2⟩,h3⟩⟩
theorem jR {A A' B B':oO}(h:∀u,A u↔A' u)(h2:∀u,B u↔B' u)(u:List Nat):tK A B u↔tK A' B' u:=
 ⟨fun⟨u1,u2,e,a,b⟩=>⟨u1,u2,e,(h _).mp a,(h2 _).mp b⟩,fun⟨u1,u2,e,a,b⟩=>⟨u1,u2,e,(h _).mpr a,(h2 _).mpr b⟩⟩
theorem Ex.refl {m:Mc}(h:m.Ok):Ex m m (fun u=>u=[]):=⟨h,List.prefix_refl _,fun _ h=>h,fun _ h=>.inl h,fun _ h=>.inl h,fun _ h=>.inl h,fun u=>(cat_nil _ _).symm⟩
theorem Ex.trans {m m1 m2:Mc}{A B:oO}(h:Ex m m1 A)(k:Ex m1 m2 B):Ex m m2 (tK A B):=by
 have hl:=h.L.length_le;refine⟨k.ok,h.L.trans k.L,fun x hx=>k.S1 x (h.S1 x hx),fun x hx=>?_,fun p hp=>(k.a p hp).elim (h.a p) fun q=>.inr (zH hl q),fun p hp=>(k.z p hp).elim (h.z p) fun q=>.inr (zH hl q),fun u=>?_⟩
 ·rcases k.S2 x hx with q|⟨q1,q2⟩
  ·exact h.S2 x q
  ·exact .inr ⟨zH hl q1,q2.elim (h.z _) fun q=>.inr (zH hl q)⟩
 ·exact(k.acc u).trans ((jR h.acc (fun _=>Er) u).trans (wE _ _ _ u))
theorem Ex.lan {m m':Mc}{A B:oO}(h:Ex m m' A)(k:∀u,A u↔B u):Ex m m' B:={ h with acc:=fun u=>(h.acc u).trans (jR (fun _=>Er) k u) }
theorem fR {l m:List Nat}(h:l <+: m) (p:Nat)(hp:p < l.length):m[p]?=l[p]?:=by
 obtain⟨r,rfl⟩:=h;exact DG hp
theorem tz {m:Mc}(h:m.Ok){L':List Nat}{S':LP}{f:Fg}{A:oO}(hL:m.L <+: L')(s1:∀x∈m.S,x∈S')(s2:∀x∈S',x∈m.S\/(m.L.length<=x.2/\m.L.length<=x.1/\x.1 < L'.length/\x.2 < L'.length))(fa:∀p∈f.a,m.L.length<=p/\p < L'.length)(fz:∀p∈f.z,m.L.length<=p/\p < L'.length)
  (acc:∀u,tM S' L' f u↔A u):Ex m (Mc.cat ⟨L',S',m.r⟩ f) A:=by
 have hl:=hL.length_le;have key:∀u,tM (S'++cj m.r.z f.a) L' (Mc.cat ⟨L',S',m.r⟩ f).r u↔tK (tM m.S m.L m.r) (tM S' L' f) u:=by
  intro u;have b1:∀x∈m.S,x∈S'++cj m.r.z f.a/\x.2 < m.L.length:=fun x hx=>⟨Ai _ (s1 x hx),(h.s x hx).2⟩;have b3:∀x∈S'++cj m.r.z f.a,m.L.length<=x.1->x∈S'/\m.L.length<=x.2:=fun x hx hn=>by
   rcases z7.mp hx with q|q
   ·exact⟨q,(s2 x q).elim (fun q=>absurd (h.s x q).1 (Ca hn)) (·.1)⟩
   ·exact absurd (h.z _ (bH.mp q).1) (Ca hn)
  have b2:∀x∈S'++cj m.r.z f.a,x∈m.S\/m.L.length<=x.2:=fun x hx=>(z7.mp hx).elim (fun q=>(s2 x q).imp_right (·.1)) fun q=>.inr (fa _ (bH.mp q).2).1;have b4:∀x∈S'++cj m.r.z f.a,x.1 < m.L.length->x∈m.S\/(x.1∈m.r.z/\x.2∈f.a):=fun x hx hn=>(z7.mp hx).elim (fun q=>.inl ((s2 x q).elim id fun q=>absurd hn (Ca q.2.1))) fun q=>.inr (bH.mp q);have lo:=un (L:=m.L) (L':=L') (fR hL) b1 b2 (fun x hx hn=>(b3 x hx hn).2);have up:=n7 (L:=L') (S:=S') (S':=S'++cj m.r.z f.a) (n:=m.L.length) (fun x hx=>Ai _ hx) b3;have cr:=mf (L:=m.L) (L':=L') (S1:=S') (z:=m.r.z) (a:=f.a) (fR hL) b1 b4 b3 (fun x hx=>Ai _ hx) (fun q hq p hp=>AI _ (bH.mpr ⟨hq,hp⟩)) fun p hp=>(fa p hp).1
  cases u with
  |nil=>
   constructor
   ·intro g
    obtain⟨g1,g2⟩:=As.mp (show(m.r.n&&f.n)=true from g);exact⟨[],[],rfl,g1,g2⟩
   ·rintro⟨u1,u2,e,g1,g2⟩
    obtain⟨rfl,rfl⟩:=List.append_eq_nil_iff.mp e.symm;exact As.mpr ⟨g1,g2⟩
  |cons c v=>
   constructor
   ·rintro⟨p,hp,hc,e,he,g⟩
    have hp:p∈m.r.a++(if m.r.n then f.a else[]):=hp;have he:e∈f.z++(if f.n then m.r.z else[]):=he;rcases z7.mp hp with hp|hp<;>rcases z7.mp he with he|he
    ·obtain⟨v1,c1,v2,x,y,ev,g1,g2,g3,g4,g5⟩:=(cr v p e (h.a p hp) (fz e he).1).mp g
     exact⟨c::v1,c1::v2,by rw[ev];rfl,⟨p,hp,(fR hL p (h.a p hp)).symm.trans hc,x,g2,g1⟩,y,g3,g4,e,he,g5⟩
    ·cases hn:f.n with
     |false=>rw[hn] at he;exact aG he
     |true=>
      rw[hn] at he;exact⟨c::v,[],(AF _).symm,⟨p,hp,(fR hL p (h.a p hp)).symm.trans hc,e,he,(lo v p e (h.z e he)).mp g⟩,hn⟩
    ·cases hn:m.r.n with
     |false=>rw[hn] at hp;exact aG hp
     |true=>
      rw[hn] at hp;exact⟨[],c::v,rfl,hn,p,hp,hc,e,he,(up v p e (fa p hp).1).mp g⟩
    ·cases hn:m.r.n with
     |false=>rw[hn] at hp;exact aG hp
     |true=>
      cases hn2:f.n with
      |false=>rw[hn2] at he;exact aG he
      |true=>
       rw[hn] at hp;rw[hn2] at he;exact absurd (i5 (fun x hx hn=>(b3 x hx hn).2) v p e (fa p hp).1 g) (E3 (h.z e he))
   ·rintro⟨u1,u2,e,g1,g2⟩
    cases u1 with
    |nil=>
     subst e;obtain⟨p,hp,hc,e,he,g⟩:=g2;have hn:m.r.n=true:=g1;exact⟨p,AI _ (by rw[if_pos hn];exact hp),hc,e,Ai _ he,(up v p e (fa p hp).1).mpr g⟩
    |cons c1 v1=>
     obtain⟨rfl,ev⟩:=AN e;obtain⟨p,hp,hc,x,hx,g⟩:=g1;have hp':=h.a p hp
     cases u2 with
     |nil=>
      obtain rfl:v=v1:=ev.trans (AF v1);exact⟨p,Ai _ hp,(fR hL p hp').trans hc,x,AI _ (by rw[if_pos (show f.n=true from g2)];exact hx),(lo v p x (h.z x hx)).mpr g⟩
     |cons c2 v2=>
      obtain⟨y,hy,hc2,e,he,g'⟩:=g2;exact⟨p,Ai _ hp,(fR hL p hp').trans hc,e,Ai _ he,(cr v p e hp' (fz e he).1).mpr ⟨v1,c2,v2,x,y,ev,g,hx,hy,hc2,g'⟩⟩
 refine⟨⟨fun x hx=>?_,fun p hp=>?_,fun p hp=>?_⟩,hL,fun x hx=>Ai _ (s1 x hx),fun x hx=>?_,fun p hp=>?_,fun p hp=>?_,fun u=>(key u).trans (jR (fun _=>Er) acc u)⟩
 ·rcases z7.mp hx with q|q
  ·exact(s2 x q).elim (fun q=>⟨zI (h.s x q).1 hl,zI (h.s x q).2 hl⟩) fun q=>q.2.2
  ·exact⟨zI (h.z _ (bH.mp q).1) hl,(fa _ (bH.mp q).2).2⟩
 ·rcases z7.mp hp with q|q
  ·exact zI (h.a p q) hl
  ·cases hn:m.r.n with
   |false=>rw[show(Mc.mk L' S' m.r).r.n=false from hn] at q;exact aG q
   |true=>rw[show(Mc.mk L' S' m.r).r.n=true from hn] at q;exact(fa p q).2
 ·rcases z7.mp hp with q|q
  ·exact(fz p q).2
  ·cases hn:f.n with
   |false=>rw[hn] at q;exact aG q
   |true=>rw[hn] at q;exact zI (h.z p q) hl
 ·rcases z7.mp hx with q|q
  ·exact(s2 x q).imp_right fun q=>⟨q.1,.inr q.2.1⟩
  ·exact .inr ⟨(fa _ (bH.mp q).2).1,.inl (bH.mp q).1⟩
 ·rcases z7.mp hp with q|q
  ·exact .inl q
  ·cases hn:m.r.n with
   |false=>rw[show(Mc.mk L' S' m.r).r.n=false from hn] at q;exact aG q
   |true=>rw[show(Mc.mk L' S' m.r).r.n=true from hn] at q;exact .inr (fa p q).1
 ·rcases z7.mp hp with q|q
  ·exact .inr (fz p q).1
  ·cases hn:f.n with
   |false=>rw[hn] at q;exact aG q
   |true=>rw[hn] at q;exact .inl q
end Mine
namespace Mine
section
variable {S S':LP}{L L':List Nat}{n:Nat}{f g:Fg}
theorem xP (h2:∀x∈S,x.1 < n->x.2 < n):∀(v:List Nat)(p e:Nat),p < n->Rd S L p v e->e < n
 |[],p,e,hp,h=>(show p=e from h)▸hp
 |c::v,p,e,hp,⟨q,a,b,d⟩=>xP h2 v q e (h2 _ a hp) d
theorem acc_or (h1:∀x∈S,x.1 < n->x.2 < n)(h2:∀x∈S,n<=x.1->n<=x.2)(a1:∀p∈f.a,p < n)(z1:∀p∈f.z,p < n)(a2:∀p∈g.a,n<=p)(z2:∀p∈g.z,n<=p)(u:List Nat):tM S L (f.or g) u↔tM S L f u\/tM S L g u:=by
 cases u with
 |nil=>exact(show(f.n||g.n)=true↔_ from Dt)
 |cons c v=>
  constructor
  ·rintro⟨p,hp,hc,e,he,k⟩
   rcases z7.mp (show p∈f.a++g.a from hp) with hp|hp
   ·have hz:=xP h1 v p e (a1 p hp) k
    exact .inl ⟨p,hp,hc,e,(z7.mp (show e∈f.z++g.z from he)).elim id fun q=>absurd hz (Ca (z2 e q)),k⟩
   ·have hz:=i5 h2 v p e (a2 p hp) k
    exact .inr ⟨p,hp,hc,e,(z7.mp (show e∈f.z++g.z from he)).elim (fun q=>absurd (z1 e q) (Ca hz)) id,k⟩
  ·rintro(⟨p,hp,hc,e,he,k⟩|⟨p,hp,hc,e,he,k⟩)
   ·exact⟨p,Ai _ hp,hc,e,Ai _ he,k⟩
   ·exact⟨p,AI _ hp,hc,e,AI _ he,k⟩
theorem xQ:∀(v:List Nat)(p x q c:Nat)(w:List Nat) (e:Nat),Rd S L p v x->(x,q)∈S->L[q]?=some c->Rd S L q w e->Rd S L p (v++c::w) e
 |[],p,x,q,c,w,e,h,a,b,d=>⟨q,(show p=x from h)▸a,b,d⟩
 |c1::v,p,x,q,c,w,e,⟨y,h1,h2,h3⟩,a,b,d=>⟨y,h1,h2,xQ v y x q c w e h3 a b d⟩
theorem um (h:∀x∈S,x∈S'):∀(v:List Nat)(p e:Nat),Rd S L p v e->Rd S' L p v e
 |[],p,e,k=>k
 |c::v,p,e,⟨q,a,b,d⟩=>⟨q,h _ a,b,um h v q e d⟩
theorem nR:∀(v:List Nat)(p e:Nat),e∈f.z->Rd (S++cj f.z f.a) L p v e->∃v1 v2 x,v=v1++v2/\x∈f.z/\Rd S L p v1 x/\Str (tM S L f) v2
 |[],p,e,he,h=>⟨[],[],e,rfl,he,h,.nil⟩
 |c::v,p,e,he,⟨q,a,b,d⟩=>by
  obtain⟨v1,v2,x,h1,h2,h3,h4⟩:=nR v q e he d;rcases z7.mp a with a|a
  ·exact⟨c::v1,v2,x,by rw[h1];rfl,h2,⟨q,a,b,h3⟩,h4⟩
  ·have a:=bH.mp a
   exact⟨[],c::v,p,rfl,a.1,rfl,by rw[h1];exact .cons (c::v1) v2 ⟨q,a.2,b,x,h2,h3⟩ h4⟩
theorem acc_str (u:List Nat):tM (S++cj f.z f.a) L ⟨true,f.a,f.z⟩ u↔Str (tM S L f) u:=by
 constructor
 ·cases u with
  |nil=>exact fun _=>.nil
  |cons c v=>
   rintro⟨p,hp,hc,e,he,k⟩;obtain⟨v1,v2,x,h1,h2,h3,h4⟩:=nR (f:=f) v p e he k;rw[h1];exact .cons (c::v1) v2 ⟨p,hp,hc,x,h2,h3⟩ h4
 ·intro h
  induction h with
  |nil=>exact rfl
  |cons u1 u2 h h2 ih=>
   cases u1 with
   |nil=>exact ih
   |cons c v1=>
    obtain⟨p,hp,hc,x,hx,k⟩:=h;have k:=um (fun y hy=>Ai (cj f.z f.a) hy) v1 p x k
    cases u2 with
    |nil=>exact⟨p,hp,hc,x,hx,Eq.mpr (congrArg (fun v=>Rd _ _ p v x) (AF v1)) k⟩
    |cons c2 v2=>
     obtain⟨q,hq,hc2,e,he,k2⟩:=ih;exact⟨p,hp,hc,e,he,xQ v1 p x q c2 v2 e k (AI _ (bH.mpr ⟨hx,hq⟩)) hc2 k2⟩
theorem nS {A B:oO}(h:∀u,A u->B u){u:List Nat}(k:Str A u):Str B u:=by
 induction k with
 |nil=>exact .nil
 |cons u1 u2 a b ih=>exact .cons u1 u2 (h _ a) ih
end
theorem ua {m m2:Mc}(h:m.Ok){f:Fg}{A:oO}(star:Bool)(hL:m.L <+: m2.L)(s1:∀x∈m.S,x∈m2.S)(s2:∀x∈m2.S,x∈m.S\/(m.L.length<=x.2/\m.L.length<=x.1/\x.1 < m2.L.length/\x.2 < m2.L.length))(fa:∀p∈f.a,m.L.length<=p/\p < m2.L.length)(fz:∀p∈f.z,m.L.length<=p/\p < m2.L.length)
  (acc:∀u,tM m2.S m2.L f u↔A u):Ex m (m.shut m2 f star) (if star then Str A else A):=by
 cases star with
 |false=>exact tz (f:=f) h hL s1 s2 fa fz acc
 |true=>
  refine tz (f:=⟨true,f.a,f.z⟩) h hL (fun x hx=>Ai _ (s1 x hx)) (fun x hx=>?_) fa fz fun u=>?_
  ·rcases z7.mp hx with q|q
   ·exact s2 x q
   ·have q:=bH.mp q
    exact .inr ⟨(fa _ q.2).1,(fz _ q.1).1,(fz _ q.1).2,(fa _ q.2).2⟩
  ·exact(acc_str u).trans ⟨nS fun u=>(acc u).mp,nS fun u=>(acc u).mpr⟩
theorem Mc.Ok.fresh {m:Mc}(h:m.Ok):m.fresh.Ok:=⟨h.s,fun p hp=>aG hp,fun p hp=>aG hp⟩
theorem acc_e1 {S:LP}{L:List Nat}(u:List Nat):tM S L e1 u↔u=[]:=by
 cases u with
 |nil=>exact⟨fun _=>rfl,fun _=>rfl⟩
 |cons c v=>exact⟨fun⟨p,hp,_⟩=>aG hp,fun e=>nomatch e⟩
theorem pT {S:LP}{L:List Nat}{A:oO}(u:List Nat):tK (tM S L e1) A u↔A u:=
 ⟨fun⟨u1,u2,e,h1,h2⟩=>by have h1:=(acc_e1 u1).mp h1;subst h1;exact e▸h2,fun h=>⟨[],u,rfl,rfl,h⟩⟩
theorem sign_ok {m:Mc}(h:m.Ok) (c:Nat):Ex m (m.sign c) (fun u=>u=[c]):=by
 have hl:(m.L++[c]).length=m.L.length+1:=zM;have hb:∀p∈[m.L.length],m.L.length<=p/\p < (m.L++[c]).length:=fun p hp=>by obtain rfl:=zY.mp hp;exact⟨zW _,by rw[hl];exact AL _⟩
 refine tz h (List.prefix_append _ _) (fun x hx=>hx) (fun x hx=>.inl hx) hb hb fun u=>?_;have hc:(m.L++[c])[m.L.length]?=some c:=by simp
 cases u with
 |nil=>exact⟨fun e=>bG e,fun e=>nomatch e⟩
 |cons c1 v=>
  constructor
  ·rintro⟨p,hp,hc1,e,he,k⟩
   obtain rfl:=zY.mp hp;obtain rfl:=zG (hc.symm.trans hc1)
   cases v with
   |nil=>rfl
   |cons c2 v=>
    obtain⟨q,a,b⟩:=k;exact absurd (h.s _ a).1 (zJ _)
  ·intro e
   obtain⟨rfl,rfl⟩:=AN e;exact⟨_,zY.mpr rfl,hc,_,zY.mpr rfl,rfl⟩
theorem qI:∀(t:List Nat){m:Mc},m.Ok->Ex m (t.foldl Mc.sign m) (fun u=>u=t)
 |[],m,h=>Ex.refl h
 |c::t,m,h=>by
  have h1:=sign_ok h c;refine(h1.trans (qI t h1.ok)).lan fun u=>?_;exact⟨fun⟨u1,u2,e,a,b⟩=>by subst a;subst b;exact e,fun e=>⟨[c],t,e,rfl,rfl⟩⟩
theorem qU (k:Nat):∀(r:Rx){m:Mc},m.Ok->Ex m (r.mc k m) (Lg k r)
 |.w t,m,h=>qI (cI k t) h
 |.nd a b alt star,m,h=>by
  have h1:=qU k a h.fresh;have l1:m.L.length<=(a.mc k m.fresh).L.length:=h1.L.length_le
  cases alt with
  |false=>
   have h2:=h1.trans (qU k b h1.ok);refine ua h star h2.L h2.S1 (fun x hx=>?_) (fun p hp=>?_) (fun p hp=>?_) fun u=>(h2.acc u).trans (pT u)
   ·exact(h2.S2 x hx).imp_right fun q=>⟨q.1,q.2.elim (fun q=>aG q) id,h2.ok.s x hx⟩
   ·exact⟨(h2.a p hp).elim (fun q=>aG q) id,h2.ok.a p hp⟩
   ·exact⟨(h2.z p hp).elim (fun q=>aG q) id,h2.ok.z p hp⟩
  |true=>
   have h2:=qU k b h1.ok.fresh;have l2:(a.mc k m.fresh).L.length<=(b.mc k (a.mc k m.fresh).fresh).L.length:=h2.L.length_le;have s2:∀x∈(b.mc k (a.mc k m.fresh).fresh).S,x∈(a.mc k m.fresh).S\/((a.mc k m.fresh).L.length<=x.2/\(a.mc k m.fresh).L.length<=x.1):=fun x hx=>(h2.S2 x hx).imp_right fun q=>⟨q.1,q.2.elim (fun q=>aG q) id⟩;refine ua h star (h1.L.trans h2.L) (fun x hx=>h2.S1 x (h1.S1 x hx)) (fun x hx=>?_) (fun p hp=>?_) (fun p hp=>?_) fun u=>?_
   ·rcases s2 x hx with q|q
    ·exact(h1.S2 x q).imp_right fun q=>⟨q.1,q.2.elim (fun q=>aG q) id,h2.ok.s x hx⟩
    ·exact .inr ⟨zH l1 q.1,zH l1 q.2,h2.ok.s x hx⟩
   ·rcases z7.mp hp with q|q
    ·exact⟨(h1.a p q).elim (fun q=>aG q) id,zI (h1.ok.a p q) l2⟩
    ·exact⟨zH l1 ((h2.a p q).elim (fun q=>aG q) id),h2.ok.a p q⟩
   ·rcases z7.mp hp with q|q
    ·exact⟨(h1.z p q).elim (fun q=>aG q) id,zI (h1.ok.z p q) l2⟩
    ·exact⟨zH l1 ((h2.z p q).elim (fun q=>aG q) id),h2.ok.z p q⟩
   ·refine(acc_or (n:=(a.mc k m.fresh).L.length) (fun x hx hn=>?_) (fun x hx hn=>?_) h1.ok.a h1.ok.z (fun p hp=>(h2.a p hp).elim (fun q=>aG q) id) (fun p hp=>(h2.z p hp).elim (fun q=>aG q) id) u).trans ?_
    ·exact(s2 x hx).elim (fun q=>(h1.ok.s x q).2) fun q=>absurd hn (Ca q.2)
    ·exact(s2 x hx).elim (fun q=>absurd (h1.ok.s x q).1 (Ca hn)) fun q=>q.1
    ·refine or_congr (Iff.trans ?_ ((h1.acc u).trans (pT u))) ((h2.acc u).trans (pT u))
     have lo:=un (S:=(a.mc k m.fresh).S) (S':=(b.mc k (a.mc k m.fresh).fresh).S) (n:=(a.mc k m.fresh).L.length) (fR h2.L) (fun x hx=>⟨h2.S1 x hx,(h1.ok.s x hx).2⟩) (fun x hx=>(s2 x hx).imp_right (·.1)) fun x hx hn=>(s2 x hx).elim (fun q=>absurd (h1.ok.s x q).1 (Ca hn)) fun q=>q.1
     cases u with
     |nil=>exact Er
     |cons c v=>exact⟨fun⟨p,hp,hc,e,he,g⟩=>⟨p,hp,(fR h2.L p (h1.ok.a p hp)).symm.trans hc,e,he,(lo v p e (h1.ok.z e he)).mp g⟩,fun⟨p,hp,hc,e,he,g⟩=>⟨p,hp,(fR h2.L p (h1.ok.a p hp)).trans hc,e,he,(lo v p e (h1.ok.z e he)).mpr g⟩⟩
noncomputable def d9:Mc:=⟨[0],[],e1⟩
noncomputable def Mc.fin (m:Mc):LP:=m.S++cj [0] m.r.a
noncomputable def Mc.ends (m:Mc):List Nat:=m.r.z++(if m.r.n then[0] else[])
theorem ye:d9.Ok:=⟨fun x hx=>aG hx,fun p hp=>aG hp,fun p hp=>aG hp⟩
theorem fin_acc (k:Nat)(r:Rx)(u:List Nat):(∃e,e∈(r.mc k d9).ends/\Rd (r.mc k d9).fin (r.mc k d9).L 0 u e)↔Lg k r u:=by
 have h:=qU k r ye;refine Iff.trans ?_ ((h.acc u).trans (pT u));have s1:∀x∈(r.mc k d9).S,1<=x.1/\1<=x.2:=fun x hx=>(h.S2 x hx).elim (fun q=>aG q) fun q=>⟨q.2.elim (fun q=>aG q) id,q.1⟩;have a1:∀p∈(r.mc k d9).r.a,1<=p:=fun p hp=>(h.a p hp).elim (fun q=>aG q) id;have z1:∀p∈(r.mc k d9).r.z,1<=p:=fun p hp=>(h.z p hp).elim (fun q=>aG q) id;have b3:∀x∈(r.mc k d9).fin,1<=x.1->x∈(r.mc k d9).S/\1<=x.2:=fun x hx hn=>by
  rcases z7.mp hx with q|q
  ·exact⟨q,(s1 x q).2⟩
  ·exact absurd hn (by rw[zY.mp (bH.mp q).1];decide)
 have up:=n7 (L:=(r.mc k d9).L) (fun x hx=>Ai _ hx) b3
 have e0':∀e,1<=e->(e∈(r.mc k d9).ends↔e∈(r.mc k d9).r.z):=fun e he=>⟨fun q=>(z7.mp q).elim id fun q=>by
  cases hn:(r.mc k d9).r.n with
  |false=>rw[hn] at q;exact aG q
  |true=>rw[hn] at q;exact absurd he (by rw[zY.mp q];decide),Ai _⟩
 cases u with
 |nil=>
  constructor
  ·rintro⟨e,he,g⟩
   obtain rfl:0=e:=g;rcases z7.mp he with q|q
   ·exact absurd (z1 0 q) (by decide)
   ·cases hn:(r.mc k d9).r.n with
    |false=>rw[hn] at q;exact aG q
    |true=>exact hn
  ·intro hn
   exact⟨0,AI _ (by rw[if_pos (show(r.mc k d9).r.n=true from hn)];exact zY.mpr rfl),rfl⟩
 |cons c v=>
  constructor
  ·rintro⟨e,he,p,hp,hc,g⟩
   have hp:p∈(r.mc k d9).r.a:=(z7.mp hp).elim (fun q=>absurd (show 1<=0 from(s1 _ q).1) (by decide)) fun q=>(bH.mp q).2;exact⟨p,hp,hc,e,(e0' e (i5 (fun x hx hn=>(b3 x hx hn).2) v p e (a1 p hp) g)).mp he,(up v p e (a1 p hp)).mp g⟩
  ·rintro⟨p,hp,hc,e,he,g⟩
   exact⟨e,(e0' e (z1 e he)).mpr he,p,AI _ (bH.mpr ⟨zY.mpr rfl,hp⟩),hc,(up v p e (a1 p hp)).mpr g⟩
end Mine
namespace Mine
noncomputable def xS (m:List (Nat×List Nat)):Bool:=(m.lookup 38).isSome&&m.all fun q=>q.2.head?==some 38&&m.all fun q'=>!(q.2.isPrefixOf q'.2)||(q.1==q'.1)
theorem yb {k:Nat}(hk:k < 5):xS (oh k)=true:=by rcases k5 hk with rfl|rfl|rfl|rfl|rfl<;>decide
theorem app_pre {a b x y:List Nat}(h:a++x=b++y):(a.isPrefixOf b=true)\/(b.isPrefixOf a=true):=by
 rcases List.append_eq_append_iff.mp h with⟨z,h1,J⟩|⟨z,h1,J⟩
 ·exact .inl (Fu.mpr ⟨z,h1.symm⟩)
 ·exact .inr (Fu.mpr ⟨z,h1.symm⟩)
theorem oW {k:Nat}(hk:k < 5){c:Nat}{v:List Nat}(hv:(oh k).lookup c=some v):∃r,v=38::r:=by
 have hp:=yb hk;unfold xS at hp;have:=Ag.mp (As.mp hp).2 _ (cV hv);have:=beq_iff_eq.mp (As.mp this).1
 cases v with
 |nil=>exact ai this
 |cons a r=>exact⟨r,zG this▸rfl⟩
theorem tabC_ne {k:Nat}(hk:k < 5){c:Nat}{x:List Nat}(h:[]=cH (oh k) c++x):False:=by
 unfold cH at h
 cases h1:(oh k).lookup c with
 |none=>rw[h1] at h;exact nomatch h
 |some v=>
  rw[h1] at h;obtain⟨r,rfl⟩:=oW hk h1;exact nomatch h
theorem w8 {k:Nat}(hk:k < 5){c c':Nat}{x y:List Nat}(h:cH (oh k) c++x=cH (oh k) c'++y):c=c'/\x=y:=by
 have key:c=c':=by
  have hp:=yb hk;unfold xS at hp;refine aS (As.mp hp) fun h38 hall=>?_;have n38:∀{c},(oh k).lookup c=none->c≠38:=fun{c} h1 e=>by
   rw[e] at h1;rw[h1] at h38;exact bG h38
  unfold cH at h
  cases h1:(oh k).lookup c with
  |none=>
   cases h2:(oh k).lookup c' with
   |none=>
    replace h:=h2▸h1▸h;exact(AN h).1
   |some v=>
    rw[h1,h2] at h;refine x1 (oW hk h2) fun r e91=>?_;subst e91;exact absurd (AN h).1 (n38 h1)
  |some v=>
   cases h2:(oh k).lookup c' with
   |none=>
    rw[h1,h2] at h;refine x1 (oW hk h1) fun r e91=>?_;subst e91;exact absurd (AN h).1.symm (n38 h2)
   |some v'=>
    rw[h1,h2] at h;have a1:=Ag.mp (As.mp (Ag.mp hall _ (cV h1))).2 _ (cV h2);have a2:=Ag.mp (As.mp (Ag.mp hall _ (cV h2))).2 _ (cV h1);rcases app_pre h with q|q
    ·rw[show List.isPrefixOf v v'=true from q] at a1
     exact beq_iff_eq.mp (show(c==c')=true from a1)
    ·rw[show List.isPrefixOf v' v=true from q] at a2
     exact(beq_iff_eq.mp (show(c'==c)=true from a2)).symm
 subst key;exact⟨rfl,List.append_cancel_left h⟩
theorem w4 {k:Nat}(hk:k < 5):∀(t x rest:List Nat),cI k x=cI k t++rest->∃y,x=t++y/\cI k y=rest
 |[],x,rest,h=>⟨x,rfl,h⟩
 |c::t,x,rest,h=>by
  rw[lU,Az] at h
  cases x with
  |nil=>exact(tabC_ne hk h).elim
  |cons c' x=>
   rw[lU] at h;obtain⟨rfl,h2⟩:=w8 hk h;obtain⟨y,rfl,h3⟩:=w4 hk t x rest h2;exact⟨y,rfl,h3⟩
inductive Cl (B:Nat->Nat->Prop):Nat->Nat->Prop
 |nil (s:Nat):Cl B s s
 |step (s m e:Nat) (h:B s m) (h2:Cl B m e):Cl B s e
noncomputable def Mt (w:List Nat):Rx->Nat->Nat->Prop
 |.w t=>fun s e=>e=s+t.length/\(w.drop s).take t.length=t
 |.nd a b alt star=>if star then Cl (if alt then fun s e=>Mt w a s e\/Mt w b s e else fun s e=>∃m,Mt w a s m/\Mt w b m e) else if alt then fun s e=>Mt w a s e\/Mt w b s e else fun s e=>∃m,Mt w a s m/\Mt w b m e
section
variable {k:Nat}{w:List Nat}
noncomputable def To (k:Nat)(w:List Nat)(A:oO)(s e:Nat):Prop:=e<=w.length/\∃u,A u/\cI k (w.drop s)=u++cI k (w.drop e)
theorem to_cl {A:oO}{B:Nat->Nat->Prop}(h:∀s e,B s e->s<=w.length->To k w A s e){s e:Nat}(c:Cl B s e):s<=w.length->To k w (Str A) s e:=by
 induction c with
 |nil s=>exact fun hs=>⟨hs,[],.nil,rfl⟩
 |step s m e hb _ ih=>
  intro hs;obtain⟨hm,u,hu,eu⟩:=h s m hb hs;obtain⟨he,v,hv,ev⟩:=ih hm;exact⟨he,u++v,.cons u v hu hv,by rw[eu,ev,Az]⟩
theorem og:∀(r:Rx)(s e:Nat),Mt w r s e->s<=w.length->To k w (Lg k r) s e
 |.w t,s,e,⟨h1,h2⟩,hs=>by
  have e1:w.drop s=t++w.drop e:=by
   have:=C7 t.length (w.drop s);rw[h2,Ec, <-h1] at this;exact this.symm
  refine⟨?_,cI k t,rfl,by rw[e1,oU]⟩;have:=congrArg CD h2;rw[DR,B6] at this;have h3:=BR t.length (w.length - s)
  lia
 |.nd a b alt star,s,e,h,hs=>by
  have base:∀s e,(if alt then fun s e=>Mt w a s e\/Mt w b s e else fun s e=>∃m,Mt w a s m/\Mt w b m e:Nat->Nat->Prop) s e->s<=w.length->To k w (if alt then fun u=>Lg k a u\/Lg k b u else tK (Lg k a) (Lg k b)) s e:=by
   intro s e h hs
   cases alt with
   |true=>
    rcases h with h|h
    ·obtain⟨he,u,hu,eu⟩:=og a s e h hs
     exact⟨he,u,.inl hu,eu⟩
    ·obtain⟨he,u,hu,eu⟩:=og b s e h hs
     exact⟨he,u,.inr hu,eu⟩
   |false=>
    obtain⟨m,h1,h2⟩:=h;obtain⟨hm,u,hu,eu⟩:=og a s m h1 hs;obtain⟨he,v,hv,ev⟩:=og b m e h2 hm;exact⟨he,u++v,⟨u,v,rfl,hu,hv⟩,by rw[eu,ev,Az]⟩
  cases star with
  |false=>exact base s e h hs
  |true=>exact to_cl base h hs
noncomputable def Fr (k:Nat)(w:List Nat)(B:Nat->Nat->Prop) (s:Nat)(u:List Nat):Prop:=∀rest,cI k (w.drop s)=u++rest->∃e,e<=w.length/\B s e/\cI k (w.drop e)=rest
theorem fr_cl {A:oO}{B:Nat->Nat->Prop}(h:∀u,A u->∀s,s<=w.length->Fr k w B s u){u:List Nat}(c:Str A u):∀s,s<=w.length->Fr k w (Cl B) s u:=by
 induction c with
 |nil=>exact fun s hs rest e=>⟨s,hs,.nil s,e⟩
 |cons u v hu _ ih=>
  intro s hs rest e;obtain⟨m,hm,b1,e1⟩:=h u hu s hs (v++rest) (by rw[e,Az]);obtain⟨e',he,b2,e2⟩:=ih m hm rest e1;exact⟨e',he,.step s m e' b1 b2,e2⟩
theorem qW (hk:k < 5):∀(r:Rx)(u:List Nat),Lg k r u->∀s,s<=w.length->Fr k w (Mt w r) s u
 |.w t,u,h,s,hs=>fun rest e=>by
  obtain rfl:u=cI k t:=h;obtain⟨y,h1,h2⟩:=w4 hk t _ rest e;have h3:=congrArg CD h1;rw[B6,zM] at h3;refine⟨s+t.length,by lia,⟨rfl,by rw[h1];simp⟩,?_⟩;rw[<-Ec,h1,Eb];exact h2
 |.nd a b alt star,u,h,s,hs=>by
  have base:∀u,(if alt then fun u=>Lg k a u\/Lg k b u else tK (Lg k a) (Lg k b):oO) u->∀s,s<=w.length->Fr k w (if alt then fun s e=>Mt w a s e\/Mt w b s e else fun s e=>∃m,Mt w a s m/\Mt w b m e:Nat->Nat->Prop) s u:=by
   intro u h s hs rest e
   cases alt with
   |true=>
    rcases h with h|h
    ·obtain⟨e',he,b1,e1⟩:=qW hk a u h s hs rest e
     exact⟨e',he,.inl b1,e1⟩
    ·obtain⟨e',he,b1,e1⟩:=qW hk b u h s hs rest e
     exact⟨e',he,.inr b1,e1⟩
   |false=>
    obtain⟨u1,u2,rfl,h1,h2⟩:=h;obtain⟨m,hm,b1,e1⟩:=qW hk a u1 h1 s hs (u2++rest) (by rw[e,Az]);obtain⟨e',he,b2,e2⟩:=qW hk b u2 h2 m hm rest e1;exact⟨e',he,⟨m,b1,b2⟩,e2⟩
  cases star with
  |false=>exact base u h s hs
  |true=>exact fr_cl base h s hs
theorem due_at (hk:k < 5)(r:Rx){j:Nat}(hj:j<=(cI k w).length):Lg k r ((cI k w).take j)↔∃e,Mt w r 0 e/\(cI k (w.take e)).length=j:=by
 have spl:∀e,cI k w=cI k (w.take e)++cI k (w.drop e):=fun e=>by rw[<-oU,C7]
 constructor
 ·intro h
  obtain⟨e,he,b,e1⟩:=qW (w:=w) hk r _ h 0 (Ae _) ((cI k w).drop j) (C7 j _).symm;refine⟨e,b,?_⟩;have:=congrArg CD (spl e);rw[zM,e1,B6] at this
  lia
 ·rintro⟨e,b,rfl⟩
  obtain⟨he,u,hu,eu⟩:=og (k:=k) r 0 e b (Ae _);have e2:u=cI k (w.take e):=List.append_cancel_right ((show u++cI k (w.drop e)=cI k w from eu.symm).trans (spl e));rw[spl e,Fs, <-e2];exact hu
end
end Mine
namespace Mine
theorem uv (n:Nat)(l:List Nat):(l.map fun(i:Nat)=>D.int (i:Int)).mapM (D.pd (n+1))=some (l.map fun(i:Nat)=>Em (i:Int)):=by
 induction l with
 |nil=>rfl
 |cons a l ih=>(refine zF z8 ?_;rw[CC];refine zF ih ?_);rfl
theorem any_nat (k:Nat)(l:List Nat):((l.map fun(i:Nat)=>Em (i:Int)).any fun y=>BI y (.int (k:Int)))=l.contains k:=by
 induction l with
 |nil=>rfl
 |cons a l ih=>
  have e1:BI (.int (a:Int)) (.int (k:Int))=((a:Int)==(k:Int)):=by simp only[BI]
  have e2:decide (a=k)=(k==a):=by
   by_cases h:a=k
   ·subst h;rw[decide_eq_true rfl,beq_self_eq_true]
   ·rw[decide_eq_false h,beq_eq_false_iff_ne.mpr (Et h)]
  have:=(e1.trans (int_eq a k)).trans e2;rw[z8,Dl,ih,this,Dy]
theorem pD {k:Nat}{l:List Nat}:D.cmp .In (.int (k:Int)) (il l)=some (l.contains k):=by
 show(do let p <-D.pd 5 (.int (k:Int));let q <-(l.map fun(i:Nat)=>D.int (i:Int)).mapM (D.pd 4);some (q.any fun y=>BI y p))=_;refine zF (uv 3 l) ?_;exact congrArg some (any_nat k l)
theorem mn {k:Nat}{l:List Nat}:D.cmp .NotIn (.int (k:Int)) (il l)=some (!l.contains k):=by
 show(D.cmp .In (.int (k:Int)) (il l)).map (!·)=_;refine zF pD ?_;rfl
theorem th (l:List Nat):D.cmp .Eq (il l) (.list [])=some l.isEmpty:=by
 show((((l.map fun(i:Nat)=>D.int (i:Int)).mapM (D.pd 4)).map FR).bind fun p=>(D.pd 5 (.list [])).bind fun q=>some (BI p q))=_;refine zF (uv 3 l) ?_
 cases l<;>rfl
theorem yn {n:Nat}{l:List Nat}(h:l.Nodup)(hl:∀x∈l,x<=n):l.length<=n+1:=by
 have:=C0 h (l₂:=z6 (n+1)) fun x hx=>BH.mpr (Nat.lt_succ_of_le (hl x hx))
 rwa [Bv] at this
theorem clip_le {n k:Nat}:Dk n (k:Int)=min k n:=by
 by_cases h:k<=n
 ·exact(mR h).trans (Nat.min_eq_left h).symm
 ·unfold Dk
  refine zF (if_neg (GQ.mpr (Ar k))) ?_;have h:=BV (Nat.lt_of_not_le h);rw[Int.min_eq_right (C5.mpr h),Int.max_eq_right (Ar n),Co,Nat.min_eq_right h]
theorem ve {k:Nat}(h:k<=lim):D.bnd (some (.int (k:Int)))=some (some (k:Int)):=
 if_pos (show -(lim:Int)<=(k:Int)/\(k:Int)<=lim from⟨Dw (DO (Ar _)) (Ar _),C5.mpr h⟩)
theorem o5 {w:List Nat}{k m:Nat}(hk:k<=w.length)(hl:k+m<=lim):D.slice (.str w) (some (.int (k:Int))) (some (.int ((k+m:Nat):Int)))=some (.str ((w.drop k).take m)):=by
 unfold D.slice;refine zF (ve (zH (AC k m) hl))<|zF (ve hl) ?_
 show some (D.str (gL (some (k:Int)) (some ((k+m:Nat):Int)) w))=_;unfold gL;show some (D.str ((w.drop (Dk w.length (k:Int))).take (Dk w.length ((k+m:Nat):Int) - Dk w.length (k:Int))))=_;rw[mR hk,clip_le];refine congrArg (fun l=>some (D.str l)) ?_
 by_cases h:k+m<=w.length
 ·rw[Nat.min_eq_left h,Nat.add_sub_cancel_left]
 ·have h:=BV (Nat.lt_of_not_le h)
  rw[Nat.min_eq_right h,Cu (by rw[B6];exact zW _),Cu (by rw[B6];lia)]
theorem wH {a b:Nat}:D.bin .Add (.int (a:Int)) (.int (b:Int))=some (.int ((a+b:Nat):Int)):=rfl
theorem len_str {w:List Nat}:D.builtin 0 [.str w]=some (.int (w.length:Int)):=rfl
noncomputable abbrev ΓE:ah:=aN dw 0
noncomputable abbrev ρE (r:D)(w l:List Nat):ac:=aw [97,99,98] [r,.str w,il l] fun J=>none
structure Bg (w l:List Nat):Prop where
 nd:l.Nodup
 le:∀s∈l,s<=w.length
noncomputable def dt (w:List Nat)(Φ:bq)(r:Rx)(l:List Nat):Prop:=∃es,Bg w es/\(∀e,e∈es↔∃s,s∈l/\Mt w r s e)/\Φ.call 48 [r.d,.str w,il l]=some (il es)
noncomputable def zD (w:List Nat)(Φ:bq)(r:Rx)(l:List Nat):Prop:=∃es,Bg w es/\(∀e,e∈es↔∃s,s∈l/\Mt w r s e)/\aO Φ NN ΓE (ρE r.d w l) bX=some (.rt (il es))
section
variable {w:List Nat}(hw:w.length<=100){Φ:bq}
include hw
theorem Bg.len {l:List Nat}(h:Bg w l):l.length<=101:=zH (yn h.nd h.le) (B9 hw)
theorem oq {t l:List Nat}(ht:t.length<=100)(B:Bg w l):zD w Φ (.w t) l:=by
 have hl:l.length<=lim:=zH (B.len hw) (by decide)
 let es:=(l.filter fun k=>(w.drop k).take t.length==t).map (·+t.length)
 have hm:∀e,e∈es↔∃s,s∈l/\Mt w (.w t) s e:=fun e=>by
  constructor
  ·intro h
   obtain⟨s,h1,rfl⟩:=Ac.mp h;obtain⟨h2,h3⟩:=Bj.mp h1;exact⟨s,h2,rfl,beq_iff_eq.mp h3⟩
  ·rintro⟨s,h1,rfl,h3⟩
   exact Ac.mpr ⟨s,Bj.mpr ⟨h1,beq_iff_eq.mpr h3⟩,rfl⟩
 refine⟨es,⟨?_,fun e he=>?_⟩,hm,?_⟩
 ·exact CO _ (fun a b h e=>h (Nat.add_right_cancel e)) (B.nd.filter _)
 ·obtain⟨s,h1,h2⟩:=(hm e).mp he
  exact(og (k:=0) _ s e h2 (B.le s h1)).1
 ·refine cm (eT (show _=some true from rfl) (cm (dO (Dn (gI (l:=l) (c:=fun(k:Nat)=>.int (k:Int)) (k:=fun(k:Nat)=>.int ((k+t.length:Nat):Int)) (b:=fun k=>(w.drop k).take t.length==t) (by rfl) (ab rfl) rfl (by rfl)
   (fun k hk=>bF (mI (ab (d:=.str w) rfl) (fw (ab ae)) (fw (bf (ab ae) (ed (ab (d:=.str t) rfl) rfl (by decide) len_str) wH)) (o5 (B.le k hk) (zH (Ah (zH (B.le k hk) hw) ht) (by decide)))) (ab (d:=.str t) rfl) gP)
   (fun k hk hb=>bf (ab ae) (ed (ab (d:=.str t) rfl) rfl (by decide) len_str) wH) hl) ?_))))
  refine congrArg (fun l=>some (R.d (.list l))) ?_;show _=((l.filter _).map _).map _;rw[AO];rfl
noncomputable abbrev Bas (w:List Nat)(a b:Rx)(alt:Bool):Nat->Nat->Prop:=if alt then fun s e=>Mt w a s e\/Mt w b s e else fun s e=>∃m,Mt w a s m/\Mt w b m e
theorem vV {a b:Rx}{alt star:Bool}{l:List Nat}(B:Bg w l)(hA:∀l,Bg w l->dt w Φ a l)(hB:∀l,Bg w l->dt w Φ b l):
  ∃ea e2,Bg w e2/\(∀e,e∈e2↔∃s,s∈l/\Bas w a b alt s e)/\Φ.call 48 [a.d,.str w,il l]=some (il ea)/\bb Φ NN ΓE ((ρE (Rx.nd a b alt star).d w l).set 100 (.fz (il ea))) (bX.getD 2 kn)=some (.nx (((ρE (Rx.nd a b alt star).d w l).set 100 (.fz (il ea))).set 100 (.fz (il e2)))):=by
 have N0:de (ρE (Rx.nd a b alt star).d w l):=mm;obtain⟨ea,Ba,ma,ca⟩:=hA l B;have N1:=N0.set 100 (il ea);refine⟨ea,?_⟩
 cases alt with
 |true=>
  obtain⟨eb,Bb,mb,cb⟩:=hB l B;have hm:∀e,e∈ea++eb.filter (fun k=>!ea.contains k)↔∃s,s∈l/\Bas w a b true s e:=fun e=>by
   constructor
   ·intro h
    rcases z7.mp h with h|h
    ·obtain⟨s,h1,h2⟩:=(ma e).mp h
     exact⟨s,h1,.inl h2⟩
    ·obtain⟨s,h1,h2⟩:=(mb e).mp (Bj.mp h).1
     exact⟨s,h1,.inr h2⟩
   ·rintro⟨s,h1,h2|h2⟩
    ·exact Ai _ ((ma e).mpr ⟨s,h1,h2⟩)
    ·by_cases h3:e∈ea
     ·exact Ai _ h3
     ·exact AI _ (Bj.mpr ⟨(mb e).mpr ⟨s,h1,h2⟩,by simpa using h3⟩)
  have hB2:Bg w (ea++eb.filter (fun k=>!ea.contains k)):=⟨C3.mpr ⟨Ba.nd,Bb.nd.filter _,fun x hx y hy e=>by
   have:=(Bj.mp hy).2
   rw[<-e,Au.mpr hx] at this;exact bG this⟩,fun e he=>(z7.mp he).elim (Ba.le e) fun h=>Bb.le e (Bj.mp h).1⟩
  refine⟨_,hB2,hm,ca,eT (bF (aC (ab (sN rfl)) ak rfl) (aT (by decide)) rfl) (aj (cn (bf (ab ae) (gI (l:=eb) (c:=fun(k:Nat)=>.int (k:Int)) (k:=fun(k:Nat)=>.int (k:Int)) (b:=fun k=>!ea.contains k) (by rfl) (bh (ad (aC (ab (sN rfl)) ak rfl) (ad (ab (sN rfl)) (ad (ab (sN rfl)) au))) rfl cb) rfl (by rfl)
   (fun k hk=>bF (ab ae) (ab (d:=il ea) (by rfl)) mn) (fun k hk hb=>ab ae) (zH (Bb.len hw) (by decide))) (iH (l:=ea) (m:=eb.filter fun k=>!ea.contains k) ?_)) (N1.mine rfl)) aH)⟩
  exact zH (zM (as:=ea)▸hB2.len hw) (by decide)
 |false=>
  obtain⟨eb,Bb,mb,cb⟩:=hB ea Ba;refine⟨eb,Bb,fun e=>?_,ca,c9 (bF (aC (ab (sN rfl)) ak rfl) (aT (by decide)) rfl) (aj (cn (bh (ad (aC (ab (sN rfl)) ak rfl) (ad (ab (sN rfl)) (ad (ab ae) au))) rfl cb) (N1.mine rfl)) aH)⟩;refine(mb e).trans ⟨fun⟨m,h1,h2⟩=>?_,fun⟨s,h1,m,h2,h3⟩=>⟨m,(ma m).mpr ⟨s,h1,h2⟩,h3⟩⟩;obtain⟨s,h3,h4⟩:=(ma m).mp h1;exact⟨s,h3,m,h4,h2⟩
theorem cl_stay {P:Nat->Prop}{R:Nat->Nat->Prop}(h:∀s e,P s->R s e->P e){s e:Nat}(c:Cl R s e):P s->P e:=by
 induction c with
 |nil s=>exact id
 |step s m e hb _ ih=>exact fun hs=>ih (h s m hs hb)
theorem nd_ends {a b:Rx}{alt star:Bool}{l:List Nat}(B:Bg w l)(hA:∀l,Bg w l->dt w Φ a l)(hB:∀l,Bg w l->dt w Φ b l)(hS:star=true->∀m,Bg w m->l.length < m.length->dt w Φ (.nd a b alt star) m):zD w Φ (.nd a b alt star) l:=by
 have N0:de (ρE (Rx.nd a b alt star).d w l):=mm;obtain⟨ea,e2,B2,m2,ca,r2⟩:=vV hw (alt:=alt) (star:=star) B hA hB
 let ρ1:=(ρE (Rx.nd a b alt star).d w l).set 100 (.fz (il ea))
 let ρ2:=ρ1.set 100 (.fz (il e2))
 have N2:de ρ2:=(N0.set _ _).set _ _
 suffices hs:∃es,Bg w es/\(∀e,e∈es↔∃s,s∈l/\Mt w (.nd a b alt star) s e)/\aO Φ NN ΓE ρ2 (bX.drop 3)=some (.rt (il es)) by
  obtain⟨es,h1,h2,h3⟩:=hs;exact⟨es,h1,h2,aj (c9 (show _=some false from rfl) aH) (aj (cn (bh (ad (aC (ab rfl) ak rfl) (ad (ab rfl) (ad (ab rfl) au))) rfl ca) (N0.mine rfl)) (aj r2 h3))⟩
 cases star with
 |false=>exact⟨e2,B2,m2,aj (c9 (bF (aC (ab (sN (sN rfl))) ak rfl) (aT (by decide)) rfl) aH) (cm (dO (ab ae)))⟩
 |true=>
  let mo:=e2.filter fun k=>!l.contains k
  let ρ3:=ρ2.set 101 (.fz (il mo))
  have hq:∀s e,s∈l->Bas w a b alt s e->e∈l\/e∈mo:=fun s e hs hb=>by
   by_cases h:e∈l
   ·exact .inl h
   ·exact .inr (Bj.mpr ⟨(m2 e).mpr ⟨s,hs,hb⟩,by simpa using h⟩)
  cases hmo:mo with
  |nil=>
   refine⟨l,B,fun e=>⟨fun h=>⟨e,h,Cl.nil e⟩,fun⟨s,hs,c⟩=>?_⟩,?_⟩
   ·exact cl_stay hw (P:=fun e=>e∈l) (fun s e hs hb=>(hq s e hs hb).elim id fun q=>by rw[hmo] at q;exact aG q) c hs
   ·exact cm (eT (bF (aC (ab (sN (sN rfl))) ak rfl) (aT (by decide)) rfl) (aj (cn (d:=il mo) (gI (l:=e2) (c:=fun(k:Nat)=>.int (k:Int)) (k:=fun(k:Nat)=>.int (k:Int)) (b:=fun k=>!l.contains k) (by rfl) (ab ae) rfl (by rfl) (fun k hk=>bF (ab ae) (ab (d:=il l) (by rfl)) mn) (fun k hk hb=>ab ae) (zH (B2.len hw) (by decide))) (N2.mine rfl))
     (cm (eT (bF (ab ae) (aQ au (by decide)) ((th mo).trans (by rw[hmo];rfl))) (cm (dO (ab (sN (sN (sN rfl))))))))))
  |cons x r=>
   have hx:x∈mo:=hmo▸zU ..
   have hB3:Bg w (l++mo):=⟨C3.mpr ⟨B.nd,B2.nd.filter _,fun x hx y hy e=>by
    have:=(Bj.mp hy).2
    rw[<-e,Au.mpr hx] at this;exact bG this⟩,fun e he=>(z7.mp he).elim (B.le e) fun h=>B2.le e (Bj.mp h).1⟩
   obtain⟨es,B4,m4,c4⟩:=hS rfl (l++mo) hB3 (by rw[zM,hmo];simp);refine⟨es,B4,fun e=>(m4 e).trans ⟨fun⟨s,hs,c⟩=>?_,fun⟨s,hs,c⟩=>⟨s,Ai _ hs,c⟩⟩,?_⟩
   ·rcases z7.mp hs with h|h
    ·exact⟨s,h,c⟩
    ·obtain⟨s0,h0,h1⟩:=(m2 s).mp (Bj.mp h).1
     exact⟨s0,h0,Cl.step s0 s e h1 c⟩
   ·exact cm (eT (bF (aC (ab (sN (sN rfl))) ak rfl) (aT (by decide)) rfl) (aj (cn (d:=il mo) (gI (l:=e2) (c:=fun(k:Nat)=>.int (k:Int)) (k:=fun(k:Nat)=>.int (k:Int)) (b:=fun k=>!l.contains k) (by rfl) (ab ae) rfl (by rfl) (fun k hk=>bF (ab ae) (ab (d:=il l) (by rfl)) mn) (fun k hk hb=>ab ae) (zH (B2.len hw) (by decide))) (N2.mine rfl))
     (aj (c9 (bF (ab ae) (aQ au (by decide)) ((th mo).trans (by rw[hmo];rfl))) aH) (cm (dO (bh (ad (ab (sN (sN (sN rfl)))) (ad (ab (sN (sN (sN rfl)))) (ad (bf (ab (sN (sN (sN rfl)))) (ab ae) (iH (l:=l) (m:=mo) (zH (zM (as:=l)▸hB3.len hw) (by decide)))) au))) rfl c4))))))
end
end Mine
namespace Mine
section
variable {Φ:bq}{Γ:ah}{ρ:ac}{N:Nat}{d x y z:D}{p q r:Pos}
theorem l8 {n:Nat}{e:E}{a b:Int}(h:ρ n=some (.fz (.int a)))(h2:ev Φ Γ ρ e=some (.d (.int b)))(hm:Γ.mine ρ n=true):bb Φ N Γ ρ (.augN n .Add e p q)=some (.nx (ρ.set n (.fz (.int (a+b))))):=by
 refine zF gu<|zF h ?_
 simp only[h2,zQ,Ad,R.asD];refine zF (show D.bin .Add (.int a) (.int b)=some (.int (a+b)) from rfl) ?_;simp only[Ad];exact zF (if_pos hm) rfl
theorem xK {n:Nat}{e:E}{l m:List D}{q1 q2 q3 q4:Pos}(hn:ρ n=some (.own l))(h:ev Φ Γ ρ e=some (.d (.list m)))(hq:(q2.endLine==q3.line)=true)(hl:l.length+m.length<=lim):bb Φ N Γ ρ (.ext n e q1 q2 q3 q4)=some (.nx (ρ.set n (.own (l++m)))):=by
 refine zF lD<|zF hn<|(Dn (show _=_ from if_pos hq)<|zF h ?_)
 exact if_pos hl
theorem s_popU {n:Nat}{xs:List (Nat×Pos)}{l:List D}{ds:List D}{k:Nat}{q1 q2 q3 q4 q5:Pos}(hn:ρ n=some (.own (l++[.tup ds])))(hq:(q2.endLine==q3.line)=true)(h1:xs.length=ds.length)(h2:xs.all (fun q=>Γ.mine ρ q.1&&!(q.1==n))=true):bb Φ N Γ ρ (.popU n xs k q1 q2 q3 q4 q5)=some (.nx (jA xs ds (ρ.set n (.own l)))):=by
 refine zF j2<|zF hn<|(Dn (show _=_ from if_pos hq) ?_)
 refine zF List.getLast?_concat ?_;refine(show _=_ from if_pos ⟨h1,h2⟩).trans ?_;refine zF List.dropLast_concat ?_
 rfl
theorem w9 {n:Nat}{b:Bool}(h:ρ n=some (.fz (.bool b))):e7 Φ Γ ρ (.name n p)=some b:=by exact zF lr<|zF h rfl
theorem xa {a i:E}{b:Bool}(h1:ev Φ Γ ρ a=some (.d x))(h2:ev Φ Γ ρ i=some (.d y))(h3:D.item x y=some (.bool b)):e7 Φ Γ ρ (.idx a i p)=some b:=by
 refine zF vv<|zF h1<|zF h2 ?_
 show(D.item x y).bind D.truth=_;refine zF h3 ?_;rfl
theorem uV {α β:Type}{elt it it2:E}{n m:Nat}{tp tq:Pos}{sc:LK}{r:R}{L:List α}{I:α->List β}{c:α->D}{g:β->D}{h:α->β->D}(ho:em Γ sc=true)(h1:ev Φ Γ ρ it=some r)(h2:r.asI=some (L.map c))(hf:(Tg.name n tp).fit sc (ρ.cut sc)=true)
  (hf2:∀a,(Tg.name m tq).fit sc ((ρ.cut sc).set n (.fz (c a)))=true) (hi:∀a,ev Φ (ay Γ sc) ((ρ.cut sc).set n (.fz (c a))) it2=some (.d (.list ((I a).map g)))) (he:∀a b,ev Φ (ay Γ sc) (((ρ.cut sc).set n (.fz (c a))).set m (.fz (g b))) elt=some (.d (h a b))) (hl:(L.flatMap fun a=>(I a).map (h a)).length<=lim):
  ev Φ Γ ρ (.comp elt [.mk (.name n tp) it [],.mk (.name m tq) it2 []] sc p)=some (.d (.list (L.flatMap fun a=>(I a).map (h a)))):=by
 refine zF ix<|zF (if_pos ho)<|zF h1 ?_
 simp only[zQ,Ad,h2];rw[eO (g:=fun a=>(I a).map (h a)) hf L fun a ha=>?_]
 ·simp only[Ad,uD]
  refine zF (if_pos hl) ?_;rfl
 ·simp only[eM,Ad,if_true,lK,hi a,R.asD,R.asI,zQ]
  rw[eO (g:=fun b=>[h a b]) (hf2 a) (I a) fun b hb=>?_,mF];simp[eM,fC,he a b,R.asD]
end
noncomputable def rC (c:Nat):List Nat:=if qe.contains c then[92,c] else[c]
theorem lT {c:Nat}{w:List Nat}:ki rn (c::w)=rC c++ki rn w:=by
 unfold ki;refine zF Ao ?_;refine congrArg (·++_) ?_;unfold rn rC
 cases qe.contains c<;>rfl
noncomputable def Rx.pat (k:Nat):Rx->List Nat
 |.w t=>ki rn (cI k t)
 |.nd a b alt star=>[40]++a.pat k++dN 124 alt++b.pat k++[41]++dN 42 star
noncomputable def Rx.ltr (k:Nat):Rx->Nat
 |.w t=>(cI k t).length
 |.nd a b _ _=>a.ltr k+b.ltr k
theorem pk (c:Nat)(b:Bool):(dN c b).length<=1:=by
 cases b with
 |true=>exact zW 1
 |false=>exact Ae 1
noncomputable def oN (k:Nat)(Φ:bq)(r:Rx):Prop:=Φ.call 47 [r.d,.int (k:Int)]=some (.str (r.pat k))
section
variable {k:Nat}(hk:k < 5)
include hk
theorem yj {t:List Nat}(ht:t.length<=16):oN k jE (.w t):=by
 refine bw (tx bo bn 0 aX) (Φ:=br) rfl rfl rfl ?_;have:=gv hk t;exact cm (eT (show _=some true from rfl) (cm (dO (bh (ad (bh (ad (ab rfl) (ad (ab rfl) au)) rfl (kj hk (zH ht (by decide)))) au) rfl (te (zH this (zH (Bh 6 ht) (by decide))))))))
theorem ya {Φ:bq}{a b:Rx}{alt star:Bool}(hA:oN k Φ a)(hB:oN k Φ b)(hl:((Rx.nd a b alt star).pat k).length<=1000):aO Φ NN (aN bn 0) (aw [97,83] [(Rx.nd a b alt star).d,.int (k:Int)] fun J=>none) aX=some (.rt (.str ((Rx.nd a b alt star).pat k))):=by
 have hl:([40]++a.pat k++dN 124 alt++b.pat k++[41]++dN 42 star).length<=1000:=hl;have le:∀{u v:List Nat},(u++v).length<=1000->u.length<=1000:=fun h=>zH (by rw[zM];exact AC _ _) h;have lm:∀{u:List Nat},u.length<=1000->u.length<=lim:=fun h=>zH h (by decide);exact aj (c9 (show _=some false from rfl) aH) (cm (dO (bf (bf (bf (bf (bf (aT (by decide)) (bh (ad (aC (ab rfl) ak rfl) (ad (ab rfl) au)) rfl hA) (dK (lm (le (le (le (le hl))))))) (aC (ab rfl) ak rfl) (dK (lm (le (le (le hl)))))) (bh (ad (aC (ab rfl) ak rfl) (ad (ab rfl) au)) rfl hB) (dK (lm (le (le hl))))) (aT (by decide)) (dK (lm (le hl)))) (aC (ab rfl) ak rfl) (dK (lm hl)))))
theorem pj {t1 t2:List Nat}{alt star:Bool}(h1:t1.length<=4)(h2:t2.length<=4):((Rx.nd (.w t1) (.w t2) alt star).pat k).length<=100:=by
 have:=oT (cI k t1);have:=oT (cI k t2);have:=gv hk t1;have:=gv hk t2;have:=pk 124 alt;have:=pk 42 star;show([40]++ki rn (cI k t1)++dN 124 alt++ki rn (cI k t2)++[41]++dN 42 star).length<=100;simp only[zM,C9]
 lia
theorem qy {a b:Nat}{f:Nat->Nat}{g h:Nat->Bool}:((bN a b f g h).pat k).length<=1000:=by
 have h1:=pj hk (t1:=dM a b (f 0)) (t2:=dM a b (f 1)) (alt:=g 0) (star:=h 0) gi gi;have h2:=pj hk (t1:=dM a b (f 2)) (t2:=dM a b (f 3)) (alt:=g 1) (star:=h 1) gi gi;have:=pk 124 (g 2);have:=pk 42 (h 2);show([40]++Rx.pat k (.nd (.w (dM a b (f 0))) (.w (dM a b (f 1))) (g 0) (h 0))++dN 124 (g 2)++Rx.pat k (.nd (.w (dM a b (f 2))) (.w (dM a b (f 3))) (g 1) (h 1))++[41]++dN 42 (h 2)).length<=1000;simp only[zM,C9]
 lia
theorem pat_run {a b:Nat}{f:Nat->Nat}{g h:Nat->Bool}:oN k cT (bN a b f g h):=by
 have lf:∀i,oN k jE (.w (dM a b i)):=fun i=>yj hk (zH gi (by decide));have n1:∀i j alt star,oN k phi3 (.nd (.w (dM a b i)) (.w (dM a b j)) alt star):=fun i j alt star=>bw (tx bo bn 0 aX) (Φ:=jE) rfl rfl rfl (ya hk (lf i) (lf j) (zH (pj hk gi gi) (by decide)));exact bw (tx bo bn 0 aX) (Φ:=phi3) rfl rfl rfl (ya hk (n1 _ _ _ _) (n1 _ _ _ _) (qy hk))
end
end Mine
namespace Mine
noncomputable def jz (x:Nat×Nat):D:=.tup [.int (x.1:Int),.int (x.2:Int)]
noncomputable def m6 (L:List Nat):List D:=.str []::(L.drop 1).map fun c=>.str [c]
theorem b6 (z a:List Nat):(cj z a).length=z.length * a.length:=by
 unfold cj
 induction z with
 |nil=>simp
 |cons q z ih=>rw[Ao,zM,ih,zX,AB,F4,B0]
theorem gB (z a:List Nat):(cj z a).map jz=z.flatMap fun q=>a.map fun p=>jz (q,p):=by
 unfold cj;rw[List.map_flatMap]
 congr 1
 funext q
 rw[AO];rfl
noncomputable abbrev ΓM:ah:=aN dC 0
noncomputable def mWh:St:=cL.getD 2 kn
noncomputable def mB:List St:=gQ mWh
structure MI (P:List Nat) (i:Nat)(m:Mc)(O:List D)(told:Fg)(ρ:ac):Prop where
 ns:de ρ
 a56:ρ 56=some (.fz (.str P))
 a87:ρ 87=some (.fz (.int (i:Int)))
 a104:ρ 104=some (.own (m6 m.L))
 a105:ρ 105=some (.own (m.S.map jz))
 a106:ρ 106=some (.own O)
 a107:ρ 107=some (.fz told.d)
 a108:ρ 108=some (.fz m.r.d)
theorem il_if {Φ:bq}{Γ:ah}{ρ:ac}{x:E}{c:Bool}{l:List Nat}(p:Pos)(h:ev Φ Γ ρ x=some (.d (il l))):(if c then ev Φ Γ ρ x else ev Φ Γ ρ (.list [] p))=some (.d (il (if c then l else[]))):=by
 cases c with
 |true=>exact h
 |false=>exact(show ev Φ Γ ρ (.list [] p)=some (.d (il [])) from aQ au (Ae _))
section
variable {P:List Nat}{i:Nat}{m:Mc}{O:List D}{told:Fg}{ρ:ac}
theorem xh (hP:P.length<=1000)(M:MI P i m O told ρ){f:Fg}(h109:ρ 109=some (.fz f.d)){b:Bool}(hi:i<=P.length)(hb:((P.drop i).take 1==[42])=b)(hs:m.S.length+f.z.length * f.a.length<=lim):
  ∃ρ',bb br NN ΓM ρ ((gQ (mB.getD 3 kn)).getD 0 kn)=some (.nx ρ')/\MI P (i+b.toNat) ⟨m.L,if b then m.S++cj f.z f.a else m.S,m.r⟩ O told ρ'/\ρ' 109=some (.fz (Fg.d ⟨b||f.n,f.a,f.z⟩)):=by
 have hc:∀{p1 p2 p3 p4 p5 p6 p7 p8 p9:Pos},e7 br ΓM ρ (.cmp (.slc (.name 56 p1) (some (.name 87 p2)) (some (.bin (.name 87 p3) .Add (.int 1 p4) p5)) p6 p7) .Eq (.str [42] p8) p9)=some b:=fun{_ _ _ _ _ _ _ _ _}=>
  (bF (mI (ab M.a56) (fw (ab M.a87)) (fw (bf (ab M.a87) ak (wH (b:=1)))) (o5 hi (zH (AD (zH hi hP) 1) (by decide)))) (aT (by decide)) gP).trans (congrArg some hb)
 cases b with
 |false=>exact⟨ρ,c9 hc aH,M,h109⟩
 |true=>
  have N1:=M.ns.set 87 (.int ((i+1:Nat):Int));have N2:=N1.setO 105 (m.S.map jz++(cj f.z f.a).map jz);refine⟨_,eT hc (aj (l8 M.a87 ak (M.ns.mine rfl)) (aj (xK (m:=(cj f.z f.a).map jz) (sN M.a105) (Dn (uV (L:=f.z) (I:=fun _=>f.a) (c:=fun(q:Nat)=>.int (q:Int)) (g:=fun(p:Nat)=>.int (p:Int)) (h:=fun q p=>jz (q,p)) (by rfl) (aC (ab (sN h109)) ak rfl) rfl (by rfl) (fun _=>by rfl) (fun q=>aC (ab (sN (show(ac.cut _ _) 109=_ from(if_pos rfl).trans (sN h109)))) ak rfl) (fun q p=>db (ad (ab (sN ae)) (ad (ab ae) au)) sR) (by rw[<-gB,zX,b6];exact zH (Cy _ _) hs)) (congrArg (fun l=>some (R.d (.list l))) (gB f.z f.a).symm)) (by rfl) (by rw[zX,zX,b6];exact hs)) (aj (cn (d:=Fg.d ⟨true,f.a,f.z⟩) (db (ad fy (ad (aC (ab (sN (sN h109))) ak rfl) (ad (aC (ab (sN (sN h109))) ak rfl) au))) (zS rfl)) (N2.mine rfl)) aH))),?_,ae⟩;exact⟨N2.set _ _,sN (sN (sN M.a56)),sN (sN ae),sN (sN (sN M.a104)),sN (ae.trans (by rw[<-Br];rfl)),sN (sN (sN M.a106)),sN (sN (sN M.a107)),sN (sN (sN M.a108))⟩
theorem qB (hP:P.length<=1000)(M:MI P i m O told ρ){f:Fg}(h109:ρ 109=some (.fz f.d)){b:Bool}(hi:i<=P.length)(hb:((P.drop i).take 1==[42])=b)(hs:m.S.length+(if b then f.z.length * f.a.length else 0)+m.r.z.length * f.a.length<=lim)(ha:m.r.a.length+f.a.length<=lim)(hz:m.r.z.length+f.z.length<=lim)(hs0:m.S.length+f.z.length * f.a.length<=lim):
  ∃ρ',bb br NN ΓM ρ (mB.getD 3 kn)=some (.nx ρ')/\MI P (i+b.toNat) (Mc.cat ⟨m.L,if b then m.S++cj f.z f.a else m.S,m.r⟩ ⟨b||f.n,f.a,f.z⟩) O told ρ':=by
 obtain⟨ρ1,r1,M1,k109⟩:=xh hP M h109 hi hb hs0;have hl:((if b then m.S++cj f.z f.a else m.S).map jz).length+((cj m.r.z f.a).map jz).length<=lim:=by
  rw[zX,zX,b6]
  cases b with
  |true=>rw[if_pos rfl,zM,b6];exact hs
  |false=>exact hs
 have N2:=M1.ns.setO 105 ((if b then m.S++cj f.z f.a else m.S).map jz++(cj m.r.z f.a).map jz)
 refine⟨_,eT (bF (ab h109) mJ rfl) (aj r1 (aj (xK (m:=(cj m.r.z f.a).map jz) M1.a105 (Dn (uV (L:=m.r.z) (I:=fun _=>f.a) (c:=fun(q:Nat)=>.int (q:Int)) (g:=fun(p:Nat)=>.int (p:Int)) (h:=fun q p=>jz (q,p)) (by rfl) (aC (ab M1.a108) ak rfl) rfl (by rfl) (fun _=>by rfl) (fun q=>aC (ab (sN (show(ac.cut _ _) 109=_ from(if_pos rfl).trans k109))) ak rfl) (fun q p=>db (ad (ab (sN ae)) (ad (ab ae) au)) sR) (by rw[<-gB];exact zH (Cy _ _) hl)) (congrArg (fun l=>some (R.d (.list l))) (gB m.r.z f.a).symm)) (by rfl) hl)
  (aj (cn (d:=Fg.d ⟨m.r.n&&(b||f.n),m.r.a++(if m.r.n then f.a else[]),f.z++(if b||f.n then m.r.z else[])⟩) (db (ad (y4 (vAnd (aC (ab (sN M1.a108)) ak rfl) (tP (aC (ab (sN k109)) ak rfl)) rfl)) (ad (bf (aC (ab (sN M1.a108)) ak rfl) (y3 (xa (ab (sN M1.a108)) ak rfl) (il_if _ (aC (ab (sN k109)) ak rfl))) (iH ?_)) (ad (bf (aC (ab (sN k109)) ak rfl) (y3 (xa (ab (sN k109)) ak rfl) (il_if _ (aC (ab (sN M1.a108)) ak rfl))) (iH ?_)) au))) (zS rfl)) (N2.mine rfl)) aH))),?_⟩
 ·cases m.r.n with
  |true=>exact ha
  |false=>exact zH (AC _ _) ha
 ·cases b||f.n with
  |true=>exact(B0 _ _)▸hz
  |false=>exact zH (Cy _ _) hz
 ·exact⟨N2.set _ _,sN (sN M1.a56),sN (sN M1.a87),sN (sN M1.a104),sN (ae.trans (by rw[<-Br];rfl)),sN (sN M1.a106),sN (sN M1.a107),ae⟩
end
end Mine
namespace Mine
noncomputable abbrev cM:ac->Option Bool:=fun ρ=>e7 br ΓM ρ (yR mWh)
noncomputable abbrev bM:ac->Option gh:=fun ρ=>aO br NN ΓM ρ mB
noncomputable def mY (j:Nat)(ρ ρ':ac):Prop:=∃i,i<=j/\∀n o,jL cM bM n ρ'=o->jL cM bM (n+i) ρ=o
theorem mY.refl {ρ:ac}:mY 0 ρ ρ:=⟨0,zW 0,fun _ _ h=>h⟩
theorem mY.trans {j k:Nat}{ρ ρ1 ρ2:ac}(h:mY j ρ ρ1)(h2:mY k ρ1 ρ2):mY (j+k) ρ ρ2:=
 am h fun i hi f=>am h2 fun i2 hi2 f2=>⟨i2+i,B0 i2 i▸Ah hi hi2,fun n o e=>DN n i2 i▸f _ o (f2 n o e)⟩
theorem mY.one {ρ ρ':ac}(h:cM ρ=some true)(h2:bM ρ=some (.nx ρ')):mY 1 ρ ρ':=⟨1,zW 1,fun _ _ e=>w_step h h2 e⟩
theorem mY.mono {j k:Nat}{ρ ρ':ac}(h:mY j ρ ρ')(hk:j<=k):mY k ρ ρ':=am h fun i hi f=>⟨i,zH hi hk,f⟩
theorem uJ {P:List Nat}{i c:Nat}(h:P[i]?=some c):D.item (.str P) (.int (i:Int))=some (.str [c]):=by
 show((eR P.length (i:Int)).bind (P[·]?)).map (fun c=>D.str [c])=_;refine zF (ud (Ap.mp h).1) ?_;show(P[i]?).map _=_;exact zF h rfl
theorem rP {a b:Bool}(h:a=true)(k:b=true):(a&&b)=true:=As.mpr ⟨h,k⟩
theorem all2 {α:Type}{p:α->Bool}{a b:α}(h:p a=true)(k:p b=true):[a,b].all p=true:=rP h (rP k rfl)
theorem oF {P r:List Nat}{i c:Nat}(h:P.drop i=c::r):P[i]?=some c/\P.drop (i+1)=r/\i+1<=P.length:=by
 have e:P[i]?=some c:=by rw[<-D4,h];rfl
 refine⟨e,?_,(Ap.mp e).1⟩;rw[<-Ec,h];rfl
theorem jM {a b:Nat}(h:a≠b){Φ:bq}{Γ:ah}{ρ:ac}{x:Nat}{p1 p2 p3:Pos}(hx:ρ x=some (.fz (.str [a]))):e7 Φ Γ ρ (.cmp (.name x p1) .Eq (.str [b] p2) p3)=some false:=
 (bF (ab hx) (aT (zS rfl)) gP).trans (congrArg some (beq_eq_false_iff_ne.mpr fun e=>h (AN e).1))
theorem pH {a:Nat}{Φ:bq}{Γ:ah}{ρ:ac}{x:Nat}{p1 p2 p3:Pos}(hx:ρ x=some (.fz (.str [a]))):e7 Φ Γ ρ (.cmp (.name x p1) .Eq (.str [a] p2) p3)=some true:=
 (bF (ab hx) (aT (zS rfl)) gP).trans (congrArg some (beq_self_eq_true _))
section
variable {P:List Nat}{i:Nat}{m:Mc}{O:List D}{told:Fg}{ρ:ac}
structure Hd (P:List Nat)(i c:Nat)(m:Mc)(O:List D)(told:Fg)(ρ ρ2:ac):Prop where
 M:MI P (i+1) m O told ρ2
 a86:ρ2 86=some (.fz (.str [c]))
 a109:ρ2 109=some (.fz .nil)
 c:cM ρ=some true
 r:∀o,aO br NN ΓM ρ2 (mB.drop 2)=o->bM ρ=o
theorem gG (M:MI P i m O told ρ){c:Nat}(hc:P[i]?=some c):∃ρ2,Hd P i c m O told ρ ρ2:=by
 have N1:=(M.ns.set 86 (.str [c])).set 109 .nil;refine⟨_,⟨N1.set 87 _,sN (sN (sN M.a56)),ae,sN (sN (sN M.a104)),sN (sN (sN M.a105)),sN (sN (sN M.a106)),sN (sN (sN M.a107)),sN (sN (sN M.a108))⟩,sN (sN ae),sN ae,?_,fun o h=>aj (ρ':=(ρ.set 86 (.fz (.str [c]))).set 109 (.fz .nil)) (fO (jf (aC (ab M.a56) (ab M.a87) (uJ hc)) (jf mJ je)) rfl rfl (by decide) (M.ns.all rfl) sR) (aj (l8 (sN (sN M.a87)) ak (N1.mine rfl)) h)⟩;refine(bF (ab M.a87) (ed (ab M.a56) rfl (by decide) len_str) (show D.cmp .Lt (.int (i:Int)) (.int (P.length:Int))=some (decide ((i:Int) < (P.length:Int))) from rfl)).trans ?_;exact congrArg some (decide_eq_true (BW.mpr (Ap.mp hc).1))
theorem tQ {ρ:ac}(h:ρ 109=some (.fz .nil)):bb br NN ΓM ρ (mB.getD 3 kn)=some (.nx ρ):=c9 (bF (ab h) mJ rfl) aH
theorem vW (M:MI P i m O told ρ){r:List Nat}(h:P.drop i=40::r)(hO:O.length < lim):∃ρ',mY 1 ρ ρ'/\MI P (i+1) m.fresh (O++[.tup [told.d,m.r.d]]) e0 ρ':=by
 refine x1 (gG M (oF h).1) fun ρ2 H=>?_;have M:=H.M;have N1:=M.ns.setO 106 (O++[.tup [told.d,m.r.d]]);have N2:=(N1.set 107 e0.d).set 108 e1.d
 exact⟨_,.one H.c (H.r _ (aj (eT (pH H.a86) (aj (xM M.a106 (db (ad (ab M.a107) (ad (ab M.a108) au)) sR) (by rfl) hO) (aj (ρ':=((ρ2.set 106 (.own (O++[.tup [told.d,m.r.d]]))).set 107 (.fz e0.d)).set 108 (.fz e1.d)) (fO (jf (db (ad fy (ad (aQ au (Ae _)) (ad (aQ au (Ae _)) au))) (zS rfl)) (jf (db (ad fy (ad (aQ au (Ae _)) (ad (aQ au (Ae _)) au))) (zS rfl)) je)) rfl rfl (by decide) (N1.all rfl) sR) aH))) (aj (tQ (sN (sN (sN H.a109)))) aH))),
  N2,sN (sN (sN M.a56)),sN (sN (sN M.a87)),sN (sN (sN M.a104)),sN (sN (sN M.a105)),sN (sN ae),sN ae,ae⟩
theorem zq (M:MI P i m O told ρ){r:List Nat}(h:P.drop i=124::r)(ha:told.a.length+m.r.a.length<=lim)(hz:told.z.length+m.r.z.length<=lim):∃ρ',mY 1 ρ ρ'/\MI P (i+1) m.fresh O (told.or m.r) ρ':=by
 refine x1 (gG M (oF h).1) fun ρ2 H=>?_;have M:=H.M;have N2:=(M.ns.set 107 (told.or m.r).d).set 108 e1.d
 exact⟨_,.one H.c (H.r _ (aj (c9 (jM (by decide) H.a86) (aj (eT (pH H.a86) (aj (ρ':=(ρ2.set 107 (.fz (told.or m.r).d)).set 108 (.fz e1.d)) (fO (jf (bh (ad (ab M.a107) (ad (ab M.a108) au)) rfl (mH ha hz)) (jf (db (ad fy (ad (aQ au (Ae _)) (ad (aQ au (Ae _)) au))) (zS rfl)) je)) rfl rfl (by decide) (M.ns.all rfl) sR) aH)) aH)) (aj (tQ (sN (sN H.a109))) aH))),
  N2,sN (sN M.a56),sN (sN M.a87),sN (sN M.a104),sN (sN M.a105),sN (sN M.a106),sN ae,ae⟩
noncomputable def mS:List St:=tj ((tj ((tj (mB.getD 2 kn)).getD 0 kn)).getD 0 kn)
theorem lt_app {L:List Nat}(h:1<=L.length) (c:Nat):m6 L++[.str [c]]=m6 (L++[c]):=by
 cases L with
 |nil=>exact absurd h (by decide)
 |cons a L=>show _::(L.map _++[_])=_::(L++[c]).map _;rw[Br];rfl
theorem sM {L:List Nat}(h:1<=L.length):(m6 L).length=L.length:=by
 cases L with
 |nil=>exact absurd h (by decide)
 |cons a L=>show(L.map _).length+1=_;rw[zX];rfl
theorem ne_same {a:Bool}:D.cmp .NotEq (.bool a) (.bool a)=some false:=by cases a<;>rfl
theorem sign_in (M:MI P i m O told ρ){c:Nat}(h86:ρ 86=some (.fz (.str [c])))(h110:ρ 110=some (.fz (.bool (qe.contains c))))(hL:1<=m.L.length)(hl:m.L.length < lim):
  ∃ρ',aO br NN ΓM ρ (mS.drop 2)=some (.nx ρ')/\MI P i ⟨m.L++[c],m.S,m.r⟩ O told ρ'/\ρ' 109=some (.fz (Fg.d ⟨false,[m.L.length],[m.L.length]⟩)):=by
 have N1:=M.ns.setO 104 (m6 m.L++[.str [c]]);have e:∀{p1 p2 p3 p4 p5:Pos},ev br ΓM (ρ.set 104 (.own (m6 m.L++[.str [c]]))) (.bin (.blt 0 [.name 104 p1] p2 p3) .Sub (.int 1 p4) p5)=some (.d (.int (m.L.length:Int))):=fun{_ _ _ _ _}=>
  bf (e_bltB (e_nameO ae) rfl rfl (by decide) (z:=.int ((m.L.length+1:Nat):Int)) (show some (D.int ((m6 m.L++[D.str [c]]).length:Int))=_ by rw[zM,sM hL];rfl)) ak (show some (D.int (((m.L.length+1:Nat):Int) - 1))=_ by rw[Int.natCast_add];exact congrArg (fun z=>some (D.int z)) (GT _ _))
 refine⟨_,aj (c9 (bF (bh (ad (ab h86) au) rfl v5) (ab h110) ne_same) aH) (aj (xM M.a104 (ab h86) (by rfl) (by rw[sM hL];exact hl)) (aj (cn (d:=Fg.d ⟨false,[m.L.length],[m.L.length]⟩) (db (ad fy (ad (aQ (ad e au) (zS rfl)) (ad (aQ (ad e au) (zS rfl)) au))) (zS rfl)) (N1.mine rfl)) aH)),?_,ae⟩;exact⟨N1.set _ _,sN (sN M.a56),sN (sN M.a87),sN (ae.trans (by rw[lt_app hL])),sN (sN M.a105),sN (sN M.a106),sN (sN M.a107),sN (sN M.a108)⟩
theorem lY {c:Nat}(h:qe.contains c=false){b:Nat}(hb:qe.contains b=true):c≠b:=fun e=>by subst e;rw[h] at hb;exact bG hb
theorem qT {r:List Nat}(h:r.take 1≠[42]):(r.take 1==[42])=false:=beq_eq_false_iff_ne.mpr h
theorem vK (hP:P.length<=1000)(M:MI P i m O told ρ){c:Nat}{r:List Nat}(h:P.drop i=rC c++r)(hr:r.take 1≠[42])(hL:1<=m.L.length)(hl:m.L.length<=100)(ha:m.r.a.length<=100)(hz:m.r.z.length<=100)(hs:m.S.length<=100000):
  ∃ρ',mY 1 ρ ρ'/\MI P (i+(rC c).length) (m.sign c) O told ρ':=by
 have hlim:m.L.length < lim:=Ay hl (by decide);have fin:∀{j:Nat}{ρ3:ac},j<=P.length->P.drop j=r->MI P j m O told ρ3->ρ3 86=some (.fz (.str [c]))->ρ3 110=some (.fz (.bool (qe.contains c)))->∃ρ4 ρ',aO br NN ΓM ρ3 (mS.drop 2)=some (.nx ρ4)/\aO br NN ΓM ρ4 [mB.getD 3 kn]=some (.nx ρ')/\MI P j (m.sign c) O told ρ':=by
  intro j ρ3 hj hd M3 k86 k110;refine oQ (sign_in M3 k86 k110 hL hlim) fun ρ4 r4 M4 k109=>?_;refine am (qB hP M4 k109 (b:=false) hj (by rw[hd];exact qT hr) ?_ ?_ ?_ ?_) fun ρ5 r5 M5=>?_
  ·show m.S.length+0+m.r.z.length * 1<=lim
   rw[E6];exact zH (Ah hs hz) (by decide)
  ·exact zH (AD ha 1) (by decide)
  ·exact zH (AD hz 1) (by decide)
  ·exact zH (AD hs 1) (by decide)
  ·exact⟨ρ4,ρ5,r4,aj r5 aH,M5⟩
 have go:∀{c1:Nat}{ρ2 ρ3 ρ4 ρ5:ac},Hd P i c1 m O told ρ ρ2->c1≠40->c1≠124->c1≠41->(∀o,aO br NN ΓM ρ3 (mS.drop 2)=o->aO br NN ΓM ρ2 mS=o)->aO br NN ΓM ρ3 (mS.drop 2)=some (.nx ρ4)->aO br NN ΓM ρ4 [mB.getD 3 kn]=some (.nx ρ5)->mY 1 ρ ρ5:=by
  intro c1 ρ2 ρ3 ρ4 ρ5 H n1 n2 n3 h1 h2 h3;exact .one H.c (H.r _ (aj (c9 (jM n1 H.a86) (aj (c9 (jM n2 H.a86) (aj (c9 (jM n3 H.a86) (h1 _ h2)) aH)) aH)) h3))
 cases hc:qe.contains c with
 |true=>
  have e:rC c=[92,c]:=if_pos hc;rw[e] at h ⊢;refine vx (oF h) fun e1 e2 e3=>?_;refine vx (oF e2) fun e4 e5 e6=>?_;refine x1 (gG M e1) fun ρ2 H=>?_;have M2:=H.M;have N1:=M2.ns.set 110 (.bool true);have N2:=N1.set 86 (.str [c]);refine vw (fin (ρ3:=((ρ2.set 110 (.fz (.bool true))).set 86 (.fz (.str [c]))).set 87 (.fz (.int ((i+1+1:Nat):Int)))) e6 e5 ⟨N2.set _ _,sN (sN (sN M2.a56)),ae,sN (sN (sN M2.a104)),sN (sN (sN M2.a105)),sN (sN (sN M2.a106)),sN (sN (sN M2.a107)),sN (sN (sN M2.a108))⟩ (sN ae) (sN (sN (ae.trans (by rw[hc])))) ) fun ρ4 ρ5 r4 q=>aS q fun r5 M5=>?_;refine⟨ρ5,go H (by decide) (by decide) (by decide) (fun o h=>aj (cn (d:=.bool true) (kB (ab H.a86) (aT (by decide)) gP) (M2.ns.mine rfl)) (aj (eT (w9 ae) (aj (cn (d:=.str [c]) (mI (ab (sN M2.a56)) (fw (ab (sN M2.a87))) (fw (bf (ab (sN M2.a87)) ak (wH (b:=1)))) ((o5 e3 (zH (AD (zH e3 hP) 1) (by decide))).trans (by rw[e2];rfl))) (N1.mine rfl)) (aj (l8 (sN (sN M2.a87)) ak (N2.mine rfl)) aH))) h)) r4 r5,M5⟩
 |false=>
  have e:rC c=[c]:=if_neg (by rw[hc];decide);rw[e] at h ⊢;refine vx (oF h) fun e1 e2 e3=>?_;refine x1 (gG M e1) fun ρ2 H=>?_;have M2:=H.M;refine vw (fin (ρ3:=ρ2.set 110 (.fz (.bool false))) e3 e2 ⟨M2.ns.set _ _,sN M2.a56,sN M2.a87,sN M2.a104,sN M2.a105,sN M2.a106,sN M2.a107,sN M2.a108⟩ (sN H.a86) (ae.trans (by rw[hc]))) fun ρ4 ρ5 r4 q=>aS q fun r5 M5=>?_;refine⟨ρ5,go H (lY hc (by decide)) (lY hc (by decide)) (lY hc (by decide)) (fun o h=>aj (cn (d:=.bool false) ((kB (ab H.a86) (aT (by decide)) gP).trans (congrArg (fun b=>some (R.d (.bool b))) (beq_eq_false_iff_ne.mpr fun e=>lY hc (b:=92) (by decide) (AN e).1))) (M2.ns.mine rfl)) (aj (c9 (w9 ae) aH) h)) r4 r5,M5⟩
theorem vL (hP:P.length<=1000){m0:Mc}{t0:Fg}(M:MI P i m (O++[.tup [t0.d,m0.r.d]]) told ρ){star:Bool}{r:List Nat}(h:P.drop i=41::(dN 42 star++r))(hr:r.take 1≠[42])(ha:(told.or m.r).a.length<=100)(hz:(told.or m.r).z.length<=100)(ha0:m0.r.a.length<=100)(hz0:m0.r.z.length<=100)(hs:m.S.length<=100000):
  ∃ρ',mY 1 ρ ρ'/\MI P (i+1+star.toNat) (m0.shut m (told.or m.r) star) O t0 ρ':=by
 refine vx (oF h) fun e1 e2 e3=>?_;refine x1 (gG M e1) fun ρ2 H=>?_;have M2:=H.M;have hb:((P.drop (i+1)).take 1==[42])=star:=by
  rw[e2]
  cases star with
  |true=>rfl
  |false=>exact qT hr
 have N1:=M2.ns.set 109 (told.or m.r).d;have N2:=N1.setO 106 O;have N3:=(N2.set 107 t0.d).set 108 m0.r.d;have la:told.a.length+m.r.a.length<=100:=zM (as:=told.a)▸ha;have lz:told.z.length+m.r.z.length<=100:=zM (as:=told.z)▸hz;have pq:∀{a b:Nat},a<=100->b<=100->a * b<=10000:=fun h1 h2=>DC h1 h2;have M3:MI P (i+1) ⟨m.L,m.S,m0.r⟩ O t0 ((((ρ2.set 109 (.fz (told.or m.r).d)).set 106 (.own O)).set 107 (.fz t0.d)).set 108 (.fz m0.r.d)):=⟨N3,sN (sN (sN (sN M2.a56))),sN (sN (sN (sN M2.a87))),sN (sN (sN (sN M2.a104))),sN (sN (sN (sN M2.a105))),sN (sN ae),sN ae,ae⟩;refine am (qB hP M3 (f:=told.or m.r) (sN (sN (sN ae))) e3 hb ?_ ?_ ?_ ?_) fun ρ5 r5 M5=>⟨ρ5,?_,M5⟩
 ·refine zH (Ah (Ah hs (show _<=10000 from ?_)) (pq hz0 ha)) (by decide)
  cases star with
  |true=>exact pq hz ha
  |false=>exact Ae _
 ·exact zH (Ah ha0 ha) (by decide)
 ·exact zH (Ah hz0 hz) (by decide)
 ·exact zH (Ah hs (pq hz ha)) (by decide)
 ·exact .one H.c (H.r _ (aj (c9 (jM (by decide) H.a86) (aj (c9 (jM (by decide) H.a86) (aj (eT (pH H.a86) (aj (cn (bh (ad (ab M2.a107) (ad (ab M2.a108) au)) rfl (mH (zH la (by decide)) (zH lz (by decide)))) (M2.ns.mine rfl)) (aj (s_popU (ds:=[t0.d,m0.r.d]) (sN M2.a106) (by rfl) rfl (all2 (rP (N1.mine rfl) rfl) (rP (N1.mine rfl) rfl))) aH))) aH)) aH)) (aj r5 aH)))
end
end Mine
namespace Mine
noncomputable def Rx.nds:Rx->Nat
 |.w _=>0
 |.nd a b _ _=>a.nds+b.nds+1
structure Bd (m m':Mc)(t n:Nat):Prop where
 l:m'.L.length=m.L.length+t
 a:m'.r.a.length<=m.r.a.length+t
 z:m'.r.z.length<=m.r.z.length+t
 s:m'.S.length<=m.S.length+100 * t+20000 * n
theorem Bd.trans {m m1 m2:Mc}{t n t2 n2:Nat}(h:Bd m m1 t n)(k:Bd m1 m2 t2 n2):Bd m m2 (t+t2) (n+n2):=by
 refine⟨by rw[k.l,h.l,DN],?_,?_,?_⟩
 ·have:=k.a;have:=h.a;lia
 ·have:=k.z;have:=h.z;lia
 ·have:=k.s;have:=h.s;lia
theorem gF {α:Type}{b:Bool}{l:List α}:(if b then l else[]).length<=l.length:=by
 cases b with
 |false=>exact Ae _
 |true=>exact zW _
theorem t9 {m:Mc}(c:Nat)(hz:m.r.z.length<=100):Bd m (m.sign c) 1 0:=by
 refine⟨zM,?_,?_,?_⟩
 ·exact zM (as:=m.r.a)▸AA (gF (l:=[m.L.length])) _
 ·exact Cy _ _
 ·show(m.S++cj m.r.z [m.L.length]).length<=_
  rw[zM,b6];exact AA (zH (Ax (E6 _)) hz) _
theorem uc {m m2:Mc}{f:Fg}{star:Bool}{t n:Nat}(hl:m2.L.length=m.L.length+t)(fa:f.a.length<=t)(fz:f.z.length<=t)(hs:m2.S.length<=m.S.length+100 * t+20000 * n)(ht:t<=100)(hz:m.r.z.length<=100):Bd m (m.shut m2 f star) t (n+1):=by
 have pq:∀{a b:Nat},a<=100->b<=100->a * b<=10000:=fun h1 h2=>DC h1 h2;refine⟨hl,?_,?_,?_⟩
 ·exact zM (as:=m.r.a)▸AA (zH (gF (l:=f.a)) fa) _
 ·refine zM (as:=f.z)▸zH (Ah fz (gF (l:=m.r.z))) (Ax (B0 _ _))
 ·show((if star then m2.S++cj f.z f.a else m2.S)++cj m.r.z f.a).length<=_
  have h1:(if star then m2.S++cj f.z f.a else m2.S).length<=m2.S.length+10000:=by
   cases star with
   |false=>exact AC _ _
   |true=>rw[if_pos rfl,zM,b6];exact AA (pq (zH fz ht) (zH fa ht)) _
  have h2:m.r.z.length * f.a.length<=10000:=pq hz (zH fa ht);rw[zM,b6]
  lia
theorem qJ:∀(t:List Nat){m:Mc},m.r.z.length+t.length<=100->Bd m (t.foldl Mc.sign m) t.length 0
 |[],m,h=>⟨rfl,zW _,zW _,zW _⟩
 |c::t,m,h=>by
  rw[AB] at h ⊢;have h1:=t9 c (m:=m) (by lia);have h2:=qJ t (m:=m.sign c) (by have:=h1.z;lia);have:=h1.trans h2;rw[B0 1] at this;exact this
theorem jd (k:Nat):∀(r:Rx){m:Mc},m.r.z.length+r.ltr k<=100->Bd m (r.mc k m) (r.ltr k) r.nds
 |.w t,m,h=>qJ (cI k t) h
 |.nd a b alt star,m,h=>by
  have hh:m.r.z.length+(a.ltr k+b.ltr k)<=100:=h;have z0:m.fresh.r.z.length=0:=rfl;have h1:=jd k a (m:=m.fresh) (by rw[z0];lia);have hz1:(a.mc k m.fresh).r.z.length<=a.ltr k:=zH h1.z (by rw[z0,AV];exact zW _);have ha1:(a.mc k m.fresh).r.a.length<=a.ltr k:=zH h1.a (Ax (AV _))
  cases alt with
  |false=>
   have h2:=h1.trans (jd k b (m:=a.mc k m.fresh) (by lia));exact uc (m2:=b.mc k (a.mc k m.fresh)) (f:=e0.or (b.mc k (a.mc k m.fresh)).r) h2.l (zH h2.a (Ax (AV _))) (zH h2.z (Ax (AV _))) h2.s (by lia) (by lia)
  |true=>
   have h2:=jd k b (m:=(a.mc k m.fresh).fresh) (by show 0+_<=100;lia);have hz2:(b.mc k (a.mc k m.fresh).fresh).r.z.length<=b.ltr k:=zH h2.z (Ax (AV _));have ha2:(b.mc k (a.mc k m.fresh).fresh).r.a.length<=b.ltr k:=zH h2.a (Ax (AV _));refine uc (m2:=b.mc k (a.mc k m.fresh).fresh) (f:=(e0.or (a.mc k m.fresh).r).or (b.mc k (a.mc k m.fresh).fresh).r) (h2.l.trans (by rw[show(a.mc k m.fresh).fresh.L.length=_ from h1.l,DN];rfl)) ?_ ?_ ?_ (by lia) (by lia)
   ·exact zM (as:=[]++(a.mc k m.fresh).r.a)▸Ah ha1 ha2
   ·exact zM (as:=[]++(a.mc k m.fresh).r.z)▸Ah hz1 hz2
   ·have e1:=h1.s
    have e2:=h2.s;replace e1:(a.mc k m.fresh).S.length<=m.S.length+100 * a.ltr k+20000 * a.nds:=e1;replace e2:(b.mc k (a.mc k m.fresh).fresh).S.length<=(a.mc k m.fresh).S.length+100 * b.ltr k+20000 * b.nds:=e2;show _<=m.S.length+100 * (a.ltr k+b.ltr k)+20000 * (a.nds+b.nds)
    lia
noncomputable def zC (l:List Nat):Prop:=l.take 1≠[42]
theorem fT {c:Nat}{l:List Nat}(h:c≠42):zC (c::l):=fun e=>h (AN e).1
theorem ns_esc {c:Nat}{l:List Nat}:zC (rC c++l):=by
 unfold rC
 cases hc:qe.contains c with
 |true=>exact fT (by decide)
 |false=>exact fT (lY hc (by decide))
theorem x4:∀{t r:List Nat},zC r->zC (ki rn t++r)
 |[],r,h=>h
 |c::t,r,h=>by rw[lT,Az];exact ns_esc
theorem ns_pat (k:Nat):∀(x:Rx){r:List Nat},zC r->zC (x.pat k++r)
 |.w t,r,h=>x4 h
 |.nd a b alt star,r,h=>by
  show zC ([40]++a.pat k++dN 124 alt++b.pat k++[41]++dN 42 star++r);simp only[Az];exact fT (by decide)
theorem ns_opt {b:Bool}{r:List Nat}(h:zC r):zC (dN 124 b++r):=by
 cases b with
 |true=>exact fT (by decide)
 |false=>exact h
theorem uy {c:Nat}{b:Bool}:(dN c b).length=b.toNat:=by cases b<;>rfl
theorem pat_nd {k:Nat}{a b:Rx}{alt star:Bool}:((Rx.nd a b alt star).pat k).length=1+(a.pat k).length+alt.toNat+(b.pat k).length+1+star.toNat:=by
 show([40]++a.pat k++dN 124 alt++b.pat k++[41]++dN 42 star).length=_;rw[zM,zM,zM,zM,zM,uy,uy];rfl
structure Bo (m:Mc)(t n:Nat):Prop where
 l1:1<=m.L.length
 l:m.L.length+t<=100
 a:m.r.a.length+t<=100
 z:m.r.z.length+t<=100
 s:m.S.length+100 * t+20000 * n<=100000
theorem Bo.go {m m':Mc}{t n t2 n2:Nat}(h:Bo m (t+t2) (n+n2))(b:Bd m m' t n):Bo m' t2 n2:=by
 refine⟨?_,?_,?_,?_,?_⟩
 ·rw[b.l];exact zH h.l1 (AC _ _)
 ·rw[b.l,DN];exact h.l
 ·have:=b.a;have:=h.a;lia
 ·have:=b.z;have:=h.z;lia
 ·have:=b.s;have:=h.s;lia
theorem Bo.fst {m:Mc}{t n t2 n2:Nat}(h:Bo m (t+t2) (n+n2)):Bo m t n:=⟨h.l1,by have:=h.l;lia,by have:=h.a;lia,by have:=h.z;lia,by have:=h.s;lia⟩
theorem Bo.fresh {m:Mc}{t n:Nat}(h:Bo m t n):Bo m.fresh t n:=⟨h.l1,h.l,by show 0+t<=100;have:=h.l;lia,by show 0+t<=100;have:=h.l;lia,h.s⟩
noncomputable def Rx.its (k:Nat):Rx->Nat
 |.w t=>(cI k t).length
 |.nd a b _ _=>a.its k+b.its k+3
section
variable {P:List Nat}(hP:P.length<=1000)
theorem MI.pos {P:List Nat}{i j:Nat}{m:Mc}{O:List D}{told:Fg}{ρ:ac}(h:i=j)(M:MI P i m O told ρ):MI P j m O told ρ:=h▸M
theorem fG {P u r:List Nat}{i:Nat}(h:P.drop i=u++r):P.drop (i+u.length)=r:=by rw[<-Ec,h,Eb]
include hP
theorem qw:∀(t:List Nat){i:Nat}{m:Mc}{O:List D}{told:Fg}{ρ:ac}{r:List Nat},MI P i m O told ρ->P.drop i=ki rn t++r->zC r->Bo m t.length 0->∃ρ',mY t.length ρ ρ'/\MI P (i+(ki rn t).length) (t.foldl Mc.sign m) O told ρ'
 |[],i,m,O,told,ρ,r,M,h,hr,B=>⟨ρ,.refl,M⟩
 |c::t,i,m,O,told,ρ,r,M,h,hr,B=>by
  rw[lT,Az] at h;replace B:Bo m (1+t.length) (0+0):=by rw[B0 1];exact B
  have b1:=B.fst;refine am (vK hP M h (x4 hr) b1.l1 (AX b1.l) (AX b1.a) (AX b1.z) (zH (AC _ _) b1.s)) fun ρ1 r1 M1=>?_;refine am (qw t M1 (fG h) hr (B.go (t9 c (AX b1.z)))) fun ρ2 r2 M2=>?_;refine⟨ρ2,(show mY (t.length+1) ρ ρ2 from B0 1 t.length▸r1.trans r2),MI.pos ?_ M2⟩;rw[lT,zM,DN]
theorem i9 (k:Nat):∀(x:Rx){i:Nat}{m:Mc}{O:List D}{told:Fg}{ρ:ac}{r:List Nat},MI P i m O told ρ->P.drop i=x.pat k++r->zC r->Bo m (x.ltr k) x.nds->O.length+x.nds<=100->∃ρ',mY (x.its k) ρ ρ'/\MI P (i+(x.pat k).length) (x.mc k m) O told ρ'
 |.w t,i,m,O,told,ρ,r,M,h,hr,B,hO=>qw hP (cI k t) M h hr B
 |.nd a b alt star,i,m,O,told,ρ,r,M,h,hr,B,hO=>by
  replace h:P.drop i=[40]++a.pat k++dN 124 alt++b.pat k++[41]++dN 42 star++r:=h;simp only[Az] at h;have Bl:Bo m (a.ltr k+b.ltr k) (a.nds+(b.nds+1)):=B;have hO':O.length+(a.nds+b.nds+1)<=100:=hO;have Bf:=Bl.fresh;have ba:=Bf.fst;have d1:=jd k a (m:=m.fresh) ba.z;have B1:=Bf.go d1;refine am (vW M h (Ay (zH (AC _ _) hO') (by decide))) fun ρ1 r1 M1=>?_;have h1:P.drop (i+1)=_:=fG (u:=[40]) h;have lO:(O++[D.tup [told.d,m.r.d]]).length=O.length+1:=zM;refine am (i9 k a M1 h1 (ns_opt (ns_pat k b (fT (by decide)))) ba (by rw[lO];lia)) fun ρ2 r2 M2=>?_;have h2:=fG h1;have ea:(a.mc k m.fresh).r.a.length<=a.ltr k:=zH d1.a (Ax (AV _));have ez:(a.mc k m.fresh).r.z.length<=a.ltr k:=zH d1.z (Ax (AV _));have tt:a.ltr k+b.ltr k<=100:=zH (Cy _ _) Bl.z;have fin:∀{j:Nat}{m2:Mc}{t:Fg}{ρ3:ac}{n:Nat},MI P j m2 (O++[D.tup [told.d,m.r.d]]) t ρ3->P.drop j=[41]++(dN 42 star++r)->mY n ρ ρ3->n+1<=(Rx.nd a b alt star).its k->(t.or m2.r).a.length<=a.ltr k+b.ltr k->(t.or m2.r).z.length<=a.ltr k+b.ltr k->m2.S.length<=100000->j+1+star.toNat=i+((Rx.nd a b alt star).pat k).length->m.shut m2 (t.or m2.r) star=(Rx.nd a b alt star).mc k m->
    ∃ρ',mY ((Rx.nd a b alt star).its k) ρ ρ'/\MI P (i+((Rx.nd a b alt star).pat k).length) ((Rx.nd a b alt star).mc k m) O told ρ':=by
   intro j m2 t ρ3 n M3 h3 q3 hn fa fz hs hj hm;refine am (vL hP M3 h3 hr (zH fa tt) (zH fz tt) (zH (AC _ _) Bl.a) (zH (AC _ _) Bl.z) hs) fun ρ4 r4 M4=>?_;exact⟨ρ4,(q3.trans r4).mono hn,MI.pos hj (hm▸M4)⟩
  have pl:((Rx.nd a b alt star).pat k).length=1+(a.pat k).length+alt.toNat+(b.pat k).length+1+star.toNat:=pat_nd;have qa:mY (1+a.its k) ρ ρ2:=r1.trans r2;have it:(Rx.nd a b alt star).its k=a.its k+b.its k+3:=rfl
  cases alt with
  |false=>
   refine am (i9 k b M2 h2 (fT (by decide)) (B1.fst (t2:=0) (n2:=1)) (by rw[lO];lia)) fun ρ3 r3 M3=>?_;have d2:=d1.trans (jd k b (m:=a.mc k m.fresh) (B1.fst (t2:=0) (n2:=1)).z);have s2:=(B1.go (jd k b (m:=a.mc k m.fresh) (B1.fst (t2:=0) (n2:=1)).z) (t2:=0) (n2:=1)).s;exact fin M3 (fG h2) (qa.trans r3) (by rw[it];lia) (zH d2.a (Ax (AV _))) (zH d2.z (Ax (AV _))) (by lia) (by rw[pl];show _=i+(1+_+0+_+1+_);lia) rfl
  |true=>
   refine am (zq M2 h2 (zH (show 0+_<=100 by lia) (by decide)) (zH (show 0+_<=100 by lia) (by decide))) fun ρ3 r3 M3=>?_;have h3:P.drop (i+1+(a.pat k).length+1)=_:=fG (u:=[124]) h2;have B2:=B1.fresh;refine am (i9 k b M3 h3 (fT (by decide)) (B2.fst (t2:=0) (n2:=1)) (by rw[lO];lia)) fun ρ4 r4 M4=>?_;have d2:=jd k b (m:=(a.mc k m.fresh).fresh) (B2.fst (t2:=0) (n2:=1)).z;have s2:=(B2.go d2 (t2:=0) (n2:=1)).s;refine fin M4 (fG h3) ((qa.trans r3).trans r4) (by rw[it];lia) ?_ ?_ (by lia) (by rw[pl];show _=i+(1+_+1+_+1+_);lia) rfl
   ·exact zM (as:=[]++(a.mc k m.fresh).r.a)▸Ah ea (zH d2.a (Ax (AV _)))
   ·exact zM (as:=[]++(a.mc k m.fresh).r.z)▸Ah ez (zH d2.z (Ax (AV _)))
end
end Mine
namespace Mine
noncomputable def Mc.d (m:Mc):D:=.tup [.list (m6 m.L),.list (m.fin.map jz),il m.ends]
theorem qV (k:Nat){x:Rx}(hP:(x.pat k).length<=1000)(hl:x.ltr k<=60)(hn:x.nds<=3)(hi:x.its k<=99):jE.call 50 [.str (x.pat k)]=some (x.mc k d9).d:=by
 refine bw (tx dF dC 0 cL) (Φ:=br) rfl rfl rfl ?_;have N0:de (aw [56] [.str (x.pat k)] fun J=>none):=mm
 let ρ1:ac:=((((aw [56] [.str (x.pat k)] fun J=>none).set 104 (.own (m6 d9.L))).set 105 (.own (d9.S.map jz))).set 106 (.own []))
 have N1:de ρ1:=((N0.setO _ _).setO _ _).setO _ _
 let ρ2:ac:=((ρ1.set 107 (.fz e0.d)).set 108 (.fz e1.d)).set 87 (.fz (.int ((0:Nat):Int)))
 have N2:de ρ2:=((N1.set _ _).set _ _).set _ _;have M2:MI (x.pat k) 0 d9 [] e0 ρ2:=⟨N2,rfl,rfl,rfl,rfl,rfl,rfl,rfl⟩;have b:=jd k x (m:=d9) (zH (show 0+x.ltr k<=60 from(AV _).symm▸hl) (by decide));have B:Bo d9 (x.ltr k) x.nds:=⟨zW 1,by show 1+_<=100;lia,by show 0+_<=100;lia,by show 0+_<=100;lia,by show 0+_+_<=_;lia⟩;refine am (i9 hP k x (r:=[]) M2 (by rw[AF];rfl) (fun e=>nomatch e) B (by show 0+_<=100;lia)) fun ρ3 r3 M3=>?_;refine am r3 fun j hj f=>?_;have ba:(x.mc k d9).r.a.length<=60:=zH b.a (by show 0+_<=60;lia);have bz:(x.mc k d9).r.z.length<=60:=zH b.z (by show 0+_<=60;lia);have bs:(x.mc k d9).S.length<=66000:=zH b.s (by show 0+_+_<=_;lia);have w:jL cM bM NN ρ2=some (.nx ρ3):=by
  have e:(NN - j - 1)+1+j=NN:=by show 100 - j - 1+1+j=100;lia
  have:=f (NN - j - 1+1) _ (w_stop ?_)
  ·rw[e] at this;exact this
  ·refine(bF (ab M3.a87) (ed (ab M3.a56) rfl (by decide) len_str) (show D.cmp .Lt (.int ((0+(x.pat k).length:Nat):Int)) (.int ((x.pat k).length:Int))=some (decide (((0+(x.pat k).length:Nat):Int) < ((x.pat k).length:Int))) from rfl)).trans ?_
   rw[AV];exact congrArg some (decide_eq_false (Int.lt_irrefl _))
 have hS:((x.mc k d9).S.map jz).length+((cj [0] (x.mc k d9).r.a).map jz).length<=lim:=by
  rw[zX,zX,b6];exact zH (Ah bs (DC (zW 1) ba)) (by decide)
 have N4:=M3.ns.setO 105 ((x.mc k d9).S.map jz++(cj [0] (x.mc k d9).r.a).map jz);refine aj (ρ':=ρ1) (fO (iG (aQ (ad (aT (Ae _)) au) (zS rfl)) rfl (iG (aQ au (Ae _)) rfl (iG (aQ au (Ae _)) rfl je))) rfl (by rfl) (by decide) (N0.all rfl) (zS rfl)) ?_;refine aj (ρ':=ρ2) (fO (jf (db (ad fy (ad (aQ au (Ae _)) (ad (aQ au (Ae _)) au))) (zS rfl)) (jf (db (ad fy (ad (aQ au (Ae _)) (ad (aQ au (Ae _)) au))) (zS rfl)) (jf ak je))) rfl (by rfl) (by decide) (N1.all rfl) (zS rfl)) ?_;refine aj (s_whl w) ?_;refine aj (xK (m:=(cj [0] (x.mc k d9).r.a).map jz) M3.a105 (Dn (f3 (l:=(x.mc k d9).r.a) (c:=fun(p:Nat)=>.int (p:Int)) (k:=fun(p:Nat)=>jz (0,p)) (by rfl) (aC (ab M3.a108) ak rfl) rfl (by rfl) (fun p hp=>db (ad ak (ad (ab ae) au)) sR) (zH ba (by decide))) (congrArg (fun l=>some (R.d (.list l))) ?_)) (by rfl) hS) ?_
 ·rw[gB];exact(AF _).symm
 refine aj (nX (sN M3.a104)) (aj (nX (sN ae)) (cm (dO ?_)));refine db (ad (ab (sN ae)) (ad ((ab ae).trans (congrArg (fun l=>some (R.d (.list l))) (by rw[<-Br];rfl))) (ad (bf (aC (ab (sN (sN (sN M3.a108)))) ak rfl) (y3 (xa (ab (sN (sN (sN M3.a108)))) ak rfl) (?_:_=some (R.d (il (if(x.mc k d9).r.n then[0] else[]))))) (iH ?_)) au))) (zS rfl)
 ·cases(x.mc k d9).r.n with
  |true=>exact(show ev _ _ _ _=some (.d (il [0])) from aQ (ad ak au) (zS rfl))
  |false=>exact(show ev _ _ _ _=some (.d (il [])) from aQ au (Ae _))
 ·exact zH (Ah bz (gF (l:=[0]))) (by decide)
end Mine
namespace Mine
section
variable {w:List Nat}
theorem uU {n:Nat}{r:Rx}{l:List Nat}(h:zD w (eE n) r l):dt w (eE (n+1)) r l:=
 oQ h fun es B m e=>⟨es,B,m,bw (tx dy dw 0 bX) (Φ:=eE n) (Φ':=eE (n+1)) (tF:=tFE) rfl rfl rfl e⟩
theorem yk (hw:w.length<=16){t:List Nat}(ht:t.length<=100):∀n l,Bg w l->dt w (eE n) (.w t) l
 |0,l,B=>oQ (oq (Φ:=br) (zH hw (by decide)) ht B) fun es B2 m e=>⟨es,B2,m,(show jE.call 48 [(Rx.w t).d,.str w,il l]=some (il es) from bw (tx dy dw 0 bX) (Φ:=br) (Φ':=jE) (tF:=tF2) rfl rfl rfl e)⟩
 |n+1,l,B=>uU (oq (zH hw (by decide)) ht B)
theorem nd_all (hw:w.length<=16){a b:Rx}{alt star:Bool}{c:Nat}(hA:∀n,c<=n->∀l,Bg w l->dt w (eE n) a l)(hB:∀n,c<=n->∀l,Bg w l->dt w (eE n) b l):
  ∀n l,Bg w l->c<=n->c+18<=n+l.length->dt w (eE (n+1)) (.nd a b alt star) l:=by
 intro n;have hm:∀{l},Bg w l->l.length<=17:=fun B=>zH (yn B.nd B.le) (B9 hw)
 induction n with
 |zero=>
  intro l B hc h;have:=hm B
  lia
 |succ n ih=>
  intro l B hc h;refine uU (nd_ends (zH hw (by decide)) B (hA _ hc) (hB _ hc) fun _ m Bm hlt=>ih m Bm ?_ (by lia));have:=hm Bm
  lia
theorem sK (hw:w.length<=16){a b:Rx}{alt star:Bool}{c:Nat}(hA:∀n,c<=n->∀l,Bg w l->dt w (eE n) a l)(hB:∀n,c<=n->∀l,Bg w l->dt w (eE n) b l):∀n,c+19<=n->∀l,Bg w l->dt w (eE n) (.nd a b alt star) l
 |0,h,l,B=>absurd h (Gk _)
 |n+1,h,l,B=>nd_all hw hA hB n l B (by lia) (by lia)
theorem vB (hw:w.length<=16){a b:Nat}{f:Nat->Nat}{g h:Nat->Bool}{l:List Nat}(B:Bg w l):dt w (eE 40) (bN a b f g h) l:=by
 have lf:∀i,∀n,0<=n->∀l,Bg w l->dt w (eE n) (.w (dM a b i)) l:=fun i n _ l B=>yk hw (zH gi (by decide)) n l B;exact sK (c:=19) hw (sK (c:=0) hw (lf _) (lf _)) (sK (c:=0) hw (lf _) (lf _)) 40 (by decide) l B
end
theorem jD {f:Nat}{args:List D}(h:tFE f=none):∀n,(eE n).call f args=cT.call f args
 |0=>rfl
 |n+1=>by
  show(match tFE f with|some t=>l9 (eE n) NN t args|none=>(eE n).call f args)=_;rw[h];exact jD h n
section
variable {Φ:bq}{Γ:ah}{ρ:ac}{N:Nat}{d x y z:D}{p q r:Pos}
theorem s_ownB {n:Nat}{a b:E}{l m:List D}{q1:Pos}(h1:ev Φ Γ ρ a=some (.d (.list l)))(h2:ev Φ Γ ρ b=some (.d (.list m)))(hm:Γ.mine ρ n=true)(hl:l.length+m.length<=lim):bb Φ N Γ ρ (.own n (.bin a .Add b q1) p q)=some (.nx (ρ.set n (.own (l++m)))):=by
 refine zF fK ?_;show(ev Φ Γ ρ a).bind _=_;refine zF h1 ?_;show(ev Φ Γ ρ b).bind _=_;refine zF h2 ?_;exact if_pos ⟨hm,hl⟩
theorem s_seti {n:Nat}{i e:E}{l l':List D}{q1 q2 q3:Pos}(he:e.isCp=false)(hn:ρ n=some (.own l))(h2:ev Φ Γ ρ e=some (.d y))(h1:ev Φ Γ ρ i=some (.d x))(h3:n8 l x y=some l'):bb Φ N Γ ρ (.seti n i e q1 q2 q3)=some (.nx (ρ.set n (.own l'))):=by
 refine zF j1<|(Dn (show _=_ from if_neg (by rw[he];exact fun e=>bG e))<|zF hn<|zF h2<|zF h1 ?_)
 show(n8 l x y).map _=_;exact zF h3 rfl
theorem mD {α:Type}{c:α->D}{x:Nat}{tp:Pos}{body:ac->Option gh}{I:List α->ac->Prop}{all:List α}(hm:∀l ρ,I l ρ->Γ.mine ρ x=true)(st:∀a done rest ρ,all=done++a::rest->I done ρ->∃ρ',body (ρ.set x (.fz (c a)))=some (.nx ρ')/\I (done++[a]) ρ'):∀(l done:List α)(ρ:ac),all=done++l->I done ρ->∃ρ',eX Γ (.name x tp) body ρ (l.map c)=some (.nx ρ')/\I all ρ'
 |[],done,ρ,e,h=>⟨ρ,yP,(e.trans (AF done)).symm▸h⟩
 |a::l,done,ρ,e,h=>by
  refine am (st a done l ρ e h) fun ρ1 r1 h1=>?_;refine am (mD (tp:=tp) hm st l (done++[a]) ρ1 (e.trans (Az done [a] l).symm) h1) fun ρ2 r2 h2=>?_;exact⟨ρ2,tc (hm _ _ h) r1 r2,h2⟩
end
noncomputable def bl (n:Nat)(g:Nat->Bool):List D:=(z6 n).map fun j=>.bool (g j)
theorem pU {n:Nat}{g:Nat->Bool}:(bl n g).length=n:=by unfold bl;rw[zX,Bv]
theorem bl_at {n i:Nat}{g:Nat->Bool}(h:i < (bl n g).length):(bl n g)[i]=.bool (g i):=by
 exact(B7 (l:=z6 n) (i:=i) (f:=fun j=>D.bool (g j)) (h:=h)).trans (congrArg (fun j=>D.bool (g j)) (Ez ..))
theorem bl_put {n j:Nat}{g:Nat->Bool}(h:j < n):n8 (bl n g) (.int (j:Int)) (.bool true)=some (bl n fun i=>g i||(j==i)):=by
 show(if 0<=(j:Int)/\(j:Int) < ((bl n g).length:Int) then some ((bl n g).set (j:Int).toNat (.bool true)) else none)=_;refine(if_pos ⟨Ar j,by rw[pU];exact BW.mpr h⟩).trans ?_;rw[Co];refine congrArg some (Dh (by rw[Cv,pU,pU]) fun i h1 h2=>?_);rw[List.getElem_set];rw[bl_at,bl_at]
 by_cases e:j=i
 ·rw[if_pos e,beq_iff_eq.mpr e,FT]
 ·rw[if_neg e,beq_eq_false_iff_ne.mpr e,Ew]
theorem bl_none (t:List Nat):t.map (fun _=>D.bool false)++[.bool false]=bl (t.length+1) fun _=>false:=by
 unfold bl;rw[E8,Br,GA];refine congrArg (·++[D.bool false]) (Dh (by rw[zX,zX,Bv]) fun i h1 h2=>?_);rw[B7,B7]
theorem zm {α:Type}(l:List α)(a:α)(p:α->Bool):(l++[a]).any p=(l.any p||p a):=by rw[List.any_append,Dl,List.any_nil,Ew]
noncomputable abbrev ΓU:ah:=aN fN 0
open Classical in
noncomputable def dueL (k:Nat)(r:Rx)(w:List Nat):List D:=bl ((cI k w).length+1) fun j=>decide (Lg k r ((cI k w).take j))
open Classical in
theorem due_run {k:Nat}(hk:k < 5){w:List Nat}(hw:w.length<=16){a b:Nat}{f:Nat->Nat}{g h:Nat->Bool}:qR.call 54 [(bN a b f g h).d,.str w,.int (k:Int)]=some (.list (dueL k (bN a b f g h) w)):=by
 refine oQ (vB hw (l:=[0]) (a:=a) (b:=b) (f:=f) (g:=g) (h:=h) ⟨by decide,fun s hs=>by rw[zY.mp hs];exact Ae _⟩) fun es Be me ce=>?_;generalize bN a b f g h=x at me ce ⊢;have sp:∀{v:List Nat},v.length<=100->(eE 40).call 44 [.str v,.int (k:Int)]=some (.str (cI k v)):=fun hv=>(jD rfl 40).trans (kj hk hv);have hn:(cI k w).length<=96:=zH (gv hk w) (Bh 6 hw);have key:qR.call 54 [x.d,.str w,.int (k:Int)]=some (.list (bl ((cI k w).length+1) fun j=>es.any fun e=>(cI k (w.take e)).length==j)):=by
  refine bw (tx fQ fN 0 dT) (Φ:=eE 40) (Φ':=qR) (tF:=tF9) rfl rfl rfl ?_
  let ρ0:ac:=aw [96,99,83] [x.d,.str w,.int (k:Int)] fun J=>none
  have N0:de ρ0:=mm
  let ρ1:ac:=ρ0.set 125 (.own (bl ((cI k w).length+1) fun _=>false))
  have N1:de ρ1:=N0.setO _ _
  refine am (mD (Γ:=ΓU) (all:=es) (c:=fun(e:Nat)=>.int (e:Int)) (x:=81) (tp:=tpOf (dT.getD 1 kn)) (body:=fun ρ=>aO (eE 40) NN ΓU ρ (gQ (dT.getD 1 kn)))
   (I:=fun done ρ=>de ρ/\ρ 99=some (.fz (.str w))/\ρ 83=some (.fz (.int (k:Int)))/\ρ 125=some (.own (bl ((cI k w).length+1) fun j=>done.any fun e=>(cI k (w.take e)).length==j)))
   (fun l ρ h=>h.1.mine rfl) (fun e done rest ρ he ⟨N,h99,h83,h125⟩=>?_) es [] ρ1 rfl ⟨N1,rfl,rfl,rfl⟩) fun ρ2 r2 ⟨N2,_,_,h125⟩=>?_
  ·have hle:=Be.le e (he▸AI done (zU ..))
   have htk:(w.take e).length<=100:=by rw[DR];exact zH (BR _ _) (zH hw (by decide))
   have hpos:(cI k (w.take e)).length < (cI k w).length+1:=by
    have:cI k w=cI k (w.take e)++cI k (w.drop e):=by rw[<-oU,C7]
    rw[this,zM];exact Nat.lt_succ_of_le (AC _ _)
   have sl:D.slice (.str w) none (some (.int (e:Int)))=some (.str (w.take e)):=by
    refine(su ⟨Dw (DO (Ar _)) (Ar _),C5.mpr (zH hle (zH hw (by decide)))⟩).trans ?_;rw[mR hle]
   refine⟨_,aj (s_seti rfl (sN h125) fy (ed (bh (ad (mI (ab (sN h99)) pp (fw (ab ae)) sl) (ad (ab (sN h83)) au)) rfl (sp htk)) rfl (by decide) len_str) (bl_put hpos)) aH,(N.set _ _).setO _ _,sN (sN h99),sN (sN h83),ae.trans ?_⟩;refine congrArg (fun g=>some (dL.own (bl _ g))) (funext fun j=>?_);exact(zm done e _).symm
  ·refine aj (ρ':=ρ1) ((s_ownB (l:=(cI k w).map fun _=>D.bool false) (m:=[.bool false]) (f3 (l:=cI k w) (c:=fun c=>.str [c]) (k:=fun _=>.bool false) (by rfl) (bh (ad (ab rfl) (ad (ab rfl) au)) rfl (sp (zH hw (by decide)))) rfl (by rfl) (fun c hc=>fy) (zH hn (by decide))) (aQ (ad fy au) (zS rfl)) (N0.mine rfl) (by rw[zX];exact zH (AD hn 1) (by decide))).trans (congrArg (fun l=>some (gh.nx (ρ0.set 125 (.own l)))) (bl_none _))) ?_
   exact aj (qL (bh (ad (ab rfl) (ad (ab rfl) (ad (aQ (ad ak au) (zS rfl)) au))) rfl ce) rfl r2) (aj (nX h125) (cm (dO (ab ae))))
 refine key.trans (congrArg (fun l=>some (D.list l)) (Cr fun j hj=>congrArg D.bool ?_));have hj:j<=(cI k w).length:=DL (BH.mp hj);rw[CW,decide_eq_true_eq,due_at hk x hj,List.any_eq_true]
 constructor
 ·rintro⟨e,he,hp⟩
  obtain⟨s,hs,hm⟩:=(me e).mp he;obtain rfl:=zY.mp hs;exact⟨e,hm,beq_iff_eq.mp hp⟩
 ·rintro⟨e,hm,hp⟩
  exact⟨e,(me e).mpr ⟨0,zY.mpr rfl,hm⟩,beq_iff_eq.mpr hp⟩
end Mine
namespace Mine
noncomputable def Rx.lv:Rx->Nat
 |.w _=>1
 |.nd a b _ _=>a.lv+b.lv
structure Bw (m m':Mc)(t v n:Nat):Prop where
 a:m'.r.a.length<=m.r.a.length+v
 z:m'.r.z.length<=m.r.z.length+v
 s:m'.S.length<=m.S.length+(t+4 * v+32 * n)
theorem Bw.trans {m m1 m2:Mc}{t v n t2 v2 n2:Nat}(h:Bw m m1 t v n)(k:Bw m1 m2 t2 v2 n2):Bw m m2 (t+t2) (v+v2) (n+n2):=by
 refine⟨?_,?_,?_⟩
 ·have:=k.a;have:=h.a;lia
 ·have:=k.z;have:=h.z;lia
 ·have:=k.s;have:=h.s;lia
theorem ul:∀(t:List Nat){m:Mc},m.r.n=false->m.r.z.length=1->Bw m (t.foldl Mc.sign m) t.length 0 0
 |[],m,h,hz=>⟨zW _,zW _,zW _⟩
 |c::t,m,h,hz=>by
  have h2:=ul t (m:=m.sign c) (show(m.r.n&&false)=false from CE _) rfl;have hs:(m.sign c).S.length=m.S.length+1:=by
   show(m.S++cj m.r.z [m.L.length]).length=_;rw[zM,b6,hz];rfl
  have ha:(m.sign c).r.a.length=m.r.a.length:=by
   show(m.r.a++(if m.r.n then _ else[])).length=_;rw[h];exact congrArg CD (AF _)
  have e:(c::t).foldl Mc.sign m=t.foldl Mc.sign (m.sign c):=rfl;refine⟨?_,?_,?_⟩
  ·rw[e, <-ha];exact h2.a
  ·rw[e];exact zH h2.z (by rw[hz];exact zW _)
  ·rw[e,AB];have:=h2.s;rw[hs] at this;lia
theorem word_bw {t:List Nat}{m:Mc}(hz:m.r.z.length<=4):Bw m (t.foldl Mc.sign m) t.length 1 0:=by
 cases t with
 |nil=>exact⟨AC _ _,AC _ _,AC _ _⟩
 |cons c t=>
  have h2:=ul t (m:=m.sign c) (show(m.r.n&&false)=false from CE _) rfl;have hs:(m.sign c).S.length=m.S.length+m.r.z.length:=by
   show(m.S++cj m.r.z [m.L.length]).length=_;rw[zM,b6];exact congrArg (_+·) (E6 _)
  have ha:(m.sign c).r.a.length<=m.r.a.length+1:=by
   show(m.r.a++(if m.r.n then _ else[])).length<=_;rw[zM];exact AA (gF (l:=[m.L.length])) _
  have e:(c::t).foldl Mc.sign m=t.foldl Mc.sign (m.sign c):=rfl;refine⟨?_,?_,?_⟩
  ·rw[e];exact zH h2.a ha
  ·rw[e];exact zH h2.z (Cy _ _)
  ·rw[e,AB];have:=h2.s;rw[hs] at this;lia
theorem ub {m m2:Mc}{f:Fg}{star:Bool}{t v n:Nat}(fa:f.a.length<=v)(fz:f.z.length<=v)(hs:m2.S.length<=m.S.length+(t+4 * v+32 * n))(ht:v<=4)(hz:m.r.z.length<=4):Bw m (m.shut m2 f star) t v (n+1):=by
 have pq:∀{a b:Nat},a<=4->b<=4->a * b<=16:=fun h1 h2=>DC h1 h2;refine⟨?_,?_,?_⟩
 ·exact zM (as:=m.r.a)▸AA (zH (gF (l:=f.a)) fa) _
 ·refine zM (as:=f.z)▸zH (Ah fz (gF (l:=m.r.z))) (Ax (B0 _ _))
 ·show((if star then m2.S++cj f.z f.a else m2.S)++cj m.r.z f.a).length<=_
  have h1:(if star then m2.S++cj f.z f.a else m2.S).length<=m2.S.length+16:=by
   cases star with
   |false=>exact AC _ _
   |true=>rw[if_pos rfl,zM,b6];exact AA (pq (zH fz ht) (zH fa ht)) _
  have h2:m.r.z.length * f.a.length<=16:=pq hz (zH fa ht);rw[zM,b6]
  lia
theorem uE (k:Nat):∀(r:Rx){m:Mc},m.r.z.length+r.lv<=4->Bw m (r.mc k m) (r.ltr k) r.lv r.nds
 |.w t,m,h=>word_bw (t:=cI k t) (zH (AC _ _) h)
 |.nd a b alt star,m,h=>by
  have hh:m.r.z.length+(a.lv+b.lv)<=4:=h;have h1:=uE k a (m:=m.fresh) (by show 0+_<=4;lia);have hz1:(a.mc k m.fresh).r.z.length<=a.lv:=zH h1.z (Ax (AV _));have ha1:(a.mc k m.fresh).r.a.length<=a.lv:=zH h1.a (Ax (AV _))
  cases alt with
  |false=>
   have h2:=h1.trans (uE k b (m:=a.mc k m.fresh) (by lia));exact ub (m2:=b.mc k (a.mc k m.fresh)) (f:=e0.or (b.mc k (a.mc k m.fresh)).r) (zH h2.a (Ax (AV _))) (zH h2.z (Ax (AV _))) h2.s (by lia) (by lia)
  |true=>
   have h2:=uE k b (m:=(a.mc k m.fresh).fresh) (by show 0+_<=4;lia);have hz2:(b.mc k (a.mc k m.fresh).fresh).r.z.length<=b.lv:=zH h2.z (Ax (AV _));have ha2:(b.mc k (a.mc k m.fresh).fresh).r.a.length<=b.lv:=zH h2.a (Ax (AV _));refine ub (m2:=b.mc k (a.mc k m.fresh).fresh) (f:=(e0.or (a.mc k m.fresh).r).or (b.mc k (a.mc k m.fresh).fresh).r) ?_ ?_ ?_ (by lia) (by lia)
   ·exact zM (as:=[]++(a.mc k m.fresh).r.a)▸Ah ha1 ha2
   ·exact zM (as:=[]++(a.mc k m.fresh).r.z)▸Ah hz1 hz2
   ·have e1:(a.mc k m.fresh).S.length<=m.S.length+(a.ltr k+4 * a.lv+32 * a.nds):=h1.s
    have e2:(b.mc k (a.mc k m.fresh).fresh).S.length<=(a.mc k m.fresh).S.length+(b.ltr k+4 * b.lv+32 * b.nds):=h2.s;show _<=m.S.length+((a.ltr k+b.ltr k)+4 * (a.lv+b.lv)+32 * (a.nds+b.nds))
    lia
structure Mk (m:Mc):Prop where
 l1:1<=m.L.length
 l:m.L.length<=61
 s:m.fin.length<=1000
 i:∀x∈m.fin,x.1 < m.L.length/\1<=x.2/\x.2 < m.L.length
 e:∀p∈m.ends,p < m.L.length
 el:m.ends.length<=100
theorem mk_of {k:Nat}{x:Rx}(hl:x.ltr k<=60)(hn:x.nds<=3)(hv:x.lv<=4):Mk (x.mc k d9):=by
 have b:=jd k x (m:=d9) (by show 0+_<=100;lia);have w:=uE k x (m:=d9) (by show 0+_<=4;lia);have h:=qU k x ye;have ba:(x.mc k d9).r.a.length<=4:=zH w.a (by show 0+_<=4;lia);have bz:(x.mc k d9).r.z.length<=4:=zH w.z (by show 0+_<=4;lia);have bs:(x.mc k d9).S.length<=0+(x.ltr k+4 * x.lv+32 * x.nds):=w.s;have bl:(x.mc k d9).L.length=1+x.ltr k:=b.l;refine⟨by lia,by lia,?_,fun y hy=>?_,fun p hp=>?_,?_⟩
 ·show((x.mc k d9).S++cj [0] (x.mc k d9).r.a).length<=1000
  rw[zM,b6,C9]
  lia
 ·rcases z7.mp hy with q|q
  ·exact⟨(h.ok.s y q).1,(h.S2 y q).elim (fun q=>aG q) (·.1),(h.ok.s y q).2⟩
  ·have q:=bH.mp q
   refine⟨by rw[zY.mp q.1];lia,(h.a _ q.2).elim (fun q=>aG q) id,h.ok.a _ q.2⟩
 ·rcases z7.mp hp with q|q
  ·exact h.ok.z p q
  ·cases hn:(x.mc k d9).r.n with
   |false=>rw[hn] at q;exact aG q
   |true=>rw[hn] at q;rw[zY.mp q];lia
 ·show((x.mc k d9).r.z++(if(x.mc k d9).r.n then[0] else[])).length<=100
  rw[zM];have:(if(x.mc k d9).r.n then[0] else[]).length<=1:=gF (l:=[0])
  lia
theorem kh {k:Nat}(hk:k < 5){a b i:Nat}:(cI k (dM a b i)).length<=12:=by
 match i with
 |0=>exact zH (gv hk [a]) (zS rfl)
 |1=>exact zH (gv hk [b]) (zS rfl)
 |2=>exact gv hk [a,b]
 |3=>exact Ae _
 |4=>
  have:∀k,k < 5->(cI k [38,108,116,59]).length<=12:=by decide +kernel
  exact this k hk
 |i+5=>exact Ae _
theorem qz {k:Nat}(hk:k < 5){a b:Nat}{f:Nat->Nat}{g h:Nat->Bool}:(bN a b f g h).ltr k<=48:=
 Ah (Ah (kh hk) (kh hk)) (Ah (kh hk) (kh hk))
theorem wU {k:Nat}(hk:k < 5){a b:Nat}{f:Nat->Nat}{g h:Nat->Bool}:(bN a b f g h).its k<=57:=
 AD (Ah (AD (Ah (kh hk) (kh hk)) 3) (AD (Ah (kh hk) (kh hk)) 3)) 3
theorem tree_mk {k:Nat}(hk:k < 5){a b:Nat}{f:Nat->Nat}{g h:Nat->Bool}:Mk ((bN a b f g h).mc k d9):=mk_of (zH (qz hk) (by decide)) (zW 3) (zW 4)
end Mine
namespace Mine
theorem rs {f:List Nat}{c:Nat}:∀g:List Nat,((g.map fun c=>D.str [c]).zip (g.map fun J=>D.str f)).find? (fun q=>q.1.isStr [c])=if g.contains c then some (.str [c],.str f) else none
 |[]=>rfl
 |a::g=>by
  simp only[z8,AY,BC];have e:(D.str [a]).isStr [c]=(c==a):=by
   show([a]==[c])=_
   by_cases h:c=a
   ·subst h;simp
   ·exact zF (beq_eq_false_iff_ne.mpr h)<|zF (beq_eq_false_iff_ne.mpr fun e=>h (AN e).1.symm) rfl
  (refine zF e ?_;rw[Dy])
  cases h:c==a with
  |true=>refine zF (beq_iff_eq.mp h) ?_;rfl
  |false=>exact(rs g).trans (by simp)
theorem kS {f:List Nat}{fs:List (List Nat)}:(gk (f::fs)).map D.str=(f.map fun c=>D.str [c])++(gk fs).map D.str/\(iC (f::fs)).map D.str=(f.map fun _=>D.str f)++(iC fs).map D.str:=by
 constructor
 ·refine zF (show gk (f::fs)=(f.map fun c=>[c])++gk fs from Ao)<|zF Br<|zF AO ?_;rfl
 ·refine zF (show iC (f::fs)=(f.map fun J=>f)++iC fs from Ao)<|zF Br<|zF AO ?_;rfl
theorem mL {c:Nat}:∀fs:List (List Nat),D.dget ((gk fs).map .str) ((iC fs).map .str) [c]=(fs.find? (·.contains c)).map .str
 |[]=>rfl
 |f::fs=>by
  have ih:=mL (c:=c) fs;unfold D.dget at ih ⊢;refine zF kS.1<|zF kS.2<|zF (List.zip_append (by simp))<|zF (GO)<|zF (rs _)<|zF (BC) ?_
  cases h:f.contains c with
  |true=>rfl
  |false=>simpa using ih
theorem oA {f:List Nat}:∀g:List Nat,((g.map fun c=>D.str [c]).zip (g.map fun _=>D.str f)).find? (fun q=>q.1.isStr [])=none
 |[]=>rfl
 |a::g=>by
  simp only[z8,AY,BC];exact oA g
theorem rD:∀fs:List (List Nat),D.dget ((gk fs).map .str) ((iC fs).map .str) []=none
 |[]=>rfl
 |f::fs=>by
  have ih:=rD fs;unfold D.dget at ih ⊢;refine zF kS.1<|zF kS.2<|zF (List.zip_append (by simp))<|zF (GO)<|zF (oA _) ?_
  exact ih
noncomputable def dJ (fs:List (List Nat)):List (List Nat)->List Nat->List (List Nat)
 |_,[]=>[]
 |ks,c::cs=>match fs.find? (·.contains c) with
  |none=>dJ fs ks cs
  |some f=>if ks.contains f then dJ fs ks cs else f::dJ fs (ks++[f]) cs
theorem rN {fs ks:List (List Nat)}{c:Nat}{cs:List Nat}(h:fs.find? (·.contains c)=none):dJ fs ks (c::cs)=dJ fs ks cs:=by
 show(match fs.find? (·.contains c) with|none=>_|some f=>_)=_;rw[h]
theorem mT {fs ks:List (List Nat)}{c:Nat}{cs:List Nat}{f:List Nat}(h:fs.find? (·.contains c)=some f):dJ fs ks (c::cs)=if ks.contains f then dJ fs ks cs else f::dJ fs (ks++[f]) cs:=by
 show(match fs.find? (·.contains c) with|none=>_|some f=>_)=_;rw[h]
theorem gZ {fs:List (List Nat)}:∀(cs:List Nat)(ks:List (List Nat)),(dJ fs ks cs).length<=cs.length
 |[],_=>zW _
 |c::cs,ks=>by
  rw[AB]
  cases h:fs.find? (·.contains c) with
  |none=>rw[rN h];exact Cn (gZ cs ks)
  |some f=>
   rw[mT h]
   by_cases hc:ks.contains f=true
   ·rw[if_pos hc];exact Cn (gZ cs ks)
   ·rw[if_neg hc];exact B9 (gZ cs _)
noncomputable abbrev ΓP:ah:=aN aV 0
noncomputable def xT:List Sg:=wS (aF.getD 2 y00)
structure Met (fs ks:List (List Nat)):Prop where
 nd:ks.Nodup
 sub:∀f∈ks,f∈fs
theorem Met.lt {fs ks:List (List Nat)}(h:Met fs ks)(hf:fs.length < 64):ks.length < 64:=Ay (C0 h.nd h.sub) hf
theorem Met.snoc {fs ks:List (List Nat)}(h:Met fs ks){f:List Nat}(hf:f∈fs)(hc:¬ks.contains f=true):Met fs (ks++[f]):=
 ⟨C3.mpr ⟨h.nd,BX _ f,fun x hx y hy e=>hc (Au.mpr (zY.mp hy▸e▸hx))⟩,fun g hg=>(z7.mp hg).elim (h.sub g) fun q=>zY.mp q▸hf⟩
theorem pR {fs:List (List Nat)}(hfs:fs.length < 64):∀(cs:List Nat)(ρ:ac)(ks:List (List Nat)),de ρ->ρ 21=some (.fz (.dict ((gk fs).map .str) ((iC fs).map .str)))->ρ 74=some (.ownD ks)->Met fs ks->
  ∃ρ',c8 ΓP 62 (fun ρ=>d8 cF iF 74 ΓP ρ xT) ρ (cs.map fun c=>.str [c])=some ((dJ fs ks cs).map .str,ρ')
 |[],ρ,ks,_,_,_,_=>⟨ρ,by rw[CL,c8];rfl⟩
 |c::cs,ρ,ks,hN,h21,h74,hm=>by
  have N1:=hN.set 62 (.str [c]);have k21:(ρ.set 62 (.fz (.str [c]))) 21=some (.fz (.dict ((gk fs).map .str) ((iC fs).map .str))):=sN h21
  have ht:∀{p1 p2 p3:Pos},e7 cF ΓP (ρ.set 62 (.fz (.str [c]))) (.cmp (.name 62 p1) .In (.name 21 p2) p3)=some (fs.find? (·.contains c)).isSome:=fun{_ _ _}=>bF (ab ae) (ab k21) (by
   show some (D.dget _ _ [c]).isSome=_
   exact zF (mL _)<|zF Option.isSome_map rfl)
  cases hf:fs.find? (·.contains c) with
  |none=>
   refine x1 (pR hfs cs (ρ.set 62 (.fz (.str [c]))) ks N1 k21 (sN h74) hm) fun ρ2 r2=>?_;rw[rN hf];exact⟨ρ2,(gm (a:=[]) (hN.mine rfl) (bP (a:=[]) (b:=[]) (rU (ht.trans (by refine zF hf ?_;rfl))) dP) r2).trans rfl⟩
  |some f=>
   rw[mT hf];have hi:D.item (.dict ((gk fs).map .str) ((iC fs).map .str)) (.str [c])=some (.str f):=by
    show D.dget _ _ [c]=_;refine zF (mL _)<|zF hf ?_;rfl
   have N2:=N1.set 75 (.str f);have a1:((ρ.set 62 (.fz (.str [c]))).set 75 (.fz (.str f))) 74=some (.ownD ks):=sN (sN h74);have a2:((ρ.set 62 (.fz (.str [c]))).set 75 (.fz (.str f))).at 75=some (.str f):=by unfold ac.at;exact zF ae rfl
   have b21:((ρ.set 62 (.fz (.str [c]))).set 75 (.fz (.str f))) 21=some (.fz (.dict ((gk fs).map .str) ((iC fs).map .str))):=sN k21
   by_cases hc:ks.contains f=true
   ·rw[if_pos hc]
    refine x1 (pR hfs cs _ ks N2 b21 a1 hm) fun ρ2 r2=>?_;refine⟨ρ2,(gm (a:=[]) (hN.mine rfl) (bP (a:=[]) (b:=[]) (wQ (ht.trans (by refine zF hf ?_;rfl)) (bP (a:=[]) (b:=[]) (wR (aC (ab k21) (ab ae) hi) (N1.mine rfl) rfl rfl) (bP (a:=[]) (b:=[]) ?_ dP))) dP) r2).trans rfl⟩;refine zF gp<|zF a1<|zF a2 ?_
    simp only;exact zF (if_pos ⟨trivial,hm.lt hfs⟩)<|zF (if_pos hc) rfl
   ·rw[if_neg hc]
    refine x1 (pR hfs cs (((ρ.set 62 (.fz (.str [c]))).set 75 (.fz (.str f))).set 74 (.ownD (ks++[f]))) (ks++[f]) (N2.setD 74 _) (sN b21) ae (hm.snoc (Cf hf) hc)) fun ρ2 r2=>?_;refine⟨ρ2,(gm (a:=[.str f]) (hN.mine rfl) (bP (a:=[.str f]) (b:=[]) (wQ (ht.trans (by refine zF hf ?_;rfl)) (bP (a:=[]) (b:=[.str f]) (wR (aC (ab k21) (ab ae) hi) (N1.mine rfl) rfl rfl) (bP (a:=[.str f]) (b:=[]) ?_ dP))) dP) r2).trans rfl⟩;refine zF gp<|zF a1<|zF a2 ?_
    simp only;refine zF (if_pos ⟨trivial,hm.lt hfs⟩)<|zF (if_neg hc) ?_
    exact bP (a:=[.str f]) (b:=[]) (wP (by unfold ac.at;exact zF (set_ne (by decide))<|zF ae rfl)) dP
noncomputable abbrev ctxD (fs:List (List Nat)):D:=.cx (da (fs.map .str))
noncomputable def gxt (i:Nat):Gx:=(tG1 i).getD ⟨[],[],0,[]⟩
theorem gen11 {fs:List (List Nat)}{cs:List Nat}(hfs:fs.length < 64)(hl:cs.length<=lim):br.gen 11 [ctxD fs,.list (.str []::cs.map fun c=>.str [c])]=some ((dJ fs [] cs).map .str):=by
 let its:List D:=.str []::cs.map fun c=>.str [c]
 let ρ0:=aw [58,61] [ctxD fs,.list its] (cN [] [])
 have N0:de ρ0:=by
  have:de (cN [] []):=fun y d h=>ai h;exact(this.set 58 _).set 61 _
 have hpsi:iF 31 (ctxD fs)=some (.dict ((gk fs).map .str) ((iC fs).map .str)):=psi_eq fs
 let ρ1:=(ρ0.set 21 (.fz (.dict ((gk fs).map .str) ((iC fs).map .str)))).set 74 (.ownD [])
 have N1:de ρ1:=(N0.set 21 _).setD 74 [];refine x1 (pR (fs:=fs) hfs cs (ρ1.set 62 (.fz (.str []))) [] (N1.set _ _) rfl rfl ⟨Ea,fun f h=>aG h⟩) fun ρ' r=>?_
 have ht:∀{p1 p2 p3:Pos},e7 cF ΓP (ρ1.set 62 (.fz (.str []))) (.cmp (.name 62 p1) .In (.name 21 p2) p3)=some false:=fun{_ _ _}=>bF (ab ae) (ab (d:=.dict ((gk fs).map .str) ((iC fs).map .str)) rfl) (by
  show some (D.dget _ _ []).isSome=_
  exact zF (rD _) rfl)
 have r':c8 ΓP 62 (fun ρ=>d8 cF iF 74 ΓP ρ xT) ρ1 its=some ((dJ fs [] cs).map .str,ρ'):=(gm (a:=[]) (N1.mine rfl) (bP (a:=[]) (b:=[]) (rU ht) dP) r).trans rfl
 exact yF (gxt 11) (Φ':=br) (Φ:=cF) rfl rfl rfl (bP (a:=[]) (ye_pm rfl hpsi (N0.mine rfl) rfl) (bP (a:=[]) (ye_newD ((N0.set 21 _).mine rfl) rfl) (bP (a:=(dJ fs [] cs).map .str) (b:=[]) (rV (d:=.list its) rfl rfl r') dP)) |>.trans (by refine zF (AF _) ?_;rfl)) (by
  have:=gZ (fs:=fs) cs []
  rw[zX];exact zH this hl)
theorem yfor {Γ:ah}{t:Nat}{body:ac->Option (List D×ac)}{I:ac->Prop}{α:Type}{c:α->D}{f:α->List D}(hm:∀ρ,I ρ->Γ.mine ρ t=true):∀(items:List α),(∀a∈items,∀ρ,I ρ->∃ρ',body (ρ.set t (.fz (c a)))=some (f a,ρ')/\I ρ')->∀ρ,I ρ->∃ρ',c8 Γ t body ρ (items.map c)=some (items.flatMap f,ρ')/\I ρ'
 |[],_,ρ,h=>⟨ρ,by(refine zF CL ?_;rw[c8]);rfl,h⟩
 |a::items,st,ρ,h=>by
  refine am (st a zU ρ h) fun ρ1 r1 h1=>?_;refine am (yfor hm items (fun b hb=>st b (zT _ hb)) ρ1 h1) fun ρ2 r2 h2=>?_;exact⟨ρ2,gm (hm ρ h) r1 r2,h2⟩
noncomputable def fJ (q:List Nat×List Nat):D:=.thing [19,20] [.str q.1,.str q.2]
noncomputable def Uns (ρ:ac) (x:Nat):Prop:=∀d,ρ x≠some (.sealed d)
theorem Uns.mine {ρ:ac}{Γ:ah}{x:Nat}(h:Uns ρ x)(hk:(Γ x==some .local||Γ x==some .cell)=true):Γ.mine ρ x=true:=by
 unfold ah.mine;refine zF hk ?_
 cases he:ρ x with
 |none=>rfl
 |some e=>cases e with
  |sealed d=>exact absurd he (h d)
  |_=>rfl
theorem Uns.set {ρ:ac}{x:Nat}(h:Uns ρ x) (y:Nat)(d:D):Uns (ρ.set y (.fz d)) x:=by
 intro e he;unfold ac.set at he
 split at he
 ·exact nomatch he
 ·exact h e he
noncomputable abbrev ΓG:ah:=aN aZ 0
noncomputable def cbody:List Sg:=wS (aI.getD 0 y00)
structure Iv (u:List Nat)(ρ:ac):Prop where
 c:ρ 20=some (.sealed (.str u))
 u2:Uns ρ 62
 u1:Uns ρ 71
theorem gen12 {u:List Nat}{rows:List (List (List Nat×List Nat))}(hlim:(rows.flatMap fun r=>(r.filter fun q=>q.2==u).map fJ).length<=lim):br.gen 12 [.str u,.nil,.list (rows.map fun r=>.list (r.map fJ))]=some (rows.flatMap fun r=>(r.filter fun q=>q.2==u).map fJ):=by
 let ρ0:=aw [58,61] [.nil,.list (rows.map fun r=>.list (r.map fJ))] (cN [20] [.str u])
 have I0:Iv u ρ0:=⟨rfl,fun d h=>ai (show none=_ from h),fun d h=>ai (show none=_ from h)⟩;have inn:∀(row:List (List Nat×List Nat)) (ρ:ac),Iv u ρ->∃ρ',c8 ΓG 71 (fun ρ=>d8 cF iF 74 ΓG ρ (wS (cbody.getD 0 y00))) ρ (row.map fJ)=some (row.flatMap fun q=>if q.2==u then[fJ q] else[],ρ')/\Iv u ρ':=fun row ρ I=>
  yfor (I:=Iv u) (f:=fun q:List Nat×List Nat=>if q.2==u then[fJ q] else[]) (fun ρ h=>h.u1.mine rfl) row (fun q hq ρ h=>⟨ρ.set 71 (.fz (fJ q)),by
   have ht:∀{p1 p2 p3 p4:Pos},e7 cF ΓG (ρ.set 71 (.fz (fJ q))) (.cmp (.attr (.name 71 p1) 20 p2) .Eq (.name 20 p3) p4)=some (q.2==u):=fun{_ _ _ _}=>
    bF (y5 rfl (ab ae) (z:=.str q.2) rfl) (e_nameS (sN h.c)) gP
   cases hb:q.2==u with
   |true=>exact(bP (b:=[]) (wQ (ht.trans (congrArg some hb)) (bP (b:=[]) (wP (d:=fJ q) (by unfold ac.at;exact zF ae rfl)) dP)) dP).trans rfl
   |false=>exact(bP (b:=[]) (rU (ht.trans (congrArg some hb))) dP).trans rfl,⟨sN h.c,h.u2.set _ _,h.u1.set _ _⟩⟩) ρ I
 refine am (yfor (Γ:=ΓG) (t:=62) (I:=Iv u) (body:=fun ρ=>d8 cF iF 74 ΓG ρ cbody) (c:=fun r=>.list (r.map fJ)) (f:=fun r=>(r.filter fun q=>q.2==u).map fJ) (fun ρ h=>h.u2.mine rfl) rows (fun row hr ρ I=>?_) ρ0 I0) fun ρ' r _=>?_
 ·refine am (inn row _ ⟨sN I.c,I.u2.set 62 (.list (row.map fJ)),I.u1.set 62 (.list (row.map fJ))⟩) fun ρ1 r1 I1=>⟨ρ1,?_,I1⟩
  refine(bP (b:=[]) (rV (d:=.list (row.map fJ)) (by unfold ac.at;exact zF ae rfl) rfl r1) dP).trans ?_;exact zF (AF _)<|zF (uP _ _ _) rfl
 ·exact yF (gxt 12) (Φ':=br) (Φ:=cF) rfl rfl rfl ((bP (b:=[]) (rV (d:=.list (rows.map fun r=>.list (r.map fJ))) rfl rfl r) dP).trans (by exact zF (AF _) rfl)) hlim
theorem tw {c:Nat}:jE.call 34 [.nil,.tup [.str [],.str [120,c,120]]]=some (.lam 12 [.str [120,c,120]]):=by
 refine bw (tx cR dR 34 (bD (sk (gb "prepare_child")))) (Φ:=br) rfl rfl rfl ?_
 have N0:de (aw [72,70] [.nil,.tup [.str [],.str [120,c,120]]] fun J=>none):=mm;have b3:D.slice (.str [120,c,120]) none (some (.int 3))=some (.str [120,c,120]):=su (i:=3) (by decide);have b2:D.slice (.str [120,c,120]) none (some (.int 2))=some (.str [120,c]):=su (i:=2) (by decide);have bm:D.slice (.str [120,c,120]) (some (.int (-2))) none=some (.str [c,120]):=slc_lo (i:=-2) (by decide);have hwild:br.call 32 [.str [120,c,120]]=some (.bool false):=by
  refine bw (tx cw dq 0 cy) (Φ:=cF) rfl rfl rfl ?_;refine cm (dO (v_or (c1:=false) (c2:=false) (kB (mI (ab (d:=.str [120,c,120]) rfl) pp (fw ak) b3) (aT (zS rfl)) (gP.trans (congrArg some (beq_eq_false_iff_ne.mpr fun e=>absurd (AN e).1 (by decide))))) (kB (mI (ab (d:=.str [120,c,120]) rfl) (fw e_neg) pp bm) (aT (zS rfl)) (gP.trans (congrArg some (beq_eq_false_iff_ne.mpr fun e=>absurd (AN (AN e).2).1 (by decide)))))))
 exact aj (cn (aC (ab (d:=.tup [.str [],.str [120,c,120]]) rfl) ak (z:=.str [120,c,120]) rfl) (N0.mine rfl)) (aj (c9 (t_call (ad (ab (d:=.str [120,c,120]) rfl) au) rfl hwild) (aj (c9 (bF (mI (ab (d:=.str [120,c,120]) rfl) pp (fw ak) b2) (aT (zS rfl)) (gP.trans (congrArg some (beq_eq_false_iff_ne.mpr fun e=>absurd (AN e).1 (by decide))))) aH) (aj (s_seal (d:=.str [120,c,120]) rfl rfl) (aj (s_defS (caps:=[.str [120,c,120]]) ⟨rfl,by decide,rfl,rfl⟩ rfl) aH)))) (cm (dO (ab ae))))
end Mine
namespace Mine
noncomputable def sx (m:Mc) (k:Nat):Nat×Nat:=m.fin.getD k (0,0)
noncomputable def tg (m:Mc) (p:Nat):List Nat:=[120,m.L.getD p 0,120]
noncomputable def th2 (m:Mc) (k:Nat):List (List Nat×List Nat):=[([1000+k],tg m (sx m k).2),([999],tg m (sx m k).2++tg m (sx m k).2)]
noncomputable def cB (m:Mc):Nat->Nat->List (List Nat×List Nat)
 |0,_=>[]
 |n+1,q=>if q=(sx m n).1 then cB m n q++th2 m n else cB m n q
noncomputable def a0 (m:Mc):Nat->Nat->List Nat
 |0,p=>if p=0 then[9000+p,999] else[9000+p]
 |n+1,p=>if p=(sx m n).2 then a0 m n p++[1000+n] else a0 m n p
section
variable {m:Mc}
theorem o8:∀n q,(cB m n q).length<=2 * n
 |0,q=>zW _
 |n+1,q=>by
  have:=o8 n q;show(if q=(sx m n).1 then cB m n q++th2 m n else cB m n q).length<=_
  by_cases h:q=(sx m n).1
  ·rw[if_pos h,zM];exact Ah this (zW 2)
  ·rw[if_neg h];exact zH this (AC _ _)
theorem pG:∀n p,(a0 m n p).length<=2+n
 |0,p=>by
  show(if p=0 then[9000+p,999] else[9000+p]).length<=_
  by_cases h:p=0
  ·rw[if_pos h];exact zW 2
  ·rw[if_neg h];exact CZ 1
 |n+1,p=>by
  have:=pG n p;show(if p=(sx m n).2 then a0 m n p++[1000+n] else a0 m n p).length<=_
  by_cases h:p=(sx m n).2
  ·rw[if_pos h,zM];exact AD this 1
  ·rw[if_neg h];exact Cn this
theorem mG:∀n p,∃r,a0 m n p=(9000+p)::r
 |0,p=>by
  show ∃r,(if p=0 then[9000+p,999] else[9000+p])=_
  by_cases h:p=0
  ·rw[if_pos h];exact⟨_,rfl⟩
  ·rw[if_neg h];exact⟨_,rfl⟩
 |n+1,p=>by
  show ∃r,(if p=(sx m n).2 then a0 m n p++[1000+n] else a0 m n p)=_;refine x1 (mG n p) fun r e=>?_
  by_cases h:p=(sx m n).2
  ·rw[if_pos h,e];exact⟨r++[1000+n],rfl⟩
  ·rw[if_neg h];exact⟨r,e⟩
noncomputable def kE (m:Mc)(n c p:Nat):Prop:=c=9000+p\/(c=999/\p=0)\/∃k,k < n/\(sx m k).2=p/\c=1000+k
theorem fY {c p:Nat}:∀n,c∈a0 m n p↔kE m n c p
 |0=>by
  show c∈(if p=0 then[9000+p,999] else[9000+p])↔_
  by_cases h:p=0
  ·rw[if_pos h]
   constructor
   ·intro q
    rcases Ab.mp q with q|q
    ·exact .inl q
    ·exact .inr (.inl ⟨zY.mp q,h⟩)
   ·rintro(q|⟨q,_⟩|⟨k,q,_⟩)
    ·exact Ab.mpr (.inl q)
    ·exact Ab.mpr (.inr (zY.mpr q))
    ·exact absurd q (D9 _)
  ·rw[if_neg h]
   constructor
   ·exact fun q=>.inl (zY.mp q)
   ·rintro(q|⟨_,q⟩|⟨k,q,_⟩)
    ·exact zY.mpr q
    ·exact absurd q h
    ·exact absurd q (D9 _)
 |n+1=>by
  show c∈(if p=(sx m n).2 then a0 m n p++[1000+n] else a0 m n p)↔_;have up:kE m n c p->kE m (n+1) c p:=fun q=>q.imp_right fun q=>q.imp_right fun⟨k,h1,h2⟩=>⟨k,By h1,h2⟩;have dn:kE m (n+1) c p->kE m n c p\/((sx m n).2=p/\c=1000+n):=by
   rintro(q|q|⟨k,h1,h2,h3⟩)
   ·exact .inl (.inl q)
   ·exact .inl (.inr (.inl q))
   ·rcases DM.mp h1 with h1|rfl
    ·exact .inl (.inr (.inr ⟨k,h1,h2,h3⟩))
    ·exact .inr ⟨h2,h3⟩
  by_cases h:p=(sx m n).2
  ·rw[if_pos h,z7,fY n]
   exact⟨fun q=>q.elim up fun q=>.inr (.inr ⟨n,AL n,h.symm,zY.mp q⟩),fun q=>(dn q).imp_right fun q=>zY.mpr q.2⟩
  ·rw[if_neg h,fY n]
   exact⟨up,fun q=>(dn q).elim id fun q=>absurd q.1.symm h⟩
theorem lN {n c p p':Nat}(hn:n<=1000)(h:kE m n c p)(h':kE m n c p'):p=p':=by
 rcases h with h|⟨h,h2⟩|⟨k,h,h2,h3⟩<;>rcases h' with g|⟨g,g2⟩|⟨k',g,g2,g3⟩
 ·lia
 ·lia
 ·lia
 ·lia
 ·lia
 ·lia
 ·lia
 ·lia
 ·obtain rfl:k=k':=by lia
  exact h2.symm.trans g2
theorem yN {p:Nat}:∀n,n<=1000->(a0 m n p).Nodup
 |0,_=>by
  show(if p=0 then[9000+p,999] else[9000+p]).Nodup
  by_cases h:p=0
  ·rw[if_pos h];exact Bi.mpr ⟨fun q=>by have:=zY.mp q;lia,BX _ _⟩
  ·rw[if_neg h];exact BX _ _
 |n+1,hn=>by
  show(if p=(sx m n).2 then a0 m n p++[1000+n] else a0 m n p).Nodup;have ih:=yN (p:=p) n (AX hn)
  by_cases h:p=(sx m n).2
  ·rw[if_pos h]
   refine C3.mpr ⟨ih,BX _ _,fun x hx y hy e=>?_⟩;rw[zY.mp hy] at e;rw[e] at hx;rcases(fY n).mp hx with q|⟨q,_⟩|⟨k,q,_,q2⟩
   ·lia
   ·lia
   ·lia
  ·rw[if_neg h];exact ih
noncomputable def fams (m:Mc) (n:Nat):List (List Nat):=(z6 m.L.length).map (a0 m n)
theorem fams_nd {n:Nat}(hn:n<=1000):(gk (fams m n)).Nodup:=by
 unfold gk fams;rw[List.flatMap_map];refine List.pairwise_flatMap.mpr ⟨fun p hp=>?_,?_⟩
 ·exact CO _ (fun a b h e=>h (AN e).1) (yN (p:=p) n hn)
 ·refine Fw (fun{p p'} hne x hx y hy e=>?_) (List.nodup_range (n:=m.L.length))
  obtain⟨c,hc,rfl⟩:=Ac.mp hx;obtain⟨c',hc',rfl⟩:=Ac.mp hy;obtain rfl:=(AN e).1;exact hne (lN hn ((fY n).mp hc) ((fY n).mp hc'))
theorem yo:∀fs:List (List Nat),(iC fs).length=(gk fs).length
 |[]=>rfl
 |f::fs=>by
  show(iC (f::fs)).length=(gk (f::fs)).length;unfold iC gk;rw[Ao,Ao,zM,zM,zX,zX];exact congrArg _ (yo fs)
theorem k_len {n:Nat}:∀fs:List (List Nat),(∀f∈fs,f.length<=n)->(gk fs).length<=fs.length * n
 |[],_=>Ae _
 |f::fs,h=>by
  unfold gk;rw[Ao,zM,zX,AB,F4,B0 (fs.length * n)];exact Ah (h f (zU ..)) (k_len fs fun g hg=>h g (zT _ hg))
theorem wo {α:Type}{p:α->Bool}{a:α}{l:List α}(ha:a∈l)(hp:p a=true)(hu:∀b∈l,p b=true->b=a):l.find? p=some a:=by
 cases h:l.find? p with
 |none=>exact absurd hp (EA.mp h a ha)
 |some b=>rw[hu b (Cf h) (D6 h)]
theorem yO {n k:Nat}(hn:n<=1000)(hk:k < n)(hp:(sx m k).2 < m.L.length):(fams m n).find? (·.contains (1000+k))=some (a0 m n (sx m k).2):=by
 have w:kE m n (1000+k) (sx m k).2:=.inr (.inr ⟨k,hk,rfl,rfl⟩);refine wo (Ac.mpr ⟨_,BH.mpr hp,rfl⟩) (Au.mpr ((fY n).mpr w)) fun b hb hc=>?_;obtain⟨p,_,rfl⟩:=Ac.mp hb;exact congrArg _ (lN hn ((fY n).mp (Au.mp hc)) w)
theorem fam_inj {n p p':Nat}(h:a0 m n p=a0 m n p'):p=p':=by
 refine x1 (mG (m:=m) n p) fun r e=>x1 (mG (m:=m) n p') fun r' e'=>?_;rw[e,e'] at h;exact Nat.add_left_cancel (AN h).1
end
noncomputable def kL:List Nat->List Nat->List Nat
 |_,[]=>[]
 |ks,p::ps=>if ks.contains p then kL ks ps else p::kL (ks++[p]) ps
theorem ja {x:Nat}:∀(ps ks:List Nat),x∈kL ks ps↔x∈ps/\x ∉ ks
 |[],ks=>⟨fun h=>aG h,fun h=>aG h.1⟩
 |p::ps,ks=>by
  show x∈(if ks.contains p then kL ks ps else p::kL (ks++[p]) ps)↔_
  by_cases h:ks.contains p=true
  ·rw[if_pos h,ja ps]
   refine⟨fun q=>⟨zT _ q.1,q.2⟩,fun q=>⟨(Ab.mp q.1).resolve_left fun e=>q.2 (e▸Au.mp h),q.2⟩⟩
  ·rw[if_neg h,Ab,ja ps,z7,zY,Ab]
   constructor
   ·rintro(rfl|⟨q1,q2⟩)
    ·exact⟨.inl rfl,fun q=>h (Au.mpr q)⟩
    ·exact⟨.inr q1,fun q=>q2 (.inl q)⟩
   ·rintro⟨q1,q2⟩
    by_cases e:x=p
    ·exact .inl e
    ·exact .inr ⟨q1.resolve_left e,fun q=>q.elim q2 e⟩
theorem po:∀(ps ks:List Nat),(kL ks ps).Nodup
 |[],ks=>Ea
 |p::ps,ks=>by
  show(if ks.contains p then kL ks ps else p::kL (ks++[p]) ps).Nodup
  by_cases h:ks.contains p=true
  ·rw[if_pos h];exact po ps ks
  ·rw[if_neg h];exact Bi.mpr ⟨fun q=>((ja ps _).mp q).2 (AI _ (zY.mpr rfl)),po ps _⟩
theorem iL {m:Mc}{n:Nat}(hn:n<=1000)(hi:∀k,k < n->(sx m k).2 < m.L.length):∀(ts ks:List Nat),(∀k∈ts,k < n)->dJ (fams m n) (ks.map (a0 m n)) (ts.map (1000+·))=(kL ks (ts.map fun k=>(sx m k).2)).map (a0 m n)
 |[],_,_=>rfl
 |k::ts,ks,h=>by
  have hk:=h k (zU ..);have hX:=fun x hx=>h x (zT _ hx);rw[z8,z8,mT (yO hn hk (hi k hk))];have hc:(ks.map (a0 m n)).contains (a0 m n (sx m k).2)=ks.contains (sx m k).2:=by
   rw[CW,Au,Au,Ac];exact⟨fun⟨q,hq,e⟩=>fam_inj e▸hq,fun hq=>⟨_,hq,rfl⟩⟩
  rw[hc];show _=DP _ (if ks.contains (sx m k).2 then kL ks _ else _::kL (ks++[(sx m k).2]) _)
  by_cases hq:ks.contains (sx m k).2=true
  ·rw[if_pos hq,if_pos hq];exact iL hn hi ts ks hX
  ·rw[if_neg hq,if_neg hq,z8]
   have:=iL hn hi ts (ks++[(sx m k).2]) hX;rw[Br] at this;exact congrArg _ this
end Mine
namespace Mine
theorem uF {α:Type}{n q:Nat}{f:Nat->α}{v:α}:((z6 n).map f).set q v=(z6 n).map fun i=>if i=q then v else f i:=by
 refine Dh (by rw[Cv,zX,zX]) fun i h1 h2=>?_;rw[List.getElem_set,B7,B7,Ez]
 by_cases e:i=q
 ·rw[if_pos e,if_pos e.symm]
 ·rw[if_neg e,if_neg fun e'=>e e'.symm]
theorem ext_map {n q:Nat}{f:Nat->List D}{l:List D}(hq:q < n)(hl:(f q).length+l.length<=lim):oB ((z6 n).map f) (.int (q:Int)) l=some ((z6 n).map fun i=>if i=q then f q++l else f i):=by
 show(if 0<=(q:Int)/\(q:Int) < (((z6 n).map f).length:Int) then((((z6 n).map f)[(q:Int).toNat]?).bind fun r=>if r.length+l.length<=lim then some (((z6 n).map f).set (q:Int).toNat (r++l)) else none) else none)=_;refine(if_pos ⟨Ar q,by rw[zX,Bv];exact BW.mpr hq⟩).trans ?_;rw[Co,AR,En hq];refine(if_pos hl).trans ?_;exact congrArg some uF
theorem vk {n q:Nat}{f:Nat->List Nat}{l:List Nat}(hq:q < n)(hl:(f q++l).length<=lim):oM ((z6 n).map fun p=>.str (f p)) (.int (q:Int)) (.str l)=some ((z6 n).map fun i=>.str (if i=q then f q++l else f i)):=by
 show(if 0<=(q:Int)/\(q:Int) < (((z6 n).map fun p=>D.str (f p)).length:Int) then((((z6 n).map fun p=>D.str (f p))[(q:Int).toNat]?).bind fun r=>(tD r (.str l)).map fun w=>((z6 n).map fun p=>D.str (f p)).set (q:Int).toNat w) else none)=_;refine(if_pos ⟨Ar q,by rw[zX,Bv];exact BW.mpr hq⟩).trans ?_;rw[Co,AR,En hq];show(tD (.str (f q)) (.str l)).map _=_;refine zF (show tD (.str (f q)) (.str l)=some (.str (f q++l)) from if_pos hl) ?_;refine congrArg some (uF.trans ?_);refine Cr fun i _=>?_
 by_cases e:i=q
 ·rw[if_pos e,if_pos e]
 ·rw[if_neg e,if_neg e]
theorem kZ {n:Nat}(h:n < 55296):D.builtin 1 [.int (n:Int)]=some (.str [n]):=uZ ⟨Ar _,BW.mpr h⟩
section
variable {Φ:bq}{Γ:ah}{ρ:ac}{N:Nat}{d x y z:D}{p q r:Pos}
theorem s_ext2 {n:Nat}{i e:E}{ll ll':List (List D)}{m:List D}{q1 q2 q3 q4 q5:Pos}(hn:ρ n=some (.own2 ll))(hq:(q3.endLine==q4.line)=true)(h1:ev Φ Γ ρ i=some (.d x))(h2:ev Φ Γ ρ e=some (.d (.list m)))(h3:oB ll x m=some ll'):bb Φ N Γ ρ (.ext2 n i e q1 q2 q3 q4 q5)=some (.nx (ρ.set n (.own2 ll'))):=by
 refine zF j6<|zF hn<|(Dn (show _=_ from if_pos hq)<|zF h1<|zF h2 ?_)
 show(oB ll x m).map _=_;exact zF h3 rfl
end
noncomputable abbrev ΓF:ah:=aN eh 0
structure FI (m:Mc)(u:List Nat) (n:Nat)(ρ:ac):Prop where
 ns:de ρ
 a116:ρ 116=some (.own2 ((z6 m.L.length).map fun q=>(cB m n q).map fJ))
 a117:ρ 117=some (.own ((z6 m.L.length).map fun p=>.str (a0 m n p)))
 a104:ρ 104=some (.fz (.list (m6 m.L)))
 a105:ρ 105=some (.fz (.list (m.fin.map jz)))
 a100:ρ 100=some (.fz (il m.ends))
 a76:ρ 76=some (.fz (.str u))
theorem st_item {m:Mc}{k:Nat}(hk:k < m.fin.length):D.item (.list (m.fin.map jz)) (.int (k:Int))=some (jz (sx m k)):=by
 refine jK ?_;rw[AR,Am hk];unfold sx;rw[BN,Am hk];rfl
theorem oY {m:Mc}{k:Nat}(hk:k < m.fin.length):sx m k∈m.fin:=by
 unfold sx;rw[BN,Am hk];exact List.getElem_mem hk
theorem lt_item {L:List Nat}{p:Nat}(h1:1<=p)(h:p < L.length):D.item (.list (m6 L)) (.int (p:Int))=some (.str [L.getD p 0]):=by
 refine jK ?_
 cases L with
 |nil=>exact absurd h (D9 _)
 |cons a L=>
  cases p with
  |zero=>exact absurd h1 (by decide)
  |succ p=>
   have h:=Nat.lt_of_succ_lt_succ h;show(L.map _)[p]?=_;rw[AR,Am h,BN,FQ,Am h];rfl
theorem uu (a b:D):cT.call 51 [a,b]=some (.thing [19,20] [a,b]):=rfl
theorem fd_step {m:Mc}(K:Mk m){u:List Nat}{k:Nat}(hk:k < m.fin.length){ρ:ac}(I:FI m u k ρ):∃ρ',aO cT NN ΓF (ρ.set 81 (.fz (.int (k:Int)))) (gQ (wM.getD 5 kn))=some (.nx ρ')/\FI m u (k+1) ρ':=by
 refine vx (K.i _ (oY hk)) fun i1 i2 i3=>?_;have hk1:k<=1000:=zH (BV hk) K.s
 let q:=(sx m k).1
 let p:=(sx m k).2
 let t:=tg m p
 let ρ1:=(((ρ.set 81 (.fz (.int (k:Int)))).set 111 (.fz (.int (q:Int)))).set 112 (.fz (.int (p:Int))))
 let ρ2:=ρ1.set 20 (.fz (.str t))
 have N0:=I.ns.set 81 (.int (k:Int));have N1:de ρ1:=(N0.set _ _).set _ _;have N2:de ρ2:=N1.set _ _
 let fr:Nat->List D:=fun i=>if i=q then(cB m k q).map fJ++[fJ ([1000+k],t),fJ ([999],t++t)] else(cB m k i).map fJ
 have er:fr=fun i=>(cB m (k+1) i).map fJ:=by
  funext i
  show(if i=q then _ else _)=DP fJ (if i=q then cB m k i++th2 m k else cB m k i)
  by_cases e:i=q
  ·rw[if_pos e,if_pos e,Br,e];rfl
  ·rw[if_neg e,if_neg e]
 let ff:Nat->List Nat:=fun i=>if i=p then a0 m k p++[1000+k] else a0 m k i
 have ef:ff=a0 m (k+1):=by
  funext i
  show(if i=p then _ else _)=(if i=p then a0 m k i++[1000+k] else a0 m k i)
  by_cases e:i=p
  ·rw[if_pos e,if_pos e,e]
  ·rw[if_neg e,if_neg e]
 have mark:∀{Γ:ah}{ρ:ac}{p1 p2 p3 p4 p5:Pos},Γ 1=some .globalImplicit->ρ 81=some (.fz (.int (k:Int)))->ev cT Γ ρ (.blt 1 [.bin (.int 1000 p1) .Add (.name 81 p2) p3] p4 p5)=some (.d (.str [1000+k])):=fun hg h=>ed (bf ak (ab h) (wH (a:=1000))) hg (by decide) (kZ (Ay (AA hk1 _) (by decide)));have hrl:((cB m k q).map fJ).length+2<=lim:=by
  rw[zX];exact zH (AD (zH (o8 k q) (Bh 2 hk1)) 2) (by decide)
 have hfl:(a0 m k p++[1000+k]).length<=lim:=by
  rw[zM];exact zH (AD (zH (pG k p) (AA hk1 2)) 1) (by decide)
 have t1:D.bin .Add (.str [120]) (.str [m.L.getD p 0])=some (.str [120,m.L.getD p 0]):=dK (a:=[120]) (b:=[m.L.getD p 0]) (zS rfl);have t2:D.bin .Add (.str [120,m.L.getD p 0]) (.str [120])=some (.str t):=dK (a:=[120,m.L.getD p 0]) (b:=[120]) (zS rfl);have t3:D.bin .Add (.str t) (.str t)=some (.str (t++t)):=dK (a:=t) (b:=t) (zS rfl);refine⟨(ρ2.set 116 (.own2 ((z6 m.L.length).map fr))).set 117 (.own ((z6 m.L.length).map fun i=>.str (ff i))),?_,(N2.set2 _ _).setO _ _,sN (ae.trans (by rw[er])),ae.trans (by rw[ef]),sN (sN (sN (sN (sN (sN I.a104))))),sN (sN (sN (sN (sN (sN I.a105))))),sN (sN (sN (sN (sN (sN I.a100))))),sN (sN (sN (sN (sN (sN I.a76)))))⟩;refine aj (ρ':=ρ1) (sB (ds:=[.int (q:Int),.int (p:Int)]) (aC (ab (sN I.a105)) (ab ae) (st_item hk)) rfl rfl (N0.all rfl)) ?_;refine aj (ρ':=ρ2) (cn (bf (bf (aT (zS rfl)) (aC (ab (sN (sN (sN I.a104)))) (ab ae) (lt_item i2 i3)) t1) (aT (zS rfl)) t2) (N1.mine rfl)) ?_;refine aj (s_ext2 (m:=[fJ ([1000+k],t),fJ ([999],t++t)]) (sN (sN (sN (sN I.a116)))) rfl (ab (sN (sN ae))) (aQ (ad (bh (ad (mark rfl (sN (sN (sN ae)))) (ad (ab ae) au)) rfl (uu _ _)) (ad (bh (ad (ed ak rfl (by decide) (kZ (n:=999) (by decide))) (ad (bf (ab ae) (ab ae) t3) au)) rfl (uu _ _)) au)) sR) (ext_map i1 hrl)) ?_;exact aj (sA (sN (sN (sN (sN (sN I.a117))))) (ab (sN (sN ae))) (mark rfl (sN (sN (sN (sN ae))))) (vk i3 hfl)) aH
end Mine
namespace Mine
theorem ut:∀{l:List D},(∀d∈l,d.pl=true)->rR l=true
 |[],_=>rfl
 |d::l,h=>by
  show(d.pl&&rR l)=true;exact rP (h d (zU ..)) (ut fun x hx=>h x (zT _ hx))
theorem jC {α:Type}{f:α->D}(h:∀a,(f a).pl=true)(l:List α):rR (l.map f)=true:=ut fun d hd=>am (Ac.mp hd) fun a _ e=>e▸h a
theorem wB {α β:Type}(l:List α)(b:β):(l.map fun _=>b)=(z6 l.length).map fun _=>b:=by
 refine Dh (by rw[zX,zX,Bv]) fun i h1 h2=>?_;rw[B7,B7]
theorem phi4_52 (fs:List (List Nat)):cT.call 52 [.list (fs.map .str)]=some (.thing [19] [da (fs.map .str)]):=by
 show(if rR (fs.map D.str)=true then some (D.thing [19] [da (fs.map .str)]) else none)=_;exact if_pos (jC (fun _=>rfl) fs)
theorem phi4_35:cT.call 35 [.nil,.tup [.str [46,46],.str []]]=some (.lam 11 []):=by
 show br.call 35 [.nil,.tup [.str [46,46],.str []]]=_
 rfl
noncomputable def nZ (m:Mc) (n:Nat):D:=.list ((z6 m.L.length).map fun q=>.list ((cB m n q).map fJ))
noncomputable def uj (m:Mc):D:=da ((fams m m.fin.length).map .str)
theorem yL {m:Mc}(K:Mk m){u P:List Nat}(hM:cT.call 50 [.str P]=some m.d):∃ρ1,FI m u 0 ρ1/\∀o,aO cT NN ΓD ρ1 (wM.drop 5)=o->aO cT NN ΓD (aw (bR.map (·.1)) [.str P,.str u] fun J=>none) wM=o:=by
 let ρ0:ac:=aw (bR.map (·.1)) [.str P,.str u] fun J=>none
 have N0:de ρ0:=mm
 let ρ1:ac:=ρ0.set 115 (.fz m.d)
 have N1:de ρ1:=N0.set _ _
 let ρ2:ac:=((ρ1.set 104 (.fz (.list (m6 m.L)))).set 105 (.fz (.list (m.fin.map jz)))).set 100 (.fz (il m.ends))
 have N2:de ρ2:=((N1.set _ _).set _ _).set _ _
 let f0:List D:=(z6 m.L.length).map fun p=>.str [9000+p]
 let ρ3:ac:=(ρ2.set 116 (.own2 ((z6 m.L.length).map fun q=>(cB m 0 q).map fJ))).set 117 (.own f0)
 have N3:de ρ3:=(N2.set2 _ _).setO _ _;have hl:(m6 m.L).length=m.L.length:=sM K.l1;have hll:m.L.length<=lim:=zH K.l (by decide);have q0:0 < m.L.length:=K.l1;refine⟨ρ3.set 117 (.own ((z6 m.L.length).map fun p=>.str (a0 m 0 p))),⟨N3.setO _ _,sN (sN ae),ae,sN (sN (sN (sN (sN ae)))),sN (sN (sN (sN ae))),sN (sN (sN ae)),rfl⟩,fun o h=>?_⟩;refine aj (ρ':=ρ1) (cn (bh (ad (ab rfl) au) rfl hM) (N0.mine rfl)) ?_;refine aj (c9 (bF (ab ae) mJ rfl) aH) ?_;refine aj (ρ':=ρ2) (sB (ds:=[.list (m6 m.L),.list (m.fin.map jz),il m.ends]) (ab (d:=m.d) ae) rfl rfl (N1.all rfl)) ?_
 refine aj (ρ':=ρ3) ((fO (l:=[.own2 (((m6 m.L).map fun _=>D.list []).map fun _=>[]),.own f0]) (iG (d:=.list ((m6 m.L).map fun _=>.list [])) (f3 (l:=m6 m.L) (c:=fun d=>d) (k:=fun _=>.list []) (by rfl) (ab (d:=.list (m6 m.L)) (sN (sN ae))) (by rw[List.map_id'];rfl) (by rfl) (fun _ _=>aQ au (Ae _)) (by rw[hl];exact hll)) rfl
  (iG (d:=.list f0) (f3 (l:=z6 m.L.length) (c:=fun(p:Nat)=>.int (p:Int)) (k:=fun p=>.str [9000+p]) (by rfl) (fZ (n:=m.L.length) (ed (ab (d:=.list (m6 m.L)) (sN (sN ae))) rfl (by decide) (show D.builtin 0 [.list (m6 m.L)]=some (.int (m.L.length:Int)) from congrArg (fun n:Nat=>some (D.int (n:Int))) hl)) rfl hll) rfl (by rfl) (fun p hp=>ed (bf ak (ab ae) (wH (a:=9000))) rfl (by decide) (kZ (zI (Nat.add_lt_add_left (BH.mp hp) 9000) (zH (AA K.l _) (by decide))))) (by rw[Bv];exact hll)) rfl je)) rfl rfl (by decide) (N2.all rfl) sR).trans ?_) ?_
 ·refine congrArg (fun l=>some (gh.nx ((ρ2.set 116 (.own2 l)).set 117 (.own f0)))) ?_
  rw[AO];exact(wB (m6 m.L) []).trans (by rw[hl];rfl)
 refine aj ((sA (l':=(z6 m.L.length).map fun p=>.str (a0 m 0 p)) ae ak (ed ak rfl (by decide) (kZ (n:=999) (by decide))) ((vk (q:=0) (f:=fun p=>[9000+p]) (l:=[999]) q0 (zS rfl)).trans ?_))) h;refine congrArg some (Cr fun i _=>congrArg D.str ?_);show(if i=0 then[9000+0,999] else[9000+i])=(if i=0 then[9000+i,999] else[9000+i])
 by_cases e:i=0
 ·rw[if_pos e,if_pos e,e]
 ·rw[if_neg e,if_neg e]
theorem fdA_run {m:Mc}(K:Mk m){u P:List Nat}(hM:cT.call 50 [.str P]=some m.d):∃ρ,aO cT NN ΓD (aw (bR.map (·.1)) [.str P,.str u] fun J=>none) wM=some (.nx ρ)/\SwOk ρ (uj m)/\
  ρ 116=some (.fz (nZ m m.fin.length))/\ρ 119=some (.fz (.lam 11 []))/\ρ 100=some (.fz (il m.ends))/\ρ 76=some (.fz (.str u)):=by
 refine am (yL K hM (u:=u)) fun ρ1 I1 s1=>?_;refine am (uM (Γ:=ΓD) (x:=81) (n:=m.fin.length) (tp:=tpOf (wM.getD 5 kn)) (body:=fun ρ=>aO cT NN ΓD ρ (gQ (wM.getD 5 kn))) (I:=fun n ρ=>FI m u n ρ) (fun i ρ h=>h.ns.mine rfl) (fun k hk ρ I=>fd_step K hk I) I1) fun ρ2 r2 I2=>?_;have hn:m.fin.length<=1000:=K.s
 let fs:=fams m m.fin.length
 let ρ3:ac:=ρ2.set 116 (.fz (.list (((z6 m.L.length).map fun q=>(cB m m.fin.length q).map fJ).map .list)))
 let ρ4:ac:=ρ3.set 117 (.fz (.list ((z6 m.L.length).map fun p=>.str (a0 m m.fin.length p))))
 have N4:de ρ4:=(I2.ns.set _ _).set _ _;have ef:((z6 m.L.length).map fun p=>D.str (a0 m m.fin.length p))=fs.map .str:=by show _=DP _ (DP _ _);rw[AO];rfl
 have c117:ρ4 117=some (.fz (.list (fs.map .str))):=ae.trans (by rw[ef])
 let ρ5:ac:=(ρ4.set 58 (.fz (.thing [19] [uj m]))).set 119 (.fz (.lam 11 []))
 have c116:ρ5 116=some (.fz (nZ m m.fin.length)):=sN (sN (sN (ae.trans (by rw[AO];rfl))));have c100:ρ5 100=some (.fz (il m.ends)):=sN (sN (sN (sN I2.a100)));have c76:ρ5 76=some (.fz (.str u)):=sN (sN (sN (sN I2.a76)));have hrl:((z6 m.L.length).map fun q=>(cB m m.fin.length q).map fJ).all (fun r=>decide (r.length<=lim))=true:=Ag.mpr fun r hr=>by
  refine am (Ac.mp hr) fun q _ e=>?_;subst e;exact decide_eq_true (by rw[zX];exact zH (o8 _ _) (zH (Bh 2 hn) (by decide)))
 have fle:∀f∈fs,f.length<=1002:=fun f hf=>by
  refine am (Ac.mp hf) fun p _ e=>?_;subst e;exact zH (pG _ _) (by lia)
 have hfs:fs.length<=61:=by show(DP _ _).length<=61;rw[zX,Bv];exact K.l
 have eK:kJ (uj m)=gk fs:=by
  show(D.fams (uj m)).flatMap _=_;rw[show D.fams (uj m)=fs from jk fs]
 have eV:mZ (uj m)=iC fs:=by
  show(D.fams (uj m)).flatMap _=_;rw[show D.fams (uj m)=fs from jk fs]
 refine⟨ρ5,s1 _ ?_,⟨(N4.set _ _).set _ _,sN ae,?_,⟨fs.map .str,rfl,jC (fun _=>rfl) fs⟩,?_,?_,?_,?_,?_⟩,c116,ae,c100,c76⟩
 ·refine aj (qL (fZ (n:=m.fin.length) (ed (ab I1.a105) rfl (by decide) (show D.builtin 0 [.list (m.fin.map jz)]=some (.int (m.fin.length:Int)) from congrArg (fun n:Nat=>some (D.int (n:Int))) (zX _))) rfl (zH hn (by decide))) rfl r2) ?_
  refine aj (s_frz2 I2.a116 hrl) (aj (nX (sN I2.a117)) (aj (ρ':=ρ5) (fO (jf (bh (ad (ab c117) au) rfl (phi4_52 fs)) (jf (bh (ad mJ (ad (db (ad (aT (zS rfl)) (ad (aT (Ae _)) au)) sR) au)) rfl phi4_35) je)) rfl rfl (by decide) (N4.all rfl) sR) aH))
 ·intro x hx e he
  have hx:x=76\/x=100\/x=116\/x=119:=by
   have:=Au.mp hx
   simpa [nmK] using this
  rcases hx with rfl|rfl|rfl|rfl
  ·exact⟨_,(zG (he.symm.trans c76)),rfl⟩
  ·exact⟨_,(zG (he.symm.trans c100)),jC (fun _=>rfl) m.ends⟩
  ·exact⟨_,(zG (he.symm.trans c116)),jC (f:=fun q=>D.list ((cB m m.fin.length q).map fJ)) (fun q=>jC (f:=fJ) (fun _=>rfl) _) _⟩
  ·exact⟨_,(zG (he.symm.trans ae)),rfl⟩
 ·rw[eK];exact fams_nd hn
 ·rw[eK]
  obtain⟨l,hl⟩:=Nat.exists_eq_succ_of_ne_zero (Nat.ne_of_gt K.l1);have e1:fs=a0 m m.fin.length 0::((z6 l).map Nat.succ).map (a0 m m.fin.length):=by
   show(z6 m.L.length).map _=_;rw[hl,List.range_succ_eq_map];rfl
  rw[e1];refine x1 (mG (m:=m) m.fin.length 0) fun r e=>?_;unfold gk;rw[Ao,e];rfl
 ·rw[eK,eV];exact yo fs
 ·rw[eK];exact zH (k_len fs fle) (zH (Nat.mul_le_mul_right 1002 hfs) (by decide))
 ·intro y hy
  rw[eV] at hy;refine am (De.mp hy) fun f hf h=>am (Ac.mp h) fun _ _ e=>?_;subst e;exact zH (fle _ hf) (by decide)
end Mine
namespace Mine
noncomputable def kK (m:Mc) (c:Nat):Nat->Nat->List Nat
 |0,_=>[]
 |n+1,q=>if q=(sx m n).1/\m.L.getD (sx m n).2 0=c then kK m c n q++[n] else kK m c n q
section
variable {m:Mc}{c:Nat}
theorem ue:∀n q,(kK m c n q).length<=n
 |0,q=>zW _
 |n+1,q=>by
  have:=ue n q;show(if q=(sx m n).1/\m.L.getD (sx m n).2 0=c then kK m c n q++[n] else kK m c n q).length<=_
  by_cases h:q=(sx m n).1/\m.L.getD (sx m n).2 0=c
  ·rw[if_pos h,zM];exact AD this 1
  ·rw[if_neg h];exact Cn this
theorem iX {k q:Nat}:∀n,k∈kK m c n q↔k < n/\(sx m k).1=q/\m.L.getD (sx m k).2 0=c
 |0=>⟨fun h=>aG h,fun h=>absurd h.1 (D9 _)⟩
 |n+1=>by
  show k∈(if q=(sx m n).1/\m.L.getD (sx m n).2 0=c then kK m c n q++[n] else kK m c n q)↔_
  by_cases h:q=(sx m n).1/\m.L.getD (sx m n).2 0=c
  ·rw[if_pos h,z7,iX n]
   constructor
   ·rintro(h1|h1)
    ·exact⟨By h1.1,h1.2⟩
    ·rw[zY.mp h1];exact⟨AL n,h.1.symm,h.2⟩
   ·rintro⟨h1,h2⟩
    rcases DM.mp h1 with h1|h1
    ·exact .inl ⟨h1,h2⟩
    ·exact .inr (zY.mpr h1)
  ·rw[if_neg h,iX n]
   constructor
   ·exact fun h1=>⟨By h1.1,h1.2⟩
   ·rintro⟨h1,h2⟩
    rcases DM.mp h1 with h1|h1
    ·exact⟨h1,h2⟩
    ·exact absurd ⟨(h1▸h2.1).symm,h1▸h2.2⟩ h
theorem o7 {q:Nat}:∀n,(cB m n q).filter (fun x=>x.2==[120,c,120])=(kK m c n q).map fun k=>([1000+k],[120,c,120])
 |0=>rfl
 |n+1=>by
  show List.filter _ (if q=(sx m n).1 then cB m n q++th2 m n else cB m n q)=DP _ (if q=(sx m n).1/\m.L.getD (sx m n).2 0=c then kK m c n q++[n] else kK m c n q)
  by_cases h:q=(sx m n).1
  ·rw[if_pos h,List.filter_append,o7 n]
   have e2:((tg m (sx m n).2++tg m (sx m n).2)==[120,c,120])=false:=beq_eq_false_iff_ne.mpr fun e=>nomatch congrArg CD e;have e1:(tg m (sx m n).2==[120,c,120])=decide (m.L.getD (sx m n).2 0=c):=by
    rw[CW,beq_iff_eq,decide_eq_true_eq];exact⟨fun e=>(AN (AN e).2).1,fun e=>by unfold tg;rw[e]⟩
   have e3:(th2 m n).filter (fun x=>x.2==[120,c,120])=if m.L.getD (sx m n).2 0=c then[([1000+n],[120,c,120])] else[]:=by
    unfold th2;rw[EV,EV,List.filter_nil];show(if(tg m (sx m n).2==[120,c,120])=true then _::(if((tg m (sx m n).2++tg m (sx m n).2)==[120,c,120])=true then _ else _) else(if((tg m (sx m n).2++tg m (sx m n).2)==[120,c,120])=true then _ else _))=_;rw[e2,e1]
    by_cases hc:m.L.getD (sx m n).2 0=c
    ·rw[decide_eq_true hc,if_pos rfl,if_neg BQ,if_pos hc];unfold tg;rw[hc]
    ·rw[decide_eq_false hc,if_neg BQ,if_neg BQ,if_neg hc]
   rw[e3]
   by_cases hc:m.L.getD (sx m n).2 0=c
   ·rw[if_pos hc,if_pos ⟨h,hc⟩,Br];rfl
   ·rw[if_neg hc,if_neg fun q=>hc q.2,AF]
  ·rw[if_neg h,if_neg fun q=>h q.1];exact o7 n
end
theorem pb {S:LP}{L:List Nat}{c e:Nat}:∀(u:List Nat) (p:Nat),Rd S L p (u++[c]) e↔∃q,Rd S L p u q/\(q,e)∈S/\L[e]?=some c
 |[],p=>⟨fun⟨q,a,b,d⟩=>by obtain rfl:q=e:=d;exact⟨p,rfl,a,b⟩,fun⟨q,a,b,d⟩=>by obtain rfl:p=q:=a;exact⟨e,b,d,rfl⟩⟩
 |a::u,p=>⟨fun⟨q,h1,h2,h3⟩=>by obtain⟨x,y,z⟩:=(pb u q).mp h3;exact⟨x,⟨q,h1,h2,y⟩,z⟩,fun⟨x,⟨q,h1,h2,h3⟩,z⟩=>⟨q,h1,h2,(pb u q).mpr ⟨x,h3,z⟩⟩⟩
structure Pl (m:Mc)(u X:List Nat):Prop where
 nd:X.Nodup
 mem:∀p,p∈X↔Rd m.fin m.L 0 u p
theorem rd_lt {m:Mc}(K:Mk m):∀(u:List Nat)(p e:Nat),p < m.L.length->Rd m.fin m.L p u e->e < m.L.length
 |[],p,e,hp,h=>(show p=e from h)▸hp
 |c::u,p,e,hp,⟨q,a,b,d⟩=>rd_lt K u q e (K.i _ a).2.2 d
theorem Pl.lt {m:Mc}(K:Mk m){u X:List Nat}(h:Pl m u X){p:Nat}(hp:p∈X):p < m.L.length:=rd_lt K u 0 p K.l1 ((h.mem p).mp hp)
theorem Pl.len {m:Mc}(K:Mk m){u X:List Nat}(h:Pl m u X):X.length<=61:=by
 have:=C0 h.nd (l₂:=z6 m.L.length) fun x hx=>BH.mpr (h.lt K hx);rw[Bv] at this;exact zH this K.l
noncomputable def si (m:Mc) (c:Nat)(X:List Nat):List Nat:=X.flatMap (kK m c m.fin.length)
noncomputable def nxt (m:Mc) (c:Nat)(X:List Nat):List Nat:=kL [] ((si m c X).map fun k=>(sx m k).2)
theorem sx_of {m:Mc}{x:Nat×Nat}(h:x∈m.fin):∃k,k < m.fin.length/\sx m k=x:=by
 obtain⟨k,hk,e⟩:=List.getElem_of_mem h;refine⟨k,hk,?_⟩;unfold sx;rw[BN,Am hk];exact e
theorem Pl.next {m:Mc}(K:Mk m){u X:List Nat}(h:Pl m u X) (c:Nat):Pl m (u++[c]) (nxt m c X):=by
 refine⟨po _ _,fun p=>?_⟩;unfold nxt si;rw[ja,pb,Ac];have gl:∀{k},k < m.fin.length->m.L[(sx m k).2]?=some (m.L.getD (sx m k).2 0):=fun hk=>by
  have:=(K.i _ (oY hk)).2.2;rw[BN,Am this];rfl
 constructor
 ·rintro⟨⟨k,hk,rfl⟩,_⟩
  obtain⟨q,hq,hk⟩:=De.mp hk;obtain⟨h1,h2,h3⟩:=(iX _).mp hk;exact⟨q,(h.mem q).mp hq,h2▸oY h1,h3▸gl h1⟩
 ·rintro⟨q,h1,h2,h3⟩
  obtain⟨k,hk,e⟩:=sx_of h2;refine⟨⟨k,De.mpr ⟨q,(h.mem q).mpr h1,(iX _).mpr ⟨hk,by rw[e],?_⟩⟩,by rw[e]⟩,fun h=>aG h⟩;have:=gl hk;rw[e] at this ⊢;exact zG (this.symm.trans h3)
theorem tks_lt {m:Mc}{c:Nat}{X:List Nat}{k:Nat}(h:k∈si m c X):k < m.fin.length:=by
 obtain⟨q,_,hk⟩:=De.mp h;exact((iX _).mp hk).1
theorem kQ {m:Mc}{c n:Nat}:∀X:List Nat,X.length<=n->(si m c X).length<=n * m.fin.length
 |[],_=>Ae _
 |q::X,h=>by
  cases n with
  |zero=>exact absurd h (Gk _)
  |succ n=>
   unfold si;rw[Ao,zM,F4,B0];exact Ah (kQ X (Nat.le_of_succ_le_succ h)) (ue _ _)
theorem oG:∀(l acc:List Int),(∀x∈l,x ∉ acc)->l.Nodup->l.foldl FV acc=acc++l
 |[],acc,_,_=>(AF _).symm
 |a::l,acc,h,hn=>by
  have ha:acc.any (·==a)=false:=by
   rw[GP];intro x hx e;exact h a (zU ..) (beq_iff_eq.mp e▸hx)
  have hn:=Bi.mp hn;show l.foldl FV (FV acc a)=_;rw[show FV acc a=acc++[a] from if_neg (by rw[ha];exact BQ)];refine(oG l (acc++[a]) (fun x hx q=>?_) hn.2).trans (Az _ _ _);rcases z7.mp q with q|q
  ·exact h x (zT _ hx) q
  ·exact hn.1 (zY.mp q▸hx)
theorem we (l:List Int):((z6 l.length).map fun i=>l.getD i 0)=l:=by
 refine Dh (by rw[zX,Bv]) fun i h1 h2=>?_;rw[B7,Ez,BN,Am h2];rfl
theorem yA (l:List Nat):((l.map fun(i:Nat)=>D.int (i:Int)).mapM D.int?)=some (l.map fun(i:Nat)=>(i:Int)):=by
 induction l with
 |nil=>rfl
 |cons a l ih=>(refine zF z8 ?_;rw[CC];refine zF ih ?_);rfl
theorem yg {Y:List Nat}(h:Y.Nodup)(hl:Y.length<=61):D.many (il Y)=some (.int (Y.length:Int)):=by
 have e0:(Y.map fun(i:Nat)=>D.int (i:Int)).length=Y.length:=zX _;have e1:(Y.map fun(i:Nat)=>(i:Int)).length=Y.length:=zX _;refine(if_pos (show(Y.map fun(i:Nat)=>D.int (i:Int)).length < 4000 by rw[e0];exact Ay hl (by decide))).trans ?_;refine zF (yA Y) ?_;refine congrArg (fun n:Nat=>some (D.int (n:Int))) ?_;show(firstMet (fun i=>(Y.map fun(i:Nat)=>(i:Int)).getD i 0) (Y.map fun(i:Nat)=>D.int (i:Int)).length).length=_;rw[e0, <-e1];unfold firstMet;rw[we,oG _ [] (fun _ _ q=>aG q) (CO _ (fun a b h e=>h (Int.ofNat_inj.mp e)) h)]
 rfl
section
variable {Φ:bq}{Γ:ah}{ρ:ac}{N:Nat}{d x y z:D}{p q r:Pos}
theorem e_lens {a:E}{fp1 fp2 p2:Pos}(hg:Γ 0=some .globalImplicit/\Γ 8=some .globalImplicit)(h1:ev Φ Γ ρ a=some (.d x))(h2:x.many=some z):ev Φ Γ ρ (.lens a fp1 fp2 p2 p)=some (.d z):=by
 refine(show ev Φ Γ ρ (.lens a fp1 fp2 p2 p)=_ from if_pos hg).trans ?_;refine zF h1 ?_;show x.many.map R.d=_;exact zF h2 rfl
theorem rM {α:Type}{elt:E}{n:Nat}{tp:Pos}{sc:LK}{l:List α}{c k:α->D}(hf:(Tg.name n tp).fit sc (ρ.cut sc)=true)(h:∀a∈l,ev Φ (ay Γ sc) ((ρ.cut sc).set n (.fz (c a))) elt=some (.d (k a))):d6 Φ Γ sc (.name n tp) elt ρ (l.map c)=some (l.map k):=by
 unfold d6;rw[eO (g:=fun a=>[k a]) hf l fun a ha=>?_]
 ·exact congrArg some (mF _ _)
 ·simp[eM,fC,h a ha,R.asD]
theorem s_pick {nx ny nz g c t1 t2:Nat}{f pre elt1 elt2:E}{es:List E}{p0:Pos}{sc1 sc2:LK}{q1 q2 q3 q4 q5 q6 q7 q8 q9 q10 q11 q12 q13 q14 q15 q16:Pos}{i1 i2:Nat}{caps1 caps2 l0 items lp l1 items2 l3:List D}{dc:D}
  (hc:f.isCall=true) (hf:ev Φ Γ ρ f=some (.d (.lam i1 caps1))) (h0:iJ Φ Γ ρ es=some l0) (hg1:Φ.gen i1 (caps1++l0)=some items) (hg:ρ g=some (.fz (.lam i2 caps2))) (hcx:ρ c=some (.fz dc)) (hpre:ev Φ Γ ρ pre=some (.d (.list lp))) (hl1:d6 Φ Γ sc1 (.name t1 q6) elt1 ρ items=some l1)
  (hg2:Φ.gen i2 (caps2++[dc,.list (lp++l1)])=some items2) (hl3:d6 Φ Γ sc2 (.name t2 q13) elt2 ρ items2=some l3) (s1:(em Γ sc1/\em Γ sc2/\Γ nx=some .local/\Γ ny=some .local/\(ρ nx).isNone/\(ρ ny).isNone)/\Γ.mine ρ nz/\((Φ.lam i1 (caps1++l0)).isNone/\(Φ.lam i2 (caps2++[dc,.list (lp++l1)])).isNone)/\lp.length+l1.length<=lim/\l3.length<=lim):
  bb Φ N Γ ρ (.pick nx ny nz g c t1 t2 (.calle f es p0) pre elt1 elt2 sc1 sc2 q1 q2 q3 q4 q5 q6 q7 q8 q9 q10 q11 q12 q13 q14 q15 q16)=some (.nx (ρ.set nz (.fz (.list l3)))):=by
 refine zF j3 ?_;refine(show _=_ from if_pos hc).trans ?_;refine zF hf<|zF h0 ?_
 show(Φ.gen i1 (caps1++l0)).bind _=_;refine zF hg1<|zF hg<|zF hcx<|zF hpre ?_
 show(d6 Φ Γ sc1 (.name t1 q6) elt1 ρ items).bind _=_;refine zF hl1 ?_;show(Φ.gen i2 (caps2++[dc,.list (lp++l1)])).bind _=_;refine zF hg2 ?_;show(d6 Φ Γ sc2 (.name t2 q13) elt2 ρ items2).bind _=_;refine zF hl3 ?_;exact if_pos s1
end
end Mine
namespace Mine
noncomputable def kI (m:Mc)(v:List Nat):Prop:=∃e,e∈m.ends/\Rd m.fin m.L 0 v e
open Classical in
noncomputable def eW (m:Mc)(u:List Nat):List D:=bl (u.length+1) fun j=>decide (kI m (u.take j))
open Classical in
theorem sZ {m:Mc}{u:List Nat}{c:Nat}:eW m u++[.bool (decide (kI m (u++[c])))]=eW m (u++[c]):=by
 unfold eW bl;rw[zM,C9,E8 (n:=u.length+1),Br,GA];show _++[D.bool (decide (kI m (u++[c])))]=_++[D.bool (decide (kI m (List.take (u.length+1) (u++[c]))))];rw[Cu (l:=u++[c]) (by rw[zM];exact zW _)];refine congrArg (·++_) (Cr fun j hj=>?_);have hj:j<=u.length:=DL (BH.mp hj);show D.bool (decide (kI m (List.take j u)))=D.bool (decide (kI m (List.take j (u++[c]))));rw[List.take_append_of_le_length hj]
structure FJ (m:Mc)(u X:List Nat)(ρ:ac):Prop where
 ns:de ρ
 P:Pl m u X
 a58:ρ 58=some (.fz (.cx (uj m)))
 a100:ρ 100=some (.fz (il m.ends))
 a116:ρ 116=some (.fz (nZ m m.fin.length))
 a119:ρ 119=some (.fz (.lam 11 []))
 a120:ρ 120=some (.fz (il X))
 a121:ρ 121=some (.own (eW m u))
 a122:ρ 122=none
 a123:ρ 123=none
theorem xO {m:Mc}{n q:Nat}(hq:q < m.L.length):D.item (nZ m n) (.int (q:Int))=some (.list ((cB m n q).map fJ)):=by
 refine jK ?_;rw[AR,En hq];rfl
theorem child4 {c:Nat}:cT.call 34 [.nil,.tup [.str [],.str [120,c,120]]]=some (.lam 12 [.str [120,c,120]]):=
 (show cT.call 34 [.nil,.tup [.str [],.str [120,c,120]]]=jE.call 34 [.nil,.tup [.str [],.str [120,c,120]]] from rfl).trans tw
theorem picked {m:Mc}(K:Mk m){u X:List Nat}(h:Pl m u X) (c:Nat):cT.gen 12 ([.str [120,c,120]]++[.nil,.list (X.map fun q=>.list ((cB m m.fin.length q).map fJ))])=some ((si m c X).map fun k=>fJ ([1000+k],[120,c,120])):=by
 have e:((X.map (cB m m.fin.length)).flatMap fun r=>(r.filter fun q=>q.2==[120,c,120]).map fJ)=(si m c X).map fun k=>fJ ([1000+k],[120,c,120]):=by
  unfold si;rw[List.flatMap_map,List.map_flatMap];refine congrArg (fun f=>List.flatMap f X) (funext fun q=>?_);rw[o7,AO];rfl
 have hl:((si m c X).map fun k=>fJ ([1000+k],[120,c,120])).length<=lim:=by
  rw[zX];exact zH (kQ X (h.len K)) (zH (Bh 61 K.s) (by decide))
 have:=gen12 (u:=[120,c,120]) (rows:=X.map (cB m m.fin.length)) (by rw[e];exact hl);rw[e,AO] at this;exact(show cT.gen 12 _=br.gen 12 _ from rfl).trans this
theorem climbed {m:Mc}(K:Mk m){u X:List Nat}(h:Pl m u X) (c:Nat):cT.gen 11 ([]++[.cx (uj m),.list ([.str []]++(si m c X).map fun k=>.str [1000+k])])=some ((nxt m c X).map fun p=>.str (a0 m m.fin.length p)):=by
 have hi:∀k,k < m.fin.length->(sx m k).2 < m.L.length:=fun k hk=>(K.i _ (oY hk)).2.2;have hf:(fams m m.fin.length).length < 64:=by
  show(DP _ _).length < 64;rw[zX,Bv];exact Ay K.l (by decide)
 have:=gen11 (fs:=fams m m.fin.length) (cs:=(si m c X).map (1000+·)) hf (by rw[zX];exact zH (kQ X (h.len K)) (zH (Bh 61 K.s) (by decide)));have e:=iL (n:=m.fin.length) K.s hi (si m c X) [] fun k hk=>tks_lt hk;rw[CL] at e;rw[e,AO,AO] at this;exact(show cT.gen 11 _=br.gen 11 _ from rfl).trans this
open Classical in
theorem yJ {m:Mc}{v X:List Nat}(h:Pl m v X):(!(X.filter fun p=>m.ends.contains p).isEmpty)=decide (kI m v):=by
 rw[CW,decide_eq_true_eq,EO,List.isEmpty_eq_false_iff_exists_mem]
 constructor
 ·rintro⟨p,hp⟩
  obtain⟨h1,h2⟩:=Bj.mp hp;exact⟨p,Au.mp h2,(h.mem p).mp h1⟩
 ·rintro⟨p,h1,h2⟩
  exact⟨p,Bj.mpr ⟨(h.mem p).mpr h2,Au.mpr h1⟩⟩
theorem ne_nil (l:List Nat):D.cmp .NotEq (il l) (.list [])=some (!l.isEmpty):=by
 show(D.cmp .Eq (il l) (.list [])).map (!·)=_;exact zF (th l) rfl
noncomputable def yM:List St:=gQ (fdB.getD 1 kn)
theorem fam_ev {m:Mc}{n p:Nat}{Φ:bq}{Γ:ah}{ρ:ac}{p1 p2 p3 p4 p5 p6 p7:Pos}(hg:Γ 2=some .globalImplicit)(h:ρ 124=some (.fz (.str (a0 m n p)))):ev Φ Γ ρ (.bin (.blt 2 [.idx (.name 124 p1) (.int 0 p2) p3] p4 p5) .Sub (.int 9000 p6) p7)=some (.d (.int (p:Int))):=by
 refine x1 (mG (m:=m) n p) fun r e=>?_;have it:D.item (.str (a0 m n p)) (.int ((0:Nat):Int))=some (.str [9000+p]):=uJ (by rw[e];rfl);refine bf (ed (aC (ab h) ak it) hg (by decide) (z:=.int ((9000+p:Nat):Int)) rfl) ak (show some (D.int (((9000+p:Nat):Int) - 9000))=_ from congrArg (fun z=>some (D.int z)) ?_);rw[Int.natCast_add,Int.add_comm];exact GT _ _
theorem fb_step {m:Mc}(K:Mk m){u X:List Nat}(hu:u.length<=1000){c:Nat}{ρ:ac}(I:FJ m u X ρ):∃ρ',aO cT NN ΓD (ρ.set 86 (.fz (.str [c]))) yM=some (.nx ρ')/\FJ m (u++[c]) (nxt m c X) ρ':=by
 let Y:=nxt m c X
 have PY:Pl m (u++[c]) Y:=I.P.next K c;have yl:=PY.len K;have tl:(si m c X).length<=61000:=zH (kQ X (I.P.len K)) (Bh 61 K.s);have N0:=I.ns.set 86 (.str [c])
 let ρ1:ac:=(ρ.set 86 (.fz (.str [c]))).set 120 (.fz (il Y))
 have N1:de ρ1:=N0.set _ _;have t1:D.bin .Add (.str [120]) (.str [c])=some (.str [120,c]):=dK (a:=[120]) (b:=[c]) (zS rfl);have t2:D.bin .Add (.str [120,c]) (.str [120])=some (.str [120,c,120]):=dK (a:=[120,c]) (b:=[120]) (zS rfl);have c116:(ρ.set 86 (.fz (.str [c]))) 116=some (.fz (nZ m m.fin.length)):=sN I.a116;have c100:ρ1 100=some (.fz (il m.ends)):=sN (sN I.a100);have hc:(Y.filter fun p=>m.ends.contains p).length<=Y.length:=F6 _ _;refine⟨ρ1.set 121 (.own (eW m (u++[c]))),?_,N1.setO _ _,PY,sN (sN (sN I.a58)),sN (sN (sN I.a100)),sN (sN (sN I.a116)),sN (sN (sN I.a119)),sN ae,ae,sN (sN (sN I.a122)),sN (sN (sN I.a123))⟩
 refine aj (ρ':=ρ1) (s_pick (items:=(si m c X).map fun k=>fJ ([1000+k],[120,c,120])) (lp:=[.str []]) (l1:=(si m c X).map fun k=>.str [1000+k]) (items2:=Y.map fun p=>.str (a0 m m.fin.length p)) (l3:=Y.map fun(p:Nat)=>.int (p:Int)) (by rfl)
  (bh (ad mJ (ad (db (ad (aT (Ae _)) (ad (bf (bf (aT (zS rfl)) (ab ae) t1) (aT (zS rfl)) t2) au)) sR) au)) rfl child4)
  (ad mJ (ad (f3 (l:=X) (c:=fun(q:Nat)=>.int (q:Int)) (k:=fun q=>.list ((cB m m.fin.length q).map fJ)) (by rfl) (ab (sN I.a120)) rfl (by rfl) (fun q hq=>aC (ab (sN (show(ac.cut _ _) 116=_ from(if_pos rfl).trans c116))) (ab ae) (xO (I.P.lt K hq))) (zH (I.P.len K) (by decide))) au))
  (picked K I.P c) (sN I.a119) (sN I.a58) (aQ (ad (aT (Ae _)) au) (zS rfl)) (rM (by rfl) fun k hk=>y5 rfl (ab ae) rfl) (climbed K I.P c) (rM (by rfl) fun p hp=>fam_ev rfl ae)
  ⟨⟨by rfl,by rfl,rfl,rfl,by rw[show(ρ.set 86 (.fz (.str [c]))) 122=none from sN I.a122];rfl,by rw[show(ρ.set 86 (.fz (.str [c]))) 123=none from sN I.a123];rfl⟩,N0.mine rfl,⟨by rfl,by rfl⟩,by rw[zX];exact zH (AA tl _) (by decide),by rw[zX];exact zH yl (by decide)⟩) ?_
 refine aj (c9 (bF (e_lens ⟨rfl,rfl⟩ (ab ae) (yg PY.nd yl)) (ed (ab (d:=il Y) ae) rfl (by decide) (show D.builtin 0 [il Y]=some (.int (Y.length:Int)) from congrArg (fun n:Nat=>some (D.int (n:Int))) (zX _))) (show D.cmp .Lt (.int (Y.length:Int)) (.int (Y.length:Int))=some false from congrArg some (decide_eq_false (Int.lt_irrefl _)))) aH) ?_;refine aj ((xM (sN (sN I.a121)) (kB (gI (l:=Y) (c:=fun(p:Nat)=>.int (p:Int)) (k:=fun(p:Nat)=>.int (p:Int)) (b:=fun p=>m.ends.contains p) (by rfl) (ab (d:=il Y) ae) rfl (by rfl) (fun p hp=>bF (ab ae) (ab (d:=il m.ends) (by exact sN (show(ac.cut _ _) 100=_ from(if_pos rfl).trans c100))) pD) (fun p hp _=>ab ae) (zH yl (by decide))) (aQ au (Ae _)) (ne_nil _)) (by rfl) ?_).trans ?_) aH
 ·show(eW m u).length < lim
  unfold eW;rw[pU];exact Ay (B9 hu) (by decide)
 ·exact congrArg (fun l=>some (gh.nx (ρ1.set 121 (.own l)))) ((congrArg (fun b=>eW m u++[D.bool b]) (yJ PY)).trans sZ)
end Mine
namespace Mine
theorem xe {ρ:ac}{root:D}(h:de ρ):de (gw ρ root):=by
 intro y d e;unfold gw at e
 by_cases h1:y=58
 ·rw[if_pos h1] at e;exact nomatch e
 ·rw[if_neg h1] at e
  by_cases h2:nmK.contains y=true
  ·rw[if_pos h2] at e;exact h y d e
  ·rw[if_neg h2] at e;exact ai e
open Classical in
theorem wh {m:Mc}:[D.bool (m.ends.contains 0)]=eW m []:=by
 show[D.bool (m.ends.contains 0)]=[D.bool (decide (kI m []))];refine congrArg (fun b=>[D.bool b]) ?_;rw[CW,decide_eq_true_eq,Au];exact⟨fun h=>⟨0,h,rfl⟩,fun⟨e,h,h2⟩=>(show 0=e from h2)▸h⟩
theorem fdB_run {m:Mc}(K:Mk m){u:List Nat}(hu:u.length<=1000){ρ:ac}(S:SwOk ρ (uj m))(h116:ρ 116=some (.fz (nZ m m.fin.length)))(h119:ρ 119=some (.fz (.lam 11 [])))(h100:ρ 100=some (.fz (il m.ends)))(h76:ρ 76=some (.fz (.str u))):aO cT NN ΓD (gw ρ (uj m)) fdB=some (.rt (.list (eW m u))):=by
 let ρ0:ac:=gw ρ (uj m)
 have N0:de ρ0:=xe S.ns
 let ρ1:ac:=(ρ0.set 120 (.fz (il [0]))).set 121 (.own [.bool (m.ends.contains 0)])
 have N1:de ρ1:=(N0.set _ _).setO _ _;have P0:Pl m [] [0]:=⟨BX _ _,fun p=>⟨fun h=>(zY.mp h).symm,fun h=>zY.mpr (show 0=p from h).symm⟩⟩;have J0:FJ m [] [0] ρ1:=⟨N1,P0,rfl,(show ρ0 100=ρ 100 from rfl).trans h100,(show ρ0 116=ρ 116 from rfl).trans h116,(show ρ0 119=ρ 119 from rfl).trans h119,rfl,congrArg (fun l=>some (dL.own l)) wh,rfl,rfl⟩;refine am (mD (Γ:=ΓD) (c:=fun c=>.str [c]) (x:=86) (tp:=tpOf (fdB.getD 1 kn)) (body:=fun ρ=>aO cT NN ΓD ρ yM) (all:=u) (I:=fun v ρ=>∃X,FJ m v X ρ) (fun l ρ h=>x1 h fun X J=>J.ns.mine rfl) (fun a done rest ρ e ⟨X,J⟩=>?_) u [] ρ1 rfl ⟨_,J0⟩) fun ρ2 r2 h2=>?_
 ·refine am (fb_step K (c:=a) ?_ J) fun ρ' r J'=>⟨ρ',r,_,J'⟩
  rw[e,zM] at hu;exact zH (AC _ _) hu
 ·refine x1 h2 fun X J=>?_
  refine aj (ρ':=ρ1) (fO (jf (aQ (ad ak au) (zS rfl)) (iG (d:=.list [.bool (m.ends.contains 0)]) (aQ (ad (kB ak (ab ((show ρ0 100=ρ 100 from rfl).trans h100)) (pD (k:=0))) au) (zS rfl)) rfl je)) rfl rfl (by decide) (N0.all rfl) sR) ?_;exact aj (qL (ab (d:=.str u) ((show ρ0 76=ρ 76 from rfl).trans h76)) rfl r2) (aj (nX J.a121) (cm (dO (ab ae))))
theorem wk {k:Nat}{x:Rx}{w:List Nat}:eW (x.mc k d9) (cI k w)=dueL k x w:=by
 refine Cr fun j _=>congrArg D.bool ?_;exact decide_eq_decide.mpr (fin_acc k x _)
theorem gX {f:Nat}(h:tF9 f=none)(h2:tFE f=none)(args:List D):fE.call f args=if f=53 then c56 args else cT.call f args:=by
 show(if f=53 then c56 args else qR.call f args)=_;refine congrArg (fun o=>if f=53 then c56 args else o) ?_;show(match tF9 f with|some t=>l9 (eE 40) NN t args|none=>(eE 40).call f args)=_;rw[h];exact jD h2 40
theorem ta {k:Nat}(hk:k < 5){a b:Nat}{f:Nat->Nat}{g h:Nat->Bool}{w:List Nat}(hw:w.length<=16):fE.call 53 [.str ((bN a b f g h).pat k),.str (cI k w)]=some (.list (dueL k (bN a b f g h) w)):=by
 have K:=tree_mk hk (a:=a) (b:=b) (f:=f) (g:=g) (h:=h);have hM:cT.call 50 [.str ((bN a b f g h).pat k)]=some ((bN a b f g h).mc k d9).d:=(show cT.call 50 _=jE.call 50 _ from rfl).trans (qV k (qy hk) (zH (qz hk) (by decide)) (zW 3) (zH (wU hk) (by decide)));have hu:(cI k w).length<=1000:=zH (gv hk w) (zH (Bh 6 hw) (by decide));rw[<-wk];generalize(bN a b f g h).pat k=P at hM ⊢;generalize(bN a b f g h).mc k d9=m at hM K ⊢;generalize cI k w=u at hu ⊢;obtain⟨ρ1,r1,S,h116,h119,h100,h76⟩:=fdA_run K hM (u:=u);refine(show fE.call 53 _=c56 _ from rfl).trans (c56_of ⟨ρ1,uj m,rfl,rfl,r1,S,fdB_run K hu S h116 h119 h100 h76,?_⟩);exact jC (fun _=>rfl) _
theorem pd_bl (n:Nat)(g:Nat->Bool)(l:List Nat):(l.map fun j=>D.bool (g j)).mapM (D.pd (n+1))=some (l.map fun j=>FZ.bool (g j)):=by
 induction l with
 |nil=>rfl
 |cons a l ih=>(refine zF z8 ?_;rw[CC];refine zF ih ?_);rfl
theorem yX (g:Nat->Bool):∀l:List Nat,FZ.eqvAll (l.map fun j=>.bool (g j)) (l.map fun j=>.bool (g j))=true
 |[]=>rfl
 |a::l=>by
  have h:BI (.bool (g a)) (.bool (g a))=true:=by cases g a<;>rfl
  simp only[z8,FZ.eqvAll,h,yX g l]
  rfl
theorem eq_bl (n:Nat)(g:Nat->Bool):D.cmp .Eq (.list (bl n g)) (.list (bl n g))=some true:=by
 show(D.pd 5 (.list (bl n g))).bind (fun p=>(D.pd 5 (.list (bl n g))).bind fun q=>some (BI p q))=_;have:D.pd 5 (.list (bl n g))=some (.list ((z6 n).map fun j=>.bool (g j))):=by
  show((bl n g).mapM (D.pd 4)).map FR=_;exact zF (pd_bl 3 g _) rfl
 refine zF this ?_;show some (BI (.list _) (.list _))=_;simp only[BI,yX]
theorem plain:∀l:List Int,l.length<=63->l9 fE NN ym [.list (l.map .int)]=some (.bool true):=by
 intro l hl;refine am (wC l hl) fun cs hc e42=>?_;obtain⟨a,b,f,g,h,w,hw,e46⟩:=ww hc
 let k:=yd cs[5] 5
 have hk:k < 5:=jI (by decide);have c1:fE.call 42 [.list (l.map .int)]=some (.list (cs.map .int)):=(gX rfl rfl _).trans ((show cT.call 42 _=br.call 42 _ from rfl).trans e42);have c2:fE.call 46 [.list (cs.map .int)]=some (.tup [(bN a b f g h).d,.str w]):=(gX rfl rfl _).trans ((show cT.call 46 _=br.call 46 _ from rfl).trans e46);have c3:fE.call 47 [(bN a b f g h).d,.int (k:Int)]=some (.str ((bN a b f g h).pat k)):=(gX rfl rfl _).trans (pat_run hk);have c4:fE.call 43 [.str w,.int (k:Int)]=some (.str (cI k w)):=(gX rfl rfl _).trans ((show cT.call 43 _=jE.call 43 _ from rfl).trans (yD hk (zH hw (by decide))));have c5:=ta hk (a:=a) (b:=b) (f:=f) (g:=g) (h:=h) hw;have c6:fE.call 54 [(bN a b f g h).d,.str w,.int (k:Int)]=some (.list (dueL k (bN a b f g h) w)):=(show fE.call 54 _=qR.call 54 _ from rfl).trans (due_run hk hw);have N0:de (aw [82] [.list (l.map .int)] fun J=>none):=mm;have N1:=N0.set 80 (.list (cs.map .int));have N2:=N1.set 83 (.int (k:Int));refine ui (t:=ym) rfl ?_;refine aj (cn (bh (ad (ab rfl) au) rfl c1) (N0.mine rfl)) ?_;refine aj (cn (bf (aC (ab ae) ak (sX cs (m:=5) (by rw[hc];decide))) ak (jH (m:=5) (by decide))) (N1.mine rfl)) ?_;refine aj (sB (bh (ad (ab (sN ae)) au) rfl c2) rfl rfl (N2.all rfl)) (cm (dO ?_));exact kB (bh (ad (bh (ad (ab rfl) (ad (ab rfl) au)) rfl c3) (ad (bh (ad (ab rfl) (ad (ab rfl) au)) rfl c4) au)) rfl c5) (bh (ad (ab rfl) (ad (ab rfl) (ad (ab rfl) au))) rfl c6) (eq_bl _ _)
theorem law01:PySem.Challenge.rw_wb0058_01.Holds:=fin2 plain
end Mine
theorem PySem.Challenge.cw_wb0058_01_holds : PySem.Challenge.rw_wb0058_01.Holds := by
  exact Mine.law01
