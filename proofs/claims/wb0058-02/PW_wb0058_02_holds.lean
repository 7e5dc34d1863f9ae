import PyProof.Rows.All
import PyProof.StrLawsReplace
import KE.KLam
import OpenK.XSeg
import Wide.FinOn
import OpenK.AllK
import Wide.All
import Lean
import PySem.Challenge.RW_wb0058_02
set_option genInjectivity false
set_option genSizeOf false
set_option maxRecDepth 100000
set_option Elab.async false
set_option linter.all false
set_option tactic.hygienic false
open Eq renaming substr->AZ,symm->BE,refl->BN
open Option.some renaming inj->A0,injEq->Bl
open Nat renaming lt_of_lt_of_le->Ba,lt_irrefl->Bd,le_trans->Bf,le_refl->Bq,lt_of_le_of_lt->BI,le_of_lt_succ->Cm,zero_le->Cp,succ_le_succ->Cs,lt_succ_self->Ct,le_of_lt->CK,lt_trans->CP,exists_eq_succ_of_ne_zero->CS,lt_succ_of_lt->CV,le_succ_of_le->CW,le_of_succ_le->CX,sub_le->C0,add_le_add_left->C2,le_add_left->Do,ne_of_lt->DA,min_le_right->D0,le_succ->D6,lt_or_ge->Ek,le_of_eq->El,lt_of_le_of_ne->Eu,succ_lt_succ->EN,le_of_ble_eq_true->E5,sub_le_sub_right->Fd,add_le_add_right->Fe,mul_le_mul_left->Fk,le_of_not_lt->FX,le_add_right->FY,min_le_left->Gc,sub_lt->Gv,not_lt->Gw,ne_of_gt->GS,not_succ_le_self->G9,le_zero->Ha,lt_or_eq_of_le->Hv,add_sub_cancel->Hw,add_right_comm->Hx
open List renaming forall_mem_cons->Bb,mem_cons_of_mem->Bi,mem_cons_self->Bj,length_append->Bm,range->Bn,map_cons->Bo,all_eq_true->Bp,lookup_cons->Bu,mem_cons->Bw,length_map->Bx,length_cons->BA,mem_map->BC,flatMap_cons->BJ,mem_singleton->BK,mem_range->BL,map_map->BR,getD_eq_getElem?_getD->BS,append_assoc->BU,pairwise_cons->BV,map_append->BW,getElem?_eq_some_iff->B0,size_toArray->B7,contains_iff_mem->B9,zip_cons_cons->Ce,find?_cons->Cg,mem_of_getElem?->Co,mem_filter->Cq,toList_toArray->Cx,length_singleton->Cy,length_filter_le->Cz,getElem?_eq_getElem->CA,nodup_cons->CD,append_nil->CE,exists_cons_of_ne_nil->CI,of_mem_zip->CL,mapM_cons->CQ,getElem?_map->CU,mem_append->CY,forall_mem_nil->C1,lookup->C4,getElem?_append_left->C8,length_nil->Da,foldl_append->Dg,map_congr_left->Dk,cons_append->Dl,range'->Dr,map_nil->Dx,mem_of_find?_eq_some->DB,take_of_length_le->DM,mem_append_right->DO,lookup_cons_self->DP,not_mem_nil->DR,mem_reverse->DS,map_reverse->DT,filter_cons->DU,any_cons->D1,mem_append_left->D3,nil_append->D8,dropLast_concat_getLast->D9,flatMap_append->Eg,filter_sublist->Eh,take_left->Eo,contains_cons->Ep,append_eq_append_iff->EA,mem_range'_1->ED,length->EE,lookup_eq_none_iff->EK,getElem?_cons_zero->EL,pairwise_lt_range->EU,range_succ->EX,length_set->EY,forIn_cons->EZ,drop_left->E6,filterMap_cons->Fg,find?_eq_none->Fp,flatten_cons->FE,length_drop->FO,flatMap_def->FP,cons_ne_nil->FQ,any_eq_true->FR,head?_drop->FZ,foldl_cons->F4,find?_some->F5,replicate->Gh,isPrefixOf_iff_prefix->Gi,getElem?_append_right->Gj,extract_eq_take_drop->Gy,mapM_nil->GC,all_cons->GD,append_cancel_left->GG,pairwise_reverse->GT,pairwise_flatMap->GU,getElem?_toArray->GV,getElem?_eq_none->GW,pairwise_append->GZ,getElem?_of_mem->G0,length_pos_iff->Hb,zip_nil_right->Hk,head?->Hl,flatMap_assoc->Hm,zip_nil_left->Hy,reverse_cons->Hz,length_range->HA,getElem?_set->HB,getElem?_inj->HC,contains_nil->HD,any_eq_false->HE
open PySem renaming wpAny_bind->Bc,Shared->Be,wpAny_pure->Bk,wpAny_execs_cons->Br,wpAny_loadName_local->BF,wpAny_mono->BH,Around->BO,mainGlobals->BQ,wpAny_Name->BX,wpAny_truthy_bool->B1,strKind->B4,wpAny_Call_Name_kw->B6,wpAny_standAt->B8,builtinsNs->Cc,Fin->Ci,FuncData->Cu,wpAny_holding->Cv,wpAny_execs_nil->Cw,wpAny_newObj_type->CB,wpAny_Assign_Name->CC,cellsFrom->CF,letOwnedTupleGo->CM,clipAt->CR,codeAny->C3,starEach->C6,sysModules->C9,theTreesLotGoes->Di,wpAny_assign_Name->Dj,codeAny_of_tree->Dq,wpAny_storeName_local->Ds,wpAny_isTrue_Compare1->Dt,codeAny_call_function->Du,Result->Dv,wpAny_Return_some->Dw,typeIs_str->DF,assign->DG,codeAny_mono->DJ,intKind->DL,Builtin->DQ,valueAt->DX,isSubtype_type->DY,constantsAlone->DZ,plainObj_wpAny_Assign_Attribute->D5,wpAny_call->Ea,storeName->Eb,pyNext->Ec,pushCells->Ed,noteFrame->Ee,GenState->En,rawInt->Er,pushCells_keeps->Es,standAt->EB,relabel->EC,assignEach->EG,Operator->EI,BoolOp->EJ,wpAny_noted->EP,forTurn->ES,foldedSetIterable->ET,wpAny_onRaise->EV,backTo->EW,Comprehension->E0,wpAny_list_append_plain->E4,codeAny_func->E9,closureFor->Fb,Expr->Fi,wpAny_of_eq->Fq,isTrue->Fs,interactive->Ft,bindArgs->Fu,codeAmong->FB,wpAny_Constant_none->FH,swappedStores->FM,attributeBase->FN,wpAny_rule->FT,wpAny_getItem_list->FU,Params->FW,slot_list_getitem->F6,compTurn->F9,FuncBody->Ge,Call_method1->Gg,wpAny_call_entry->Gm,pyIter->Gp,partValue->Gq,Ctx->GB,call_isinstance->GE,spliced->GJ,wpAny_If->GN,newFunctionEnv->GO,isSame->GP,bindName->GQ,wpAny_attempt->G6,assignInOrder->G7,wpAny_unpackItems_tuple->Hd,wpAny_getItem_str_slice->He,wpAny_callSpecial?_slot->Hf,compareOp->Hh,wpAny_Assign_Subscript->Hp,name_of_addr->Hq,makeFunction->Hr,holding->Hs,denote->Ht,Program->Hu
open Option renaming bind_eq_some_iff->Bg,bind_eq_bind->Bh,map_eq_some_iff->Bt,bind_some->BB,map_some->CJ,isSome_iff_exists->DE,pure_def->EM,getD_some->FC,getD_none->FD,isNone_iff_eq_none->Gb,elim->GL
open List.cons renaming inj->Bv,injEq->Fw
open PySem.Heap renaming get?_push_of_some->By,get?_push_size->BD,lt_size->BG,size_push->BM,get?_none_of_le->BY,Ns->CN,IsCell->C5,SameBut->Dy,get?_update_self->GX
open Bool renaming and_eq_true->Bz,false_eq_true->BP,or_eq_true->BZ,eq_iff_iff->Cr,and_eq_true_iff->Dh,eq_false_iff->Dp,true_and->DI,false_ne_true->DK,noConfusion->DW,false_or->EF,and_false->E8,or_eq_true_iff->Fh,or_false->Fl,and_true->Fm,not_eq_true'->FF,false_and->Gk
open List.Pairwise renaming nil->B3,map->D4,imp_of_mem->D7,sublist->Ew
open PySem.Calls renaming spliced_cons->B5,spliced_nil->Cj,evalArgs_plain->Dc,callWith_builtin->Dm,Name_function_global->Fv,callWith_function->Ga,Constant_str->Gf
open Array renaming length_toList->Ca,getElem?_eq_some_iff->Cn,getElem?_toList->C7,find?_toList->Fn,getElem?_setIfInBounds_ne->FG,getElem?_eq_getElem->Gl,toList->GH,toList_append->G5,toList_push->Hn,size_append->Ho,any_toList->HI
open PySem.Builtin.Str renaming strSliceIndices->Cb,occurrences->FS
open PySem.Expr renaming Name->Cd,Tuple->GK
open Int renaming natCast_nonneg->Cf,toNat_natCast->CZ,fmod_nonneg_of_pos->Dn,ofNat_lt->DC,ofNat_le->DD,fdiv->DN,toNat_of_nonneg->Ei,le_trans->Em,lt_of_le_of_lt->Ey,fmod_lt_of_pos->Ez,fmod->EO,natCast_pos->E3,toNat_lt->FL,fmod_eq_emod_of_nonneg->Gz,natAbs_of_nonneg->Hc,not_lt->HF,not_le->HG
open PySem.Sem renaming bind_eq_wrap'->Ck,wrap_wrap->CO,wrap->Gs,onRaise_eq_wrap->Hj
open Prod.mk renaming injEq->CG
open ForInStep renaming yield->CH
open PySem.W renaming instObj->Dd,findIn->Ef,handedIn->F8,lookIn->Gr,codeHd_of_K->GA,specialIn->Hg
open PySem.Txt renaming split->De,contains->Ej,find->Fc,endswith->FJ,replace->G8
open PySem.Code renaming builtin->Dz
open PySem.Heap.IsCell renaming keeps->DH
open PySem.Frame renaming guarded->DV,where_->Fy
open Nat.succ renaming inj->D2
open PySem.F renaming slot_str_getitem->Et,plainAttrs_str->EH,slot_str_translate->FV,slot_str_split->Gu
open PySem.Builtin.Generator renaming genWake->E7
open Classical renaming not_not->Ff
open Ne renaming symm->Fj
open PyProof.Rows renaming callWith_type->Fo,Attribute_any_->FA,isTrue_plain->F7
open PySem.Heap.SameBut renaming update->Gd
open PySem.Str renaming ofString->GF
open PySem.Heap.DictOf renaming new->GM
open PySem.StrLaws renaming found_one->GY
open PySem PySem.W PySem.Calls PyProof.Rows
section
set_option maxHeartbeats 4000000
namespace Mine
set_option hygiene false in
local macro_rules |`(tactic| o_head $_:term)=>`(tactic| exact h)
theorem kSeed (h:PySem.Challenge.rw_wb0058_02.row.Holds):PySem.Challenge.rw_wb0058_02.row.Holds:=by km_head
noncomputable abbrev q2:Program:=view PySem.Challenge.pw_wb0058_02 [1,2,3,4,5,6,8,9,11,12,13,14,15,16,18,19,20,21,22,23,24,25,26,27,28,29,30,31,32,33]
noncomputable abbrev loose2:List Str:=[Str.ofString "_SelectorContext", Str.ofString "_special_chars_map"]
noncomputable abbrev as2:List Addr:=[2,3,15,17,18,20,21,22,24,25,27,28,29,31,32,34,35,36,38,39,41,42,43,45,46,48,49,57,59,60,62,63,64,65,66,67,68,72,76,78,79,81,82,83,85,86,88,89,90,92,93,95,96,97,99,100,102,103,104,106,107,109,110,111,113,114,116,117,118,120,121,123,124,125,127,128,130,131,132,134,135,137,138,139,141,142,144,145,146,148,149,151,152,153,156,157,158,160,161,163,164,165,168,169,170,172,173,175,176,177,179,180,182,183,184,186,187,189,190,191,193,194,196,197,198,200,201,203,204,205,208,209,210,213,214,215,218,219,220,223,224]
noncomputable abbrev k2:Params->Frag:=kSeed.heap_1
theorem as2_eq:∀P,as2=(k2 P).map (·.1):=fun P=>by kernel_rfl
noncomputable abbrev H2:Hook:=kmHook k2 as2 as2_eq [30,37,44,199]
noncomputable abbrev r2:OpenRow:=PySem.Challenge.rw_wb0058_02.row
noncomputable abbrev X2 (s:Shared):Bool:=xlAt q2 [] s&&recOk (RowW.records r2.toRowW) s
noncomputable def P2 (w:World):Prop:=(openEnds treeTable r2.prog w 4856).map (fun s=>(openSeen q2 loose2 (importedModules r2.prog.main.body) X2 true s,Hook.obs H2 s))=some (openGood q2 loose2,Hook.val H2 w)
theorem left4 {P:World->Prop}(n1 n2:String)(h1:∀w:World,P ((w.withFollow n1 false).withFollow n2 false))(h2:∀w:World,P ((w.withFollow n1 false).withFollow n2 true))
  (h3:∀w:World,P ((w.withFollow n1 true).withFollow n2 false)) (h4:∀w:World,P ((w.withFollow n1 true).withFollow n2 true)) (w:World):P w:=
 byRow2 n2 (P:=P) (byRow2 n1 (P:=fun w=>P (w.withFollow n2 false)) h1 h3) (byRow2 n1 (P:=fun w=>P (w.withFollow n2 true)) h2 h4) w
theorem leaf1 (w:World):P2 ((w.withFollow "comprehension-iter-twice" false).withFollow "special-get-raises" false):=by
 delta P2 openEnds fencedOpening topFrom
 rewrite [PySem.W.Fast.te14082659384304107361,PySem.W.Fast.te10274390034422433532,PySem.W.Fast.te14289696077712309145,PySem.W.Fast.te4187177175401517315,PySem.W.Fast.te1435165496053646825,PySem.W.Fast.te14364793385576792824]
 kernel_rfl
theorem leaf2 (w:World):P2 ((w.withFollow "comprehension-iter-twice" false).withFollow "special-get-raises" true):=by
 delta P2 openEnds fencedOpening topFrom
 rewrite [PySem.W.Fast.te14082659384304107361,PySem.W.Fast.te10274390034422433532,PySem.W.Fast.te14289696077712309145,PySem.W.Fast.te4187177175401517315,PySem.W.Fast.te1435165496053646825,PySem.W.Fast.te14364793385576792824]
 kernel_rfl
theorem leaf3 (w:World):P2 ((w.withFollow "comprehension-iter-twice" true).withFollow "special-get-raises" false):=by
 delta P2 openEnds fencedOpening topFrom
 rewrite [PySem.W.Fast.te14082659384304107361,PySem.W.Fast.te10274390034422433532,PySem.W.Fast.te14289696077712309145,PySem.W.Fast.te4187177175401517315,PySem.W.Fast.te1435165496053646825,PySem.W.Fast.te14364793385576792824]
 kernel_rfl
theorem leaf4 (w:World):P2 ((w.withFollow "comprehension-iter-twice" true).withFollow "special-get-raises" true):=by
 delta P2 openEnds fencedOpening topFrom
 rewrite [PySem.W.Fast.te14082659384304107361,PySem.W.Fast.te10274390034422433532,PySem.W.Fast.te14289696077712309145,PySem.W.Fast.te4187177175401517315,PySem.W.Fast.te1435165496053646825,PySem.W.Fast.te14364793385576792824]
 kernel_rfl
theorem leftAll:∀w,P2 w:=left4 (P:=P2) "comprehension-iter-twice" "special-get-raises" leaf1 leaf2 leaf3 leaf4
theorem law_said:PySem.Challenge.rw_wb0058_02.wellSaid=true:=by
 rewrite [PySem.W.Fast.te9446332074065402090]
 kernel_rfl
theorem hd (walk:∀(w:World)(s₀ s₁:Shared)(mg mb:Str->Option Value),Ground q2 loose2 r2.toRowW.records (XL q2 []) w s₀ mg mb s₁.heap->H2.says w s₁.heap->∀a,mg (Str.ofString "law")=some (.ref a)->s₁.gens=#[]->
  ∀(args:List WData) (vals:List Value) (as:List Addr),r2.toRowW.claim.pre args=true->WData.layableAll args=true->ReadsAllW r2.toRowW.records (classAt s₀.heap) s₁.heap vals args as->WellAll w.params s₁.heap vals args->(∀a∈as,(a==sysModules)=false)->
   wpAny (model r2.toRowW.prog w) callerA (PySem.call (.ref a) vals) (fun v s'=>GoodWG r2.toRowW.claim (classAt s₀.heap) (ExcName.means s₀.heap) args s₁ (.ok (.ret v)) s')
    (fun e s'=>GoodWG r2.toRowW.claim (classAt s₀.heap) (ExcName.means s₀.heap) args s₁ (.error e) s') s₁):PySem.Challenge.rw_wb0058_02.Holds:=by
 refine holds_law law_said fun said=>?_;refine holds_open (q:=q2) (loose:=loose2) (Xt:=X2) (XP:=XL q2 []) (Yf:=Hook.obs H2) (Ya:=Hook.val H2) (YP:=Hook.says H2) (N:=4856) leftAll (Hook.of H2) (Hook.keeps H2) (fun s e=>xl_of s (Bool.and_eq_true_iff.mp e).1) XL.keeps (by rfl) (by rfl) (by rfl) (fun s e=>recFacts_of (Bool.and_eq_true_iff.mp e).2) (by rfl) (by first|assumption|decide +kernel) (by decide +kernel) ⟨rfl,rfl,rfl,rfl,rfl,by decide +kernel⟩ ?hw ?hc
 case hw=>w_witness2
 case hc=>exact fun w s₀ s₁ mg mb G Y a o pm cd doc dV kV _ _ _ _ hmg hg=>walk w s₀ s₁ mg mb G Y a hmg hg
end Mine
end
namespace Mine
noncomputable abbrev VS:=Value->Shared->Prop
noncomputable abbrev AP:=Addr->Prop
noncomputable abbrev LK:=List (Nat×NameKind)
noncomputable abbrev qq (l a b:Nat):Pos:=⟨l,a,l,b⟩
theorem aS  {A1 A2:Prop}{P:Prop}(h:A1/\A2)(k:A1->A2->P):P:=by obtain⟨h1,h2⟩:=h;exact k h1 h2
theorem x1 {α1:Sort _}{A1:α1->Prop}{P:Prop}(h:∃a1:α1,A1 a1)(k:∀a1:α1,A1 a1->P):P:=by obtain⟨a1,h1⟩:=h;exact k a1 h1
theorem pL  {A1 A2 A3:Prop}{P:Prop}(h:A1/\A2/\A3)(k:A1->A2->A3->P):P:=by obtain⟨h1,h2,h3⟩:=h;exact k h1 h2 h3
theorem uy {α1:Sort _}{A1:Prop}{A2:α1->Prop}{P:Prop}(h:A1/\∃a1:α1,A2 a1)(k:A1->∀a1:α1,A2 a1->P):P:=by obtain⟨h1,a1,h2⟩:=h;exact k h1 a1 h2
theorem ak {α1:Sort _}{A1 A2:α1->Prop}{P:Prop}(h:∃a1:α1,A1 a1/\A2 a1)(k:∀a1:α1,A1 a1->A2 a1->P):P:=by obtain⟨a1,h1,h2⟩:=h;exact k a1 h1 h2
theorem x2 {α1:Sort _}{α2:Sort _}{A1:α1->α2->Prop}{P:Prop}(h:∃a1:α1,∃a2:α2,A1 a1 a2)(k:∀a1:α1,∀a2:α2,A1 a1 a2->P):P:=by obtain⟨a1,a2,h1⟩:=h;exact k a1 a2 h1
theorem x03  {A1 A2 A3 A4:Prop}{P:Prop}(h:A1/\A2/\A3/\A4)(k:A1->A2->A3->A4->P):P:=by obtain⟨h1,h2,h3,h4⟩:=h;exact k h1 h2 h3 h4
theorem x0111 {α1:Sort _}{A1:Prop}{A2 A3:α1->Prop}{P:Prop}(h:A1/\∃a1:α1,A2 a1/\A3 a1)(k:A1->∀a1:α1,A2 a1->A3 a1->P):P:=by obtain⟨h1,a1,h2,h3⟩:=h;exact k h1 a1 h2 h3
theorem x012 {α1:Sort _}{α2:Sort _}{A1:Prop}{A2:α1->α2->Prop}{P:Prop}(h:A1/\∃a1:α1,∃a2:α2,A2 a1 a2)(k:A1->∀a1:α1,∀a2:α2,A2 a1 a2->P):P:=by obtain⟨h1,a1,a2,h2⟩:=h;exact k h1 a1 a2 h2
theorem pJ {α1:Sort _}{A1 A2 A3:α1->Prop}{P:Prop}(h:∃a1:α1,A1 a1/\A2 a1/\A3 a1)(k:∀a1:α1,A1 a1->A2 a1->A3 a1->P):P:=by obtain⟨a1,h1,h2,h3⟩:=h;exact k a1 h1 h2 h3
theorem sI {α1:Sort _}{α2:Sort _}{A1 A2:α1->α2->Prop}{P:Prop}(h:∃a1:α1,∃a2:α2,A1 a1 a2/\A2 a1 a2)(k:∀a1:α1,∀a2:α2,A1 a1 a2->A2 a1 a2->P):P:=by obtain⟨a1,a2,h1,h2⟩:=h;exact k a1 a2 h1 h2
theorem x3 {α1:Sort _}{α2:Sort _}{α3:Sort _}{A1:α1->α2->α3->Prop}{P:Prop}(h:∃a1:α1,∃a2:α2,∃a3:α3,A1 a1 a2 a3)(k:∀a1:α1,∀a2:α2,∀a3:α3,A1 a1 a2 a3->P):P:=by obtain⟨a1,a2,a3,h1⟩:=h;exact k a1 a2 a3 h1
theorem x04  {A1 A2 A3 A4 A5:Prop}{P:Prop}(h:A1/\A2/\A3/\A4/\A5)(k:A1->A2->A3->A4->A5->P):P:=by obtain⟨h1,h2,h3,h4,h5⟩:=h;exact k h1 h2 h3 h4 h5
theorem x031 {α1:Sort _}{A1 A2 A3:Prop}{A4:α1->Prop}{P:Prop}(h:A1/\A2/\A3/\∃a1:α1,A4 a1)(k:A1->A2->A3->∀a1:α1,A4 a1->P):P:=by obtain⟨h1,h2,h3,a1,h4⟩:=h;exact k h1 h2 h3 a1 h4
theorem yu {α1:Sort _}{A1:Prop}{A2 A3 A4:α1->Prop}{P:Prop}(h:A1/\∃a1:α1,A2 a1/\A3 a1/\A4 a1)(k:A1->∀a1:α1,A2 a1->A3 a1->A4 a1->P):P:=by obtain⟨h1,a1,h2,h3,h4⟩:=h;exact k h1 a1 h2 h3 h4
theorem x0121 {α1:Sort _}{α2:Sort _}{A1:Prop}{A2 A3:α1->α2->Prop}{P:Prop}(h:A1/\∃a1:α1,∃a2:α2,A2 a1 a2/\A3 a1 a2)(k:A1->∀a1:α1,∀a2:α2,A2 a1 a2->A3 a1 a2->P):P:=by obtain⟨h1,a1,a2,h2,h3⟩:=h;exact k h1 a1 a2 h2 h3
theorem x013 {α1:Sort _}{α2:Sort _}{α3:Sort _}{A1:Prop}{A2:α1->α2->α3->Prop}{P:Prop}(h:A1/\∃a1:α1,∃a2:α2,∃a3:α3,A2 a1 a2 a3)(k:A1->∀a1:α1,∀a2:α2,∀a3:α3,A2 a1 a2 a3->P):P:=by obtain⟨h1,a1,a2,a3,h2⟩:=h;exact k h1 a1 a2 a3 h2
theorem vQ {α1:Sort _}{A1 A2 A3 A4:α1->Prop}{P:Prop}(h:∃a1:α1,A1 a1/\A2 a1/\A3 a1/\A4 a1)(k:∀a1:α1,A1 a1->A2 a1->A3 a1->A4 a1->P):P:=by obtain⟨a1,h1,h2,h3,h4⟩:=h;exact k a1 h1 h2 h3 h4
theorem i2 {α1:Sort _}{α2:Sort _}{A1:α1->Prop}{A2 A3:α1->α2->Prop}{P:Prop}(h:∃a1:α1,A1 a1/\∃a2:α2,A2 a1 a2/\A3 a1 a2)(k:∀a1:α1,A1 a1->∀a2:α2,A2 a1 a2->A3 a1 a2->P):P:=by obtain⟨a1,h1,a2,h2,h3⟩:=h;exact k a1 h1 a2 h2 h3
theorem kJ {α1:Sort _}{α2:Sort _}{A1 A2 A3:α1->α2->Prop}{P:Prop}(h:∃a1:α1,∃a2:α2,A1 a1 a2/\A2 a1 a2/\A3 a1 a2)(k:∀a1:α1,∀a2:α2,A1 a1 a2->A2 a1 a2->A3 a1 a2->P):P:=by obtain⟨a1,a2,h1,h2,h3⟩:=h;exact k a1 a2 h1 h2 h3
theorem x31 {α1:Sort _}{α2:Sort _}{α3:Sort _}{A1 A2:α1->α2->α3->Prop}{P:Prop}(h:∃a1:α1,∃a2:α2,∃a3:α3,A1 a1 a2 a3/\A2 a1 a2 a3)(k:∀a1:α1,∀a2:α2,∀a3:α3,A1 a1 a2 a3->A2 a1 a2 a3->P):P:=by obtain⟨a1,a2,a3,h1,h2⟩:=h;exact k a1 a2 a3 h1 h2
theorem x14 {α1:Sort _}{A1 A2 A3 A4 A5:α1->Prop}{P:Prop}(h:∃a1:α1,A1 a1/\A2 a1/\A3 a1/\A4 a1/\A5 a1)(k:∀a1:α1,A1 a1->A2 a1->A3 a1->A4 a1->A5 a1->P):P:=by obtain⟨a1,h1,h2,h3,h4,h5⟩:=h;exact k a1 h1 h2 h3 h4 h5
theorem x1211 {α1:Sort _}{α2:Sort _}{A1 A2:α1->Prop}{A3 A4:α1->α2->Prop}{P:Prop}(h:∃a1:α1,A1 a1/\A2 a1/\∃a2:α2,A3 a1 a2/\A4 a1 a2)(k:∀a1:α1,A1 a1->A2 a1->∀a2:α2,A3 a1 a2->A4 a1 a2->P):P:=by obtain⟨a1,h1,h2,a2,h3,h4⟩:=h;exact k a1 h1 h2 a2 h3 h4
theorem x23 {α1:Sort _}{α2:Sort _}{A1 A2 A3 A4:α1->α2->Prop}{P:Prop}(h:∃a1:α1,∃a2:α2,A1 a1 a2/\A2 a1 a2/\A3 a1 a2/\A4 a1 a2)(k:∀a1:α1,∀a2:α2,A1 a1 a2->A2 a1 a2->A3 a1 a2->A4 a1 a2->P):P:=by obtain⟨a1,a2,h1,h2,h3,h4⟩:=h;exact k a1 a2 h1 h2 h3 h4
theorem yn {α1:Sort _}{α2:Sort _}{α3:Sort _}{A1 A2 A3:α1->α2->α3->Prop}{P:Prop}(h:∃a1:α1,∃a2:α2,∃a3:α3,A1 a1 a2 a3/\A2 a1 a2 a3/\A3 a1 a2 a3)(k:∀a1:α1,∀a2:α2,∀a3:α3,A1 a1 a2 a3->A2 a1 a2 a3->A3 a1 a2 a3->P):P:=by obtain⟨a1,a2,a3,h1,h2,h3⟩:=h;exact k a1 a2 a3 h1 h2 h3
theorem jI {α1:Sort _}{α2:Sort _}{α3:Sort _}{A1:α1->Prop}{A2:α1->α2->Prop}{A3 A4:α1->α2->α3->Prop}{P:Prop}(h:∃a1:α1,A1 a1/\∃a2:α2,A2 a1 a2/\∃a3:α3,A3 a1 a2 a3/\A4 a1 a2 a3)(k:∀a1:α1,A1 a1->∀a2:α2,A2 a1 a2->∀a3:α3,A3 a1 a2 a3->A4 a1 a2 a3->P):P:=by obtain⟨a1,h1,a2,h2,a3,h3,h4⟩:=h;exact k a1 h1 a2 h2 a3 h3 h4
theorem x24 {α1:Sort _}{α2:Sort _}{A1 A2 A3 A4 A5:α1->α2->Prop}{P:Prop}(h:∃a1:α1,∃a2:α2,A1 a1 a2/\A2 a1 a2/\A3 a1 a2/\A4 a1 a2/\A5 a1 a2)(k:∀a1:α1,∀a2:α2,A1 a1 a2->A2 a1 a2->A3 a1 a2->A4 a1 a2->A5 a1 a2->P):P:=by obtain⟨a1,a2,h1,h2,h3,h4,h5⟩:=h;exact k a1 a2 h1 h2 h3 h4 h5
theorem x33 {α1:Sort _}{α2:Sort _}{α3:Sort _}{A1 A2 A3 A4:α1->α2->α3->Prop}{P:Prop}(h:∃a1:α1,∃a2:α2,∃a3:α3,A1 a1 a2 a3/\A2 a1 a2 a3/\A3 a1 a2 a3/\A4 a1 a2 a3)(k:∀a1:α1,∀a2:α2,∀a3:α3,A1 a1 a2 a3->A2 a1 a2 a3->A3 a1 a2 a3->A4 a1 a2 a3->P):P:=by obtain⟨a1,a2,a3,h1,h2,h3,h4⟩:=h;exact k a1 a2 a3 h1 h2 h3 h4
theorem x42 {α1:Sort _}{α2:Sort _}{α3:Sort _}{α4:Sort _}{A1 A2 A3:α1->α2->α3->α4->Prop}{P:Prop}(h:∃a1:α1,∃a2:α2,∃a3:α3,∃a4:α4,A1 a1 a2 a3 a4/\A2 a1 a2 a3 a4/\A3 a1 a2 a3 a4)(k:∀a1:α1,∀a2:α2,∀a3:α3,∀a4:α4,A1 a1 a2 a3 a4->A2 a1 a2 a3 a4->A3 a1 a2 a3 a4->P):P:=by obtain⟨a1,a2,a3,a4,h1,h2,h3⟩:=h;exact k a1 a2 a3 a4 h1 h2 h3
theorem x6 {α1:Sort _}{α2:Sort _}{α3:Sort _}{α4:Sort _}{α5:Sort _}{α6:Sort _}{A1:α1->α2->α3->α4->α5->α6->Prop}{P:Prop}(h:∃a1:α1,∃a2:α2,∃a3:α3,∃a4:α4,∃a5:α5,∃a6:α6,A1 a1 a2 a3 a4 a5 a6)(k:∀a1:α1,∀a2:α2,∀a3:α3,∀a4:α4,∀a5:α5,∀a6:α6,A1 a1 a2 a3 a4 a5 a6->P):P:=by obtain⟨a1,a2,a3,a4,a5,a6,h1⟩:=h;exact k a1 a2 a3 a4 a5 a6 h1
theorem x25 {α1:Sort _}{α2:Sort _}{A1 A2 A3 A4 A5 A6:α1->α2->Prop}{P:Prop}(h:∃a1:α1,∃a2:α2,A1 a1 a2/\A2 a1 a2/\A3 a1 a2/\A4 a1 a2/\A5 a1 a2/\A6 a1 a2)(k:∀a1:α1,∀a2:α2,A1 a1 a2->A2 a1 a2->A3 a1 a2->A4 a1 a2->A5 a1 a2->A6 a1 a2->P):P:=by obtain⟨a1,a2,h1,h2,h3,h4,h5,h6⟩:=h;exact k a1 a2 h1 h2 h3 h4 h5 h6
theorem x2122 {α1:Sort _}{α2:Sort _}{α3:Sort _}{α4:Sort _}{A1:α1->α2->Prop}{A2 A3 A4:α1->α2->α3->α4->Prop}{P:Prop}(h:∃a1:α1,∃a2:α2,A1 a1 a2/\∃a3:α3,∃a4:α4,A2 a1 a2 a3 a4/\A3 a1 a2 a3 a4/\A4 a1 a2 a3 a4)(k:∀a1:α1,∀a2:α2,A1 a1 a2->∀a3:α3,∀a4:α4,A2 a1 a2 a3 a4->A3 a1 a2 a3 a4->A4 a1 a2 a3 a4->P):P:=by obtain⟨a1,a2,h1,a3,a4,h2,h3,h4⟩:=h;exact k a1 a2 h1 a3 a4 h2 h3 h4
theorem x34 {α1:Sort _}{α2:Sort _}{α3:Sort _}{A1 A2 A3 A4 A5:α1->α2->α3->Prop}{P:Prop}(h:∃a1:α1,∃a2:α2,∃a3:α3,A1 a1 a2 a3/\A2 a1 a2 a3/\A3 a1 a2 a3/\A4 a1 a2 a3/\A5 a1 a2 a3)(k:∀a1:α1,∀a2:α2,∀a3:α3,A1 a1 a2 a3->A2 a1 a2 a3->A3 a1 a2 a3->A4 a1 a2 a3->A5 a1 a2 a3->P):P:=by obtain⟨a1,a2,a3,h1,h2,h3,h4,h5⟩:=h;exact k a1 a2 a3 h1 h2 h3 h4 h5
theorem x43 {α1:Sort _}{α2:Sort _}{α3:Sort _}{α4:Sort _}{A1 A2 A3 A4:α1->α2->α3->α4->Prop}{P:Prop}(h:∃a1:α1,∃a2:α2,∃a3:α3,∃a4:α4,A1 a1 a2 a3 a4/\A2 a1 a2 a3 a4/\A3 a1 a2 a3 a4/\A4 a1 a2 a3 a4)(k:∀a1:α1,∀a2:α2,∀a3:α3,∀a4:α4,A1 a1 a2 a3 a4->A2 a1 a2 a3 a4->A3 a1 a2 a3 a4->A4 a1 a2 a3 a4->P):P:=by obtain⟨a1,a2,a3,a4,h1,h2,h3,h4⟩:=h;exact k a1 a2 a3 a4 h1 h2 h3 h4
theorem pK {α1:Sort _}{α2:Sort _}{α3:Sort _}{α4:Sort _}{A1:α1->Prop}{A2:α1->α2->Prop}{A3:α1->α2->α3->Prop}{A4 A5:α1->α2->α3->α4->Prop}{P:Prop}(h:∃a1:α1,A1 a1/\∃a2:α2,A2 a1 a2/\∃a3:α3,A3 a1 a2 a3/\∃a4:α4,A4 a1 a2 a3 a4/\A5 a1 a2 a3 a4)(k:∀a1:α1,A1 a1->∀a2:α2,A2 a1 a2->∀a3:α3,A3 a1 a2 a3->∀a4:α4,A4 a1 a2 a3 a4->A5 a1 a2 a3 a4->P):P:=by obtain⟨a1,h1,a2,h2,a3,h3,a4,h4,h5⟩:=h;exact k a1 h1 a2 h2 a3 h3 a4 h4 h5
theorem x35 {α1:Sort _}{α2:Sort _}{α3:Sort _}{A1 A2 A3 A4 A5 A6:α1->α2->α3->Prop}{P:Prop}(h:∃a1:α1,∃a2:α2,∃a3:α3,A1 a1 a2 a3/\A2 a1 a2 a3/\A3 a1 a2 a3/\A4 a1 a2 a3/\A5 a1 a2 a3/\A6 a1 a2 a3)(k:∀a1:α1,∀a2:α2,∀a3:α3,A1 a1 a2 a3->A2 a1 a2 a3->A3 a1 a2 a3->A4 a1 a2 a3->A5 a1 a2 a3->A6 a1 a2 a3->P):P:=by obtain⟨a1,a2,a3,h1,h2,h3,h4,h5,h6⟩:=h;exact k a1 a2 a3 h1 h2 h3 h4 h5 h6
theorem x27 {α1:Sort _}{α2:Sort _}{A1 A2 A3 A4 A5 A6 A7 A8:α1->α2->Prop}{P:Prop}(h:∃a1:α1,∃a2:α2,A1 a1 a2/\A2 a1 a2/\A3 a1 a2/\A4 a1 a2/\A5 a1 a2/\A6 a1 a2/\A7 a1 a2/\A8 a1 a2)(k:∀a1:α1,∀a2:α2,A1 a1 a2->A2 a1 a2->A3 a1 a2->A4 a1 a2->A5 a1 a2->A6 a1 a2->A7 a1 a2->A8 a1 a2->P):P:=by obtain⟨a1,a2,h1,h2,h3,h4,h5,h6,h7,h8⟩:=h;exact k a1 a2 h1 h2 h3 h4 h5 h6 h7 h8
theorem x36 {α1:Sort _}{α2:Sort _}{α3:Sort _}{A1 A2 A3 A4 A5 A6 A7:α1->α2->α3->Prop}{P:Prop}(h:∃a1:α1,∃a2:α2,∃a3:α3,A1 a1 a2 a3/\A2 a1 a2 a3/\A3 a1 a2 a3/\A4 a1 a2 a3/\A5 a1 a2 a3/\A6 a1 a2 a3/\A7 a1 a2 a3)(k:∀a1:α1,∀a2:α2,∀a3:α3,A1 a1 a2 a3->A2 a1 a2 a3->A3 a1 a2 a3->A4 a1 a2 a3->A5 a1 a2 a3->A6 a1 a2 a3->A7 a1 a2 a3->P):P:=by obtain⟨a1,a2,a3,h1,h2,h3,h4,h5,h6,h7⟩:=h;exact k a1 a2 a3 h1 h2 h3 h4 h5 h6 h7
theorem cU {α1:Sort _}{α2:Sort _}{α3:Sort _}{α4:Sort _}{α5:Sort _}{A1:α1->Prop}{A2:α1->α2->Prop}{A3:α1->α2->α3->Prop}{A4:α1->α2->α3->α4->Prop}{A5 A6:α1->α2->α3->α4->α5->Prop}{P:Prop}(h:∃a1:α1,A1 a1/\∃a2:α2,A2 a1 a2/\∃a3:α3,A3 a1 a2 a3/\∃a4:α4,A4 a1 a2 a3 a4/\∃a5:α5,A5 a1 a2 a3 a4 a5/\A6 a1 a2 a3 a4 a5)(k:∀a1:α1,A1 a1->∀a2:α2,A2 a1 a2->∀a3:α3,A3 a1 a2 a3->∀a4:α4,A4 a1 a2 a3 a4->∀a5:α5,A5 a1 a2 a3 a4 a5->A6 a1 a2 a3 a4 a5->P):P:=by obtain⟨a1,h1,a2,h2,a3,h3,a4,h4,a5,h5,h6⟩:=h;exact k a1 h1 a2 h2 a3 h3 a4 h4 a5 h5 h6
theorem x91 {α1:Sort _}{α2:Sort _}{α3:Sort _}{α4:Sort _}{α5:Sort _}{α6:Sort _}{α7:Sort _}{α8:Sort _}{α9:Sort _}{A1 A2:α1->α2->α3->α4->α5->α6->α7->α8->α9->Prop}{P:Prop}(h:∃a1:α1,∃a2:α2,∃a3:α3,∃a4:α4,∃a5:α5,∃a6:α6,∃a7:α7,∃a8:α8,∃a9:α9,A1 a1 a2 a3 a4 a5 a6 a7 a8 a9/\A2 a1 a2 a3 a4 a5 a6 a7 a8 a9)(k:∀a1:α1,∀a2:α2,∀a3:α3,∀a4:α4,∀a5:α5,∀a6:α6,∀a7:α7,∀a8:α8,∀a9:α9,A1 a1 a2 a3 a4 a5 a6 a7 a8 a9->A2 a1 a2 a3 a4 a5 a6 a7 a8 a9->P):P:=by obtain⟨a1,a2,a3,a4,a5,a6,a7,a8,a9,h1,h2⟩:=h;exact k a1 a2 a3 a4 a5 a6 a7 a8 a9 h1 h2
theorem x1a {α1:Sort _}{A1 A2 A3 A4 A5 A6 A7 A8 A9 A10 A11:α1->Prop}{P:Prop}(h:∃a1:α1,A1 a1/\A2 a1/\A3 a1/\A4 a1/\A5 a1/\A6 a1/\A7 a1/\A8 a1/\A9 a1/\A10 a1/\A11 a1)(k:∀a1:α1,A1 a1->A2 a1->A3 a1->A4 a1->A5 a1->A6 a1->A7 a1->A8 a1->A9 a1->A10 a1->A11 a1->P):P:=by obtain⟨a1,h1,h2,h3,h4,h5,h6,h7,h8,h9,h10,h11⟩:=h;exact k a1 h1 h2 h3 h4 h5 h6 h7 h8 h9 h10 h11
theorem x29 {α1:Sort _}{α2:Sort _}{A1 A2 A3 A4 A5 A6 A7 A8 A9 A10:α1->α2->Prop}{P:Prop}(h:∃a1:α1,∃a2:α2,A1 a1 a2/\A2 a1 a2/\A3 a1 a2/\A4 a1 a2/\A5 a1 a2/\A6 a1 a2/\A7 a1 a2/\A8 a1 a2/\A9 a1 a2/\A10 a1 a2)(k:∀a1:α1,∀a2:α2,A1 a1 a2->A2 a1 a2->A3 a1 a2->A4 a1 a2->A5 a1 a2->A6 a1 a2->A7 a1 a2->A8 a1 a2->A9 a1 a2->A10 a1 a2->P):P:=by obtain⟨a1,a2,h1,h2,h3,h4,h5,h6,h7,h8,h9,h10⟩:=h;exact k a1 a2 h1 h2 h3 h4 h5 h6 h7 h8 h9 h10
theorem x0c  {A1 A2 A3 A4 A5 A6 A7 A8 A9 A10 A11 A12 A13:Prop}{P:Prop}(h:A1/\A2/\A3/\A4/\A5/\A6/\A7/\A8/\A9/\A10/\A11/\A12/\A13)(k:A1->A2->A3->A4->A5->A6->A7->A8->A9->A10->A11->A12->A13->P):P:=by obtain⟨h1,h2,h3,h4,h5,h6,h7,h8,h9,h10,h11,h12,h13⟩:=h;exact k h1 h2 h3 h4 h5 h6 h7 h8 h9 h10 h11 h12 h13
theorem x94 {α1:Sort _}{α2:Sort _}{α3:Sort _}{α4:Sort _}{α5:Sort _}{α6:Sort _}{α7:Sort _}{α8:Sort _}{α9:Sort _}{A1 A2 A3 A4 A5:α1->α2->α3->α4->α5->α6->α7->α8->α9->Prop}{P:Prop}(h:∃a1:α1,∃a2:α2,∃a3:α3,∃a4:α4,∃a5:α5,∃a6:α6,∃a7:α7,∃a8:α8,∃a9:α9,A1 a1 a2 a3 a4 a5 a6 a7 a8 a9/\A2 a1 a2 a3 a4 a5 a6 a7 a8 a9/\A3 a1 a2 a3 a4 a5 a6 a7 a8 a9/\A4 a1 a2 a3 a4 a5 a6 a7 a8 a9/\A5 a1 a2 a3 a4 a5 a6 a7 a8 a9)(k:∀a1:α1,∀a2:α2,∀a3:α3,∀a4:α4,∀a5:α5,∀a6:α6,∀a7:α7,∀a8:α8,∀a9:α9,A1 a1 a2 a3 a4 a5 a6 a7 a8 a9->A2 a1 a2 a3 a4 a5 a6 a7 a8 a9->A3 a1 a2 a3 a4 a5 a6 a7 a8 a9->A4 a1 a2 a3 a4 a5 a6 a7 a8 a9->A5 a1 a2 a3 a4 a5 a6 a7 a8 a9->P):P:=by obtain⟨a1,a2,a3,a4,a5,a6,a7,a8,a9,h1,h2,h3,h4,h5⟩:=h;exact k a1 a2 a3 a4 a5 a6 a7 a8 a9 h1 h2 h3 h4 h5
theorem ah {α:Type _}{a:α}{P:Prop}(h:none=some a):P:=nomatch h
theorem kS {α:Type _}{a:α}{P:Prop}(h:some a=none):P:=nomatch h
theorem ce {P:Prop}(h:false=true):P:=nomatch h
theorem zy {P:Prop}(h:true=false):P:=nomatch h
theorem bE {α:Type _}{a:α}{P:Prop}(h:a∈([]:List α)):P:=nomatch h
theorem un {α β:Type}{o:Option α}{f:α->Option β}{b:β}{P:Prop}(h:o.bind f=some b)(k:∀a,o=some a->f a=some b->P):P:=by
 obtain⟨a,h1,h2⟩:=Bg.mp h;exact k a h1 h2
theorem omk {α β:Type}{o:Option α}{f:α->β}{b:β}{P:Prop}(h:o.map f=some b)(k:∀a,o=some a->f a=b->P):P:=by
 obtain⟨a,h1,h2⟩:=Bt.mp h;exact k a h1 h2
theorem ifk {α:Type}{c:Prop} [Decidable c]{a z:α}{P:Prop}(h:(if c then some a else none)=some z)(k:c->a=z->P):P:=by
 by_cases hc:c
 ·rw[if_pos hc] at h;exact k hc (A0 h)
 ·rw[if_neg hc] at h;exact ah h
theorem oE {α:Type}{c:Prop} [Decidable c]{a:Option α}{z:α}{P:Prop}(h:(if c then a else none)=some z)(k:c->a=some z->P):P:=by
 by_cases hc:c
 ·rw[if_pos hc] at h;exact k hc h
 ·rw[if_neg hc] at h;exact ah h
end Mine
namespace Mine
theorem cps {G:Prop}(h:∀P:Prop,(G->P)->P):G:=h G id
theorem Runs.size_le {M:Model}{Γ:GB}{p:Pos}{t:Sem Fin}{fs:List Frame}{s s':Be}{e:End}(h:Runs M Γ p t fs s e s'):s.heap.objs.size<=s'.heap.objs.size:=by
 induction h<;>(try simp only[Be.setGen,Heap.size_update,BM] at *)<;>lia
theorem Returns.size_le {M:Model}{Γ:GB}{p:Pos}{s s':Be}{r:Dv}(h:Returns M Γ p s r s'):s.heap.objs.size<=s'.heap.objs.size:=Runs.size_le h
theorem Wakes.size_le {M:Model}{Γ:GB}{p:Pos}{g:Nat}{r:Resume}{s s':Be}{res:GenResult}(h:Wakes M Γ p g r s res s'):s.heap.objs.size<=s'.heap.objs.size:=by
 unfold Wakes at h
 split at h
 ·exact h.elim
 ·split at h
  ·refine x23 h fun e₁ s₁ hr J J e91=>?_
   subst e91;exact(Runs.size_le hr:(s.setGen g .running).heap.objs.size<=s₁.heap.objs.size)
  ·refine AZ h.2 ?_;exact Bq _
  ·refine AZ h.2 ?_;exact Bq _
 ·refine x23 h fun e₁ s₁ hr J J e91=>?_
  subst e91;exact(Runs.size_le hr:(s.setGen g .running).heap.objs.size<=s₁.heap.objs.size)
 ·refine AZ h.2 ?_;exact Bq _
 ·refine AZ h.2 ?_;exact Bq _
theorem wp_size {α:Type}(M:Model)(Γ:GB) (n:Nat)(t:Sem α):∀(Q:α->Pos->Be->Prop)(E:Value->Pos->Be->Prop)(p:Pos)(s:Be),n<=s.heap.objs.size->Sem.wp M Γ t Q E p s->
  Sem.wp M Γ t (fun a p' s'=>n<=s'.heap.objs.size/\Q a p' s') (fun e p' s'=>n<=s'.heap.objs.size/\E e p' s') p s:=by
 induction t with
 |pure a=>intro Q E p s hn h;exact⟨hn,h⟩
 |raise e=>intro Q E p s hn h;exact⟨hn,h⟩
 |unsupported _=>intro Q E p s J h;exact h
 |finish _=>intro Q E p s J h;exact h
 |rule _ k ih=>intro Q E p s hn h;exact ih () Q E p s hn h
 |«at» p' k ih=>intro Q E p s hn h;exact ih () Q E p' s hn h
 |load a _ k ih=>intro Q E p s hn h;refine ak h fun o ho h=>?_;exact⟨o,ho,ih o Q E p s hn h⟩
 |update a _ f k ih=>intro Q E p s hn h;exact⟨h.1,ih () Q E p _ (by show n<=(s.heap.update a f).objs.size;refine AZ (Heap.size_update _ _ _) ?_;exact hn) h.2⟩
 |loadIfAlive a k ih=>intro Q E p s hn h;exact ih _ Q E p s hn h
 |point _ k ih=>intro Q E p s hn h;exact ih () Q E p s hn h
 |register _ _=>intro Q E p s J h;exact h
 |alloc o k ih=>intro Q E p s hn h;exact ih _ Q E p _ (by show n<=(s.heap.push o).objs.size;refine AZ (BM _ _) ?_;lia) h
 |fresh k ih=>intro Q E p s hn h;exact ih _ Q E p _ hn h
 |ask k ih=>intro Q E p s hn h;exact ih _ Q E p s hn h
 |choose src m k ih=>intro Q E p s hn h;exact⟨h.1,ih _ Q E p _ hn h.2⟩
 |os q _ k ih=>intro Q E p s hn h;exact ih _ Q E p _ hn h
 |call c hd _ _ k ih=>intro Q E p s hn h;refine sI h fun r s' hr h=>?_;exact⟨r,s',hr,ih r Q E p s' (Bf hn (Returns.size_le hr)) h⟩
 |handled own k ih=>intro Q E p s hn h;exact ih _ Q E p s hn h
 |genState g k ih=>intro Q E p s hn h;refine ak h fun st hs h=>?_;exact⟨st,hs,ih _ Q E p s hn h⟩
 |newGen c k ih=>intro Q E p s hn h;exact ih _ Q E p _ hn h
 |resume g r _ k ih=>intro Q E p s hn h;refine sI h fun res s' hw h=>?_;exact⟨res,s',hw,ih res Q E p s' (Bf hn (Wakes.size_le hw)) h⟩
 |yield _ _ _ _=>intro Q E p s J h;exact h
 |stack k ih=>intro Q E p s hn h;exact ih _ Q E p s hn h
 |fork _ _=>intro Q E p s J h;exact h
 |thread k ih=>intro Q E p s hn h;exact ih _ Q E p s hn h
 |await _ _ _ _ _=>intro Q E p s J h;exact h
theorem uz {α:Type}{M:Model}{A:BO}{s:Be}{t:Sem α}{Q:α->Be->Prop}{E:VS}
  (h:wpAny M A t (fun a s'=>s.heap.objs.size<=s'.heap.objs.size->Q a s') (fun e s'=>s.heap.objs.size<=s'.heap.objs.size->E e s') s):wpAny M A t Q E s:=by
 have h':wpAny M A t (fun a s'=>s.heap.objs.size<=s'.heap.objs.size/\(s.heap.objs.size<=s'.heap.objs.size->Q a s')) (fun e s'=>s.heap.objs.size<=s'.heap.objs.size/\(s.heap.objs.size<=s'.heap.objs.size->E e s')) s:=
  fun Γ p hΓ=>wp_size M Γ _ t _ _ p s (Bq _) (h Γ p hΓ)
 exact BH h' (fun J J x=>x.2 x.1) (fun J J x=>x.2 x.1)
noncomputable def gw {α:Type}:List (Nat×α)->Nat->Option α
 |[],_=>none
 |q::r,f=>if f=q.1 then some q.2 else gw r f
theorem bf {α:Type}{P:Nat->α->Prop}:∀{l:List (Nat×α)},(∀q∈l,P q.1 q.2)->∀f t,gw l f=some t->P f t
 |[],_,_,_,e=>ah e
 |q::r,h,f,t,e=>by
  by_cases hf:f=q.1
  ·subst hf
   have e':(if q.1=q.1 then some q.2 else gw r q.1)=some t:=e;rw[if_pos rfl] at e';obtain rfl:=A0 e';exact h q Bj
  ·have e':(if f=q.1 then some q.2 else gw r f)=some t:=e
   rw[if_neg hf] at e';exact bf (fun x hx=>h x (Bi _ hx)) f t e'
noncomputable abbrev lim:Nat:=1048576
inductive D where
 |nil
 |bool (b:Bool)
 |int (i:Int)
 |str (l:List Nat)
 |list (l:List D)
 |tup (l:List D)
 |dict (ks vs:List D)
 |thing (ns:List Nat) (vs:List D)
 |lam (id:Nat) (caps:List D)
 |bi (n:Nat)
 |slo (lo hi:Option Int)
 |cx (d:D)
structure f0 where
 params:Arguments
 body:Ge
 scope:Scope
 qual:Str
 fr:List Nat
structure Lz where
 a:Addr
 dx:Addr
 r:Addr
 ks:List (List Nat)
 vs:List (List Nat)
structure Bs where
 prog:Hu
 w:World
 h₀:Heap
 mg:Str->Option Value
 mb:Str->Option Value
 C:Addr
 nm:Nat->Str
 CT:Nat->Option (Addr×Addr)
 qf:Nat->Str
 pq:Nat->Str
 LS:Nat->Option f0
 X:Option Lz
noncomputable def mH (o:Obj):Prop:=o.cls=.type "code" /\ ∃vs,o.data=.fields vs
noncomputable def cR (l:List Nat):Str:=⟨l.toArray⟩
inductive Bs.TabO (B:Bs)(o:Obj):Prop
 |mk (x:Lz) (es:Array DictEntry) (n:Nat) (kvs:List (Str×Value)) (e:B.X=some x) (c:o.ExactDict) (d:o.data=.dict es n) (k:KeysOf (B4 B.prog B.w) es) (p:Pairs (B4 B.prog B.w) es.toList kvs) (hk:kvs.map (·.1)=x.ks.map cR) (nd:(kvs.map (·.1)).Nodup) (v:∀(i:Nat) (y:List Nat),x.vs[i]?=some y->∃(q:Str×Value) (t:Tok),kvs[i]?=some q/\q.2=.str (cR y) t) (hl:x.vs.length=x.ks.length) (ne:x.ks[0]?=some [65])
noncomputable def Bs.KO (B:Bs)(o:Obj):Prop:=mH o\/B.TabO o
noncomputable def Bs.cd (B:Bs) (f:Nat):Value:=match B.CT f with
 |some p=>.ref p.1
 |none=>.none
noncomputable def Bs.T (B:Bs)(P:Addr):Prop:=(∃f c,B.CT f=some (c,P))\/∃x,B.X=some x/\x.dx=P
inductive iQ (h:Heap)(v:Value)(q:Str):Prop
 |mk (c:Addr) (o:Obj) (vs:Array Value) (t:Tok) (e:v=.ref c) (g:h.get? c=some o) (ic:mH o) (d:o.data=.fields vs) (x:vs[1]?=some (.str q t))
noncomputable def keyOf (P:FW):Value->Int
 |.str x _=>PyData.keyHash P x
 |.int i _=>reduceHash i
 |_=>0
noncomputable def gm (P:FW)(kv dv:List Value):List DictEntry:=(kv.zip dv).map fun p=>⟨keyOf P p.1,p.1,p.2⟩
inductive Bs.LzOk (B:Bs)(x:Lz)(h:Heap):Prop
 |raw (t:Tok) (n:Nat) (g:h.get? x.dx=some { cls:=.type "dict", dict:=none,data:=.dict (gm B.w.params [.str (B.nm 19) t] [.ref x.r]).toArray n,slots:=#[] })
 |made (t t':Tok) (n:Nat) (q:Addr) (o:Obj) (g:h.get? x.dx=some { cls:=.type "dict", dict:=none,data:=.dict (gm B.w.params [.str (B.nm 19) t,.str (B.nm 21) t'] [.ref x.r,.ref q]).toArray n,slots:=#[] }) (nt:¬B.T q) (go:h.get? q=some o) (k:B.TabO o) (sy:(q==C9)=false)
noncomputable def Bs.TI (B:Bs)(h:Heap):Prop:=(∀x,B.X=some x->B.LzOk x h)/\∀f c P,B.CT f=some (c,P)->∃ps,h.get? P=some (PySem.W.tabObj ps)/\TriplesOk ps.toList/\∀pos v,FB pos ps.toList=some v->iQ h v (B.qf f)
structure xg (B:Bs)(L:f0)(cv:List Value)(h:Heap)(W:AP)(fd:Cu):Prop where
 params:fd.params=L.params
 body:fd.body=L.body
 scope:fd.scope=L.scope
 glob:fd.globals=BQ
 blt:fd.builtins=Cc
 dfl:fd.defaults=.none/\fd.kwdefaults=.none
 qual:fd.qualname=L.qual
 code:iQ h fd.code L.qual
 len:cv.length=L.fr.length
 only:∀x c,fd.closure.lookup (B.nm x)=some c->x∈L.fr
 keys:(fd.closure.map (·.1)).Nodup
 nms:∀z∈fd.closure,∃x,z.1=B.nm x
 apart:fd.closure.Pairwise fun x y=>x.2≠y.2
 cells:∀(i x:Nat) (v:Value),L.fr[i]?=some x->cv[i]?=some v->∃c,fd.closure.lookup (B.nm x)=some c/\¬W c/\h.IsCell c (some v)
inductive Bs.Lam (B:Bs) (id:Nat)(cv:List Value)(h:Heap)(W:AP)(a:Addr):Prop
 |mk (L:f0) (fo:Obj) (fd:Cu) (ls:B.LS id=some L) (g:h.get? a=some fo) (d:fo.data=.func fd) (w:¬W a) (l:xg B L cv h W fd)
variable (B:Bs)
noncomputable abbrev Bs.M:Model:=model B.prog B.w
inductive AU (T:String)(h:Heap)(W:AP) (len:Nat)(v:Value)(P:List Value->Prop):Prop
 |mk (a:Addr) (vs:Array Value) (n:Nat) (e:v=.ref a) (w:¬W a) (g:h.get? a=some { cls:=.type T,dict:=none,data:=.seq vs n,slots:=#[] }) (l:len<=lim) (r:P vs.toList)
inductive AQ (h:Heap)(ks vs:List D)(v:Value):Prop
 |mk (x:Lz) (a:Addr) (o:Obj) (e:B.X=some x) (ev:v=.ref a) (nt:¬B.T a) (g:h.get? a=some o) (k:B.TabO o) (sy:(a==C9)=false) (hk:ks=x.ks.map .str) (hv:vs=x.vs.map .str) (l:∀y∈x.vs,y.length<=lim)
inductive SloRep (h:Heap)(W:AP)(lo hi:Option Int)(v:Value):Prop
 |mk (a:Addr) (l u:Option (Int×Tok)) (e:v=.ref a) (w:¬W a) (g:h.get? a=some { cls:=.type "slice", data:=.fields #[Gq l,Gq u,.none] }) (hl:l.map (·.1)=lo) (hu:u.map (·.1)=hi)
noncomputable def eE:Nat->Option Value:=gw [(0,.builtin "len"),(1,.builtin "chr"),(2,.builtin "ord"),(3,.type "slice"),(4,.type "list"),(5,.type "range"),(6,.builtin "isinstance"),(7,.type "str"),(9,.builtin "min")]
noncomputable def famD:D->List (List Nat)
 |.str l=>[l]
 |_=>[]
noncomputable def D.fams:D->List (List Nat)
 |.thing _ [_,.lam _ [.list l]]=>l.flatMap famD
 |_=>[]
noncomputable def jL (d:D):List (List Nat):=d.fams.flatMap fun p=>p.map fun c=>[c]
noncomputable def nH (d:D):List (List Nat):=d.fams.flatMap fun p=>p.map fun _=>p
inductive CxRep (h:Heap)(W:AP)(d:D)(v:Value)(P:Value->Prop):Prop
 |mk (x:Lz) (e:B.X=some x) (ev:v=.ref x.a) (w:¬W x.a) (g:h.get? x.a=some (Dd B.C x.dx)) (hk:x.ks=jL d) (hv:x.vs=nH d) (p:P (.ref x.r))
inductive AO (h:Heap)(W:AP)(ns:List Nat) (len:Nat)(v:Value)(P:List Value->Prop):Prop
 |mk (a dx:Addr) (n:Nat) (ts:List Tok) (dv:List Value) (e:v=.ref a) (w:¬W a) (g:h.get? a=some (Dd B.C dx)) (wx:¬W dx)
   (gx:h.get? dx=some { cls:=.type "dict", dict:=none,data:=.dict (gm B.w.params ((ns.zip ts).map fun p=>Value.str (B.nm p.1) p.2) dv).toArray n,slots:=#[] }) (l1:ts.length=ns.length) (l2:len=ns.length) (r:P dv)
inductive LamRep (h:Heap)(W:AP) (id:Nat)(v:Value)(P:List Value->Prop):Prop
 |mk (a:Addr) (cv:List Value) (e:v=.ref a) (w:¬W a) (l:B.Lam id cv h W a) (r:P cv)
inductive ConsRep (vs:List Value)(P:Value->Prop)(Q:List Value->Prop):Prop
 |mk (v:Value) (r:List Value) (e:vs=v::r) (p:P v) (q:Q r)
mutual
noncomputable def aw (h:Heap)(W:AP):D->Value->Prop
 |.nil,v=>v=.none
 |.bool b,v=>v=.bool b
 |.int i,v=>∃t,v=.int i t
 |.str l,v=>(∃t,v=.str ⟨l.toArray⟩ t)/\l.length<=lim
 |.list ds,v=>AU "list" h W ds.length v (ab h W ds)
 |.tup ds,v=>AU "tuple" h W ds.length v (ab h W ds)
 |.dict ks ds,v=>AQ B h ks ds v
 |.thing ns ds,v=>AO B h W ns ds.length v (ab h W ds)
 |.lam id caps,v=>LamRep B h W id v (ab h W caps)
 |.bi n,v=>eE n=some v
 |.slo lo hi,v=>SloRep h W lo hi v
 |.cx d,v=>CxRep B h W d v (aw h W d)
noncomputable def ab (h:Heap)(W:AP):List D->List Value->Prop
 |[],vs=>vs=[]
 |d::ds,vs=>ConsRep vs (aw h W d) (ab h W ds)
end
structure ay (s s':Be):Prop where
 keep:∀b o,¬B.T b->s.heap.get? b=some o->s'.heap.get? b=some o
 ck:∀b o,B.KO o->s.heap.get? b=some o->s'.heap.get? b=some o
 size:s.heap.objs.size<=s'.heap.objs.size
 ti:B.TI s.heap->B.TI s'.heap
 gens:∀(i:Nat) (x:En),s.gens[i]?=some x->s'.gens[i]?=some x
 bare:AllBare s.gens->AllBare s'.gens
 os:s'.os=s.os
structure aK (s:Be):Prop where
 base:∀b o,¬B.T b->B.h₀.get? b=some o->s.heap.get? b=some o
 size:B.h₀.objs.size<=s.heap.objs.size
 ti:B.TI s.heap
 tlt:∀b,B.T b->b < s.heap.objs.size
noncomputable def Bs.Hi (B:Bs)(b:Addr):Prop:=B.h₀.objs.size<=b/\¬B.T b
structure aD (A:BO) (k:Nat):Prop where
 handled:A.handled=none
 depth:A.depth+k < 950
 units:A.units+3 * k+300 < cLine
inductive fu where
 |fz (d:D)
 |sealed (d:D)
 |own (l:List D)
 |own2 (l:List (List D))
 |ownD (ks:List (List Nat))
noncomputable abbrev ac:=Nat->Option fu
noncomputable def fu.isS:fu->Bool
 |.sealed _=>true
 |_=>false
theorem xO {e:fu}{d:D}{P:Prop}(k:e.isS=false)(h:e=.sealed d):P:=zy ((congrArg fu.isS h).symm.trans k)
theorem nkk {a b:NameKind}{P:Prop}(h:some a=some b)(n:a≠b):P:=absurd (A0 h) n
theorem nozs {n:Nat}{P:Prop}(h:0=n+1):P:=nomatch h
theorem nosz {n:Nat}{P:Prop}(h:n+1=0):P:=nomatch h
structure aj where
 k:Nat->Option NameKind
 f:Nat
noncomputable instance:CoeFun aj fun _=>Nat->Option NameKind:=⟨aj.k⟩
inductive LocL (pe:Env)(h:Heap) (x:Nat)(v:Value):Prop
 |mk (k:pe.kindOf (B.nm x)=some .local) (m:Str->Option Value) (n:h.Ns pe.locals m) (e:m (B.nm x)=some v)
inductive LocC (pe:Env)(h:Heap) (x:Nat)(v:Value):Prop
 |mk (k:pe.kindOf (B.nm x)=some .cell\/pe.kindOf (B.nm x)=some .free) (c:Addr) (e:pe.cells.lookup (B.nm x)=some c) (hc:h.IsCell c (some v))
noncomputable def dA (pe:Env)(h:Heap) (x:Nat)(v:Value):Prop:=LocL B pe h x v\/LocC B pe h x v
inductive si (h:Heap)(Wc W:AP)(l:List D)(v:Value):Prop
 |mk (a:Addr) (vs:Array Value) (n:Nat) (e:v=.ref a) (w:W a) (wc:¬Wc a) (g:h.get? a=some { cls:=.type "list", dict:=none,data:=.seq vs n,slots:=#[] }) (hl:l.length<=lim) (r:ab B h W l vs.toList)
inductive OwnDRep (L:Addr)(h:Heap)(Wc W:AP)(ks:List (List Nat))(v:Value):Prop
 |mk (a:Addr) (e:v=.ref a) (w:W a) (wc:¬Wc a) (ne:a≠L) (sm:(a==C9)=false) (d:h.DictOf (B4 B.prog B.w) a (ks.map fun k=>(cR k,Value.none)))
inductive Own2Rep (h:Heap)(Wc W:AP)(ll:List (List D))(v:Value):Prop
 |mk (c:Addr) (bs:List Addr) (n:Nat) (e:v=.ref c) (w:¬W c) (g:h.get? c=some { cls:=.type "list", dict:=none,data:=.seq (bs.map Value.ref).toArray n,slots:=#[] }) (nd:bs.Nodup) (len:bs.length=ll.length) (hl:ll.length<=lim) (r:∀(i:Nat) (b:Addr) (l:List D),bs[i]?=some b->ll[i]?=some l->si B h Wc W l (.ref b))
noncomputable def aX (L:Addr)(h:Heap)(Wc W:AP):fu->Value->Prop
 |.fz d,v=>aw B h W d v
 |.sealed d,v=>aw B h W d v
 |.own l,v=>si B h Wc W l v
 |.own2 l,v=>Own2Rep B h Wc W l v
 |.ownD ks,v=>OwnDRep B L h Wc W ks v
noncomputable def aU (h:Heap):fu->Value->Addr->Prop
 |.own _,v,b=>v=.ref b
 |.ownD _,v,b=>v=.ref b
 |.own2 _,v,b=>∃(c:Addr) (bs:List Addr) (n:Nat),v=.ref c/\h.get? c=some { cls:=.type "list", dict:=none,data:=.seq (bs.map Value.ref).toArray n,slots:=#[] }/\b∈bs
 |_,_,_=>False
noncomputable def am (ρ:ac) (x:Nat):Prop:=∃d,ρ x=some (.sealed d)
structure Ctx (Γ:aj)(Wc W:AP)(pe:Env)(ρ:ac)(s:Be):Prop where
 good:aK B s
 fn:pe.scope.kind=.function
 glob:pe.globals=BQ
 blt:pe.builtins=Cc
 tW:∀b,B.T b->Wc b
 cW:∀b,Wc b->W b
 wlt:∀b,W b->b < s.heap.objs.size
 loc:∃m,s.heap.Ns pe.locals m/\m (cR [65])=none
 locW:W pe.locals/\¬Wc pe.locals
 ow:∀b,W b->¬Wc b->B.Hi b
 code:Γ.f=0\/(pe.code=B.cd Γ.f/\pe.qual=B.pq Γ.f)
 kinds:∀x k,Γ x=some k->pe.kindOf (B.nm x)=some k/\(k=.cell\/k=.free->∃c,pe.cells.lookup (B.nm x)=some c)
 cells:∀x c,pe.cells.lookup (B.nm x)=some c->(∃v,s.heap.IsCell c v)/\¬B.T c
 apart:pe.cells.Pairwise fun x y=>x.2≠y.2
 cellW:∀x c,pe.cells.lookup (B.nm x)=some c->am ρ x\/(W c/\¬Wc c)
 vars:∀x e,ρ x=some e->∃v,dA B pe s.heap x v/\aX B pe.locals s.heap Wc W e v
 sealedW:∀x,am ρ x->∃c,pe.cells.lookup (B.nm x)=some c/\¬W c
 owns:∀x y e e' v v' b,ρ x=some e->ρ y=some e'->dA B pe s.heap x v->dA B pe s.heap y v'->aU s.heap e v b->aU s.heap e' v' b->x=y
inductive Tg where
 |name (x:Nat) (p:Pos)
 |tup (xs:List (Nat×Pos)) (k:Nat) (p:Pos)
set_option genCtorIdx false in
mutual
inductive E where
 |int (i:Int) (p:Pos)
 |str (l:List Nat) (p:Pos)
 |nil (p:Pos)
 |bool (b:Bool) (p:Pos)
 |name (x:Nat) (p:Pos)
 |bin (a:E) (op:EI) (b:E) (p:Pos)
 |cmp (a:E) (op:CmpOp) (b:E) (p:Pos)
 |cmp2 (a:E) (o1:CmpOp) (b:E) (o2:CmpOp) (c:E) (p:Pos)
 |bop (op:EJ) (es:List E) (p:Pos)
 |not (a:E) (p:Pos)
 |neg (i:Int) (cp p:Pos)
 |ife (t a b:E) (p:Pos)
 |idx (a i:E) (p:Pos)
 |slc (a:E) (lo hi:Option E) (sp p:Pos)
 |list (es:List E) (p:Pos)
 |tup (es:List E) (k:Nat) (p:Pos)
 |attr (a:E) (f:Nat) (p:Pos)
 |comp (elt:E) (gs:List Gn) (sc:LK) (p:Pos)
 |usub (a:E) (p:Pos)
 |bi (n:Nat) (p:Pos)
 |call (f:Nat) (es:List E) (fp p:Pos)
 |callv (f:Nat) (es:List E) (fp p:Pos)
 |calle (f:E) (es:List E) (p:Pos)
 |blt (f:Nat) (es:List E) (fp p:Pos)
 |blt2 (f:Nat) (a b:E) (fp p:Pos)
 |meth (a:E) (m:Nat) (es:List E) (ap p:Pos)
 |lam (id f:Nat) (ps:List (Nat×Pos)) (body:E) (sc:LK) (p:Pos)
inductive Gn where
 |mk (t:Tg) (it:E) (ifs:List E)
end
set_option genCtorIdx false in
inductive St where
 |asg (x:Nat) (e:E) (xp p:Pos)
 |own (x:Nat) (e:E) (xp p:Pos)
 |asgT (xs:List (Nat×Pos)) (ms:List Nat) (k:Nat) (e:E) (tp p:Pos)
 |augN (x:Nat) (op:EI) (e:E) (xp p:Pos)
 |augI (x:Nat) (i:E) (op:EI) (e:E) (xp sp p:Pos)
 |asgU (xs:List (Nat×Pos)) (k:Nat) (e:E) (tp p:Pos)
 |app (x:Nat) (e:E) (xp ap cp p:Pos)
 |app2 (x:Nat) (i e:E) (xp sp ap cp p:Pos)
 |raw (ss:List Stmt)
 |defS (x id f:Nat) (ps:List (Nat×Pos)) (body:List Stmt) (sc:LK) (gen:Bool) (p:Pos)
 |forS (t:Tg) (it:E) (body:List St) (p:Pos)
 |whl (c:E) (body:List St) (p:Pos)
 |ifS (c:E) (a b:List St) (p:Pos)
 |ret (e:E) (p:Pos)
 |tryS (body:List St) (hs:List ExceptHandler) (p:Pos)
 |frz (x:Nat)
 |seal (x:Nat)
 |sub (x:Nat) (a b:List Nat) (q1 q2 q3 q4 q5 q6 q7 q8 q9 q10 q11:Pos)
section
variable (nm:Nat->Str)
noncomputable def cy (sc:LK)(more:List (Str×Const):=[]):Scope:={ kind:=.function,names:=sc.map fun q=>(nm q.1,q.2),isGenerator:=false,isCoroutine:=false,more:=more }
noncomputable def Tg.py:Tg->Fi
 |.name x p=>.Name (nm x) p
 |.tup xs k p=>.Tuple (xs.map fun q=>.Name (nm q.1) q.2) k p
noncomputable def aV (ps:List (Nat×Pos)):Arguments:={ posonlyargs:=[],args:=ps.map fun q=>{ arg:=nm q.1,annotation:=none,pos:=q.2 },vararg:=none,kwonlyargs:=[],kw_defaults:=[],kwarg:=none,defaults:=[] }
mutual
noncomputable def E.py:E->Fi
 |.int i p=>.Constant (.int i) 0 p
 |.str l p=>.Constant (.str ⟨l.toArray⟩) 0 p
 |.nil p=>.Constant .none 0 p
 |.bool b p=>.Constant (.bool b) 0 p
 |.name x p=>.Name (nm x) p
 |.bin a op b p=>.BinOp a.py op b.py p
 |.cmp a op b p=>.Compare a.py [op] [b.py] p
 |.cmp2 a o1 b o2 c p=>.Compare a.py [o1,o2] [b.py,c.py] p
 |.bop op es p=>.BoolOp op (fq es) p
 |.not a p=>.UnaryOp .Not a.py p
 |.neg i cp p=>.UnaryOp .USub (.Constant (.int i) 0 cp) p
 |.ife t a b p=>.IfExp t.py a.py b.py p
 |.idx a i p=>.Subscript a.py i.py p
 |.slc a lo hi sp p=>.Subscript a.py (.Slice (pyO lo) (pyO hi) none sp) p
 |.list es p=>.List (fq es) p
 |.tup es k p=>.Tuple (fq es) k p
 |.attr a f p=>.Attribute a.py (nm f) p
 |.comp elt gs sc p=>.ListComp elt.py (sq gs) (cy nm sc) p
 |.usub a p=>.UnaryOp .USub a.py p
 |.bi n p=>.Name (nm n) p
 |.call f es fp p=>.Call (.Name (nm f) fp) (fq es) [] p
 |.callv f es fp p=>.Call (.Name (nm f) fp) (fq es) [] p
 |.calle f es p=>.Call f.py (fq es) [] p
 |.blt f es fp p=>.Call (.Name (nm f) fp) (fq es) [] p
 |.blt2 f a b fp p=>.Call (.Name (nm f) fp) [a.py,b.py] [] p
 |.meth a m es ap p=>.Call (.Attribute a.py (nm m) ap) (fq es) [] p
 |.lam _ _ ps body sc p=>.Lambda (aV nm ps) body.py (cy nm sc) p
noncomputable def fq:List E->List Fi
 |[]=>[]
 |e::r=>e.py::fq r
noncomputable def pyO:Option E->Option Fi
 |none=>none
 |some e=>some e.py
noncomputable def sq:List Gn->List E0
 |[]=>[]
 |.mk t it ifs::r=>{ target:=t.py nm,iter:=it.py,ifs:=fq ifs,is_async:=0 }::sq r
end
mutual
noncomputable def St.py:St->List Stmt
 |.asg x e xp p=>[.Assign [.Name (nm x) xp] (e.py nm) p]
 |.own x e xp p=>[.Assign [.Name (nm x) xp] (e.py nm) p]
 |.asgT xs _ k e tp p=>[.Assign [.Tuple (xs.map fun q=>.Name (nm q.1) q.2) k tp] (e.py nm) p]
 |.augN x op e xp p=>[.AugAssign (.Name (nm x) xp) op (e.py nm) p]
 |.augI x i op e xp sp p=>[.AugAssign (.Subscript (.Name (nm x) xp) (i.py nm) sp) op (e.py nm) p]
 |.asgU xs k e tp p=>[.Assign [.Tuple (xs.map fun q=>.Name (nm q.1) q.2) k tp] (e.py nm) p]
 |.app x e xp ap cp p=>[.Expr (.Call (.Attribute (.Name (nm x) xp) (Str.ofString "append") ap) [e.py nm] [] cp) p]
 |.app2 x i e xp sp ap cp p=>[.Expr (.Call (.Attribute (.Subscript (.Name (nm x) xp) (i.py nm) sp) (Str.ofString "append") ap) [e.py nm] [] cp) p]
 |.raw ss=>ss
 |.defS x id f ps body sc gen p=>[.FunctionDef (nm x) (aV nm ps) body [] none [] { cy nm sc with isGenerator:=gen } none (nm x) p]
 |.forS t it body p=>[.For (t.py nm) (it.py nm) (fm body) [] p]
 |.whl c body p=>[.While (c.py nm) (fm body) [] p]
 |.ifS c a b p=>[.If (c.py nm) (fm a) (fm b) p]
 |.ret e p=>[.Return (some (e.py nm)) p]
 |.tryS body hs p=>[.Try (fm body) hs [] [] p]
 |.frz _=>[]
 |.seal _=>[]
 |.sub x a b q1 q2 q3 q4 q5 q6 q7 q8 q9 q10 q11=>[.If (.Compare (.Constant (.str ⟨a.toArray⟩) 0 q1) [.In] [.Name (nm x) q2] q3)
   [.Assign [.Name (nm x) q4] (.Call (.Attribute (.Name (nm x) q5) (Str.ofString "replace") q6) [.Constant (.str ⟨a.toArray⟩) 0 q7,.Constant (.str ⟨b.toArray⟩) 0 q8] [] q9) q10] [] q11]
noncomputable def fm:List St->List Stmt
 |[]=>[]
 |s::r=>s.py++fm r
end
end
noncomputable def E.isName:E->Bool
 |.name ..=>true
 |_=>false
noncomputable def E.isBase:E->Bool
 |.name ..=>true
 |.str ..=>true
 |.idx ..=>true
 |.bin ..=>true
 |_=>false
noncomputable def E.isCall:E->Bool
 |.call ..=>true
 |_=>false
inductive R where
 |d (x:D)
 |own (l:List D)
 |it (l:List D)
noncomputable def R.asD:R->Option D
 |.d x=>some x
 |_=>none
noncomputable def R.asB:R->Option D
 |.d x=>some x
 |.own l=>some (.list l)
 |_=>none
noncomputable def R.asI:R->Option (List D)
 |.d (.list l)=>some l
 |.d (.tup l)=>some l
 |.d (.str l)=>some (l.map fun c=>.str [c])
 |.it l=>some l
 |_=>none
structure bU where
 call:Nat->List D->Option D
 lam:Nat->List D->Option D
 gen:Nat->List D->Option (List D)
noncomputable def ac.set (ρ:ac) (x:Nat)(e:fu):ac:=fun y=>if y=x then some e else ρ y
noncomputable def w9:Tg->D->ac->Option ac
 |.name x _,d,ρ=>some (ρ.set x (.fz d))
 |.tup xs _ _,.tup ds,ρ=>if xs.length=ds.length then some ((xs.zip ds).foldl (fun ρ q=>ρ.set q.1.1 (.fz q.2)) ρ) else none
 |_,_,_=>none
noncomputable def Tg.fit (sc:LK)(ρ:ac):Tg->Bool
 |.name x _=>(sc.lookup x==some .local||sc.lookup x==some .cell)&&(ρ x).isNone
 |.tup xs _ _=>decide ((xs.map (·.1)).Nodup)&&xs.all fun q=>(sc.lookup q.1==some .local||sc.lookup q.1==some .cell)&&(ρ q.1).isNone
noncomputable def eN {α:Type}(sc:LK)(t:Tg)(body:ac->Option (List α))(ρ:ac):List D->Option (List α)
 |[]=>some []
 |d::r=>if t.fit sc ρ then do
  let ρ' <-w9 t d ρ
  let x <-body ρ'
  let y <-eN sc t body ρ r
  some (x++y)
  else none
noncomputable def D.pd:Nat->D->Option PyData
 |0,_=>none
 |n+1,d=>match d with
  |.nil=>some .none
  |.bool b=>some (.bool b)
  |.int i=>some (.int i)
  |.str l=>if l.all (· < 1114112) then some (.str (cR l)) else none
  |.list l=>(l.mapM (D.pd n)).map .list
  |.tup l=>(l.mapM (D.pd n)).map .tuple
  |_=>none
noncomputable def D.int?:D->Option Int
 |.int i=>some i
 |_=>none
noncomputable def D.str?:D->Option (List Nat)
 |.str l=>some l
 |_=>none
noncomputable def D.list?:D->Option (List D)
 |.list l=>some l
 |_=>none
theorem int?_eq {d:D}{i:Int}(h:d.int?=some i):d=.int i:=by cases d<;>first|(obtain rfl:=A0 h;rfl)|exact ah h
theorem str?_eq {d:D}{l:List Nat}(h:d.str?=some l):d=.str l:=by cases d<;>first|(obtain rfl:=A0 h;rfl)|exact ah h
theorem list?_eq {d:D}{l:List D}(h:d.list?=some l):d=.list l:=by cases d<;>first|(obtain rfl:=A0 h;rfl)|exact ah h
theorem ai {α β:Type}{x:Option α}{f:α->Option β}{b:β}(h:x.bind f=some b):∃a,x=some a/\f a=some b:=Bg.mp h
theorem aI {α β:Type}{x:Option α}{f:α->β}{b:β}(h:x.map f=some b):∃a,x=some a/\f a=b:=Bt.mp h
theorem aJ {α:Type}{c:Prop} [Decidable c]{a z:α}(h:(if c then some a else none)=some z):c/\a=z:=by
 by_cases hc:c
 ·rw[if_pos hc] at h;exact⟨hc,A0 h⟩
 ·rw[if_neg hc] at h;exact ah h
theorem cq {α:Type}{c:Prop} [Decidable c]{a:Option α}{z:α}(h:(if c then a else none)=some z):c/\a=some z:=by
 by_cases hc:c
 ·rw[if_pos hc] at h;exact⟨hc,h⟩
 ·rw[if_neg hc] at h;exact ah h
noncomputable def D.isN:D->Bool
 |.nil=>true
 |_=>false
noncomputable def D.eq (a b:D):Option Bool:=match a.str? with
 |some x=>(match b.str? with
  |some y=>some (x==y)
  |none=>if b.isN then some false else none)
 |none=>(match b.str? with
  |some _=>if a.isN then some false else none
  |none=>(D.pd 5 a).bind fun p=>(D.pd 5 b).bind fun q=>some (PyData.eqv p q))
noncomputable def D.isIn (x:D)(l:List D):Option Bool:=do
 let p <-D.pd 5 x
 let q <-l.mapM (D.pd 4)
 some (q.any fun y=>PyData.eqv y p)
noncomputable def D.isStr (k:List Nat):D->Bool
 |.str x=>x==k
 |_=>false
noncomputable def D.dget (ks vs:List D)(k:List Nat):Option D:=((ks.zip vs).find? fun q=>q.1.isStr k).map (·.2)
noncomputable def D.isNil:D->Option Bool
 |.nil=>some true
 |.lam ..=>none
 |.thing ..=>none
 |.bi _=>none
 |.slo ..=>none
 |.cx _=>none
 |_=>some false
noncomputable def D.memb (a b:D):Option Bool:=match b with
 |.list l=>D.isIn a l
 |.tup l=>D.isIn a l
 |.dict ks vs=>a.str?.map fun x=>(D.dget ks vs x).isSome
 |_=>none
noncomputable def D.cmp (op:CmpOp)(a b:D):Option Bool:=match op with
 |.Eq=>D.eq a b
 |.NotEq=>(D.eq a b).map (!·)
 |.Lt=>a.int?.bind fun x=>b.int?.map fun y=>decide (x < y)
 |.LtE=>a.int?.bind fun x=>b.int?.map fun y=>decide (x<=y)
 |.In=>D.memb a b
 |.NotIn=>none
 |.Gt=>a.int?.bind fun x=>b.int?.map fun y=>decide (y < x)
 |.GtE=>a.int?.bind fun x=>b.int?.map fun y=>decide (y<=x)
 |.Is=>if b.isN then D.isNil a else none
 |.IsNot=>if b.isN then(D.isNil a).map (!·) else none
noncomputable def mkS (l:List Nat):Option D:=if l.length<=lim then some (.str l) else none
noncomputable def xS (l:List D):Option D:=if l.length<=lim then some (.list l) else none
noncomputable def D.add (a b:D):Option D:=match a with
 |.int x=>b.int?.map fun y=>.int (x+y)
 |.str x=>b.str?.bind fun y=>mkS (x++y)
 |.list x=>b.list?.bind fun y=>xS (x++y)
 |_=>none
noncomputable def D.bin (op:EI)(a b:D):Option D:=match op with
 |.Add=>D.add a b
 |.Sub=>a.int?.bind fun x=>b.int?.bind fun y=>some (.int (x - y))
 |.FloorDiv=>a.int?.bind fun x=>b.int?.bind fun y=>if 0 < y/\y < 1073741824 then some (.int (DN x y)) else none
 |.Mod=>a.int?.bind fun x=>b.int?.bind fun y=>if 0 < y then some (.int (EO x y)) else none
 |.Pow=>a.int?.bind fun x=>b.int?.bind fun n=>if 0<=x/\x<=16/\0<=n/\n<=16 then some (.int (x ^ n.toNat)) else none
 |_=>none
noncomputable def bZ (n:Nat) (i:Int):Option Nat:=if 0<=i then(if i < n then some i.toNat else none) else(if 0<=i+n then some (i+n).toNat else none)
noncomputable def fE {α:Type}(lo hi:Option Int)(l:List α):List α:=(l.drop (lo.elim 0 (CR l.length))).take (hi.elim l.length (CR l.length) - lo.elim 0 (CR l.length))
noncomputable def D.item (a i:D):Option D:=match a with
 |.list l=>i.int?.bind fun i=>(bZ l.length i).bind (l[·]?)
 |.tup l=>i.int?.bind fun i=>(bZ l.length i).bind (l[·]?)
 |.str l=>(match i with
  |.slo lo hi=>some (.str (fE lo hi l))
  |i=>i.int?.bind fun i=>((bZ l.length i).bind (l[·]?)).map fun c=>.str [c])
 |.dict ks vs=>i.str?.bind fun k=>D.dget ks vs k
 |_=>none
noncomputable def D.bnd:Option D->Option (Option Int)
 |none=>some none
 |some (.int i)=>if -(lim:Int)<=i/\i<=lim then some (some i) else none
 |_=>none
noncomputable def D.cut (l h:Option Int):D->Option D
 |.list x=>some (.list (fE l h x))
 |.str x=>some (.str (fE l h x))
 |_=>none
noncomputable def D.slice (a:D)(lo hi:Option D):Option D:=(D.bnd lo).bind fun l=>(D.bnd hi).bind fun h=>D.cut l h a
noncomputable def D.len (a:D):Option Nat:=match a with
 |.list l=>some l.length
 |.tup l=>some l.length
 |.str l=>some l.length
 |_=>none
noncomputable def D.fld (f:Nat):D->Option D
 |.thing ns vs=>if ns.length=vs.length/\(f=19\/f=20\/f=21) then((ns.zip vs).find? (fun q=>q.1==f)).map (·.2) else none
 |_=>none
noncomputable def D.truth:D->Option Bool
 |.bool b=>some b
 |_=>none
noncomputable def D.chr (a:D):Option D:=a.int?.bind fun i=>if 0<=i/\i < 55296 then some (.str [i.toNat]) else none
noncomputable def oneOf:List Nat->Option Nat
 |[c]=>some c
 |_=>none
noncomputable def D.ord (a:D):Option D:=a.str?.bind fun l=>(oneOf l).map fun(c:Nat)=>.int (c:Int)
noncomputable def bltF:Nat->Option (D->Option D):=gw [(0,fun a=>a.len.map fun(n:Nat)=>D.int (n:Int)),(1,D.chr),(2,D.ord)]
noncomputable def D.min2 (a b:D):Option D:=a.int?.bind fun x=>b.int?.map fun y=>.int (if y < x then y else x)
noncomputable def D.part:D->Option (Option Int)
 |.nil=>some none
 |.int i=>if -(lim:Int)<=i/\i<=lim then some (some i) else none
 |_=>none
noncomputable def D.mkSlo (a b:D):Option D:=a.part.bind fun x=>b.part.map fun y=>.slo x y
noncomputable def bltG:Nat->Option (D->D->Option D):=gw [(9,D.min2),(3,D.mkSlo)]
noncomputable def D.rng (a b:D):Option (List D):=a.int?.bind fun x=>b.int?.bind fun y=>if -(lim:Int)<=x/\x<=lim/\-(lim:Int)<=y/\y<=lim/\(y - x).toNat<=lim then some ((Bn (y - x).toNat).map fun(i:Nat)=>.int (x+i)) else none
noncomputable def D.builtin (f:Nat)(as:List D):Option D:=match as with
 |[a]=>(bltF f).bind fun g=>g a
 |_=>none
noncomputable def D.builtin2 (f:Nat)(a b:D):Option D:=(bltG f).bind fun g=>g a b
noncomputable def D.mends (a b:D):Option D:=a.str?.bind fun x=>b.str?.map fun y=>.bool (FJ ⟨x.toArray⟩ ⟨y.toArray⟩)
noncomputable def D.mfind (a b:D):Option D:=a.str?.bind fun x=>b.str?.map fun y=>.int (Fc ⟨x.toArray⟩ ⟨y.toArray⟩)
noncomputable def D.msplit (a b:D):Option D:=a.str?.bind fun x=>b.str?.bind fun y=>if y.length=1/\x.length < 1000 then some (.list ((De ⟨x.toArray⟩ ⟨y.toArray⟩).map fun z=>.str z.cps.toList)) else none
noncomputable def metF:Nat->Option (D->D->Option D):=gw [(10,D.mfind),(11,D.msplit),(15,D.mends)]
noncomputable def D.method (a:D) (m:Nat)(as:List D):Option D:=match as with
 |[b]=>(metF m).bind fun g=>g a b
 |_=>none
noncomputable def lst1 {α:Type}:List α->Option α
 |[a]=>some a
 |_=>none
noncomputable def lst2 {α:Type}:List α->Option (α×α)
 |[a,b]=>some (a,b)
 |_=>none
theorem wG {α:Type}{l:List α}{a:α}(h:lst1 l=some a):l=[a]:=by
 cases l with
 |nil=>exact ah h
 |cons x r=>cases r with
  |nil=>exact congrArg (fun x=>[x]) (A0 h)
  |cons=>exact ah h
theorem wF {α:Type}{l:List α}{q:α×α}(h:lst2 l=some q):l=[q.1,q.2]:=by
 cases l with
 |nil=>exact ah h
 |cons x r=>cases r with
  |nil=>exact ah h
  |cons y r=>cases r with
   |nil=>exact congrArg (fun q:α×α=>[q.1,q.2]) (A0 h)
   |cons=>exact ah h
noncomputable def D.is7:D->Bool
 |.bi n=>n==7
 |_=>false
noncomputable def D.sn:D->Option Bool
 |.str _=>some true
 |.nil=>some false
 |_=>none
noncomputable def zT (l:List D):Option Bool:=(lst2 l).bind fun q=>if q.2.is7 then q.1.sn else none
noncomputable def aB (Γ:aj)(sc:LK):aj:=⟨fun x=>(sc.lookup x).map fun k=>if k=.free/\Γ x=some .cell then .cell else k,Γ.f⟩
noncomputable def jS (Γ:aj)(sc:LK):Bool:=decide ((sc.map (·.1)).Nodup)&&sc.all fun q=>match q.2 with
 |.free=>Γ q.1==some .cell||Γ q.1==some .free
 |.local=>true
 |.cell=>true
 |.globalImplicit=>true
 |_=>false
noncomputable def ac.cut (ρ:ac)(sc:LK):ac:=fun x=>if sc.lookup x=some .free then ρ x else none
noncomputable def av (sc:LK):List Nat:=(sc.filter fun q=>q.2==.free).map (·.1)
section
variable (Φ:bU)
mutual
noncomputable def ev (Γ:aj)(ρ:ac):E->Option R
 |.int i _=>some (.d (.int i))
 |.str l _=>(mkS l).map .d
 |.nil _=>some (.d .nil)
 |.bool b _=>some (.d (.bool b))
 |.name x _=>match ρ x with
  |some (.fz d)=>some (.d d)
  |some (.sealed d)=>some (.d d)
  |some (.own l)=>some (.own l)
  |_=>none
 |.bin a op b _=>do
  let x <-(<-ev Γ ρ a).asB
  let y <-(<-ev Γ ρ b).asB
  (D.bin op x y).map .d
 |.cmp a op b _=>do
  let x <-(<-ev Γ ρ a).asB
  let y <-(<-ev Γ ρ b).asB
  (D.cmp op x y).map fun c=>.d (.bool c)
 |.cmp2 a o1 b o2 c _=>do
  let x <-(<-ev Γ ρ a).asB
  let y <-(<-ev Γ ρ b).asB
  let t <-D.cmp o1 x y
  if t then do
   let z <-(<-ev Γ ρ c).asB
   (D.cmp o2 y z).map fun c=>.d (.bool c)
  else some (.d (.bool false))
 |.bop op es _=>Af Γ ρ op es
 |.not _ _=>none
 |.neg i _ _=>some (.d (.int (-i)))
 |.ife t a b _=>do
  let c <-cT Γ ρ t
  if c then ev Γ ρ a else ev Γ ρ b
 |.idx a i _=>do
  let x <-(<-ev Γ ρ a).asB
  let y <-(<-ev Γ ρ i).asD
  (D.item x y).map .d
 |.slc a lo hi _ _=>do
  let x <-(<-ev Γ ρ a).asB
  let l <-xZ Γ ρ lo
  let h <-xZ Γ ρ hi
  (D.slice x l h).map .d
 |.usub a _=>do
  let x <-(<-ev Γ ρ a).asD
  x.int?.map fun i=>.d (.int (-i))
 |.bi n _=>if Γ n=some .globalImplicit/\(n=6\/n=7) then some (.d (.bi n)) else none
 |.list es _=>do
  let l <-g8 Γ ρ es
  (xS l).map .d
 |.tup es _ _=>do
  let l <-g8 Γ ρ es
  if l.length<=lim then some (.d (.tup l)) else none
 |.attr a f _=>if a.isName then do
  let x <-(<-ev Γ ρ a).asD
  (D.fld f x).map .d
  else none
 |.comp elt gs sc _=>if jS Γ sc then match gs with
   |.mk t it ifs::r=>do
    let items <-(<-ev Γ ρ it).asI
    let l <-eN sc t (fun ρ'=>do
     let c <-x4 (aB Γ sc) ρ' ifs
     if c then evG sc (aB Γ sc) r (fun ρ''=>do (<-ev (aB Γ sc) ρ'' elt).asD) ρ' else some []) (ρ.cut sc) items
    (xS l).map .d
   |[]=>none
  else none
 |.call f es _ _=>do
  let l <-g8 Γ ρ es
  if Γ f=some .globalImplicit then(Φ.call f l).map .d else none
 |.callv f es _ _=>match ρ f with
  |some (.fz (.lam id caps))=>do
   let l <-g8 Γ ρ es
   match Φ.lam id (caps++l) with
   |some d=>some (.d d)
   |none=>(Φ.gen id (caps++l)).map .it
  |_=>none
 |.calle f es _=>if !f.isCall then none else do
  match(<-ev Γ ρ f).asD with
  |some (.lam id caps)=>do
   let l <-g8 Γ ρ es
   match Φ.lam id (caps++l) with
   |some d=>some (.d d)
   |none=>(Φ.gen id (caps++l)).map .it
  |_=>none
 |.blt f es _ _=>if Γ f=some .globalImplicit then(match f,es with
   |5,[e]=>do
    let d <-(<-ev Γ ρ e).asD
    match d with
    |.int n=>if 0<=n/\n<=lim then some (.it ((Bn n.toNat).map fun(i:Nat)=>.int (i:Int))) else none
    |_=>none
   |4,[_]=>none
   |f,[e]=>do
    let x <-(<-ev Γ ρ e).asB
    (D.builtin f [x]).map .d
   |_,_=>none) else none
 |.blt2 f a b _ _=>if Γ f=some .globalImplicit then(do
  let x <-(<-ev Γ ρ a).asD
  let y <-(<-ev Γ ρ b).asD
  if f=5 then(D.rng x y).map .it else(D.builtin2 f x y).map .d) else none
 |.meth a m es ap p=>if a.isBase&&ap.endLine==p.line then match es with
  |[e]=>do
   let x <-(<-ev Γ ρ a).asD
   let y <-(<-ev Γ ρ e).asD
   (D.method x m [y]).map .d
  |_=>none
  else none
 |.lam id f _ _ sc _=>if jS Γ sc/\f≠0/\Γ.f=f then do
   let caps <-(av sc).mapM fun x=>match ρ x with|some (.sealed d)=>some d|_=>none
   some (.d (.lam id caps))
  else none
noncomputable def g8 (Γ:aj)(ρ:ac):List E->Option (List D)
 |[]=>some []
 |e::r=>do
  let x <-(<-ev Γ ρ e).asD
  let y <-g8 Γ ρ r
  some (x::y)
noncomputable def Af (Γ:aj)(ρ:ac)(op:EJ):List E->Option R
 |[]=>none
 |e::r=>do
  let x <-(<-ev Γ ρ e).asD
  let t <-x.truth
  if r.isEmpty||t==(op==.Or) then some (.d (.bool t)) else Af Γ ρ op r
noncomputable def xZ (Γ:aj)(ρ:ac):Option E->Option (Option D)
 |none=>some none
 |some e=>do
  let x <-(<-ev Γ ρ e).asD
  some (some x)
noncomputable def cT (Γ:aj)(ρ:ac):E->Option Bool
 |.cmp a op b _=>do
  let x <-(<-ev Γ ρ a).asB
  let y <-(<-ev Γ ρ b).asB
  D.cmp op x y
 |.cmp2 a o1 b o2 c _=>do
  let x <-(<-ev Γ ρ a).asB
  let y <-(<-ev Γ ρ b).asB
  let t <-D.cmp o1 x y
  if t then do
   let z <-(<-ev Γ ρ c).asB
   D.cmp o2 y z
  else some false
 |.bop op es _=>qz Γ ρ op es
 |.not a _=>do
  let t <-cT Γ ρ a
  some (!t)
 |.name x _=>match ρ x with
  |some (.fz d)=>d.truth
  |_=>none
 |.call f es _ _=>do
  let l <-g8 Γ ρ es
  if Γ f=some .globalImplicit then(match Φ.call f l with
   |some (.bool b)=>some b
   |_=>none) else none
 |.callv f es _ _=>match ρ f with
  |some (.sealed (.bi 6))=>do
   let l <-g8 Γ ρ es
   zT l
  |_=>none
 |_=>none
noncomputable def qz (Γ:aj)(ρ:ac)(op:EJ):List E->Option Bool
 |[]=>some (op==.And)
 |e::r=>do
  let t <-cT Γ ρ e
  match op,t with
  |.And,false=>some false
  |.Or,true=>some true
  |_,_=>qz Γ ρ op r
noncomputable def x4 (Γ:aj)(ρ:ac):List E->Option Bool
 |[]=>some true
 |e::r=>do
  let t <-cT Γ ρ e
  if t then x4 Γ ρ r else some false
noncomputable def evG (sc:LK)(Γ:aj):List Gn->(ac->Option D)->ac->Option (List D)
 |[],emit,ρ=>(emit ρ).map fun d=>[d]
 |.mk t it ifs::r,emit,ρ=>do
  let items <-(<-ev Γ ρ it).asI
  eN sc t (fun ρ'=>do
   let c <-x4 Γ ρ' ifs
   if c then evG sc Γ r emit ρ' else some []) ρ items
end
end
theorem kC {nm:Nat->Str} {elt gs sc p}:(E.comp elt gs sc p).py nm=.ListComp (elt.py nm) (sq nm gs) (cy nm sc) p:=rfl
theorem uv {nm:Nat->Str} {f es p}:(E.calle f es p).py nm=.Call (f.py nm) (fq nm es) [] p:=rfl
section
variable {Φ:bU}{Γ:aj}{ρ:ac}
theorem pH  : g8 Φ Γ ρ []=(some []):=rfl
theorem nu {e r}:g8 Φ Γ ρ (e::r)=(do
  let x <-(<-ev Φ Γ ρ e).asD
  let y <-g8 Φ Γ ρ r
  some (x::y)):=rfl
theorem nk  : xZ Φ Γ ρ none=(some none):=rfl
theorem nj {e}:xZ Φ Γ ρ (some e)=(do
  let x <-(<-ev Φ Γ ρ e).asD
  some (some x)):=rfl
theorem x_evV_nil {op}:Af Φ Γ ρ op []=none:=rfl
theorem ji {op e r}:Af Φ Γ ρ op (e::r)=(do
  let x <-(<-ev Φ Γ ρ e).asD
  let t <-x.truth
  if r.isEmpty||t==(op==.Or) then some (.d (.bool t)) else Af Φ Γ ρ op r):=rfl
theorem kI {op }:qz Φ Γ ρ op []=(some (op==.And)):=rfl
theorem dK {op e r}:qz Φ Γ ρ op (e::r)=(do
  let t <-cT Φ Γ ρ e
  match op,t with
  |.And,false=>some false
  |.Or,true=>some true
  |_,_=>qz Φ Γ ρ op r):=rfl
theorem f9  : x4 Φ Γ ρ []=(some true):=rfl
theorem ny {e r}:x4 Φ Γ ρ (e::r)=(do
  let t <-cT Φ Γ ρ e
  if t then x4 Φ Γ ρ r else some false):=rfl
theorem iR {sc ρ emit}:evG Φ sc Γ [] emit ρ=((emit ρ).map fun d=>[d]):=rfl
theorem nv {sc ρ t it ifs r emit}:evG Φ sc Γ (.mk t it ifs::r) emit ρ=(do
  let items <-(<-ev Φ Γ ρ it).asI
  eN sc t (fun ρ'=>do
   let c <-x4 Φ Γ ρ' ifs
   if c then evG Φ sc Γ r emit ρ' else some []) ρ items):=rfl
theorem jH {α:Type} {sc t ρ}{body:ac->Option (List α)}:eN sc t body ρ []=some []:=rfl
theorem f6 {α:Type} {sc t ρ d r}{body:ac->Option (List α)}:eN sc t body ρ (d::r)=(if t.fit sc ρ then do
  let ρ' <-w9 t d ρ
  let x <-body ρ'
  let y <-eN sc t body ρ r
  some (x++y)
  else none):=rfl
theorem x_pyL_nil {nm:Nat->Str}:fq nm []=[]:=rfl
theorem a0 {nm:Nat->Str} {e r}:fq nm (e::r)=e.py nm::fq nm r:=rfl
theorem sC {i u1}:ev Φ Γ ρ (.int i u1)=(some (.d (.int i))):=rfl
theorem sv {l u1}:ev Φ Γ ρ (.str l u1)=((mkS l).map .d):=rfl
theorem sx {u1}:ev Φ Γ ρ (.nil u1)=(some (.d .nil)):=rfl
theorem pw {b u1}:ev Φ Γ ρ (.bool b u1)=(some (.d (.bool b))):=rfl
theorem fj {x u1}:ev Φ Γ ρ (.name x u1)=(match ρ x with
  |some (.fz d)=>some (.d d)
  |some (.sealed d)=>some (.d d)
  |some (.own l)=>some (.own l)
  |_=>none):=rfl
theorem sG {a op b u1}:ev Φ Γ ρ (.bin a op b u1)=(do
  let x <-(<-ev Φ Γ ρ a).asB
  let y <-(<-ev Φ Γ ρ b).asB
  (D.bin op x y).map .d):=rfl
theorem sE {a op b u1}:ev Φ Γ ρ (.cmp a op b u1)=(do
  let x <-(<-ev Φ Γ ρ a).asB
  let y <-(<-ev Φ Γ ρ b).asB
  (D.cmp op x y).map fun c=>.d (.bool c)):=rfl
theorem xo {a o1 b o2 c u1}:ev Φ Γ ρ (.cmp2 a o1 b o2 c u1)=(do
  let x <-(<-ev Φ Γ ρ a).asB
  let y <-(<-ev Φ Γ ρ b).asB
  let t <-D.cmp o1 x y
  if t then do
   let z <-(<-ev Φ Γ ρ c).asB
   (D.cmp o2 y z).map fun c=>.d (.bool c)
  else some (.d (.bool false))):=rfl
theorem g9 {op es u1}:ev Φ Γ ρ (.bop op es u1)=Af Φ Γ ρ op es:=rfl
theorem sA {i u1 u2}:ev Φ Γ ρ (.neg i u1 u2)=(some (.d (.int (-i)))):=rfl
theorem sD {t a b u1}:ev Φ Γ ρ (.ife t a b u1)=(do
  let c <-cT Φ Γ ρ t
  if c then ev Φ Γ ρ a else ev Φ Γ ρ b):=rfl
theorem mP {a i u1}:ev Φ Γ ρ (.idx a i u1)=(do
  let x <-(<-ev Φ Γ ρ a).asB
  let y <-(<-ev Φ Γ ρ i).asD
  (D.item x y).map .d):=rfl
theorem mO {a lo hi u1 u2}:ev Φ Γ ρ (.slc a lo hi u1 u2)=(do
  let x <-(<-ev Φ Γ ρ a).asB
  let l <-xZ Φ Γ ρ lo
  let h <-xZ Φ Γ ρ hi
  (D.slice x l h).map .d):=rfl
theorem xj {a u1}:ev Φ Γ ρ (.usub a u1)=(do
  let x <-(<-ev Φ Γ ρ a).asD
  x.int?.map fun i=>.d (.int (-i))):=rfl
theorem vP {n u1}:ev Φ Γ ρ (.bi n u1)=(if Γ n=some .globalImplicit/\(n=6\/n=7) then some (.d (.bi n)) else none):=rfl
theorem kD {es u1}:ev Φ Γ ρ (.list es u1)=(do
  let l <-g8 Φ Γ ρ es
  (xS l).map .d):=rfl
theorem su {es u1 u2}:ev Φ Γ ρ (.tup es u1 u2)=(do
  let l <-g8 Φ Γ ρ es
  if l.length<=lim then some (.d (.tup l)) else none):=rfl
theorem pA {a f u1}:ev Φ Γ ρ (.attr a f u1)=(if a.isName then do
  let x <-(<-ev Φ Γ ρ a).asD
  (D.fld f x).map .d
  else none):=rfl
theorem f8 {elt gs sc u1}:ev Φ Γ ρ (.comp elt gs sc u1)=(if jS Γ sc then match gs with
   |.mk t it ifs::r=>do
    let items <-(<-ev Φ Γ ρ it).asI
    let l <-eN sc t (fun ρ'=>do
     let c <-x4 Φ (aB Γ sc) ρ' ifs
     if c then evG Φ sc (aB Γ sc) r (fun ρ''=>do (<-ev Φ (aB Γ sc) ρ'' elt).asD) ρ' else some []) (ρ.cut sc) items
    (xS l).map .d
   |[]=>none
  else none):=by rcases gs with J|⟨⟨t,it,ifs⟩,r⟩<;>rfl
theorem kE {f es u1 u2}:ev Φ Γ ρ (.call f es u1 u2)=(do
  let l <-g8 Φ Γ ρ es
  if Γ f=some .globalImplicit then(Φ.call f l).map .d else none):=rfl
theorem mQ {f es u1 u2}:ev Φ Γ ρ (.callv f es u1 u2)=(match ρ f with
  |some (.fz (.lam id caps))=>do
   let l <-g8 Φ Γ ρ es
   match Φ.lam id (caps++l) with
   |some d=>some (.d d)
   |none=>(Φ.gen id (caps++l)).map .it
  |_=>none):=rfl
theorem mR {f es u1}:ev Φ Γ ρ (.calle f es u1)=(if !f.isCall then none else do
  match(<-ev Φ Γ ρ f).asD with
  |some (.lam id caps)=>do
   let l <-g8 Φ Γ ρ es
   match Φ.lam id (caps++l) with
   |some d=>some (.d d)
   |none=>(Φ.gen id (caps++l)).map .it
  |_=>none):=rfl
theorem mS {f es u1 u2}:ev Φ Γ ρ (.blt f es u1 u2)=(if Γ f=some .globalImplicit then(match f,es with
   |5,[e]=>do
    let d <-(<-ev Φ Γ ρ e).asD
    match d with
    |.int n=>if 0<=n/\n<=lim then some (.it ((Bn n.toNat).map fun(i:Nat)=>.int (i:Int))) else none
    |_=>none
   |4,[_]=>none
   |f,[e]=>do
    let x <-(<-ev Φ Γ ρ e).asB
    (D.builtin f [x]).map .d
   |_,_=>none) else none):=by rcases es with J|⟨e,J|⟨e2,r⟩⟩<;>rcases f with J|J|J|J|J|J|f<;>rfl
theorem xm {a m es ap p}:ev Φ Γ ρ (.meth a m es ap p)=(if a.isBase&&ap.endLine==p.line then match es with
  |[e]=>do
   let x <-(<-ev Φ Γ ρ a).asD
   let y <-(<-ev Φ Γ ρ e).asD
   (D.method x m [y]).map .d
  |_=>none
  else none):=by rcases es with J|⟨e,J|⟨e2,r⟩⟩<;>rfl
theorem sB {id f u1 u2 sc u3}:ev Φ Γ ρ (.lam id f u1 u2 sc u3)=(if jS Γ sc/\f≠0/\Γ.f=f then do
   let caps <-(av sc).mapM fun x=>match ρ x with|some (.sealed d)=>some d|_=>none
   some (.d (.lam id caps))
  else none):=rfl
theorem pF {a op b u1}:cT Φ Γ ρ (.cmp a op b u1)=(do
  let x <-(<-ev Φ Γ ρ a).asB
  let y <-(<-ev Φ Γ ρ b).asB
  D.cmp op x y):=rfl
theorem mW {a o1 b o2 c u1}:cT Φ Γ ρ (.cmp2 a o1 b o2 c u1)=(do
  let x <-(<-ev Φ Γ ρ a).asB
  let y <-(<-ev Φ Γ ρ b).asB
  let t <-D.cmp o1 x y
  if t then do
   let z <-(<-ev Φ Γ ρ c).asB
   D.cmp o2 y z
  else some false):=rfl
theorem pG {op es u1}:cT Φ Γ ρ (.bop op es u1)=(qz Φ Γ ρ op es):=rfl
theorem pE {a u1}:cT Φ Γ ρ (.not a u1)=(do
  let t <-cT Φ Γ ρ a
  some (!t)):=rfl
theorem ux {x u1}:cT Φ Γ ρ (.name x u1)=(match ρ x with
  |some (.fz d)=>d.truth
  |_=>none):=rfl
theorem mX {f es u1 u2}:cT Φ Γ ρ (.call f es u1 u2)=(do
  let l <-g8 Φ Γ ρ es
  if Γ f=some .globalImplicit then(match Φ.call f l with
   |some (.bool b)=>some b
   |_=>none) else none):=rfl
theorem lD {f es u1 u2}:cT Φ Γ ρ (.callv f es u1 u2)=(match ρ f with
  |some (.sealed (.bi 6))=>do
   let l <-g8 Φ Γ ρ es
   zT l
  |_=>none):=rfl
theorem px {e u1 u2}:ev Φ Γ ρ (.blt 5 [e] u1 u2)=(if Γ 5=some .globalImplicit then(do
    let d <-(<-ev Φ Γ ρ e).asD
    match d with
    |.int n=>if 0<=n/\n<=lim then some (.it ((Bn n.toNat).map fun(i:Nat)=>.int (i:Int))) else none
    |_=>none) else none):=rfl
theorem xq {e u1 u2}:ev Φ Γ ρ (.blt 4 [e] u1 u2)=none:=ite_self none
theorem kF {f e u1 u2}(h4:f≠4)(h5:f≠5):ev Φ Γ ρ (.blt f [e] u1 u2)=if Γ f=some .globalImplicit then(do let x <-(<-ev Φ Γ ρ e).asB;(D.builtin f [x]).map .d) else none:=by
 refine AZ mS ?_;rcases f with J|J|J|J|J|J|f<;>first|rfl|exact absurd rfl h4|exact absurd rfl h5
theorem sF {f es u1 u2}(h:∀e,es≠[e]):ev Φ Γ ρ (.blt f es u1 u2)=none:=by
 rcases es with J|⟨e,J|⟨e2,r⟩⟩
 ·refine AZ mS ?_;rcases f with J|J|J|J|J|J|f<;>exact ite_self none
 ·exact absurd rfl (h e)
 ·refine AZ mS ?_;rcases f with J|J|J|J|J|J|f<;>exact ite_self none
theorem kG {f a b u1 u2}:ev Φ Γ ρ (.blt2 f a b u1 u2)=(if Γ f=some .globalImplicit then(do
  let x <-(<-ev Φ Γ ρ a).asD
  let y <-(<-ev Φ Γ ρ b).asD
  if f=5 then(D.rng x y).map .it else(D.builtin2 f x y).map .d) else none):=rfl
theorem uw {a m e ap p}:ev Φ Γ ρ (.meth a m [e] ap p)=(if a.isBase&&ap.endLine==p.line then(do
   let x <-(<-ev Φ Γ ρ a).asD
   let y <-(<-ev Φ Γ ρ e).asD
   (D.method x m [y]).map .d)
  else none):=rfl
theorem jh {elt t it ifs r sc u1}:ev Φ Γ ρ (.comp elt (.mk t it ifs::r) sc u1)=(if jS Γ sc then(do
    let items <-(<-ev Φ Γ ρ it).asI
    let l <-eN sc t (fun ρ'=>do
     let c <-x4 Φ (aB Γ sc) ρ' ifs
     if c then evG Φ sc (aB Γ sc) r (fun ρ''=>do (<-ev Φ (aB Γ sc) ρ'' elt).asD) ρ' else some []) (ρ.cut sc) items
    (xS l).map .d)
  else none):=rfl
end
end Mine
namespace Mine
variable {B:Bs}
noncomputable def mName:Nat->Option String:=gw [(10, "find"),(11, "split"),(12, "join"),(13, "replace"),(14, "translate"),(15, "endswith"),(16, "append"),(17, "extend"),(18, "pop")]
structure Bs.Ok (B:Bs):Prop where
 inj:∀x y,B.nm x=B.nm y->x=y
 nA:∀x,B.nm x≠cR [65]
 hd:∀f c P,B.CT f=some (c,P)->CodeHd B.h₀ c P/\¬B.T c/\BQ≠P/\B.h₀.BuiltinsAt B.mg P/\(∀bm,B.mg "__builtins__" = some (.ref bm)->¬B.T bm)
 ctinj:∀f f' c c' P,B.CT f=some (c,P)->B.CT f'=some (c',P)->f=f'/\c=c'
 g:B.h₀.Ns BQ B.mg
 b:B.h₀.Ns Cc B.mb
 gT:¬B.T BQ
 bT:¬B.T Cc
 nolimit:B.h₀.NoLimit
 csT:¬B.T cStatics
 sysm:C9 < B.h₀.objs.size
 blts:∀f v,eE f=some v->B.mg (B.nm f)=none/\B.mb (B.nm f)=some v
 mnm:∀m x,mName m=some x->B.nm m=Str.ofString x
 dbg:∀x,(B.nm x==("__debug__" : Str))=false
 cld:∀x,(B.nm x==("__classdict__" : Str))=false
 xk:∀x,B.X=some x->B.h₀.objs.size<=x.dx/\x.ks.Nodup/\x.ks[0]?=some [65]/\x.vs.length=x.ks.length/\x.ks.length<=lim/\∀y∈x.vs,y.length<=lim
 attr:∀(A:BO) (s:Be) (a dx:Addr) (n:Nat) (ns:List Nat) (ts:List Tok) (dv:List Value) (f:Nat) (v:Value) (E:VS) (Q:VS),aK B s->s.heap.get? a=some (Dd B.C dx)->
  s.heap.get? dx=some { cls:=.type "dict", dict:=none,data:=.dict (gm B.w.params ((ns.zip ts).map fun p=>Value.str (B.nm p.1) p.2) dv).toArray n,slots:=#[] }->ts.length=ns.length->dv.length=ns.length->
  ((ns.zip dv).find? fun q=>q.1==f)=some (f,v)->((f=19\/f=20\/f=21)\/f=22)->F8 v=true->(∀t,Q v { s with toks:=t })->wpAny B.M A (getAttr (.ref a) (B.nm f) true) Q E s
theorem iQ.keep {h h':Heap}{v:Value}{q:Str}(x:iQ h v q)(k:∀b o,B.KO o->h.get? b=some o->h'.get? b=some o):iQ h' v q:=
 let ⟨c,o,vs,t,e,g,ic,d,r⟩:=x;⟨c,o,vs,t,e,k c o (.inl ic) g,ic,d,r⟩
theorem zK {o:Obj}(h:B.KO o):o.cls=.type "code" \/ o.cls=.type "dict" := h.imp (fun h=>h.1) fun h=>by obtain⟨J,J,J,J,J,h,J⟩:=h;exact h.1
theorem zJ {o:Obj}{T:String}(h:B.KO o)(c:o.cls=.type T)(n:(T == "code" || T == "dict")=false):False:=by
 rcases h with h|⟨J,J,J,J,J,h,J⟩
 ·have e:Value.type T=.type "code" := c.symm.trans h.1
  cases e;exact DW (show true=false from n)
 ·have e:Value.type T=.type "dict" := c.symm.trans h.1
  cases e;exact DW (show true=false from n)
theorem Bs.Ok.tikeep (O:B.Ok)(h h':Heap)(x:B.TI h)(k:∀b o,(B.T b\/B.KO o)->h.get? b=some o->h'.get? b=some o):B.TI h':=by
 refine⟨fun z e=>?_,fun f c P e=>?_⟩
 ·obtain⟨t,n,g⟩|⟨t,t',n,q,o,g,nt,go,ko,sy⟩:=x.1 z e
  ·exact .raw t n (k _ _ (.inl (.inr ⟨z,e,rfl⟩)) g)
  ·exact .made t t' n q o (k _ _ (.inl (.inr ⟨z,e,rfl⟩)) g) nt (k _ _ (.inr (.inr ko)) go) ko sy
 refine pJ (x.2 f c P e) fun ps h1 h2 h3=>?_;exact⟨ps,k _ _ (.inl (.inl ⟨f,c,e⟩)) h1,h2,fun pos v q=>(h3 pos v q).keep (B:=B) fun b o ic=>k b o (.inr ic)⟩
theorem Bs.Ok.lamkeep (O:B.Ok) (id:Nat)(cv:List Value)(h:Heap)(W:AP)(a:Addr)(h':Heap)(W':AP)(x:B.Lam id cv h W a)(k:∀b o,(¬W b\/B.KO o)->h.get? b=some o->h'.get? b=some o)(kW:∀b,W' b->W b\/h.get? b=none):B.Lam id cv h' W' a:=by
 obtain⟨L,fo,fd,e,g,d,nw,l⟩:=x;refine⟨L,fo,fd,e,k _ _ (.inl nw) g,d,fun q=>(kW a q).elim nw fun z=>(by rw[g] at z;exact kS z),l.params,l.body,l.scope,l.glob,l.blt,l.dfl,l.qual,l.code.keep (B:=B) fun b o ic=>k b o (.inr ic),l.len,l.only,l.keys,l.nms,l.apart,fun i x v h1 h2=>?_⟩;refine x1211 (l.cells i x v h1 h2) fun c h3 h4 o h5 h6=>?_;exact⟨c,h3,fun q=>(kW c q).elim h4 fun z=>(by rw[h5] at z;exact kS z),o,k _ _ (.inl h4) h5,h6⟩
theorem Bs.Ok.lamthere (O:B.Ok) (id:Nat)(cv:List Value)(h:Heap)(W:AP)(a:Addr)(x:B.Lam id cv h W a):(h.get? a).isSome:=by
 obtain⟨L,fo,fd,e,g,J⟩:=x;refine AZ g ?_;rfl
theorem Bs.Ok.lamfun (O:B.Ok) (id:Nat)(cv:List Value)(h:Heap)(W:AP)(a:Addr)(x:B.Lam id cv h W a):∃fo fd,h.get? a=some fo/\fo.data=.func fd:=by
 obtain⟨L,fo,fd,e,g,d,J⟩:=x;exact⟨fo,fd,g,d⟩
section
variable (O:B.Ok)
include O
mutual
theorem aw.move {h h':Heap}{W W':AP}(k:∀b o,(¬W b\/B.KO o)->h.get? b=some o->h'.get? b=some o)(kW:∀b,W' b->W b\/h.get? b=none):∀(d:D)(v:Value),aw B h W d v->aw B h' W' d v
 |.nil,_,r=>r
 |.bool _,_,r=>r
 |.int _,_,r=>r
 |.str _,_,r=>r
 |.list ds,v,r=>by
  simp only[aw] at r ⊢;obtain⟨a,vs,n,e,hw,hg,hl,ha⟩:=r;exact⟨a,vs,n,e,fun q=>(kW a q).elim hw fun z=>(by rw[hg] at z;exact kS z),k a _ (.inl hw) hg,hl,ab.move k kW ds _ ha⟩
 |.tup ds,v,r=>by
  simp only[aw] at r ⊢;obtain⟨a,vs,n,e,hw,hg,hl,ha⟩:=r;exact⟨a,vs,n,e,fun q=>(kW a q).elim hw fun z=>(by rw[hg] at z;exact kS z),k a _ (.inl hw) hg,hl,ab.move k kW ds _ ha⟩
 |.dict ks ds,v,r=>by
  simp only[aw] at r ⊢;obtain⟨x,a,o,e,ev,nt,g,ko,sy,hk,hv,hl⟩:=r;exact⟨x,a,o,e,ev,nt,k a o (.inr (.inr ko)) g,ko,sy,hk,hv,hl⟩
 |.thing ns ds,v,r=>by
  simp only[aw] at r ⊢;obtain⟨a,dx,n,ts,dv,e,hw,hg,hw2,hg2,h1,h2,h3⟩:=r;exact⟨a,dx,n,ts,dv,e,fun q=>(kW a q).elim hw fun z=>(by rw[hg] at z;exact kS z),k a _ (.inl hw) hg,fun q=>(kW dx q).elim hw2 fun z=>(by rw[hg2] at z;exact kS z),k dx _ (.inl hw2) hg2,h1,h2,ab.move k kW ds _ h3⟩
 |.lam id caps,v,r=>by
  simp only[aw] at r ⊢;obtain⟨a,cv,e,hw,hl,hc⟩:=r;refine⟨a,cv,e,fun q=>(kW a q).elim hw fun z=>?_,O.lamkeep _ _ _ _ _ _ _ hl k kW,ab.move k kW caps _ hc⟩;have:=O.lamthere _ _ _ _ _ hl;rw[z] at this;exact ce this
 |.bi n,_,r=>r
 |.slo lo hi,v,r=>by
  simp only[aw] at r ⊢;obtain⟨a,l,u,e,hw,hg,h1,h2⟩:=r;exact⟨a,l,u,e,fun q=>(kW a q).elim hw fun z=>(by rw[hg] at z;exact kS z),k a _ (.inl hw) hg,h1,h2⟩
 |.cx d,v,r=>by
  simp only[aw] at r ⊢;obtain⟨x,e,ev,hw,hg,h1,h2,h3⟩:=r;exact⟨x,e,ev,fun q=>(kW x.a q).elim hw fun z=>(by rw[hg] at z;exact kS z),k x.a _ (.inl hw) hg,h1,h2,aw.move k kW d _ h3⟩
theorem ab.move {h h':Heap}{W W':AP}(k:∀b o,(¬W b\/B.KO o)->h.get? b=some o->h'.get? b=some o)(kW:∀b,W' b->W b\/h.get? b=none):∀(ds:List D)(vs:List Value),ab B h W ds vs->ab B h' W' ds vs
 |[],_,r=>r
 |d::ds,vs,r=>by
  simp only[ab] at r ⊢;obtain⟨v,t,e,h1,h2⟩:=r;exact⟨v,t,e,aw.move k kW d v h1,ab.move k kW ds t h2⟩
end
end
theorem ab.length {h:Heap}{W:AP}:∀{ds:List D}{vs:List Value},ab B h W ds vs->vs.length=ds.length
 |[],_,r=>by simp only[ab] at r;subst r;rfl
 |d::ds,vs,r=>by
  simp only[ab] at r;obtain⟨v,t,rfl,J,h2⟩:=r;exact AZ BA<|AZ BA<|AZ (ab.length h2) rfl
theorem ab.nil {h:Heap}{W:AP}:ab B h W [] []:=by simp[ab]
theorem ab.cons {h:Heap}{W:AP}{d:D}{ds:List D}{v:Value}{vs:List Value}(a:aw B h W d v)(b:ab B h W ds vs):ab B h W (d::ds) (v::vs):=by
 simp only[ab];exact⟨v,vs,rfl,a,b⟩
theorem ab.append {h:Heap}{W:AP}:∀{ds es:List D}{vs us:List Value},ab B h W ds vs->ab B h W es us->ab B h W (ds++es) (vs++us)
 |[],_,_,_,r,q=>by simp only[ab] at r;subst r;exact q
 |d::ds,es,vs,us,r,q=>by
  simp only[ab] at r;obtain⟨v,t,rfl,h1,h2⟩:=r;exact ab.cons h1 (ab.append h2 q)
theorem ab.get {h:Heap}{W:AP}:∀{ds:List D}{vs:List Value}{i:Nat}{d:D},ab B h W ds vs->ds[i]?=some d->∃v,vs[i]?=some v/\aw B h W d v
 |[],_,_,_,_,e=>by simp at e
 |d::ds,vs,0,d',r,e=>by
  simp only[ab] at r;obtain⟨v,t,rfl,h1,h2⟩:=r;simp only[EL,Bl] at e;subst e;exact⟨v,rfl,h1⟩
 |d::ds,vs,i+1,d',r,e=>by
  simp only[ab] at r;obtain⟨v,t,rfl,h1,h2⟩:=r;exact ab.get (i:=i) h2 (e)
theorem ab.drop {h:Heap}{W:AP}:∀{ds:List D}{vs:List Value}(k:Nat),ab B h W ds vs->ab B h W (ds.drop k) (vs.drop k)
 |_,_,0,r=>r
 |[],vs,k+1,r=>by simp only[ab] at r;subst r;simp[ab]
 |d::ds,vs,k+1,r=>by
  simp only[ab] at r;obtain⟨v,t,rfl,h1,h2⟩:=r
  simpa using ab.drop k h2
theorem ab.take {h:Heap}{W:AP}:∀{ds:List D}{vs:List Value}(k:Nat),ab B h W ds vs->ab B h W (ds.take k) (vs.take k)
 |_,_,0,_=>by simp[ab]
 |[],vs,k+1,r=>by simp only[ab] at r;subst r;simp[ab]
 |d::ds,vs,k+1,r=>by
  simp only[ab] at r;obtain⟨v,t,rfl,h1,h2⟩:=r;exact ab.cons h1 (ab.take k h2)
theorem yg {n:Nat}{v:Value}(h:eE n=some v):F8 v=true:=bf (P:=fun J v=>F8 v=true) (by decide +kernel) n v h
theorem aw.handed {h:Heap}{W:AP}{d:D}{v:Value}(r:aw B h W d v):F8 v=true:=by
 cases d<;>simp only[aw] at r
 case nil=>subst r;rfl
 case bool=>subst r;rfl
 case int=>refine x1 r fun J e91=>?_;subst e91;rfl
 case str=>refine aS r fun p91 J=>?_;obtain⟨J,rfl⟩:=p91;rfl
 case list=>obtain⟨J,J,J,rfl,J⟩:=r;rfl
 case tup=>obtain⟨J,J,J,rfl,J⟩:=r;rfl
 case dict=>obtain⟨J,J,J,J,rfl,J⟩:=r;rfl
 case thing=>obtain⟨J,J,J,J,J,rfl,J⟩:=r;rfl
 case lam=>obtain⟨J,J,rfl,J⟩:=r;rfl
 case slo=>obtain⟨J,J,J,rfl,J⟩:=r;rfl
 case cx=>obtain⟨J,J,rfl,J⟩:=r;rfl
 case bi=>exact yg r
theorem iq {h:Heap}{W:AP}{i:Int}{t:Tok}:aw B h W (.int i) (.int i t):=⟨t,rfl⟩
theorem nY {h:Heap}{W:AP}{l:List Nat}{t:Tok}(hl:l.length<=lim):aw B h W (.str l) (.str ⟨l.toArray⟩ t):=⟨⟨t,rfl⟩,hl⟩
theorem j6 {h:Heap}{W:AP}{i:Int}{v:Value}(r:aw B h W (.int i) v):∃t,v=.int i t:=r
theorem jo {h:Heap}{W:AP}{l:List Nat}{v:Value}(r:aw B h W (.str l) v):∃t,v=.str ⟨l.toArray⟩ t/\l.length<=lim:=let ⟨⟨t,e⟩,hl⟩:=r;⟨t,e,hl⟩
theorem ay.refl (s:Be):ay B s s:=⟨fun _ _ _ e=>e,fun _ _ _ e=>e,Bq _,id,fun _ _ e=>e,id,rfl⟩
theorem ay.trans {s s' s'':Be}(a:ay B s s')(b:ay B s' s''):ay B s s'':=
 ⟨fun x o t e=>b.keep x o t (a.keep x o t e),fun x o t e=>b.ck x o t (a.ck x o t e),Bf a.size b.size,fun t=>b.ti (a.ti t),fun i x e=>b.gens i x (a.gens i x e),fun t=>b.bare (a.bare t),b.os.trans a.os⟩
theorem ay.toks {s:Be}(t:Nat):ay B s { s with toks:=t }:=⟨fun _ _ _ e=>e,fun _ _ _ e=>e,Bq _,id,fun _ _ e=>e,id,rfl⟩
theorem ay.heap (O:B.Ok){s:Be}{h':Heap}(t:Nat)(k:∀b o,s.heap.get? b=some o->h'.get? b=some o)(hs:s.heap.objs.size<=h'.objs.size):ay B s { s with heap:=h',toks:=t }:=
 ⟨fun b o _ e=>k b o e,fun b o _ e=>k b o e,hs,fun x=>O.tikeep _ _ x fun b o _ e=>k b o e,fun _ _ e=>e,id,rfl⟩
theorem ay.push (O:B.Ok){s:Be}(o:Obj) (t:Nat):ay B s { s with heap:=s.heap.push o,toks:=t }:=
 ay.heap O t (fun J J e=>By o e) (by refine AZ (BM _ _) ?_;lia)
theorem ay.kW {s s':Be}{W:AP}(e:ay B s s')(tW:∀b,B.T b->W b):∀b o,(¬W b\/B.KO o)->s.heap.get? b=some o->s'.heap.get? b=some o:=
 fun b o n q=>n.elim (fun n=>e.keep b o (fun t=>n (tW b t)) q) fun n=>e.ck b o n q
theorem aK.move {s s':Be}(g:aK B s)(e:ay B s s'):aK B s':=
 ⟨fun b o t x=>e.keep b o t (g.base b o t x),Bf g.size e.size,e.ti g.ti,fun b t=>Ba (g.tlt b t) e.size⟩
theorem aK.hi {s:Be}(g:aK B s){b:Addr}(h:s.heap.objs.size<=b):B.Hi b:=⟨Bf g.size h,fun t=>Bd _ (Ba (g.tlt b t) h)⟩
theorem aw.eff (O:B.Ok){s s':Be}{W:AP}{d:D}{v:Value}(tW:∀b,B.T b->W b)(r:aw B s.heap W d v)(e:ay B s s'):aw B s'.heap W d v:=
 aw.move O (e.kW tW) (fun _ q=>.inl q) d v r
theorem ab.eff (O:B.Ok){s s':Be}{W:AP}{d:List D}{v:List Value}(tW:∀b,B.T b->W b)(r:ab B s.heap W d v)(e:ay B s s'):ab B s'.heap W d v:=
 ab.move O (e.kW tW) (fun _ q=>.inl q) d v r
theorem aw.less (O:B.Ok){h:Heap}{W W':AP}{d:D}{v:Value}(r:aw B h W d v)(k:∀b,W' b->W b):aw B h W' d v:=
 aw.move O (fun _ _ _ x=>x) (fun b q=>.inl (k b q)) d v r
theorem ab.less (O:B.Ok){h:Heap}{W W':AP}{d:List D}{v:List Value}(r:ab B h W d v)(k:∀b,W' b->W b):ab B h W' d v:=
 ab.move O (fun _ _ _ x=>x) (fun b q=>.inl (k b q)) d v r
theorem CN.moved {h h':Heap}{a:Addr}{m:Str->Option Value}(n:h.Ns a m)(k:∀o,h.get? a=some o->h'.get? a=some o):h'.Ns a m:=
 let ⟨o,es,ep,e,r⟩:=n;⟨o,es,ep,k _ e,r⟩
theorem C5.moved {h h':Heap}{a:Addr}{v:Option Value}(n:h.IsCell a v)(k:∀o,h.get? a=some o->h'.get? a=some o):h'.IsCell a v:=
 let ⟨o,e,r⟩:=n;⟨o,k _ e,r⟩
theorem Ns.uniq {h:Heap}{a:Addr}{m m':Str->Option Value}(n:h.Ns a m)(n':h.Ns a m'):m=m':=by
 refine x33 n fun o es ep e hd J hm=>?_;refine x33 n' fun o' es' ep' e' hd' J hm'=>?_;obtain rfl:=A0 (e.symm.trans e');replace hd':=hd▸hd';cases hd'
 funext x;exact AZ (BE (hm _))<|AZ (BE (hm' _)) rfl
theorem IsCell.uniq {h:Heap}{a:Addr}{m m':Option Value}(n:h.IsCell a m)(n':h.IsCell a m'):m=m':=by
 refine ak n fun o e hd=>?_;refine ak n' fun o' e' hd'=>?_;obtain rfl:=A0 (e.symm.trans e');replace hd':=hd▸hd';cases hd';rfl
theorem dA.uniq {pe:Env}{h:Heap}{x:Nat}{v v':Value}(l:dA B pe h x v)(l':dA B pe h x v'):v=v':=by
 rcases l with⟨k,m,n,e⟩|⟨k,c,e,hc⟩<;>rcases l' with⟨k',m',n',e'⟩|⟨k',c',e',hc'⟩
 ·rw[Ns.uniq n n'] at e;obtain rfl:=A0 (e.symm.trans e');rfl
 ·rw[k] at k';rcases k' with k'|k'<;>cases k'
 ·rw[k'] at k;rcases k with k|k<;>cases k
 ·obtain rfl:=A0 (e.symm.trans e')
  have:=IsCell.uniq hc hc';obtain rfl:=A0 this;rfl
theorem jV {bs bs':List Addr}{n n':Nat}{h:Heap}{c:Addr}(a:h.get? c=some { cls:=.type "list", dict:=none,data:=.seq (bs.map Value.ref).toArray n,slots:=#[] }) (b:h.get? c=some { cls:=.type "list", dict:=none,data:=.seq (bs'.map Value.ref).toArray n',slots:=#[] }):bs=bs':=by
 have:=A0 (a.symm.trans b)
 injection this with _ _ q _
 injection q with q _
 have q:=congrArg GH q;exact(List.map_inj_right (fun x y e=>by injection e)).mp q
theorem aU.back {L:Addr}{h h':Heap}{Wc W:AP}{en:fu}{v:Value}{b:Addr}(r:aX B L h Wc W en v)(k:∀c o,¬W c->h.get? c=some o->h'.get? c=some o)(o:aU h' en v b):aU h en v b:=by
 cases en with
 |fz d=>exact o
 |sealed d=>exact o
 |own l=>exact o
 |ownD l=>exact o
 |own2 l=>
  obtain⟨c,bs,n,rfl,w,g,J⟩:=r;refine yn o fun c' bs' n' e g' m=>?_;obtain rfl:=Value.ref.inj e;obtain rfl:=jV (k c _ w g) g';exact⟨c,bs,n,rfl,g,m⟩
noncomputable def gu (B:Bs)(L:Addr)(h:Heap)(b:Addr):Prop:=(∃vs n,h.get? b=some { cls:=.type "list", dict:=none,data:=.seq vs n,slots:=#[] })\/b≠L/\∃kvs:List (Str×Value),h.DictOf (B4 B.prog B.w) b kvs/\∀q∈kvs,q.2=.none
theorem aU.w {L:Addr}{h:Heap}{Wc W:AP}{en:fu}{v:Value}{b:Addr}(r:aX B L h Wc W en v)(o:aU h en v b):(W b/\¬Wc b)/\gu B L h b:=by
 cases en with
 |fz d=>exact o.elim
 |sealed d=>exact o.elim
 |own l=>
  obtain⟨a,vs,n,rfl,h1,h2,h3,J⟩:=r;obtain rfl:=Value.ref.inj o;exact⟨⟨h1,h2⟩,.inl ⟨vs,n,h3⟩⟩
 |ownD l=>
  obtain⟨a,rfl,h1,h2,h3,J,h4⟩:=r;obtain rfl:=Value.ref.inj o;exact⟨⟨h1,h2⟩,.inr ⟨h3,_,h4,fun q m=>by refine ak (BC.mp m) fun J J e91=>?_;subst e91;rfl⟩⟩
 |own2 l=>
  obtain⟨c,bs,n,rfl,w,g,J,len,J,r⟩:=r;refine yn o fun c' bs' n' e g' m=>?_;obtain rfl:=Value.ref.inj e;obtain rfl:=jV g g';obtain⟨i,hi,rfl⟩:=List.mem_iff_getElem.mp m;obtain⟨a,vs,n,e,h1,h2,h3,J⟩:=r i bs[i] (l[i]'(len▸hi)) (CA hi) (CA _);obtain rfl:=Value.ref.inj e;exact⟨⟨h1,h2⟩,.inl ⟨vs,n,h3⟩⟩
theorem aX.map {L L':Addr}{h h':Heap}{Wc W Wc' W':AP}{en:fu}{v:Value}(r:aX B L h Wc W en v)(up:∀d u,aw B h W d u->aw B h' W' d u)(upA:∀d u,ab B h W d u->ab B h' W' d u)(kc:∀c o,¬W c->h.get? c=some o->h'.get? c=some o/\¬W' c)
  (ko:∀b,aU h en v b->W b->¬Wc b->gu B L h b->(W' b/\¬Wc' b)/\∀o,h.get? b=some o->h'.get? b=some o) (hL:∀b,W b->b≠L->b≠L'):aX B L' h' Wc' W' en v:=by
 have k1:∀{l u b},si B h Wc W l u->u=.ref b->aU h en v b->si B h' Wc' W' l u:=fun{l u b} r hu o=>by
  obtain⟨a,vs,n,rfl,h1,h2,h3,h4,h5⟩:=r;obtain rfl:=Value.ref.inj hu;obtain⟨⟨w,wc⟩,k⟩:=ko a o h1 h2 (.inl ⟨vs,n,h3⟩);exact⟨a,vs,n,rfl,w,wc,k _ h3,h4,upA _ _ h5⟩
 cases en with
 |fz d=>exact up d v r
 |sealed d=>exact up d v r
 |own l=>
  have r':=r;obtain⟨a,vs,n,e,J⟩:=r;exact k1 r' e e
 |ownD l=>
  obtain⟨a,rfl,h1,h2,h3,hs,h4⟩:=r;obtain⟨⟨w,wc⟩,k⟩:=ko a rfl h1 h2 (.inr ⟨h3,_,h4,fun q m=>by refine ak (BC.mp m) fun J J e91=>?_;subst e91;rfl⟩);exact⟨a,rfl,w,wc,hL a h1 h3,hs,PySem.Heap.DictOf.at h4 fun o q=>k o q⟩
 |own2 l=>
  obtain⟨c,bs,n,rfl,w,g,nd,len,hl,r⟩:=r;refine aS (kc c _ w g) fun g' w'=>?_;exact⟨c,bs,n,rfl,w',g',nd,len,hl,fun i b l hb hl=>k1 (r i b l hb hl) rfl ⟨c,bs,n,rfl,g,Co hb⟩⟩
section
variable {Γ:aj}{Wc W:AP}{pe:Env}{ρ:ac}{s s':Be}
theorem Ctx.owns' {h':Heap}{pe':Env}(X:Ctx B Γ Wc W pe ρ s)(mv:∀y w,dA B pe s.heap y w->dA B pe' h' y w)(k:∀c o,¬W c->s.heap.get? c=some o->h'.get? c=some o):∀x y e e' v v' b,ρ x=some e->ρ y=some e'->dA B pe' h' x v->dA B pe' h' y v'->aU h' e v b->aU h' e' v' b->x=y:=by
 intro x y e e' v v' b hx hy lx ly o1 o2;refine ak (X.vars x _ hx) fun u l1 r1=>?_;refine ak (X.vars y _ hy) fun u' l2 r2=>?_;obtain rfl:=dA.uniq lx (mv _ _ l1);obtain rfl:=dA.uniq ly (mv _ _ l2);exact X.owns x y _ _ _ _ b hx hy l1 l2 (aU.back r1 k o1) (aU.back r2 k o2)
theorem Ctx.cellT (X:Ctx B Γ Wc W pe ρ s){x:Nat}{c:Addr}(e:pe.cells.lookup (B.nm x)=some c):¬B.T c:=by
 rcases X.cellW x c e with q|q
 ·refine ak (X.sealedW x q) fun c' e' hw=>?_
  obtain rfl:=A0 (e.symm.trans e');exact fun t=>hw (X.cW _ (X.tW _ t))
 ·exact fun t=>q.2 (X.tW _ t)
theorem Ctx.locmove (X:Ctx B Γ Wc W pe ρ s)(e:ay B s s'){x:Nat}{v:Value}(l:dA B pe s.heap x v):dA B pe s'.heap x v:=by
 rcases l with⟨k,m,n,q⟩|⟨k,c,q,hc⟩
 ·exact .inl ⟨k,m,CN.moved n fun o y=>e.keep _ _ (fun t=>X.locW.2 (X.tW _ t)) y,q⟩
 ·exact .inr ⟨k,c,q,C5.moved hc fun o y=>e.keep _ _ (X.cellT q) y⟩
theorem Ctx.move (O:B.Ok)(X:Ctx B Γ Wc W pe ρ s)(e:ay B s s'):Ctx B Γ Wc W pe ρ s' where
 good:=X.good.move e
 fn:=X.fn
 glob:=X.glob
 blt:=X.blt
 tW:=X.tW
 cW:=X.cW
 wlt:=fun b q=>Ba (X.wlt b q) e.size
 loc:=let ⟨m,n,z⟩:=X.loc;⟨m,CN.moved n fun o y=>e.keep _ _ (fun t=>X.locW.2 (X.tW _ t)) y,z⟩
 locW:=X.locW
 ow:=X.ow
 code:=X.code
 kinds:=X.kinds
 cells:=fun x c q=>let ⟨⟨v,hv⟩,ht⟩:=X.cells x c q;⟨⟨v,C5.moved hv fun o y=>e.keep _ _ ht y⟩,ht⟩
 apart:=X.apart
 cellW:=X.cellW
 vars:=fun x en q=>by
  refine ak (X.vars x en q) fun v l r=>?_;refine⟨v,X.locmove e l,?_⟩;exact r.map (fun d u r=>aw.eff O (fun b t=>X.cW _ (X.tW _ t)) r e) (fun d u r=>ab.eff O (fun b t=>X.cW _ (X.tW _ t)) r e) (fun c o w q=>⟨e.keep c o (fun t=>w (X.cW _ (X.tW _ t))) q,w⟩) (fun b J w wc J=>⟨⟨w,wc⟩,fun o q=>e.keep b o (fun t=>wc (X.tW _ t)) q⟩) fun J J q=>q
 sealedW:=X.sealedW
 owns:=X.owns' (fun J J l=>X.locmove e l) fun c o w q=>e.keep c o (fun t=>w (X.cW _ (X.tW _ t))) q
end
end Mine
namespace Mine
variable {B:Bs}{K:Nat}
inductive SeqB (h:Heap) (len:Nat)(v:Value)(P:List Value->Prop):Prop
 |mk (a:Addr) (vs:Array Value) (n:Nat) (e:v=.ref a) (g:h.get? a=some { cls:=.type "list", dict:=none,data:=.seq vs n,slots:=#[] }) (l:len<=lim) (r:P vs.toList)
noncomputable def bK (B:Bs)(h:Heap)(W:AP)(d:D)(v:Value):Prop:=match d with
 |.list ds=>SeqB h ds.length v (ab B h W ds)
 |d=>aw B h W d v
theorem aw.b {h:Heap}{W:AP}{d:D}{v:Value}(r:aw B h W d v):bK B h W d v:=by
 cases d with
 |list ds=>simp only[aw] at r;obtain⟨a,vs,n,e,J,g,l,q⟩:=r;exact⟨a,vs,n,e,g,l,q⟩
 |_=>exact r
theorem rF {h:Heap}{W:AP}{i:Int}{v:Value}(r:bK B h W (.int i) v):∃t,v=.int i t:=r
theorem hV {h:Heap}{W:AP}{l:List Nat}{v:Value}(r:bK B h W (.str l) v):∃t,v=.str ⟨l.toArray⟩ t/\l.length<=lim:=jo (B:=B) (h:=h) (W:=W) r
theorem bK.eff (O:B.Ok){s s':Be}{W:AP}{d:D}{v:Value}(tW:∀b,B.T b->W b)(hT:∀a,v=.ref a->¬B.T a)(r:bK B s.heap W d v)(e:ay B s s'):bK B s'.heap W d v:=by
 cases d with
 |list ds=>
  obtain⟨a,vs,n,rfl,g,l,ra⟩:=r;exact⟨a,vs,n,rfl,e.keep _ _ (hT a rfl) g,l,ab.eff O tW ra e⟩
 |_=>exact aw.eff O tW r e
structure Pv where
 a:Addr->Prop
 g:Nat->Prop
structure ao (B:Bs)(p:Pv)(s s':Be):Prop where
 keep:∀b o,¬B.T b->¬p.a b->s.heap.get? b=some o->s'.heap.get? b=some o
 ck:∀b o,B.KO o->s.heap.get? b=some o->s'.heap.get? b=some o
 size:s.heap.objs.size<=s'.heap.objs.size
 ti:B.TI s.heap->B.TI s'.heap
 gens:∀(i:Nat) (x:En),¬p.g i->s.gens[i]?=some x->s'.gens[i]?=some x
 gsize:s.gens.size<=s'.gens.size
 bare:AllBare s.gens->AllBare s'.gens
 os:s'.os=s.os
noncomputable def tA (T:String):Bool:=["list_iterator", "tuple_iterator", "str_iterator", "str_ascii_iterator", "range_iterator", "generator"].contains T
structure bL (B:Bs) (K:Nat)(F:AP)(it:Addr)(I:List D->Pv->Be->Prop):Prop where
 sub:∀l p s,I l p s->∀b,p.a b->¬F b/\¬B.T b/\b < s.heap.objs.size
 subg:∀l p s,I l p s->∀i,p.g i->i < s.gens.size
 ft:∀l p s,I l p s->∀b,F b->¬B.T b
 ty:∀l p s,I l p s->∃T,s.TypeIs (.ref it) T/\tA T=true
 stay:∀l p s s',I l p s->(∀b o,¬B.T b->(F b\/p.a b)->s.heap.get? b=some o->s'.heap.get? b=some o)->(∀b o,B.KO o->s.heap.get? b=some o->s'.heap.get? b=some o)->s.heap.objs.size<=s'.heap.objs.size->
  (∀(i:Nat) (x:En),p.g i->s.gens[i]?=some x->s'.gens[i]?=some x)->aK B s'->I l p s'
 next:∀d l p s A E (Q:Option Value->Be->Prop),I (d::l) p s->aK B s->aD A (K - 4)->
  (∀v s' p',ao B p s s'->(∀b,p.a b->p'.a b)->(∀b,p'.a b->p.a b\/s.heap.objs.size<=b)->p'.g=p.g->aw B s'.heap (fun b=>¬F b) d v->I l p' s'->Q (some v) s')->
  wpAny B.M A (Ec (.ref it)) Q E s
 done:∀p s A E (Q:Option Value->Be->Prop),I [] p s->aK B s->aD A (K - 4)->(∀s',ao B p s s'->Q none s')->wpAny B.M A (Ec (.ref it)) Q E s
 self:∀l p s A E (Q:VS),I l p s->aK B s->aD A (K - 4)->Q (.ref it) s->wpAny B.M A (Gp (.ref it)) Q E s
inductive AV (W:AP)(v:Value)(l:List D)(s':Be):Prop
 |mk (r:Addr) (lo n:Int) (t u z:Tok) (e:v=.ref r) (w:¬W r) (h:IsRange s'.heap r lo n 1 t u z) (hs:(-(lim:Int)<=lo/\lo<=lim)/\-(lim:Int)<=n/\n<=lim) (hl:(n - lo).toNat<=lim) (el:l=(Bn (n - lo).toNat).map fun(i:Nat)=>D.int (lo+i))
inductive GenRep (B:Bs) (K:Nat)(s:Be)(W:AP)(v:Value)(l:List D)(s':Be):Prop
 |mk (a:Addr) (F:AP) (p:Pv) (I:List D->Pv->Be->Prop) (e:v=.ref a) (ty:∀l p s,I l p s->s.TypeIs (.ref a) "generator") (ok:bL B K F a I) (i:I l p s') (f:∀b,F b->¬W b/\b < s'.heap.objs.size) (pa:∀b,p.a b->s.heap.objs.size<=b) (pg:∀i,p.g i->s.gens.size<=i) (hl:l.length<=lim)
noncomputable def uk (B:Bs) (K:Nat)(s:Be)(W:AP)(v:Value)(l:List D)(s':Be):Prop:=AV W v l s'\/GenRep B K s W v l s'
noncomputable def bS (B:Bs) (K:Nat)(s:Be)(W:AP)(r:R)(v:Value)(s':Be):Prop:=match r with
 |.d x=>aw B s'.heap W x v
 |.own l=>bK B s'.heap W (.list l) v/\∀a,v=.ref a->¬B.T a
 |.it l=>uk B K s W v l s'
noncomputable abbrev i6:Value->Be->Prop:=fun J J=>False
inductive cu (B:Bs) (K:Nat) (f:Nat)(args:List D)(d:D):Prop
 |mk (fa:Addr) (fo:Obj) (fd:Cu) (m:B.mg (B.nm f)=some (.ref fa)) (t:¬B.T fa) (g:B.h₀.get? fa=some fo) (e:fo.data=.func fd) (r:∀A s W vals,aK B s->aD A K->(∀b,B.T b->W b)->(∀b,W b->b < s.heap.objs.size)->ab B s.heap W args vals->
   C3 B.M A (.call (.ref fa) ⟨vals,[]⟩) (fun r s'=>∃v,r=.ok (.ret v)/\ay B s s'/\aw B s'.heap W d v) s)
noncomputable def dz (B:Bs) (K:Nat) (id:Nat)(caps args:List D)(d:D):Prop:=
 ∀fa cv A s W vals,aK B s->aD A K->(∀b,B.T b->W b)->(∀b,W b->b < s.heap.objs.size)->B.Lam id cv s.heap W fa->ab B s.heap W caps cv->ab B s.heap W args vals->
  C3 B.M A (.call (.ref fa) ⟨vals,[]⟩) (fun r s'=>∃v,r=.ok (.ret v)/\ay B s s'/\aw B s'.heap W d v) s
noncomputable def fv (B:Bs) (K:Nat) (id:Nat)(caps args:List D)(l:List D):Prop:=
 ∀fa cv A s W vals,aK B s->aD A K->(∀b,B.T b->W b)->(∀b,W b->b < s.heap.objs.size)->B.Lam id cv s.heap W fa->ab B s.heap W caps cv->ab B s.heap W args vals->
  C3 B.M A (.call (.ref fa) ⟨vals,[]⟩) (fun r s'=>∃v,r=.ok (.ret v)/\ay B s s'/\uk B K s W v l s') s
structure bD (B:Bs) (K:Nat)(Φ:bU):Prop where
 call:∀f args d,Φ.call f args=some d->cu B K f args d
 lam:∀id caps args d,Φ.lam id (caps++args)=some d->dz B K id caps args d
 gen:∀id caps args l,Φ.lam id (caps++args)=none->Φ.gen id (caps++args)=some l->fv B K id caps args l
noncomputable def bg (B:Bs) (K:Nat)(Φ:bU)(e:E):Prop:=∀Γ ρ r,ev Φ Γ ρ e=some r->∀Wc W pe A s,Ctx B Γ Wc W pe ρ s->aD A K->
 wpAny B.M A (eval (e.py B.nm) pe) (fun v s'=>ay B s s'/\bS B K s W r v s') i6 s
noncomputable def eU (B:Bs) (K:Nat)(Φ:bU)(e:E):Prop:=∀Γ ρ b,cT Φ Γ ρ e=some b->∀Wc W pe A s,Ctx B Γ Wc W pe ρ s->aD A K->
 wpAny B.M A (Fs (e.py B.nm) pe (eval (e.py B.nm) pe)) (fun c s'=>ay B s s'/\c=b) i6 s
theorem Ctx.tW' {Γ:aj}{Wc W:AP}{pe:Env}{ρ:ac}{s:Be}(X:Ctx B Γ Wc W pe ρ s):∀b,B.T b->W b:=fun b t=>X.cW b (X.tW b t)
theorem AI {n:Nat}{a:Addr}(h:eE n=some (.ref a)):False:=DW (show false=true from bf (P:=fun(_:Nat)(v:Value)=>(match v with|.ref _=>false|_=>true)=true) (by decide) n (.ref a) h)
theorem aw.notT {h:Heap}{W:AP}(tW:∀b,B.T b->W b){d:D}{v:Value}(r:aw B h W d v):∀a,v=.ref a->¬B.T a:=by
 intro a e t;subst e
 cases d<;>simp only[aw] at r
 case nil=>exact nomatch r
 case bool=>exact nomatch r
 case int=>obtain⟨J,q⟩:=r;exact nomatch q
 case str=>refine aS r fun p91 J=>?_;obtain⟨J,q⟩:=p91;exact nomatch q
 case list=>obtain⟨J,J,J,q,hw,J⟩:=r;cases q;exact hw (tW _ t)
 case tup=>obtain⟨J,J,J,q,hw,J⟩:=r;cases q;exact hw (tW _ t)
 case dict=>obtain⟨J,J,J,J,q,nt,J⟩:=r;cases q;exact nt t
 case thing=>obtain⟨J,J,J,J,J,q,hw,J⟩:=r;cases q;exact hw (tW _ t)
 case lam=>obtain⟨J,J,q,hw,J⟩:=r;cases q;exact hw (tW _ t)
 case bi=>exact AI r
 case slo=>obtain⟨J,J,J,q,hw,J⟩:=r;cases q;exact hw (tW _ t)
 case cx=>obtain⟨J,J,q,hw,J⟩:=r;cases q;exact hw (tW _ t)
theorem bS.asB {s s':Be}{W:AP}(tW:∀b,B.T b->W b){r:R}{v:Value}{x:D}(e:r.asB=some x)(p:bS B K s W r v s'):bK B s'.heap W x v/\∀a,v=.ref a->¬B.T a:=by
 cases r with
 |d y=>obtain rfl:=A0 e;exact⟨aw.b p,aw.notT tW p⟩
 |own l=>obtain rfl:=A0 e;exact p
 |it l=>exact ah e
theorem bS.asD {s s':Be}{W:AP}{r:R}{v:Value}{x:D}(e:r.asD=some x)(p:bS B K s W r v s'):aw B s'.heap W x v:=by
 cases r with
 |d y=>obtain rfl:=A0 e;exact p
 |own l=>exact ah e
 |it l=>exact ah e
section
variable {Φ:bU}{K:Nat}(O:B.Ok)
include O
theorem snd_int {i:Int}{p:Pos}:bg B K Φ (.int i p):=by
 intro Γ ρ r h Wc W pe A s X R;simp only[sC,Bl] at h;subst h;exact wpAny_Constant_int ⟨ay.toks _,by simp only[bS,aw];exact⟨_,rfl⟩⟩
theorem snd_str {l:List Nat}{p:Pos}:bg B K Φ (.str l p):=by
 intro Γ ρ r h Wc W pe A s X R;simp only[sv,mkS,Bt] at h;obtain⟨d,h,rfl⟩:=h
 split at h
 ·obtain rfl:=A0 h
  refine Gf ⟨ay.toks _,?_⟩;exact⟨⟨_,rfl⟩,by assumption⟩
 ·exact ah h
theorem snd_nil {p:Pos}:bg B K Φ (.nil p):=by
 intro Γ ρ r h Wc W pe A s X R;simp only[sx,Bl] at h;subst h;show wpAny _ _ (pure Value.none) _ _ _;exact Bk ⟨ay.refl _,by simp only[bS,aw]⟩
theorem Ctx.name {Γ:aj}{Wc W:AP}{pe:Env}{ρ:ac}{s:Be}{A:BO}{E:VS}(X:Ctx B Γ Wc W pe ρ s){x:Nat}{v:Value}{Q:VS}(l:dA B pe s.heap x v)(h:Q v s)
  (hd:(B.nm x==("__classdict__" : Str))=false):wpAny B.M A (loadName pe (B.nm x)) Q E s:=by
 rcases l with⟨k,m,n,q⟩|⟨k|k,c,q,hc⟩
 ·exact BF X.fn k n q h
 ·exact wpAny_loadName_cell X.fn k q hc h
 ·exact wpAny_loadName_free X.fn k q hc h hd
end
end Mine
namespace Mine
variable {B:Bs}
theorem mapM_nil {α β:Type}{f:α->Option β}:([]:List α).mapM f=some []:=by simp
theorem ix {α β:Type}{f:α->Option β}{a:α}{l:List α}{r:List β}(h:(a::l).mapM f=some r):∃b t,f a=some b/\l.mapM f=some t/\r=b::t:=by
 rw[CQ] at h
 cases hb:f a with
 |none=>rw[hb] at h;exact ah h
 |some b=>
  replace h:=hb▸h
  cases ht:l.mapM f with
  |none=>rw[ht] at h;exact ah h
  |some t=>rw[ht] at h;obtain rfl:=A0 h;exact⟨b,t,rfl,rfl,rfl⟩
theorem gB {h:Heap}{W:AP}{f:D->Option PyData}(hf:∀d p v,f d=some p->aw B h W d v->(∃as,Reads h v p as)/\p.canLay0=true):∀{l:List D}{ps:List PyData}{vs:List Value},l.mapM f=some ps->ab B h W l vs->(∃as,ReadsAll h vs ps as)/\PyData.canLayAll0 ps=true
 |[],ps,vs,e,r=>by
  obtain rfl:=A0 (mapM_nil.symm.trans e);simp only[ab] at r;subst r;exact⟨⟨_,.nil⟩,rfl⟩
 |d::l,ps,vs,e,r=>by
  refine kJ (ix e) fun p t e1 e2 e91=>?_;subst e91;simp only[ab] at r;obtain⟨v,u,rfl,r1,r2⟩:=r;refine aS (hf d p v e1 r1) fun p91 c1=>?_;obtain⟨as,ra⟩:=p91;refine aS (gB hf e2 r2) fun p91 c2=>?_;obtain⟨bs,rb⟩:=p91;exact⟨⟨_,.cons ra rb⟩,by simp[PyData.canLayAll0,c1,c2]⟩
theorem gK {f:D->Option PyData}{n:Nat}(hf:∀d p,f d=some p->p.depth<=n):∀{l:List D}{ps:List PyData},l.mapM f=some ps->PyData.depthAll ps<=n
 |[],ps,e=>by obtain rfl:=A0 (mapM_nil.symm.trans e);simp[PyData.depthAll]
 |d::l,ps,e=>by
  refine kJ (ix e) fun p t e1 e2 e91=>?_;subst e91;exact Nat.max_le.mpr ⟨hf d p e1,gK hf e2⟩
set_option tactic.hygienic true in
theorem gi:∀(n:Nat)(d:D)(p:PyData),D.pd n d=some p->p.depth<=n
 |0,_,_,e=>ah (show none=some _ from e)
 |n+1,d,p,e=>by
  cases d
  case nil=>cases e;exact Cp _
  case bool=>cases e;exact Cp _
  case int=>cases e;exact Cp _
  case str=>refine aS (aJ e) fun J e91=>?_;subst e91;exact Cp _
  case list l=>
   refine ak (aI e) fun ps e1 e91=>?_;subst e91;exact Cs (gK (fun d p h=>gi n d p h) e1)
  case tup l=>
   refine ak (aI e) fun ps e1 e91=>?_;subst e91;exact Cs (gK (fun d p h=>gi n d p h) e1)
  all_goals exact ah e
theorem str_ok {l:List Nat}(h:l.all (· < 1114112)=true):(PyData.str (cR l)).canLay0=true:=by
 show((l.toArray).all (· < 0x110000))=true;refine AZ List.all_toArray ?_;exact h
set_option tactic.hygienic true in
theorem dD {h:Heap}{W:AP}:∀(n:Nat)(d:D)(p:PyData)(v:Value),D.pd n d=some p->bK B h W d v->(∃as,Reads h v p as)/\p.canLay0=true
 |0,_,_,_,e,_=>ah (show none=some _ from e)
 |n+1,d,p,v,e,r=>by
  cases d
  case nil=>cases e;cases(show v=.none from r);exact⟨⟨_,.none⟩,rfl⟩
  case bool=>cases e;cases(show v=.bool _ from r);exact⟨⟨_,.bool _⟩,rfl⟩
  case int=>cases e;refine x1 (rF r) fun t e91=>?_;subst e91;exact⟨⟨_,.int _ _⟩,rfl⟩
  case str l=>refine aS (aJ e) fun h e91=>?_;subst e91;refine ak (hV r) fun t e91=>?_;subst e91;intro J;exact⟨⟨_,.str _ _⟩,str_ok h⟩
  case list l=>
   refine ak (aI e) fun ps e1 e91=>?_;subst e91;obtain⟨a,vs,m,rfl,g,J,ra⟩:=r;refine aS (gB (fun d p v h1 h2=>dD n d p v h1 (aw.b h2)) e1 ra) fun p91 c=>?_;obtain⟨as,rd⟩:=p91;exact⟨⟨_,.list g rfl rfl rd⟩,c⟩
  case tup l=>
   refine ak (aI e) fun ps e1 e91=>?_;subst e91;simp only[bK,aw] at r;obtain⟨a,vs,m,rfl,J,g,J,ra⟩:=r;refine aS (gB (fun d p v h1 h2=>dD n d p v h1 (aw.b h2)) e1 ra) fun p91 c=>?_;obtain⟨as,rd⟩:=p91;exact⟨⟨_,.tuple g rfl rfl rd⟩,c⟩
  all_goals exact ah e
section
variable {A:BO}{s:Be}{W:AP}{K:Nat}(O:B.Ok)
include O
omit O in
theorem sS (k:List Nat):∀(ks vs:List (List Nat))(kvs:List (Str×Value)),kvs.map (·.1)=ks.map cR->vs.length=ks.length->(∀(i:Nat)(y:List Nat),vs[i]?=some y->∃(q:Str×Value)(t:Tok),kvs[i]?=some q/\q.2=.str (cR y) t)->
  match D.dget (ks.map .str) (vs.map .str) k with
  |some d=>∃y t,d=.str y/\y∈vs/\DX kvs ⟨k.toArray⟩=some (.str (cR y) t)
  |none=>DX kvs ⟨k.toArray⟩=none
 |[],_,[],_,_,_=>by simp[D.dget,DX]
 |[],_,_::_,h,_,_=>nomatch h
 |_::_,_,[],h,_,_=>nomatch h
 |_::_,[],_,_,h,_=>nomatch h
 |x::ks,y::vs,(x',v)::kvs,h,hl,hv=>by
  simp only[Bo,Fw] at h;refine aS h fun e91=>?_;subst e91;intro h;refine sI (hv 0 y rfl) fun q t h0 h1=>?_;obtain rfl:=A0 h0;have ih:=sS k ks vs kvs h (D2 hl) fun i z e=>hv (i+1) z e
  by_cases e:x=k
  ·subst e
   simp only[D.dget,Bo,Ce,Cg,D.isStr,beq_self_eq_true,CJ,DX,cR,decide_true];exact⟨y,t,rfl,Bj,congrArg some h1⟩
  ·have e1:(x==k)=false:=beq_eq_false_iff_ne.mpr e
   have e2:decide (cR x=⟨k.toArray⟩)=false:=decide_eq_false fun q=>e (by have:=congrArg (fun z:Str=>z.cps.toList) q;simpa [cR] using this);have e3:D.dget ((x::ks).map .str) ((y::vs).map .str) k=D.dget (ks.map .str) (vs.map .str) k:=by simp only[D.dget,Bo,Ce,Cg,D.isStr,e1]
   have e4:DX ((cR x,v)::kvs) ⟨k.toArray⟩=DX kvs ⟨k.toArray⟩:=by simp only[DX,Cg,e2]
   refine AZ e3<|AZ e4 ?_
   cases hd:D.dget (ks.map .str) (vs.map .str) k with
   |some d=>rw[hd] at ih;refine kJ ih fun y' t' h2 h3 h4=>?_;exact⟨y',t',h2,Bi _ h3,h4⟩
   |none=>rw[hd] at ih;exact ih
set_option tactic.hygienic true in
theorem yK {h:Heap}{ks vs:List D}{v:Value}(r:AQ B h ks vs v):∃(kvs:List (Str×Value))(a:Addr),v=.ref a/\h.DictOf (B4 B.prog B.w) a kvs/\(a==C9)=false/\
  ∀k,match D.dget ks vs k with
  |some d=>∃y t,d=.str y/\y.length<=lim/\DX kvs ⟨k.toArray⟩=some (.str (cR y) t)
  |none=>DX kvs ⟨k.toArray⟩=none:=by
 obtain⟨x,a,o,e,rfl,nt,g,⟨x',es,n,kvs,e',c,d,hk1,hp,hk,nd,hv,hl,J⟩,sy,rfl,rfl,l⟩:=r;obtain rfl:=A0 (e.symm.trans e');refine⟨kvs,a,rfl,⟨o,es,n,g,c,d,hk1,hp,nd⟩,sy,fun k=>?_⟩;have:=sS k x.ks x.vs kvs hk hl hv
 split
 ·rename_i d hd
  rw[hd] at this;refine kJ this fun y t h1 h2 h3=>?_;exact⟨y,t,h1,l y h2,h3⟩
 ·rename_i hd
  rw[hd] at this;exact this
omit O in
theorem rD {x:D}(h:x.isN=true):x=.nil:=by cases x<;>first|rfl|exact ce h
omit O in
theorem Aj {x y:D}{b:Bool}(h:D.eq x y=some b):((∃a,x=.str a/\y=.nil/\false=b)\/(∃a,x=.nil/\y=.str a/\false=b)\/∃a c,x=.str a/\y=.str c/\(a==c)=b)\/∃p q,D.pd 5 x=some p/\D.pd 5 y=some q/\PyData.eqv p q=b:=by
 unfold D.eq at h
 cases hx:x.str? with
 |some a=>
  rw[hx] at h
  cases hy:y.str? with
  |some c=>rw[hy] at h;exact .inl (.inr (.inr ⟨a,c,str?_eq hx,str?_eq hy,A0 h⟩))
  |none=>rw[hy] at h;refine aS (aJ h) fun hn e=>?_;exact .inl (.inl ⟨a,str?_eq hx,rD hn,e⟩)
 |none=>
  rw[hx] at h
  cases hy:y.str? with
  |some c=>rw[hy] at h;refine aS (aJ h) fun hn e=>?_;exact .inl (.inr (.inl ⟨c,rD hn,str?_eq hy,e⟩))
  |none=>
   rw[hy] at h;refine ak (ai h) fun p hp h=>?_;refine ak (ai h) fun q hq h=>?_;exact .inr ⟨p,q,hp,hq,A0 h⟩
theorem cmp_eq {x y:D}{b:Bool}{u v:Value}(h:D.eq x y=some b)(rx:bK B s.heap W x u)(ry:bK B s.heap W y v)(R:aD A K){Q:VS}(hQ:Q (.bool b) s):
  wpAny B.M A (Hh .Eq u v) Q i6 s:=by
 rcases Aj h with(⟨a,rfl,rfl,rfl⟩|⟨a,rfl,rfl,rfl⟩|⟨a,c,rfl,rfl,rfl⟩)|⟨p,q,e1,e2,rfl⟩
 ·refine ak (hV rx) fun t e91=>?_
  subst e91;intro J
  cases(show v=.none from ry)
  exact SeqAt.RcAt.str_none _ t B.prog B.w _ Q hQ
 ·cases(show u=.none from rx)
  refine ak (hV ry) fun t e91=>?_;subst e91;intro J;exact SeqAt.RcAt.none_str _ t B.prog B.w _ Q hQ
 ·refine ak (hV rx) fun t e91=>?_
  subst e91;intro J;refine ak (hV ry) fun t' e91=>?_;subst e91;intro J;exact P.eq_str (by simpa using hQ)
 ·refine aS (dD 5 x p u e1 rx) fun p91 c1=>?_
  obtain⟨as,ra⟩:=p91;refine aS (dD 5 y q v e2 ry) fun p91 c2=>?_;obtain⟨bs,rb⟩:=p91;exact SeqAt.compareEq_reads ra rb c1 c2 (by have:=gi 5 x p e1;have:=R.units;have:min p.depth q.depth<=p.depth:=Gc _ _;lia) hQ
theorem cmp_ne {x y:D}{b:Bool}{u v:Value}(h:D.eq x y=some b)(rx:bK B s.heap W x u)(ry:bK B s.heap W y v)(R:aD A K){Q:VS}(hQ:Q (.bool (!b)) s):
  wpAny B.M A (Hh .NotEq u v) Q i6 s:=by
 rcases Aj h with(⟨a,rfl,rfl,rfl⟩|⟨a,rfl,rfl,rfl⟩|⟨a,c,rfl,rfl,rfl⟩)|⟨p,q,e1,e2,rfl⟩
 ·refine ak (hV rx) fun t e91=>?_
  subst e91;intro J
  cases(show v=.none from ry)
  exact SeqAt.RcNeAt.str_none _ t B.prog B.w _ Q hQ
 ·cases(show u=.none from rx)
  refine ak (hV ry) fun t e91=>?_;subst e91;intro J;exact SeqAt.RcNeAt.none_str _ t B.prog B.w _ Q hQ
 ·refine ak (hV rx) fun t e91=>?_
  subst e91;intro J;refine ak (hV ry) fun t' e91=>?_;subst e91;intro J;exact P.ne_str (by simpa [bne] using hQ)
 ·refine aS (dD 5 x p u e1 rx) fun p91 c1=>?_
  obtain⟨as,ra⟩:=p91;refine aS (dD 5 y q v e2 ry) fun p91 c2=>?_;obtain⟨bs,rb⟩:=p91;exact SeqAt.compareNe_reads ra rb c1 c2 (by have:=gi 5 x p e1;have:=R.units;have:min p.depth q.depth<=p.depth:=Gc _ _;lia) hQ
omit O in
theorem rW {f:Int->Int->Bool}{x y:D}{b:Bool}{u v:Value}(h:(x.int?.bind fun i=>y.int?.map fun j=>f i j)=some b)(rx:bK B s.heap W x u)(ry:bK B s.heap W y v):
  ∃i j t t',u=.int i t/\v=.int j t'/\f i j=b:=by
 refine ak (ai h) fun i hi h1=>?_;refine ak (aI h1) fun j hj h2=>?_;have:=int?_eq hi;subst this;have:=int?_eq hj;subst this;refine x1 (rF rx) fun t e=>?_;refine x1 (rF ry) fun t' e'=>?_;exact⟨i,j,t,t',e,e',h2⟩
omit O in
theorem tK {x:D}{l:List D}{b:Bool}(h:D.isIn x l=some b):∃p q,D.pd 5 x=some p/\D.pd 5 (.list l)=some (.list q)/\D.pd 5 (.tup l)=some (.tuple q)/\(q.any fun y=>PyData.eqv y p)=b:=by
 refine ak (ai h) fun p hp h=>?_;refine ak (ai h) fun q hq h=>?_;exact⟨p,q,hp,(show(List.mapM (D.pd 4) l).map _=_ from congrArg (Option.map PyData.list) hq),(show(List.mapM (D.pd 4) l).map _=_ from congrArg (Option.map PyData.tuple) hq),A0 h⟩
set_option tactic.hygienic true in
theorem cmp_in {x y:D}{b:Bool}{u v:Value}(h:D.memb x y=some b)(rx:bK B s.heap W x u)(ry:bK B s.heap W y v)(R:aD A K){Q:VS}(hQ:∀t,Q (.bool b) { s with toks:=t }):
  wpAny B.M A (Hh .In u v) Q i6 s:=by
 cases y
 case list l=>
  refine x23 (tK h) fun p q e1 e2 J e91=>?_;subst e91;refine aS (dD 5 x p u e1 rx) fun p91 c1=>?_;obtain⟨as,ra⟩:=p91;refine aS (dD 5 (.list l) (.list q) v e2 ry) fun p91 c2=>?_;obtain⟨bs,rb⟩:=p91;exact SeqAt.in_list_reads rb ra (by simpa [PyData.canLay0] using c2) c1 (by have:=gi 5 x p e1;have:=R.units;have:min (PyData.depthAll q) p.depth<=p.depth:=D0 _ _;lia) (hQ s.toks)
 case tup l=>
  refine x23 (tK h) fun p q e1 J e2 e91=>?_;subst e91;refine aS (dD 5 x p u e1 rx) fun p91 c1=>?_;obtain⟨as,ra⟩:=p91;refine aS (dD 5 (.tup l) (.tuple q) v e2 ry) fun p91 c2=>?_;obtain⟨bs,rb⟩:=p91;exact SeqAt.in_tuple_reads rb ra (by simpa [PyData.canLay0] using c2) c1 (by have:=gi 5 x p e1;have:=R.units;have:min (PyData.depthAll q) p.depth<=p.depth:=D0 _ _;lia) (hQ s.toks)
 case dict ks vs=>
  refine ak (aI h) fun k hk e91=>?_;subst e91;have:=str?_eq hk;subst this;refine ak (hV rx) fun t e91=>?_;subst e91;intro J;simp only[bK,aw] at ry;refine x23 (yK O ry) fun kvs a e91=>?_;subst e91;intro hd nsys hv;refine wpAny_in_of (knd:=B4 B.prog B.w) (k:=⟨k.toArray⟩) (by simp[B4,Value.isStrOf]) nsys hd.mapOf ?_;have e:(DX kvs ⟨k.toArray⟩).isSome=(D.dget ks vs k).isSome:=by
   have:=hv k
   split at this
   ·rename_i d e;refine kJ this fun y t J J h3=>?_;refine AZ h3<|AZ e ?_;rfl
   ·rename_i e;refine AZ this<|AZ e ?_;rfl
  refine AZ e ?_;exact hQ _
 all_goals exact ah h
omit O in
theorem oC {x:D}{b:Bool}{u:Value}(h:D.isNil x=some b)(rx:bK B s.heap W x u):GP u .none=pure b:=by
 cases x
 case nil=>obtain rfl:=A0 h;cases(show u=.none from rx);rfl
 case bool=>obtain rfl:=A0 h;cases(show u=.bool _ from rx);rfl
 case int=>obtain rfl:=A0 h;refine x1 (rF rx) fun J e91=>?_;subst e91;rfl
 case str=>obtain rfl:=A0 h;refine ak (hV rx) fun J e91=>?_;subst e91;intro J;rfl
 case list=>obtain rfl:=A0 h;obtain⟨J,J,J,rfl,J⟩:=rx;rfl
 case tup=>obtain rfl:=A0 h;simp only[bK,aw] at rx;obtain⟨J,J,J,rfl,J⟩:=rx;rfl
 case dict=>obtain rfl:=A0 h;simp only[bK,aw] at rx;obtain⟨J,J,J,J,rfl,J⟩:=rx;rfl
 all_goals exact ah h
theorem li {op:CmpOp}{x y:D}{b:Bool}{u v:Value}(h:D.cmp op x y=some b)(rx:bK B s.heap W x u)(ry:bK B s.heap W y v)(R:aD A K){Q:VS}(hQ':∀t,Q (.bool b) { s with toks:=t }):
  wpAny B.M A (Hh op u v) Q i6 s:=by
 cases op
 case Eq=>exact cmp_eq O h rx ry R (hQ' s.toks)
 case NotEq=>
  refine ak (aI h) fun c h' e91=>?_;subst e91;exact cmp_ne O h' rx ry R (hQ' s.toks)
 case Lt=>
  refine x42 (rW h rx ry) fun i j t t' e91=>?_;subst e91;intro e92;subst e92;intro e93;subst e93;exact P.lt_int (hQ' s.toks)
 case LtE=>
  refine x42 (rW h rx ry) fun i j t t' e91=>?_;subst e91;intro e92;subst e92;intro e93;subst e93;exact P.le_int (hQ' s.toks)
 case In=>exact cmp_in O h rx ry R hQ'
 case Gt=>
  refine x42 (rW (f:=fun i j=>decide (j < i)) h rx ry) fun i j t t' e91=>?_;subst e91;intro e92;subst e92;intro e93;subst e93;exact P.gt_int (hQ' s.toks)
 case GtE=>
  refine x42 (rW (f:=fun i j=>decide (j<=i)) h rx ry) fun i j t t' e91=>?_;subst e91;intro e92;subst e92;intro e93;subst e93;exact P.ge_int (hQ' s.toks)
 case Is=>
  refine aS (cq h) fun hn h1=>?_;have:=rD hn;subst this
  cases(show v=.none from ry)
  show wpAny _ _ (GP u .none >>= fun c=>pure (Value.bool c)) _ _ _;refine AZ (oC h1 rx) ?_;exact Bc (Bk (Bk (hQ' s.toks)))
 case IsNot=>
  refine aS (cq h) fun hn h0=>?_;refine ak (aI h0) fun c h1 e91=>?_;subst e91;have:=rD hn;subst this
  cases(show v=.none from ry)
  show wpAny _ _ (GP u .none >>= fun c=>pure (Value.bool (!c))) _ _ _;refine AZ (oC h1 rx) ?_;exact Bc (Bk (Bk (hQ' s.toks)))
 all_goals exact ah h
end
end Mine
namespace Mine
variable {B:Bs}
theorem aC (nm:Nat->Str)(e:E)(r:List Fi)(pe:Env):C6 (e.py nm::r) pe=(false,eval (e.py nm) pe)::C6 r pe:=by
 cases e<;>rfl
theorem aE {n:Nat}(h:n<=lim):n<=sizeLine:=by
 have:sizeLine=16777216:=by decide
 unfold lim at h;lia
theorem vW (a b:List Nat):(⟨a.toArray⟩++⟨b.toArray⟩:Str)=⟨(a++b).toArray⟩:=by
 show Str.mk (a.toArray++b.toArray)=_;simp
section
variable {A:BO}{s:Be}{W:AP}{K:Nat}(O:B.Ok)
include O
theorem dg {h:Heap}(tW:∀b,W b->b < h.objs.size){ds:List D}{vs:Array Value}(r:ab B h W ds vs.toList)(hl:ds.length<=lim):
  aw B (h.push { cls:=.type "list", data:=.seq vs }) W (.list ds) (.ref h.objs.size):=by
 exact⟨_,vs,0,rfl,fun q=>Bd _ (tW _ q),BD _ rfl,hl,ab.move O (fun b o J e=>By _ e) (fun b q=>.inl q) _ _ r⟩
theorem te {h:Heap}(tW:∀b,W b->b < h.objs.size){ds:List D}{vs:Array Value}(r:ab B h W ds vs.toList)(hl:ds.length<=lim):
  aw B (h.push { cls:=.type "tuple", data:=.seq vs }) W (.tup ds) (.ref h.objs.size):=by
 exact⟨_,vs,0,rfl,fun q=>Bd _ (tW _ q),BD _ rfl,hl,ab.move O (fun b o J e=>By _ e) (fun b q=>.inl q) _ _ r⟩
theorem sd {f:Int->Int->Option D}{x y z:D}{u v:Value}(h:(x.int?.bind fun i=>y.int?.bind fun j=>f i j)=some z)(rx:bK B s.heap W x u)(ry:bK B s.heap W y v):
  ∃i j t t',u=.int i t/\v=.int j t'/\f i j=some z:=by
 refine ak (ai h) fun i hi h1=>?_;refine ak (ai h1) fun j hj h2=>?_;have:=int?_eq hi;subst this;have:=int?_eq hj;subst this;refine x1 (rF rx) fun t e=>?_;refine x1 (rF ry) fun t' e'=>?_;exact⟨i,j,t,t',e,e',h2⟩
set_option tactic.hygienic true in
theorem add_ok {x y z:D}{u v:Value}(h:D.add x y=some z)(rx:bK B s.heap W x u)(ry:bK B s.heap W y v)(tW:∀b,W b->b < s.heap.objs.size):
  wpAny B.M A (binaryOp .Add u v) (fun r s'=>ay B s s'/\aw B s'.heap W z r) i6 s:=by
 cases x
 case int i=>
  refine ak (aI h) fun j hj e=>?_;have:=int?_eq hj;subst this;subst e;refine x1 (rF rx) fun t e91=>?_;subst e91;refine x1 (rF ry) fun t' e91=>?_;subst e91;exact wpAny_add_int ⟨ay.toks _,iq⟩
 case str a=>
  refine ak (ai h) fun b hj e=>?_;refine aS (aJ e) fun hl e91=>?_;subst e91;have:=str?_eq hj;subst this;refine ak (hV rx) fun t e91=>?_;subst e91;intro J;refine ak (hV ry) fun t' e91=>?_;subst e91;intro J;exact SB.add (fun t' k=>⟨ay.toks _,by refine AZ (vW _ _) ?_;exact nY hl⟩) (aE (by simpa [Str.length] using hl))
 case list a=>
  refine ak (ai h) fun b hj e=>?_;refine aS (aJ e) fun hl e91=>?_;subst e91;have:=list?_eq hj;subst this;obtain⟨p,xs,n,rfl,g1,l1,r1⟩:=rx;obtain⟨q,ys,m,rfl,g2,l2,r2⟩:=ry;refine P.add_list g1 g2 ⟨ay.push O _ _,dg O tW (by refine AZ G5 ?_;exact ab.append r1 r2) hl⟩ (aE ?_);have e:=ab.length (ab.append r1 r2);rw[Bm,Ca,Ca] at e;exact e▸hl
 all_goals exact ah h
theorem bin_ok {op:EI}{x y z:D}{u v:Value}(h:D.bin op x y=some z)(rx:bK B s.heap W x u)(ry:bK B s.heap W y v)(R:aD A K)(tW:∀b,W b->b < s.heap.objs.size):
  wpAny B.M A (binaryOp op u v) (fun r s'=>ay B s s'/\aw B s'.heap W z r) i6 s:=by
 cases op
 case Add=>exact add_ok O h rx ry tW
 case Sub=>
  refine x42 (sd O h rx ry) fun i j t t' e91=>?_;subst e91;intro e92;subst e92;intro h1;obtain rfl:=A0 h1;exact PyProof.Rows.sub_int ⟨ay.toks _,iq⟩
 case FloorDiv=>
  refine x42 (sd O h rx ry) fun i j t t' e91=>?_;subst e91;intro e92;subst e92;intro h1;refine aS (aJ h1) fun hc e91=>?_;subst e91;exact floordiv_int (Int.ne_of_gt hc.1) ⟨ay.toks _,iq⟩ (.inl (PyProof.noPylong_small (DC.mp (by refine AZ (Hc (Int.le_of_lt hc.1)) ?_;exact hc.2))))
 case Mod=>
  refine x42 (sd O h rx ry) fun i j t t' e91=>?_;subst e91;intro e92;subst e92;intro h1;refine aS (aJ h1) fun hc e91=>?_;subst e91;exact mod_int' (Int.ne_of_gt hc) ⟨ay.toks _,iq⟩
 case Pow=>
  refine x42 (sd O h rx ry) fun i j t t' e91=>?_;subst e91;intro e92;subst e92;intro h1;refine aS (aJ h1) fun hc e91=>?_;subst e91;exact pow_int_small hc.2.2.1 (Em hc.2.2.2 (by decide)) (DC.mp (by refine AZ (Hc hc.1) ?_;exact Ey hc.2.1 (by decide))) ⟨ay.toks _,iq⟩
 all_goals exact ah h
end
end Mine
namespace Mine
variable {B:Bs}{K:Nat}
theorem pS (lo hi:Option Int) (n:Nat):Cb lo hi 1 n=sliceRange ((lo.elim 0 (CR n):Nat):Int) ((hi.elim n (CR n):Nat):Int) 1:=by
 have h:=sliceBounds_plain lo hi n;unfold sliceBounds at h;simp only[FD,CG,show(1:Int) > 0 by decide,if_true,and_true] at h;unfold Cb;simp only[show(1:Int) > 0 by decide,if_true];refine AZ (BE h.1)<|AZ (BE h.2) ?_
 cases lo<;>cases hi<;>rfl
theorem qd (xs:Array Nat) (a:Nat):∀k:Nat,((Bn k).map (a+·)).filterMap (xs[·]?)=(xs.toList.drop a).take k
 |0=>by simp
 |k+1=>by
  refine AZ EX<|AZ BW<|AZ List.filterMap_append<|AZ (qd xs a k)<|AZ List.take_add_one ?_
  congr 1
  simp only[Bo,Dx,List.getElem?_drop,C7]
  cases h:xs[a+k]?<;>simp[h]
theorem nZ (l:List Nat)(lo hi:Option Int):(Cb lo hi 1 l.length).filterMap (l.toArray[·]?)=fE lo hi l:=by
 refine AZ (pS _ _ _)<|AZ (sliceRange_one _ _)<|AZ (qd _ _ _) ?_
 rfl
theorem mL {α:Type}(lo hi:Option Int)(l:List α):(fE lo hi l).length<=l.length:=by
 unfold fE;refine AZ List.length_take<|AZ FO ?_
 exact Bf (D0 _ _) (C0 _ _)
theorem jb (c:Array Nat):∀(is:List Nat),(∀i∈is,i < c.size)->(is.filterMap (c[·]?)).length=is.length
 |[],_=>rfl
 |i::is,h=>by
  have hi:i < c.size:=h i Bj;refine AZ Fg ?_;simp only[Gl hi,BA];exact AZ (jb c is fun j hj=>h j (Bi _ hj)) rfl
theorem sQ {α:Type}{l:List α}(a b:Nat)(h:((l.drop a).take b).length=l.length):(l.drop a).take b=l:=by
 replace h:=FO▸List.length_take▸h
 by_cases h0:l=[]
 ·subst h0;simp
 ·have:0 < l.length:=Hb.mpr h0
  have ha:a=0:=Nat.eq_zero_of_not_pos fun q=>Bd _ (BI (Bf (El h.symm) (D0 _ _)) (Gv this q));subst ha;refine AZ List.drop_zero ?_;exact DM (Bf (El h.symm) (Gc _ _))
theorem qU (lo hi:Option Int)(l:List Nat):(Cb lo hi 1 l.length).length=(fE lo hi l).length:=by
 refine AZ (BE (nZ l lo hi)) ?_;refine(jb _ _ fun i hi=>?_).symm;rw[pS,sliceRange_one] at hi;simp only[BC,BL] at hi;refine ak hi fun k hk e91=>?_;subst e91;have h1:∀o:Option Int,o.elim l.length (CR l.length)<=l.length:=fun o=>by
  cases o with
  |none=>exact Bq _
  |some i=>exact DD.mp (show((CR l.length i:Nat):Int)<=l.length by refine AZ (clipAt_cast _ _) ?_;exact Int.max_le.mpr ⟨Cf _,Int.min_le_right _ _⟩)
 have:=h1 ‹_›;refine AZ B7 ?_
 omega
theorem jP (l:List Nat)(t:Tok)(lo hi:Option (Int×Tok)){Q:VS}{s:Be}(hl:l.length<=lim)
  (h:∀t' k,Q (.str ⟨(fE (lo.map (·.1)) (hi.map (·.1)) l).toArray⟩ t') { s with toks:=k }):(sliceMade ⟨l.toArray⟩ t lo hi none).post Q s:=by
 have e:slicePicked ⟨l.toArray⟩ lo hi none=Cb (lo.map (·.1)) (hi.map (·.1)) 1 l.length:=by
  unfold slicePicked;rw[Str.length];simp
 have hlen:(⟨l.toArray⟩:Str).length=l.length:=by simp[Str.length]
 unfold sliceMade;refine AZ e<|AZ hlen<|AZ (qU _ _ _) ?_
 split
 ·rename_i hc
  simp only[Bz,beq_iff_eq] at hc;have:fE (lo.map (·.1)) (hi.map (·.1)) l=l:=sQ _ _ hc.2;replace h:=this▸h;exact h t s.toks
 ·show(Made.str _).post Q s
  have e2:((Cb (lo.map (·.1)) (hi.map (·.1)) 1 l.length).filterMap ((⟨l.toArray⟩:Str).cps[·]?))=fE (lo.map (·.1)) (hi.map (·.1)) l:=nZ l _ _;refine AZ e2 ?_
  exact⟨aE (by
   have:=mL (lo.map (·.1)) (hi.map (·.1)) l
   simp only[Str.length,B7];lia),h _ _⟩
set_option tactic.hygienic true in
theorem zQ {l:List Nat}{y z:D}(h:D.item (.str l) y=some z):(∃lo hi,y=.slo lo hi/\z=.str (fE lo hi l))\/∃i c,y=.int i/\(bZ l.length i).bind (l[·]?)=some c/\z=.str [c]:=by
 have key:∀y:D,(y.int?.bind fun i=>((bZ l.length i).bind (l[·]?)).map fun c=>D.str [c])=some z->∃i c,y=.int i/\(bZ l.length i).bind (l[·]?)=some c/\z=.str [c]:=fun y h=>by
  refine un h fun i hi h1=>?_;refine omk h1 fun c h2 h3=>?_;exact⟨i,c,int?_eq hi,h2,h3.symm⟩
 cases y
 case slo lo hi=>exact .inl ⟨lo,hi,rfl,(A0 h).symm⟩
 all_goals exact .inr (key _ h)
section
variable {Φ:bU}{K:Nat}(O:B.Ok)
include O
variable {Γ:aj}{ρ:ac}{Wc W:AP}{pe:Env}{A:BO}{s:Be}
theorem jm {e:E}{r:R}{x:D}(hS:bg B K Φ e)(h:ev Φ Γ ρ e=some r)(hx:r.asB=some x)(X:Ctx B Γ Wc W pe ρ s)(R:aD A K){E:VS}{Q:VS}
  (k:∀v s',ay B s s'->Ctx B Γ Wc W pe ρ s'->bK B s'.heap W x v->(∀a,v=.ref a->¬B.T a)->Q v s'):wpAny B.M A (eval (e.py B.nm) pe) Q E s:=
 BH (hS Γ ρ r h Wc W pe A s X R) (fun v s' h'=>let q:=bS.asB X.tW' hx h'.2;k v s' h'.1 (X.move O h'.1) q.1 q.2) fun J J f=>f.elim
theorem cX {e:E}{r:R}{x:D}(hS:bg B K Φ e)(h:ev Φ Γ ρ e=some r)(hx:r.asD=some x)(X:Ctx B Γ Wc W pe ρ s)(R:aD A K){E:VS}{Q:VS}
  (k:∀v s',ay B s s'->Ctx B Γ Wc W pe ρ s'->aw B s'.heap W x v->Q v s'):wpAny B.M A (eval (e.py B.nm) pe) Q E s:=
 BH (hS Γ ρ r h Wc W pe A s X R) (fun v s' h'=>k v s' h'.1 (X.move O h'.1) (bS.asD hx h'.2)) fun J J f=>f.elim
theorem sM {e:E}{b:Bool}(hS:eU B K Φ e)(h:cT Φ Γ ρ e=some b)(X:Ctx B Γ Wc W pe ρ s)(R:aD A K){E:VS}{Q:Bool->Be->Prop}
  (k:∀s',ay B s s'->Ctx B Γ Wc W pe ρ s'->Q b s'):wpAny B.M A (Fs (e.py B.nm) pe (eval (e.py B.nm) pe)) Q E s:=
 BH (hS Γ ρ b h Wc W pe A s X R) (fun v s' h'=>by refine aS h' fun h1 e91=>?_;subst e91;exact k s' h1 (X.move O h1)) fun J J f=>f.elim
theorem tj (nm:Nat->Str)(e:E)(op:CmpOp):behindInMarks op (e.py nm)=false:=by cases e<;>rfl
theorem nP {x:Nat}{p:Pos}:bg B K Φ (.name x p):=by
 intro Γ ρ r h Wc W pe A s X R;have key:∀en,ρ x=some en->∃v,dA B pe s.heap x v/\aX B pe.locals s.heap Wc W en v:=X.vars x;refine BX ?_ (O.dbg x);rw[fj] at h
 cases hr:ρ x with
 |none=>rw[hr] at h;exact ah h
 |some en=>
  rw[hr] at h;refine ak (key _ hr) fun v l rv=>?_
  cases en with
  |fz d=>
   obtain rfl:=A0 h;exact Ctx.name O X l ⟨ay.refl _,rv⟩ (O.cld x)
  |sealed d=>
   obtain rfl:=A0 h;exact Ctx.name O X l ⟨ay.refl _,rv⟩ (O.cld x)
  |own d=>
   obtain rfl:=A0 h;refine Ctx.name O X l ⟨ay.refl _,?_⟩ (O.cld x);obtain⟨a,vs,n,rfl,hw,hc,hg,hl,ha⟩:=rv;exact⟨⟨a,vs,n,rfl,hg,hl,ha⟩,fun b e t=>by cases e;exact hc (X.tW _ t)⟩
  |_=>exact ah h
theorem snd_bin {a b:E}{op:EI}{p:Pos}(ha:bg B K Φ a)(hb:bg B K Φ b):bg B K Φ (.bin a op b p):=by
 intro Γ ρ r h Wc W pe A s X R;simp only[sG,Bh,Bg,Bt] at h;refine cU h fun r1 h1 x hx r2 h2 y hy z hz e91=>?_;subst e91;refine wpAny_BinOp (jm O ha h1 hx X R fun u s1 e1 X1 q1 t1=>jm O hb h2 hy X1 R fun v s2 e2 X2 q2 t2=>?_);refine BH (bin_ok O hz (bK.eff O X.tW' t1 q1 e2) q2 R X2.wlt) (fun z s3 h3=>⟨(e1.trans e2).trans h3.1,h3.2⟩) fun J J f=>f
theorem snd_cmp {a b:E}{op:CmpOp}{p:Pos}(ha:bg B K Φ a)(hb:bg B K Φ b):bg B K Φ (.cmp a op b p):=by
 intro Γ ρ r h Wc W pe A s X R;simp only[sE,Bh,Bg,Bt] at h;refine cU h fun r1 h1 x hx r2 h2 y hy z hz e91=>?_;subst e91;refine wpAny_Compare1 (jm O ha h1 hx X R fun u s1 e1 X1 q1 t1=>jm O hb h2 hy X1 R fun v s2 e2 X2 q2 t2=>?_) (tj O _ _ _);exact li O hz (bK.eff O X.tW' t1 q1 e2) q2 R fun t=>⟨(e1.trans e2).trans (ay.toks t),by simp only[bS,aw]⟩
theorem y6 {a b:E}{op:CmpOp}{p:Pos}(ha:bg B K Φ a)(hb:bg B K Φ b):eU B K Φ (.cmp a op b p):=by
 intro Γ ρ r h Wc W pe A s X R;rw[pF] at h;refine un h fun r1 h1 h97=>?_;refine un h97 fun x hx h97=>?_;refine un h97 fun r2 h2 h97=>?_;refine un h97 fun y hy hz=>?_;refine Dt (jm O ha h1 hx X R fun u s1 e1 X1 q1 t1=>jm O hb h2 hy X1 R fun v s2 e2 X2 q2 t2=>?_) (tj O _ _ _);exact li O hz (bK.eff O X.tW' t1 q1 e2) q2 R fun t=>B1 ⟨(e1.trans e2).trans (ay.toks t),rfl⟩
theorem qa (nm:Nat->Str)(a b:E)(o1 o2:CmpOp):lastMarks [o1,o2] [a.py nm,b.py nm]=false:=by
 show behindInMarks o2 (b.py nm)=false
 cases b<;>rfl
theorem yY {a b c:E}{o1 o2:CmpOp}{p:Pos}(ha:bg B K Φ a)(hb:bg B K Φ b)(hc:bg B K Φ c):bg B K Φ (.cmp2 a o1 b o2 c p):=by
 intro Γ ρ r h Wc W pe A s X R;simp only[xo,Bh,Bg,Bt] at h;refine cU h fun r1 h1 x hx r2 h2 y hy t ht h=>?_;refine Compare_chain (jm O ha h1 hx X R fun u s1 e1 X1 q1 t1=>chain_link (jm O hb h2 hy X1 R fun v s2 e2 X2 q2 t2=>?_)) (qa O _ _ _ _ _);refine BH (li O ht (bK.eff O X.tW' t1 q1 e2) q2 R (Q:=fun c s'=>c=.bool t/\∃k,s'={ s2 with toks:=k }) fun k=>⟨rfl,k,rfl⟩) ?_ fun J J f=>f;rintro J J ⟨rfl,tk,rfl⟩;have e2:=e2.trans (ay.toks tk);have q2:=bK.eff O X.tW' t2 q2 (ay.toks tk);have X2:=X2.move O (ay.toks tk);refine B1 ?_
 cases t with
 |false=>
  simp only[BP,if_false] at h ⊢;obtain rfl:=A0 h;exact⟨e1.trans e2,by simp only[bS,aw]⟩
 |true=>
  simp only[if_true,Bg,Bt] at h ⊢;refine jI h fun r3 h3 z hz t' ht' e91=>?_;subst e91;refine chain_last (jm O hc h3 hz X2 R fun w s3 e3 X3 q3 t3=>?_);exact li O ht' (bK.eff O X.tW' t2 q2 e3) q3 R fun t=>⟨((e1.trans e2).trans e3).trans (ay.toks t),by simp only[bS,aw]⟩
theorem xC {a b c:E}{o1 o2:CmpOp}{p:Pos}(ha:bg B K Φ a)(hb:bg B K Φ b)(hc:bg B K Φ c):eU B K Φ (.cmp2 a o1 b o2 c p):=by
 intro Γ ρ r h Wc W pe A s X R;simp only[mW,Bh,Bg,Bt] at h;refine cU h fun r1 h1 x hx r2 h2 y hy t ht h=>?_;refine isTrue_chain (jm O ha h1 hx X R fun u s1 e1 X1 q1 t1=>test_link (jm O hb h2 hy X1 R fun v s2 e2 X2 q2 t2=>?_)) (qa O _ _ _ _ _);refine BH (li O ht (bK.eff O X.tW' t1 q1 e2) q2 R (Q:=fun c s'=>c=.bool t/\∃k,s'={ s2 with toks:=k }) fun k=>⟨rfl,k,rfl⟩) ?_ fun J J f=>f;rintro J J ⟨rfl,tk,rfl⟩;have e2:=e2.trans (ay.toks tk);have q2:=bK.eff O X.tW' t2 q2 (ay.toks tk);have X2:=X2.move O (ay.toks tk);refine B1 ?_
 cases t with
 |false=>
  simp only[BP,if_false] at h ⊢;obtain rfl:=A0 h;exact⟨e1.trans e2,rfl⟩
 |true=>
  simp only[if_true,Bg,Bt] at h ⊢;refine i2 h fun r3 h3 z hz ht'=>?_;refine test_last (jm O hc h3 hz X2 R fun w s3 e3 X3 q3 t3=>?_);exact li O ht' (bK.eff O X.tW' t2 q2 e3) q3 R fun t=>B1 ⟨((e1.trans e2).trans e3).trans (ay.toks t),rfl⟩
theorem y5 {a:E}{p:Pos}(ha:eU B K Φ a):eU B K Φ (.not a p):=by
 intro Γ ρ r h Wc W pe A s X R;rw[pE] at h;refine un h fun t h1 e96=>?_;obtain rfl:=A0 e96;exact isTrue_not (sM O ha h1 X R fun s1 e1 X1=>⟨e1,rfl⟩)
theorem ay.gsize {s s':Be}(e:ay B s s'):s.gens.size<=s'.gens.size:=by
 rcases Ek s'.gens.size s.gens.size with h|h
 ·have:=e.gens s'.gens.size s.gens[s'.gens.size] (by simp[h])
  simp at this
 ·exact h
theorem bS.back {s s1 s':Be}{W:AP}{r:R}{v:Value}(e:ay B s s1)(q:bS B K s1 W r v s'):bS B K s W r v s':=by
 cases r with
 |d x=>exact q
 |own l=>exact q
 |it l=>
  rcases q with q|⟨a,F,p,I,h0,h1,h2,h3,h4,h5,h6,h7⟩
  ·exact .inl q
  ·exact .inr ⟨a,F,p,I,h0,h1,h2,h3,h4,fun b hb=>Bf e.size (h5 b hb),fun i hi=>Bf (ay.gsize O e) (h6 i hi),h7⟩
theorem snd_ife {t a b:E}{p:Pos}(ht:eU B K Φ t)(ha:bg B K Φ a)(hb:bg B K Φ b):bg B K Φ (.ife t a b p):=by
 intro Γ ρ r h Wc W pe A s X R;simp only[sD,Bh,Bg] at h;refine ak h fun c h1 h=>?_;refine IfExp_ (sM O ht h1 X R fun s1 e1 X1=>?_)
 cases c with
 |true=>exact BH (ha _ _ _ (h) _ _ _ _ _ X1 R) (fun v s' h'=>⟨e1.trans h'.1,bS.back O e1 h'.2⟩) fun J J f=>f
 |false=>exact BH (hb _ _ _ (h) _ _ _ _ _ X1 R) (fun v s' h'=>⟨e1.trans h'.1,bS.back O e1 h'.2⟩) fun J J f=>f
theorem tc {n:Nat}{i:Int}:bZ n i=seqIndex? i n:=by
 unfold bZ seqIndex?
 by_cases h:0<=i
 ·have h':¬i < 0:=by lia
  simp[h,h']
 ·have h':i < 0:=by lia
  simp only[h,if_false,h',if_true]
  by_cases h2:0<=i+n
  ·have:i+n < n:=by lia
   simp[h2,this]
  ·simp[h2]
theorem nV {n j:Nat}{i:Int}(h:bZ n i=some j):j < n/\-(n:Int)<=i/\i < n/\(0<=i->j=i.toNat)/\(i < 0->j=(i+n).toNat):=by
 unfold bZ at h;have hn:(0:Int)<=n:=Cf n
 by_cases h0:0<=i
 ·rw[if_pos h0] at h
  refine ifk h fun h1 e97=>?_;subst e97;exact⟨(FL h0).mpr h1,Em (Int.neg_nonpos_of_nonneg hn) h0,h1,fun _=>rfl,fun q=>absurd h0 (HG.mpr q)⟩
 ·rw[if_neg h0] at h
  refine ifk h fun h1 e97=>?_;subst e97;have h2:i < 0:=HG.mp h0;exact⟨(FL h1).mpr (by omega),by omega,Int.lt_of_lt_of_le h2 hn,fun q=>absurd q h0,fun _=>rfl⟩
theorem Str.len_mk (l:List Nat):(⟨l.toArray⟩:Str).length=l.length:=by simp[Str.length]
set_option tactic.hygienic true in
theorem item_ok {x y z:D}{u v:Value}(h:D.item x y=some z)(rx:bK B s.heap W x u)(ry:aw B s.heap W y v):
  (∃T id,s.TypeIs u T/\typeLookup (.type T) "__getitem__" = pure (some (.builtin id)))/\wpAny B.M A (getItem u v) (fun r s'=>ay B s s'/\aw B s'.heap W z r) i6 s:=by
 cases x
 case list l=>
  refine un h fun i hi h1=>?_;refine un h1 fun j hj hz=>?_;have:=int?_eq hi;subst this;obtain⟨a,vs,n,rfl,hg,hl,ra⟩:=rx;refine x1 (j6 ry) fun t e91=>?_;subst e91;refine ak (ab.get ra hz) fun w hw rw=>?_;have hsz:=ab.length ra;replace hsz:=Ca▸hsz;have L:s.heap.IsList a vs:=⟨_,hg,rfl,n,rfl⟩;refine x04 (nV O hj) fun q1 q2 q3 q4 q5=>?_;have hl':(l.length:Int)<=1048576:=by unfold lim at hl;lia
  refine⟨⟨_,_,L.typeIs,F6.lookup⟩,?_⟩;rw[C7] at hw
  by_cases h0:0<=i
  ·exact FU L h0 (by lia) (by refine AZ (BE (q4 h0)) ?_;exact hw) ⟨ay.refl _,rw⟩
  ·exact wpAny_getItem_list_neg L (by lia) (by lia) (by lia) (by refine AZ hsz<|AZ (BE (q5 (by lia))) ?_;exact hw) ⟨ay.refl _,rw⟩
 case tup l=>
  refine un h fun i hi h1=>?_;refine un h1 fun j hj hz=>?_;have:=int?_eq hi;subst this;obtain⟨a,vs,n,rfl,hw,hg,hl,ra⟩:=rx;refine x1 (j6 ry) fun t e91=>?_;subst e91;refine ak (ab.get ra hz) fun w hw rw=>?_;have hsz:=ab.length ra;rw[Ca] at hsz;have L:IsTup s.heap a vs:=⟨_,hg,rfl,n,rfl⟩;refine x04 (nV O hj) fun q1 q2 q3 q4 q5=>?_;have hl':(l.length:Int)<=1048576:=by unfold lim at hl;lia
  refine⟨⟨_,_,L.typeIs,slot_tuple_getitem.lookup⟩,?_⟩;rw[C7] at hw;exact PyProof.Rows.getItem_tuple L (by lia) (by lia) (by refine AZ hsz<|AZ (BE (tc O)) ?_;exact hj) hw ⟨ay.refl _,rw⟩
 case str l=>
  refine ak (hV rx) fun t e91=>?_;subst e91;intro hl;rcases zQ h with⟨lo,hi,rfl,rfl⟩|⟨i,c,rfl,h2,rfl⟩
  ·simp only[aw] at ry
   obtain⟨a,l',u',rfl,J,hg,rfl,rfl⟩:=ry;refine⟨⟨_,_,DF _ _ _,Et.lookup⟩,He (l:=l') (u:=u') (st:=none) ⟨_,hg,rfl,rfl⟩ rfl ?_⟩;refine jP l t l' u' hl fun t' k=>?_;exact⟨ay.toks _,nY (Bf (mL _ _ _) hl)⟩
  refine un h2 fun j hj hz=>?_;refine x1 (j6 ry) fun t' e91=>?_;subst e91;refine x04 (nV O hj) fun q1 q2 q3 q4 q5=>?_;have hl':(l.length:Int)<=1048576:=by unfold lim at hl;lia
  refine⟨⟨_,_,DF _ _ _,Et.lookup⟩,P.getItem_str (c:=c) ?_ ?_ ⟨ay.toks _,nY (l:=[c]) (show 1<=lim by decide)⟩⟩
  ·refine AZ (decide_eq_false (by lia))<|AZ (decide_eq_false (by lia)) ?_;rfl
  ·refine AZ (Str.len_mk O _)<|AZ (BE (tc O))<|AZ hj ?_
   simpa using hz
 case dict ks vs=>
  refine un h fun k hk h1=>?_;have:=str?_eq hk;subst this;refine ak (jo ry) fun t e91=>?_;subst e91;intro J;refine x23 (yK O rx) fun kvs a e91=>?_;subst e91;intro hd J hv;have hv:=hv k;replace hv:=h1▸hv;refine kJ hv fun y t' e91=>?_;subst e91;intro hl hv;refine⟨⟨_,_,hd.typeIs,slot_dict_getitem.lookup⟩,?_⟩;exact wpAny_getItem_of (knd:=B4 B.prog B.w) (k:=⟨k.toArray⟩) (by simp[B4,Value.isStrOf]) hd.mapOf hv ⟨ay.toks _,nY hl⟩
 all_goals exact ah h
theorem zm (nm:Nat->Str)(e:E)(o i:Value):subscripted (e.py nm) false o i=operate [o,i] (getItem o i):=by cases e<;>rfl
theorem snd_idx {a i:E}{p:Pos}(ha:bg B K Φ a)(hi:bg B K Φ i):bg B K Φ (.idx a i p):=by
 intro Γ ρ r h Wc W pe A s X R;replace h:=mP▸h;refine un h fun r1 h1 h97=>?_;refine un h97 fun x hx h97=>?_;refine un h97 fun r2 h2 h97=>?_;refine un h97 fun y hy h97=>?_;refine omk h97 fun z hz e96=>?_;subst e96;refine Subscript_ (jm O ha h1 hx X R fun u s1 e1 X1 q1 t1=>cX O hi h2 hy X1 R fun v s2 e2 X2 q2=>?_);refine aS (item_ok (A:=A) O hz (bK.eff O X.tW' t1 q1 e2) q2) fun p91 hw=>?_;obtain⟨T,id,hT,hl⟩:=p91;exact tail_any hT hl (BH hw (fun z s3 h3=>⟨(e1.trans e2).trans h3.1,h3.2⟩) fun J J f=>f) (zm O _ _ _ _)
theorem snd_neg {i:Int}{cp p:Pos}:bg B K Φ (.neg i cp p):=by
 intro Γ ρ r h Wc W pe A s X R;simp only[sA,Bl] at h;subst h;exact UnaryOp_ (wpAny_Constant_int (P.neg_int ⟨⟨fun J J J e=>e,fun J J J e=>e,Bq _,id,fun J J e=>e,id,rfl⟩,by simp only[bS,aw];exact⟨_,rfl⟩⟩))
theorem wQ {h:Heap}{f:Nat}{z:D}:∀(ns:List Nat)(vs:List D)(dv:List Value) (g:Nat),ab B h W vs dv->((ns.zip vs).find? fun q=>q.1==f)=some (g,z)->
  ∃v,((ns.zip dv).find? fun q=>q.1==f)=some (f,v)/\aw B h W z v
 |[],_,_,_,_,e=>by simp at e
 |_::_,[],_,_,_,e=>by simp at e
 |n::ns,v::vs,dv,g,r,e=>by
  simp only[ab] at r;obtain⟨v',dv',rfl,rv,ra⟩:=r;simp only[Ce,Cg] at e ⊢
  cases hn:n==f with
  |true=>
   have:n=f:=by simpa using hn
   subst this;simp only[hn,Bl,CG] at e ⊢;refine aS e fun J e91=>?_;subst e91;exact⟨v',⟨trivial,rfl⟩,rv⟩
  |false=>
   simp only[hn] at e ⊢;exact wQ ns vs dv' g ra e
omit O in
theorem vf:∀{a:E},a.isName=true->∃x p,a=.name x p:=fun{a} h=>by
 cases a<;>first|exact ce h|exact⟨_,_,rfl⟩
set_option tactic.hygienic true in
omit O in
theorem fld_inv {f:Nat}{z:D}:∀{x:D},D.fld f x=some z->∃ns vs,x=.thing ns vs/\ns.length=vs.length/\(f=19\/f=20\/f=21)/\(ns.zip vs).find? (fun q=>q.1==f)=some (f,z):=fun{x} h=>by
 cases x
 case thing ns vs=>
  refine oE h fun p91 h3=>?_;obtain⟨h1,h2⟩:=p91;refine omk h3 fun p91 hf e92=>?_;subst e92;obtain⟨f',z'⟩:=p91;have hff:f'=f:=by simpa using F5 hf
  subst hff;exact⟨ns,vs,rfl,h1,h2,hf⟩
 all_goals exact ah h
theorem y4 {a:E}{f:Nat}{p:Pos}(ha:bg B K Φ a):bg B K Φ (.attr a f p):=by
 intro Γ ρ r h Wc W pe A s X R;replace h:=pA▸h;refine oE h fun hn h=>?_;refine x2 (vf hn) fun xn pn e91=>?_;subst e91;simp only[Bh,Bg,Bt] at h;refine jI h fun r1 h1 x hx z hz e91=>?_;subst e91;refine x23 (fld_inv hz) fun ns vs e91=>?_;subst e91;intro hlen hfr hf;refine FA (cX O ha h1 hx X R fun u s1 e1 X1 q1=>?_) (by with_unfolding_all rfl);simp only[aw] at q1;obtain⟨a,dx,n,ts,dv,rfl,hw,hg,hwx,hgx,l1,l2,ra⟩:=q1;refine ak (wQ O ns vs dv f ra hf) fun v hv rv=>?_;exact O.attr A s1 a dx n ns ts dv f v _ _ X1.good hg hgx l1 ((ab.length ra).trans hlen.symm) hv (.inl hfr) (aw.handed rv) fun t=>⟨e1.trans (ay.toks t),rv⟩
end
end Mine
namespace Mine
variable {B:Bs}{K:Nat}
section
variable {Φ:bU}{K:Nat}(O:B.Ok)
include O
variable {Γ:aj}{ρ:ac}{Wc W:AP}{pe:Env}{A:BO}{s:Be}
theorem useO {o:Option E}{d:Option D}{x:Option Int}(hS:∀e,o=some e->bg B K Φ e)(h:xZ Φ Γ ρ o=some d)(hx:D.bnd d=some x)(X:Ctx B Γ Wc W pe ρ s)(R:aD A K){E:VS}{Q:VS}
  (k:∀(v:Option (Int×Tok)) s',ay B s s'->Ctx B Γ Wc W pe ρ s'->v.map (·.1)=x->Q (Gq v) s'):wpAny B.M A (evalPart (pyO B.nm o) pe) Q E s:=by
 cases o with
 |none=>
  simp only[nk,Bl] at h;subst h;simp only[D.bnd,Bl] at hx;subst hx;exact Bk (k none s (ay.refl _) X rfl)
 |some e=>
  simp only[nj,Bh,Bg,Bl] at h;refine i2 h fun r h1 y hy e91=>?_;subst e91;refine cX O (hS e rfl) h1 hy X R fun v s' e' X' q=>?_
  cases y with
  |int i=>
   refine ifk hx fun J e95=>?_;subst e95;refine x1 q fun t e91=>?_;subst e91;exact k (some (_,t)) s' e' X' rfl
  |_=>exact ah hx
theorem ws (v:Option (Int×Tok)):IsPart (Gq v) (v.map (·.1)):=by
 cases v with
 |none=>exact .none
 |some q=>exact .int _ _
set_option tactic.hygienic true in
omit O in
theorem cut_inv {l h:Option Int}{z:D}:∀{x:D},D.cut l h x=some z->(∃y,x=.list y/\z=.list (fE l h y))\/∃y,x=.str y/\z=.str (fE l h y):=fun{x} e=>by
 cases x
 case list y=>obtain rfl:=A0 e;exact .inl ⟨y,rfl,rfl⟩
 case str y=>obtain rfl:=A0 e;exact .inr ⟨y,rfl,rfl⟩
 all_goals exact ah e
theorem snd_slc {a:E}{lo hi:Option E}{sp p:Pos}(ha:bg B K Φ a)(hlo:∀e,lo=some e->bg B K Φ e)(hhi:∀e,hi=some e->bg B K Φ e):bg B K Φ (.slc a lo hi sp p):=by
 intro Γ ρ r h Wc W pe A s X R;simp only[mO,Bh,Bg,Bt] at h;refine cU h fun r1 h1 x hx dl hl dh hh z hz e91=>?_;subst e91;refine ak (ai hz) fun il hil hz1=>?_;refine ak (ai hz1) fun ih hih hz2=>?_;have hz:=cut_inv hz2;refine Subscript_ (jm O ha h1 hx X R fun u s1 e1 X1 q1 t1=>wpAny_Slice (useO O hlo hl hil X1 R fun vl s2 e2 X2 p2=>useO O hhi hh hih X2 R fun vh s3 e3 X3 p3=>?_));dsimp only[evalPart_none];refine Bk ?_;have e13:=e2.trans e3;have q3:=bK.eff O X.tW' t1 q1 e13;have eff:=(e1.trans e13);rcases hz with⟨l,rfl,rfl⟩|⟨l,rfl,rfl⟩
 ·obtain⟨a,vs,n,rfl,hg,hlim,ra⟩:=q3
  have L:∀o,(s3.heap.push o).IsList a vs:=fun o=>⟨_,By _ hg,rfl,n,rfl⟩;have hsz:=ab.length ra;dsimp only[Ca] at hsz;refine tail_any (L _).typeIs F6.lookup (wpAny_getItem_list_slice (L _) (Heap.IsSliceOf.new ..) (ws O vl) (ws O vh) .none (by simp) ?_ (aE (by omega))) rfl;refine AZ p2<|AZ p3<|AZ (slicePick_plain _ _ _) ?_
  refine⟨eff.trans ((ay.push O _ s3.toks).trans (ay.push O _ s3.toks)),?_⟩;refine dg O (fun b hb=>by rw[BM];exact CV (X3.wlt b hb)) ?_ (Bf (mL _ _ _) hlim);refine AZ hsz ?_;exact ab.move O (fun b o J e=>By _ e) (fun b q=>.inl q) _ _ (ab.take _ (ab.drop _ ra))
 ·refine ak (hV q3) fun t e91=>?_
  subst e91;intro hlim;refine tail_any (DF _ _ _) Et.lookup (He (l:=vl) (u:=vh) (st:=none) ⟨_,BD _ rfl,rfl,rfl⟩ rfl ?_) rfl;refine jP l t vl vh hlim fun t' k=>?_;refine⟨eff.trans (ay.push O _ _),?_⟩;refine AZ p2<|AZ p3 ?_
  exact nY (B:=B) (h:=s3.heap) (W:=W) (Bf (mL _ _ _) hlim)
noncomputable def iM (B:Bs) (K:Nat)(Φ:bU)(es:List E):Prop:=∀Γ ρ l,g8 Φ Γ ρ es=some l->∀Wc W pe A s,Ctx B Γ Wc W pe ρ s->aD A K->
 wpAny B.M A (GJ (C6 (fq B.nm es) pe)) (fun vs s'=>ay B s s'/\ab B s'.heap W l vs) i6 s
theorem bH (nm:Nat->Str)(p:Pos)(pe:Env):∀es:List E,EW p (C6 (fq nm es) pe)=C6 (fq nm es) pe
 |[]=>rfl
 |e::r=>by
  refine AZ a0<|AZ (aC _ _ _ _) ?_
  have ih:=bH nm p pe r;unfold EW at ih ⊢;refine AZ Bo<|AZ ih ?_;rfl
theorem uD {es:List E}{l:List D}(hS:iM B K Φ es)(h:g8 Φ Γ ρ es=some l)(X:Ctx B Γ Wc W pe ρ s)(R:aD A K){E:VS}{Q:List Value->Be->Prop}
  (k:∀vs s',ay B s s'->Ctx B Γ Wc W pe ρ s'->ab B s'.heap W l vs->Q vs s'):wpAny B.M A (GJ (C6 (fq B.nm es) pe)) Q E s:=
 BH (hS Γ ρ l h Wc W pe A s X R) (fun v s' h'=>k v s' h'.1 (X.move O h'.1) h'.2) fun J J f=>f.elim
theorem za:iM B K Φ []:=by
 intro Γ ρ l h Wc W pe A s X R;simp only[pH,Bl] at h;subst h;exact Bk ⟨ay.refl _,ab.nil⟩
theorem xE {e:E}{es:List E}(he:bg B K Φ e)(hs:iM B K Φ es):iM B K Φ (e::es):=by
 intro Γ ρ l h Wc W pe A s X R;simp only[nu,Bh,Bg,Bl] at h;refine jI h fun r h1 x hx y hy e91=>?_;subst e91;refine AZ a0<|AZ (aC _ _ _ _) ?_
 exact B5 (cX O he h1 hx X R fun v s1 e1 X1 q1=>uD O hs hy X1 R fun vs s2 e2 X2 q2=>⟨e1.trans e2,ab.cons (aw.eff O X.tW' q1 e2) q2⟩)
theorem yW {es:List E}{p:Pos}(hs:iM B K Φ es):bg B K Φ (.list es p):=by
 intro Γ ρ r h Wc W pe A s X R;simp only[kD,xS,Bh,Bg,Bt] at h;refine i2 h fun l h1 d hd e91=>?_;subst e91;refine ifk hd fun hl e95=>?_;subst e95;refine List_ ?_;refine AZ (bH O _ _ _ _) ?_;refine uD O hs h1 X R fun vs s1 e1 X1 q1=>?_;exact CB ⟨e1.trans (ay.push O _ _),dg O X1.wlt (q1) hl⟩ (by show vs.toArray.size<=sizeLine;refine AZ B7<|AZ (ab.length q1) ?_;exact aE hl)
theorem snd_tup {es:List E}{k:Nat}{p:Pos}(hs:iM B K Φ es):bg B K Φ (.tup es k p):=by
 intro Γ ρ r h Wc W pe A s X R;simp only[su,Bh,Bg] at h;refine ak h fun l h1 h=>?_;refine ifk h fun hl e95=>?_;subst e95;refine Tuple_ ?_;refine AZ (bH O _ _ _ _) ?_;refine uD O hs h1 X R fun vs s1 e1 X1 q1=>?_;exact CB ⟨e1.trans (ay.push O _ _),te O X1.wlt (q1) hl⟩ (by show vs.toArray.size<=sizeLine;refine AZ B7<|AZ (ab.length q1) ?_;exact aE hl)
omit O in
theorem sP {x:D}{t:Bool}(h:x.truth=some t):x=.bool t:=by cases x<;>first|(obtain rfl:=A0 h;rfl)|exact ah h
theorem xB {x:Nat}{p:Pos}:eU B K Φ (.name x p):=by
 intro Γ ρ b h Wc W pe A s X R;rw[ux] at h
 cases hr:ρ x with
 |none=>rw[hr] at h;exact ah h
 |some en=>
 rw[hr] at h
 cases en with
 |fz d=>
  obtain rfl:=sP h;refine F7 (e:=.Name (B.nm x) p) (cX O (nP O (Φ:=Φ) (K:=K) (x:=x) (p:=p)) (x:=.bool _) (r:=.d (.bool _)) (by simp only[fj,hr];rfl) rfl X R fun v s1 e1 X1 q1=>?_);simp only[aw] at q1;subst q1;exact B1 ⟨e1,rfl⟩
 |_=>exact ah h
noncomputable def AT (B:Bs) (K:Nat)(Φ:bU)(op:EJ)(es:List E):Prop:=∀Γ ρ b,qz Φ Γ ρ op es=some b->∀Wc W pe A s p whole,Ctx B Γ Wc W pe ρ s->aD A K->
 wpAny B.M A (Fs (.BoolOp op (fq B.nm es) p) pe whole) (fun c s'=>ay B s s'/\c=b) i6 s
theorem zc {op:EJ}:AT B K Φ op []:=by
 intro Γ ρ b h Wc W pe A s p whole X R;simp only[kI,Bl] at h;subst h
 cases op
 ·exact isTrue_and_nil ⟨ay.refl _,rfl⟩
 ·exact isTrue_or_nil ⟨ay.refl _,rfl⟩
theorem xG {op:EJ}{e:E}{es:List E}(he:eU B K Φ e)(hs:AT B K Φ op es):AT B K Φ op (e::es):=by
 intro Γ ρ b h Wc W pe A s p whole X R;simp only[dK,Bh,Bg] at h;refine ak h fun t h1 h=>?_;dsimp only[a0]
 cases op
 ·refine isTrue_and (sM O he h1 X R fun s1 e1 X1=>?_)
  cases t
  ·obtain rfl:=A0 h;exact⟨e1,rfl⟩
  ·exact BH (hs Γ ρ b h Wc W pe A s1 p whole X1 R) (fun c s' h'=>⟨e1.trans h'.1,h'.2⟩) fun J J f=>f
 ·refine isTrue_or (sM O he h1 X R fun s1 e1 X1=>?_)
  cases t
  ·exact BH (hs Γ ρ b h Wc W pe A s1 p whole X1 R) (fun c s' h'=>⟨e1.trans h'.1,h'.2⟩) fun J J f=>f
  ·obtain rfl:=A0 h;exact⟨e1,rfl⟩
theorem y7 {op:EJ}{es:List E}{p:Pos}(hs:AT B K Φ op es):eU B K Φ (.bop op es p):=by
 intro Γ ρ b h Wc W pe A s X R;simp only[pG] at h;exact hs Γ ρ b h Wc W pe A s p _ X R
theorem v7 {op:EJ}{p:Pos}:∀{es:List E},(∀e∈es,bg B K Φ e)->bg B K Φ (.bop op es p)
 |[],_=>fun Γ ρ r h=>by dsimp only[g9] at h;exact ah h
 |e::es,hes=>by
  intro Γ ρ r h Wc W pe A s X R;dsimp only[g9] at h;refine ak (ai h) fun r1 h1 h2=>?_;refine ak (ai h2) fun x hx h3=>?_;refine ak (ai h3) fun t ht h4=>?_;have:=sP ht;subst this
  cases es with
  |nil=>
   obtain rfl:=A0 h4;exact BoolOp_one (cX O (hes e Bj) h1 hx X R fun v s1 e1 X1 q1=>⟨e1,q1⟩)
  |cons e2 es=>
   have tl:Af Φ Γ ρ op (e2::es)=some r->∀s1,ay B s s1->Ctx B Γ Wc W pe ρ s1->wpAny B.M A (eval (.BoolOp op (fq B.nm (e2::es)) p) pe) (fun v s'=>ay B s s'/\bS B K s W r v s') i6 s1:=fun h5 s1 e1 X1=>
    BH (v7 (fun z hz=>hes z (Bi _ hz)) Γ ρ r ((g9 (u1:=p)).trans h5) Wc W pe A s1 X1 R) (fun v s' h'=>⟨e1.trans h'.1,bS.back O e1 h'.2⟩) fun J J f=>f
   cases op
   ·refine BoolOp_and (cX O (hes e Bj) h1 hx X R fun v s1 e1 X1 q1=>?_)
    cases(show v=.bool t from q1)
    refine B1 ?_
    cases t
    ·obtain rfl:=A0 h4;exact⟨e1,rfl⟩
    ·exact tl h4 s1 e1 X1
   ·refine BoolOp_or (cX O (hes e Bj) h1 hx X R fun v s1 e1 X1 q1=>?_)
    cases(show v=.bool t from q1)
    refine B1 ?_
    cases t
    ·exact tl h4 s1 e1 X1
    ·obtain rfl:=A0 h4;exact⟨e1,rfl⟩
theorem yU {a:E}{p:Pos}(ha:bg B K Φ a):bg B K Φ (.usub a p):=by
 intro Γ ρ r h Wc W pe A s X R;refine ak (ai h) fun r1 h1 h2=>?_;refine ak (ai h2) fun x hx h3=>?_;refine ak (aI h3) fun i hi e91=>?_;subst e91;have:=int?_eq hi;subst this;refine UnaryOp_ (cX O ha h1 hx X R fun v s1 e1 X1 q1=>?_);refine x1 (j6 q1) fun t e91=>?_;subst e91;exact P.neg_int ⟨e1.trans (ay.toks _),by simp only[bS,aw];exact⟨_,rfl⟩⟩
noncomputable def lr (B:Bs) (K:Nat)(Φ:bU)(es:List E):Prop:=∀Γ ρ b,x4 Φ Γ ρ es=some b->∀Wc W pe A s,Ctx B Γ Wc W pe ρ s->aD A K->
 wpAny B.M A (forIn (fq B.nm es) true fun c r=>if r=true then do let ok <-Fs c pe (eval c pe);pure (CH ok) else pure (CH r)) (fun c s'=>ay B s s'/\c=b) i6 s
theorem lY:∀(es:List Expr)(pe:Env)(f:Expr->Sem Bool),(forIn es false fun c r=>if r=true then do let ok <-f c;pure (CH ok) else pure (CH r))=(pure false:Sem Bool)
 |[],_,_=>rfl
 |e::es,pe,f=>by
  rw[EZ];exact lY es pe f
theorem zb:lr B K Φ []:=by
 intro Γ ρ b h Wc W pe A s X R;simp only[f9,Bl] at h;subst h;exact Bk ⟨ay.refl _,rfl⟩
theorem xF {e:E}{es:List E}(he:eU B K Φ e)(hs:lr B K Φ es):lr B K Φ (e::es):=by
 intro Γ ρ b h Wc W pe A s X R;simp only[ny,Bh,Bg] at h;refine ak h fun t h1 h=>?_
 (refine AZ a0 ?_;rw[EZ])
 simp only[if_true];refine Bc (Bc (sM O he h1 X R fun s1 e1 X1=>Bk ?_))
 cases t
 ·simp only[BP,if_false,Bl] at h
  subst h;dsimp only;refine AZ (lY O _ pe (fun c=>Fs c pe (eval c pe))) ?_;exact Bk ⟨e1,rfl⟩
 ·simp only[if_true] at h
  exact BH (hs Γ ρ b h Wc W pe A s1 X1 R) (fun c s' h'=>⟨e1.trans h'.1,h'.2⟩) fun J J f=>f
end
end Mine
namespace Mine
variable {B:Bs}{K:Nat}
theorem gI {M:Model}{A:BO}{E:VS}{s:Be}{f:Value}{ts:List (Bool×Sem Value)}{Q:Args->Be->Prop}(hp:∀x∈ts,x.1=false)
  (h:wpAny M A (GJ ts) (fun vs s'=>Q ⟨vs,[]⟩ s') E s):wpAny M A (evalArgs f true ts []) Q E s:=by
 cases ts with
 |nil=>
  unfold evalArgs;show wpAny M A (GJ [] >>= _) Q E s;refine Bc (BH h (fun vs s' h'=>?_) fun J J x=>x);refine Cv ?_;exact Bc (Bk (Bc (Bk (Bk h'))))
 |cons x r=>
  obtain⟨b,t⟩:=x;have:b=false:=hp _ Bj;subst this;exact evalArgs_plain h
theorem jY (nm:Nat->Str)(pe:Env):∀es:List E,∀x∈C6 (fq nm es) pe,x.1=false
 |[],x,h=>bE (show x∈([]:List (Bool×Sem Value)) from h)
 |e::r,x,h=>by
  replace h:=(aC _ _ _ _)▸a0▸h;rcases Bw.mp h with rfl|h
  ·rfl
  ·exact jY nm pe r x h
section
variable {Φ:bU}{K:Nat}(O:B.Ok)
include O
variable {Γ:aj}{ρ:ac}{Wc W:AP}{pe:Env}{A:BO}{s:Be}
theorem Ctx.ns (X:Ctx B Γ Wc W pe ρ s):s.heap.Ns pe.globals B.mg:=by
 refine AZ X.glob ?_;exact CN.moved O.g fun o e=>X.good.base _ _ O.gT e
theorem Ctx.nb (X:Ctx B Γ Wc W pe ρ s):s.heap.Ns pe.builtins B.mb:=by
 refine AZ X.blt ?_;exact CN.moved O.b fun o e=>X.good.base _ _ O.bT e
theorem iB {f:Nat}{v:Value}{p:Pos}{E:VS}{Q:VS}(X:Ctx B Γ Wc W pe ρ s)(hk:Γ f=some .globalImplicit)(hb:eE f=some v)(h:Q v s):
  wpAny B.M A (eval (.Name (B.nm f) p) pe) Q E s:=
 Fv X.fn (X.kinds _ _ hk).1 (loadGlobal_builtin (X.ns O) (O.blts _ _ hb).1 (X.nb O) (O.blts _ _ hb).2 h) (O.dbg f)
theorem ou {f:Nat}{v:Value}{p:Pos}{E:VS}{Q:VS}(X:Ctx B Γ Wc W pe ρ s)(hk:Γ f=some .globalImplicit)(hb:B.mg (B.nm f)=some v)(h:Q v s):
  wpAny B.M A (eval (.Name (B.nm f) p) pe) Q E s:=
 Fv X.fn (X.kinds _ _ hk).1 (loadGlobal_global (X.ns O) hb h) (O.dbg f)
theorem w7 {fa:Addr}{fo:Obj}{fd:Cu}{es:List E}{l:List D}{p:Pos}{E:VS}{Q:VS}(hS:iM B K Φ es)(hl:g8 Φ Γ ρ es=some l)(X:Ctx B Γ Wc W pe ρ s)(R:aD A K)
  (hT:¬B.T fa) (hg:s.heap.get? fa=some fo) (hd:fo.data=.func fd)
  (k:∀vs s',ay B s s'->Ctx B Γ Wc W pe ρ s'->ab B s'.heap W l vs->C3 B.M A (.call (.ref fa) ⟨vs,[]⟩) (fun r s''=>∃v,r=.ok (.ret v)/\Q v s'') s'):
  wpAny B.M A (callWith p (.ref fa) [] (EW p (C6 (fq B.nm es) pe)) []) Q E s:=by
 refine AZ (bH O _ _ _ _) ?_;refine Ga (o:=fo) (fd:=fd) (gI (jY _ _ _) (uD O hS hl X R fun vs s1 e1 X1 q1=>⟨⟨e1.keep _ _ hT hg,hd⟩,?_⟩));refine Ea (DJ (k vs s1 e1 X1 q1) ?_);rintro r s2 ⟨v,rfl,hv⟩;exact hv
theorem sZ {f:Nat}{es:List E}{fp p:Pos}(P:bD B K Φ)(hS:iM B K Φ es):bg B K Φ (.call f es fp p):=by
 intro Γ ρ r h Wc W pe A s X R;simp only[kE,Bh,Bg] at h;refine ak h fun l hl h=>?_;refine oE h fun hk h=>?_;replace h:=Bt.mp h;refine ak h fun d hd e91=>?_;subst e91;obtain⟨fa,fo,fd,h1,h2,h3,h4,c⟩:=P.call _ _ _ hd;refine B6 (ou O X hk h1 ?_);refine w7 O hS hl X R h2 (X.good.base _ _ h2 h3) h4 fun vs s1 e1 X1 q1=>?_;refine DJ (c A s1 W vs X1.good R X1.tW' X1.wlt q1) ?_;rintro r s2 ⟨v,rfl,e2,q2⟩;exact⟨v,rfl,e1.trans e2,q2⟩
theorem xD {f:Nat}{es:List E}{fp p:Pos}(P:bD B K Φ)(hS:iM B K Φ es):eU B K Φ (.call f es fp p):=by
 intro Γ ρ b h Wc W pe A s X R;simp only[mX,Bh,Bg] at h;refine ak h fun l hl h=>?_;refine oE h fun hk h=>?_
 cases hb:Φ.call f l with
 |none=>rw[hb] at h;exact ah h
 |some d=>
 rw[hb] at h
 cases d with
 |bool b'=>
  obtain rfl:=A0 h;refine F7 (e:=.Call (.Name (B.nm f) fp) (fq B.nm es) [] p) (cX O (sZ O (Φ:=Φ) P hS (f:=f) (fp:=fp) (p:=p)) (r:=.d (.bool b')) (x:=.bool b') (by simp only[kE,hl,Bh,BB,hk,if_true,hb,CJ]) rfl X R fun v s1 e1 X1 q1=>?_) rfl;simp only[aw] at q1;subst q1;exact B1 ⟨e1,rfl⟩
 |_=>exact ah h
theorem tI {id:Nat}{caps l:List D}{r:Mine.R}{es:List E}{p:Pos}{f:Value}(P:bD B K Φ)(hS:iM B K Φ es)(X:Ctx B Γ Wc W pe ρ s)(R:aD A K)(hf:aw B s.heap W (.lam id caps) f)
  (hl:g8 Φ Γ ρ es=some l) (h:(match Φ.lam id (caps++l) with|some d=>some (Mine.R.d d)|none=>(Φ.gen id (caps++l)).map .it)=some r):
  wpAny B.M A (callWith p f [] (EW p (C6 (fq B.nm es) pe)) []) (fun v s'=>ay B s s'/\bS B K s W r v s') i6 s:=by
 simp only[aw] at hf;obtain⟨fa,cv,rfl,hw,hlam,hc⟩:=hf;have nT:¬B.T fa:=fun t=>hw (X.tW' _ t);have obj:∃fo fd,s.heap.get? fa=some fo/\fo.data=.func fd:=O.lamfun _ _ _ _ _ hlam;refine sI obj fun fo fd hg hd=>?_;refine w7 O hS hl X R nT hg hd fun vs s1 e1 X1 q1=>?_;have hc1:=ab.eff O X.tW' hc e1;have hl1:B.Lam id cv s1.heap W fa:=O.lamkeep _ _ _ _ _ _ _ hlam (e1.kW X.tW') (fun b q=>.inl q)
 cases hd:Φ.lam id (caps++l) with
 |some d=>
  rw[hd] at h;obtain rfl:=A0 h;refine DJ (P.lam _ _ _ _ hd fa cv A s1 W vs X1.good R X1.tW' X1.wlt hl1 hc1 q1) ?_;rintro r s2 ⟨v,rfl,e2,q2⟩;exact⟨v,rfl,e1.trans e2,q2⟩
 |none=>
  have hn:=hd;rw[hd] at h;refine ak (aI h) fun l' hg' e91=>?_;subst e91;refine DJ (P.gen _ _ _ _ hn hg' fa cv A s1 W vs X1.good R X1.tW' X1.wlt hl1 hc1 q1) ?_;rintro r s2 ⟨v,rfl,e2,q2⟩;exact⟨v,rfl,e1.trans e2,bS.back O (r:=.it l') e1 q2⟩
theorem xw {f:Nat}{es:List E}{fp p:Pos}(P:bD B K Φ)(hS:iM B K Φ es):bg B K Φ (.callv f es fp p):=by
 intro Γ ρ r h Wc W pe A s X R;rw[mQ] at h
 cases hr:ρ f with
 |none=>rw[hr] at h;exact ah h
 |some en=>
  rw[hr] at h
  cases en with
  |fz d=>cases d with
   |lam id caps=>
    refine ak (ai h) fun l hl h=>?_;refine ak (X.vars _ _ hr) fun v lv rv=>?_;exact B6 (BX (Ctx.name O X lv (tI O P hS X R rv hl h) (O.cld f)) (O.dbg f))
   |_=>exact ah h
  |_=>exact ah h
theorem yi {f:E}(hf:f.isCall=true)(es:List E)(p:Pos)(pe:Env)(nm:Nat->Str):eval (.Call (f.py nm) (fq nm es) [] p) pe=(do callWith p (<-eval (f.py nm) pe) [] (EW p (C6 (fq nm es) pe)) []):=by
 cases f<;>first|rfl|exact ce hf
theorem xA {f:E}{es:List E}{p:Pos}(P:bD B K Φ)(hf:bg B K Φ f)(hS:iM B K Φ es):bg B K Φ (.calle f es p):=by
 intro Γ ρ r h Wc W pe A s X R;simp only[mR] at h
 split at h
 ·exact ah h
 rename_i hcall
 simp only[Bh,Bg] at h;refine ak h fun rf h1 h=>?_
 cases hd:rf.asD with
 |none=>replace h:=hd▸h;exact ah h
 |some d=>
  rw[hd] at h
  cases d with
  |lam id caps=>
   refine ak (ai h) fun l hl h=>?_;refine AZ uv<|AZ (yi O (by simpa using hcall) _ _ _ _) ?_
   refine Bc (cX O hf h1 hd X R fun v s1 e1 X1 q1=>?_);refine BH (tI O P hS X1 R q1 hl h) (fun v s2 h2=>⟨e1.trans h2.1,bS.back O e1 h2.2⟩) fun J J f=>f
  |_=>exact ah h
end
end Mine
namespace Mine
variable {B:Bs}{K:Nat}
theorem ao.refl (p:Pv)(s:Be):ao B p s s:=⟨fun J J J J e=>e,fun J J J e=>e,Bq _,id,fun J J J e=>e,Bq _,id,rfl⟩
theorem ao.trans {p p':Pv}{s s' s'':Be}(a:ao B p s s')(b:ao B p' s' s'')(ha:∀x,p'.a x->p.a x\/s.heap.objs.size<=x)(hg:∀i,p'.g i->p.g i\/s.gens.size<=i):ao B p s s'' where
 keep:=fun x o t n e=>b.keep x o t (fun q=>(ha x q).elim n fun z=>absurd (BG e) (Gw.mpr z)) (a.keep x o t n e)
 ck:=fun x o t e=>b.ck x o t (a.ck x o t e)
 size:=Bf a.size b.size
 ti:=fun t=>b.ti (a.ti t)
 gens:=fun i x n e=>b.gens i x (fun q=>(hg i q).elim n fun z=>by
  have:=(Cn.mp e).1;lia) (a.gens i x n e)
 gsize:=Bf a.gsize b.gsize
 bare:=fun t=>b.bare (a.bare t)
 os:=b.os.trans a.os
theorem ay.toP {s s':Be}(e:ay B s s')(p:Pv):ao B p s s' where
 keep:=fun x o t J q=>e.keep x o t q
 ck:=e.ck
 size:=e.size
 ti:=e.ti
 gens:=fun i x J q=>e.gens i x q
 gsize:=by
  rcases Ek s'.gens.size s.gens.size with h|h
  ·have:=e.gens s'.gens.size s.gens[s'.gens.size] (by simp[h])
   simp at this
  ·exact h
 bare:=e.bare
 os:=e.os
theorem ao.mono {p p':Pv}{s s':Be}(e:ao B p s s')(ha:∀b,p.a b->p'.a b)(hg:∀i,p.g i->p'.g i):ao B p' s s':=
 ⟨fun b o t n q=>e.keep b o t (fun x=>n (ha b x)) q,e.ck,e.size,e.ti,fun i x n q=>e.gens i x (fun y=>n (hg i y)) q,e.gsize,e.bare,e.os⟩
theorem ao.toEff {p:Pv}{s₀ s s':Be}(a:ay B s₀ s)(e:ao B p s s')(ha:∀b,p.a b->s₀.heap.objs.size<=b)(hg:∀i,p.g i->s₀.gens.size<=i):ay B s₀ s' where
 keep:=fun b o t q=>e.keep b o t (fun x=>absurd (BG q) (Gw.mpr (ha b x))) (a.keep b o t q)
 ck:=fun b o t q=>e.ck b o t (a.ck b o t q)
 size:=Bf a.size e.size
 ti:=fun t=>e.ti (a.ti t)
 gens:=fun i x q=>e.gens i x (fun y=>by have:=(Cn.mp q).1;have:=hg i y;lia) (a.gens i x q)
 bare:=fun t=>e.bare (a.bare t)
 os:=e.os.trans a.os
theorem ao.kW {p:Pv}{s s':Be}{W:AP}(e:ao B p s s')(tW:∀b,B.T b->W b)(hp:∀b,p.a b->W b):∀b o,(¬W b\/B.KO o)->s.heap.get? b=some o->s'.heap.get? b=some o:=
 fun b o n q=>n.elim (fun n=>e.keep b o (fun t=>n (tW b t)) (fun z=>n (hp b z)) q) fun n=>e.ck b o n q
theorem aK.moveP {p:Pv}{s s':Be}(g:aK B s)(e:ao B p s s')(h:∀b,p.a b->B.Hi b):aK B s':=
 ⟨fun b o t x=>e.keep b o t (fun q=>absurd (BG x) (Gw.mpr (h b q).1)) (g.base b o t x),Bf g.size e.size,e.ti g.ti,fun b t=>Ba (g.tlt b t) e.size⟩
theorem wy {T:String}(ok:tA T=true):(T == "code" || T == "dict")=false:=by
 unfold tA at ok;simp only[Ep,HD,Fl,BZ,beq_iff_eq] at ok;rcases ok with rfl|rfl|rfl|rfl|rfl|rfl<;>decide
theorem zG {A:BO}{E:VS}{s:Be}{elts:List Expr}{k:Nat}{pos:Pos}{I:Addr}{v:Value}{T:String}{Q:Unit->Be->Prop}(hT:s.TypeIs (.ref I) T)(ok:tA T=true)(hQ:Q () s):
  wpAny B.M A (CM (.Tuple elts k pos) (.ref I) v) Q E s:=by
 refine ak hT fun o ho hc=>?_;have key:["enumerate", "zip", "dict_itemiterator", "dict_reverseitemiterator", "odict_iterator", "itertools.zip_longest", "itertools.pairwise"].contains T=false:=by
  unfold tA at ok;simp only[Ep,HD,Fl,BZ,beq_iff_eq] at ok;rcases ok with rfl|rfl|rfl|rfl|rfl|rfl<;>decide
 cases v with
 |ref t=>
  unfold CM;refine Bc (wpAny_load ho ?_);refine AZ hc ?_
  cases o.data with
  |fields fs=>
   show wpAny _ _ (if _ then _ else _) _ _ _;refine AZ (if_neg (by intro h;rw[key] at h;simp at h)) ?_;exact Bk hQ
  |_=>exact Bk hQ
 |_=>exact Bk hQ
theorem iA {A:BO}{E:VS}{s:Be}{x:Str}{pos:Pos}{it v:Value}{Q:Unit->Be->Prop}(hQ:Q () s):wpAny B.M A (CM (.Name x pos) it v) Q E s:=Bk hQ
structure WkI (B:Bs)(F:AP)(I:Addr)(fp:List Addr) (n:Nat)(P:Nat->Value->Prop)(St:Nat->Heap->Prop)(ds:List D)(l:List D)(p:Pv)(s:Be):Prop where
 at':∃i,i<=n/\l=ds.drop i/\St i s.heap
 pa:p.a=fun b=>b=I
 pg:p.g=fun J=>False
 fp:∀b∈fp,b=I\/F b
 low:I < s.heap.objs.size/\¬B.T I/\¬F I
 ft:∀b,F b->¬B.T b
 len:ds.length=n
 its:∀j v d,ds[j]?=some d->P j v->aw B s.heap (fun b=>¬F b) d v
section
variable (O:B.Ok)
include O
theorem wk_ok {F:AP}{I:Addr}{fp:List Addr}{n:Nat}{P:Nat->Value->Prop}{St:Nat->Heap->Prop}{ds:List D}(W:∀A:BO,A.handled=none->Walks B.prog B.w A I fp [I] n P St)
  (hty:∀i h,St i h->∃o T,h.get? I=some o/\o.cls=.type T/\tA T=true):bL B K F I (WkI B F I fp n P St ds) where
 sub:=fun l p s h b hb=>by rw[h.pa] at hb;subst hb;exact⟨h.low.2.2,h.low.2.1,h.low.1⟩
 subg:=fun l p s h i hi=>by rw[h.pg] at hi;exact hi.elim
 ft:=fun l p s h=>h.ft
 ty:=fun l p s h=>by
  refine pJ h.at' fun i J J st=>?_;refine kJ (hty i _ st) fun o T h1 h2 h3=>?_;exact⟨T,⟨o,h1,h2⟩,h3⟩
 stay:=fun l p s s' h k ck hs J g=>by
  have kf:∀b∈fp,∀o,s.heap.get? b=some o->s'.heap.get? b=some o:=fun b hb o e=>by
   rcases h.fp b hb with rfl|hF
   ·exact k _ _ h.low.2.1 (.inr (by exact AZ h.pa rfl)) e
   ·exact k _ _ (h.ft b hF) (.inl hF) e
  refine⟨?_,h.pa,h.pg,h.fp,⟨Ba h.low.1 hs,h.low.2⟩,h.ft,h.len,fun j v d e q=>?_⟩
  ·refine pJ h.at' fun i hi hl st=>?_
   exact⟨i,hi,hl,(W {} rfl).frame _ _ _ st kf⟩
  ·exact aw.move O (fun b o hb e=>hb.elim (fun hb=>k b o (h.ft b (Ff.mp hb)) (.inl (Ff.mp hb)) e) fun hb=>ck b o hb e) (fun b q=>.inl q) d v (h.its j v d e q)
 next:=fun d l p s A E Q h g R k=>by
  refine pJ h.at' fun i hi hl st=>?_;have hd:ds[i]?=some d:=by
   have:=congrArg Hl hl;rw[FZ] at this;refine AZ (BE this) ?_;rfl
  have hlt:i < n:=by
   refine AZ (BE h.len) ?_;exact(B0.mp hd).1
  refine Mine.uz ((W A R.handled).item i s _ _ hlt st fun v h' tk hP st' hk hsz=>?_);have keep:∀b o,b≠I->s.heap.get? b=some o->h'.get? b=some o:=fun b o hb e=>hk b o (by simpa using hb) e;have nc:∀b o,B.KO o->s.heap.get? b=some o->b≠I:=fun b o hc e q=>by
   subst q;refine kJ (hty _ _ st) fun oI T hoI hcl hok=>?_;obtain rfl:=A0 (hoI.symm.trans e);exact zJ hc hcl (wy hok)
  have hrep:∀j v d,ds[j]?=some d->P j v->aw B h' (fun b=>¬F b) d v:=fun j v d e q=>
   aw.move O (fun b o hb e=>keep b o (fun x=>hb.elim (fun hb=>h.low.2.2 (x▸Ff.mp hb)) fun hb=>nc b o hb e x) e) (fun b q=>.inl q) d v (h.its j v d e q)
  refine k v _ p ⟨fun b o t n e=>keep b o (fun x=>n (by refine AZ h.pa ?_;exact x)) e,fun b o hc e=>keep b o (nc b o hc e) e,hsz,fun t=>?_,fun J J J e=>e,Bq _,id,rfl⟩ (fun J q=>q) (fun J q=>.inl q) rfl (hrep i v d hd hP) ?_
  ·exact O.tikeep _ _ t fun b o tb e=>keep b o (fun x=>tb.elim (fun tb=>h.low.2.1 (x▸tb)) fun hc=>nc b o hc e x) e
  ·refine⟨⟨i+1,hlt,?_,st'⟩,h.pa,h.pg,h.fp,⟨Ba h.low.1 hsz,h.low.2⟩,h.ft,h.len,hrep⟩
   have:=congrArg List.tail hl;rw[List.tail_drop] at this;exact this
 done:=fun p s A E Q h g R k=>by
  refine pJ h.at' fun i hi hl st=>?_;have:i=n:=by
   have:=congrArg EE hl;rw[FO,Da,h.len] at this
   lia
  subst this;refine Mine.uz ((W A R.handled).done s _ _ st fun h' tk hk hsz=>?_);have keep:∀b o,b≠I->s.heap.get? b=some o->h'.get? b=some o:=fun b o hb e=>hk b o (by simpa using hb) e;have nc:∀b o,B.KO o->s.heap.get? b=some o->b≠I:=fun b o hc e q=>by
   subst q;refine kJ (hty _ _ st) fun oI T hoI hcl hok=>?_;obtain rfl:=A0 (hoI.symm.trans e);exact zJ hc hcl (wy hok)
  refine k _ ⟨fun b o t n e=>keep b o (fun x=>n (by refine AZ h.pa ?_;exact x)) e,fun b o hc e=>keep b o (nc b o hc e) e,hsz,fun t=>?_,fun J J J e=>e,Bq _,id,rfl⟩;exact O.tikeep _ _ t fun b o tb e=>keep b o (fun x=>tb.elim (fun tb=>h.low.2.1 (x▸tb)) fun hc=>nc b o hc e x) e
 self:=fun l p s A E Q h g R hQ=>by
  refine pJ h.at' fun i J J st=>?_;exact(W A R.handled).self i s Q E st hQ
end
end Mine
namespace Mine
variable {B:Bs}{K:Nat}
theorem uR (lo n:Int):Builtin.Range.rangeSize lo n 1=(n - lo).toNat:=by
 refine AZ (rangeSize_one _ _) ?_
 by_cases h:lo < n
 ·exact AZ (if_pos h)<|AZ (Ei (Int.sub_nonneg_of_le (Int.le_of_lt h))) rfl
 ·refine AZ (if_neg h)<|AZ (Int.toNat_of_nonpos (Int.sub_nonpos_of_le (HF.mp h))) ?_;rfl
theorem th {lo n:Int}(h:(-1048576<=lo/\lo<=1048576)/\-1048576<=n/\n<=1048576):Builtin.Range.small lo n 1=true:=by
 exact small_one (Em (by decide) h.1.1) (Ey h.1.2 (by decide)) (Em (by decide) h.2.1) (Ey h.2.2 (by decide))
noncomputable abbrev Fz (W:AP)(h:Heap):Addr->Prop:=fun b=>¬W b/\b < h.objs.size
noncomputable def ItAt (B:Bs) (K:Nat)(s₀:Be)(W:AP)(it:Addr)(F:AP)(p:Pv)(I:List D->Pv->Be->Prop)(items:List D)(s:Be):Prop:=
 bL B K F it I/\I items p s/\(∀b,F b->¬W b/\b < s.heap.objs.size)/\(∀b,p.a b->s₀.heap.objs.size<=b)/\(∀i,p.g i->s₀.gens.size<=i)
section
variable (O:B.Ok)
include O
variable {Γ:aj}{ρ:ac}{Wc W:AP}{pe:Env}{A:BO}{s₀ s:Be}
theorem ab.frozen {ds:List D}{vs:List Value}{W:AP}{h:Heap}(r:ab B h W ds vs):ab B h (fun b=>¬Fz W h b) ds vs:=
 ab.move O (fun J J J e=>e) (fun b q=>by
  by_cases w:W b
  ·exact .inl w
  ·refine .inr (BY ?_)
   rcases Ek b h.objs.size with z|z
   ·exact absurd ⟨w,z⟩ q
   ·exact z) _ _ r
theorem zO {o:Obj}{fp:List Addr}{n:Nat}{P:Nat->Value->Prop}{St:Nat->Heap->Prop}{items:List D}{T:String}(W':∀A:BO,A.handled=none->Walks B.prog B.w A s.heap.objs.size fp [s.heap.objs.size] n P St)
  (hty:∀i h,St i h->∃o T,h.get? s.heap.objs.size=some o/\o.cls=.type T/\tA T=true) (tW:∀b,B.T b->W b) (wlt:∀b,W b->b < s.heap.objs.size) (e₀:ay B s₀ s)
  (hfp:∀b∈fp,b=s.heap.objs.size\/(¬W b/\b < s.heap.objs.size)) (hst:St 0 (s.heap.push o)) (hlen:items.length=n)
  (hits:∀j v d,items[j]?=some d->P j v->aw B s.heap (fun b=>¬Fz W s.heap b) d v):
  ∃F p I,ItAt B K s₀ W s.heap.objs.size F p I items { s with heap:=s.heap.push o }:=by
 refine⟨Fz W s.heap,⟨fun b=>b=s.heap.objs.size,fun J=>False⟩,WkI B (Fz W s.heap) s.heap.objs.size fp n P St items,wk_ok O W' hty,?_,?_,?_,?_⟩
 ·refine⟨⟨0,Cp _,rfl,hst⟩,rfl,rfl,hfp,⟨by refine AZ (BM _ _) ?_;exact Ct _,fun t=>Bd _ (wlt _ (tW _ t)),fun q=>Bd _ q.2⟩,fun b q t=>q.1 (tW _ t),hlen,fun j v d e q=>?_⟩
  exact aw.move O (fun b o J e=>By _ e) (fun b q=>.inl q) d v (hits j v d e q)
 ·intro b q
  exact⟨q.1,by refine AZ (BM _ _) ?_;exact CV q.2⟩
 ·intro b q
  subst q;exact e₀.size
 ·intro i q
  exact q.elim
theorem iW {o:Obj}{fp:List Addr}{n:Nat}{P:Nat->Value->Prop}{St:Nat->Heap->Prop}{items:List D}(W':∀A:BO,A.handled=none->Walks B.prog B.w A s.heap.objs.size fp [s.heap.objs.size] n P St)
  (hty:∀i h,St i h->∃o T,h.get? s.heap.objs.size=some o/\o.cls=.type T/\tA T=true) (tW:∀b,B.T b->W b) (wlt:∀b,W b->b < s.heap.objs.size)
  (hfp:∀b∈fp,b=s.heap.objs.size\/(¬W b/\b < s.heap.objs.size)) (hst:St 0 (s.heap.push o)) (hlen:items.length=n)
  (hits:∀j v d,items[j]?=some d->P j v->aw B s.heap (fun b=>¬Fz W s.heap b) d v):
  ∃I,bL B K (Fz W s.heap) s.heap.objs.size I/\I items ⟨fun b=>b=s.heap.objs.size,fun J=>False⟩ { s with heap:=s.heap.push o }:=by
 refine⟨WkI B (Fz W s.heap) s.heap.objs.size fp n P St items,wk_ok O W' hty,?_⟩;refine⟨⟨0,Cp _,rfl,hst⟩,rfl,rfl,hfp,⟨by refine AZ (BM _ _) ?_;exact Ct _,fun t=>Bd _ (wlt _ (tW _ t)),fun q=>Bd _ q.2⟩,fun b q t=>q.1 (tW _ t),hlen,fun j v d e q=>?_⟩;exact aw.move O (fun b o J e=>By _ e) (fun b q=>.inl q) d v (hits j v d e q)
theorem it_at {it:Addr}{s':Be}{I:List D->Pv->Be->Prop}{items:List D}(e₀:ay B s₀ s)(hit:it=s.heap.objs.size)(e:ay B s s')(ok:bL B K (Fz W s.heap) it I)(hI:I items ⟨fun b=>b=it,fun J=>False⟩ s'):
  ItAt B K s₀ W it (Fz W s.heap) ⟨fun b=>b=it,fun J=>False⟩ I items s':=
 ⟨ok,hI,fun b q=>⟨q.1,Ba q.2 e.size⟩,fun b q=>by subst q;refine AZ hit ?_;exact e₀.size,fun i q=>q.elim⟩
set_option tactic.hygienic true in
omit O in
theorem asI_inv {items:List D}:∀{x:D},(Mine.R.d x).asI=some items->(∃l,x=.list l/\l=items)\/(∃l,x=.tup l/\l=items)\/∃l,x=.str l/\(l.map fun c=>D.str [c])=items:=fun{x} h=>by
 cases x
 case list l=>exact .inl ⟨l,rfl,A0 h⟩
 case tup l=>exact .inr (.inl ⟨l,rfl,A0 h⟩)
 case str l=>exact .inr (.inr ⟨l,rfl,A0 h⟩)
 all_goals exact ah h
theorem j5 {x:D}{v:Value}{items:List D}{E:VS}{Q:VS}(h:(Mine.R.d x).asI=some items)(tW:∀b,B.T b->W b)(wlt:∀b,W b->b < s.heap.objs.size)(rp:aw B s.heap W x v)
  (k:∀I s',bL B K (Fz W s.heap) s.heap.objs.size I->I items ⟨fun b=>b=s.heap.objs.size,fun J=>False⟩ s'->items.length<=lim->ay B s s'->Q (.ref s.heap.objs.size) s'):wpAny B.M A (Gp v) Q E s:=by
  rcases asI_inv h with⟨ds,rfl,rfl⟩|⟨ds,rfl,rfl⟩|⟨l,rfl,rfl⟩
  case inl=>
   simp only[aw] at rp;obtain⟨a,vs,n,rfl,hw,hg,hl,ra⟩:=rp;have hlt:=BG hg;have L:s.heap.IsList a vs:=⟨_,hg,rfl,n,rfl⟩;refine wpAny_pyIter_list L ?_;obtain⟨I,ok,hI⟩:=iW O (K:=K) (s:=s) (W:=W) (o:={ cls:=.type "list_iterator", data:=.fields #[.ref a,.int 0 0] }) (fun A hA=>Walks.list hA s.heap.objs.size a (DA hlt) vs)
    (fun i h st=>by refine aS st fun p91 J=>?_;obtain⟨o,h1,h2,J⟩:=p91;exact⟨o,_,h1,h2,by decide⟩) tW wlt (items:=ds) (by
     intro b hb;rcases Bw.mp hb with rfl|hb
     ·exact .inl rfl
     ·rcases Bw.mp hb with rfl|hb
      ·exact .inr ⟨hw,hlt⟩
      ·exact bE hb) ⟨⟨_,BD _ rfl,rfl,rfl⟩,L.push _⟩ (by have:=ab.length ra;simpa using this.symm) (fun j v d e q=>by
     refine ak (ab.get (ab.frozen O ra) e) fun v' hv rv=>?_;rw[C7] at hv
     obtain rfl:=A0 (hv.symm.trans q);exact rv)
   exact k I _ ok hI hl (ay.push O _ _)
  case inr.inl=>
   simp only[aw] at rp;obtain⟨a,vs,n,rfl,hw,hg,hl,ra⟩:=rp;have hlt:=BG hg;have L:s.heap.IsTuple a vs:=⟨_,hg,rfl,n,rfl⟩;refine wpAny_pyIter_tuple L ?_;obtain⟨I,ok,hI⟩:=iW O (K:=K) (s:=s) (W:=W) (o:={ cls:=.type "tuple_iterator", data:=.fields #[.ref a,.int 0 0] }) (fun A hA=>Walks.tuple hA s.heap.objs.size a (DA hlt) vs)
    (fun i h st=>by refine aS st fun p91 J=>?_;obtain⟨o,h1,h2,J⟩:=p91;exact⟨o,_,h1,h2,by decide⟩) tW wlt (items:=ds) (by
     intro b hb;rcases Bw.mp hb with rfl|hb
     ·exact .inl rfl
     ·rcases Bw.mp hb with rfl|hb
      ·exact .inr ⟨hw,hlt⟩
      ·exact bE hb) ⟨⟨_,BD _ rfl,rfl,rfl⟩,⟨_,By _ hg,rfl,n,rfl⟩⟩ (by have:=ab.length ra;simpa using this.symm) (fun j v d e q=>by
     refine ak (ab.get (ab.frozen O ra) e) fun v' hv rv=>?_;rw[C7] at hv
     obtain rfl:=A0 (hv.symm.trans q);exact rv)
   exact k I _ ok hI hl (ay.push O _ _)
  case inr.inr=>
   simp only[aw] at rp;refine aS rp fun p91 hl=>?_;obtain⟨t,rfl⟩:=p91;have hsz:(⟨l.toArray⟩:Str).cps.size=l.length:=by simp
   have its:∀(j:Nat) (v:Value) (d:D),(l.map fun c=>D.str [c])[j]?=some d->SignAt ⟨l.toArray⟩ j v->aw B s.heap (fun b=>¬Fz W s.heap b) d v:=by
    rintro j v d e ⟨c,u,hc,rfl⟩;simp only[CU,Bt] at e;refine ak e fun c' hc' e91=>?_;subst e91;simp only[GV] at hc;obtain rfl:=A0 (hc'.symm.trans hc);exact⟨⟨_,rfl⟩,by simp[lim]⟩
   cases ha:(⟨l.toArray⟩:Str).cps.all (· < 128)
   ·refine wpAny_pyIter_wide ha ?_
    obtain⟨I,ok,hI⟩:=iW O (K:=K) (s:=s) (W:=W) (o:={ cls:=.type "str_iterator", data:=.fields #[.str ⟨l.toArray⟩ t,.int 0 0] }) (fun A hA=>Walks.strWide hA s.heap.objs.size _ t)
     (fun i h st=>by refine pJ st fun o h1 h2 J=>?_;exact⟨o,_,h1,h2,by decide⟩) tW wlt (items:=l.map fun c=>D.str [c]) (by
      intro b hb;rcases Bw.mp hb with rfl|hb
      ·exact .inl rfl
      ·exact bE hb) ⟨_,BD _ rfl,rfl,rfl⟩ (by simp) its
    exact k I _ ok hI (by simpa using hl) (ay.push O _ _)
   ·refine wpAny_pyIter_ascii ha ?_
    obtain⟨I,ok,hI⟩:=iW O (K:=K) (s:=s) (W:=W) (o:={ cls:=.type "str_ascii_iterator", data:=.fields #[.str ⟨l.toArray⟩ t,.int 0 0] }) (fun A hA=>Walks.strAscii hA s.heap.objs.size _ t)
     (fun i h st=>by refine pJ st fun o h1 h2 J=>?_;exact⟨o,_,h1,h2,by decide⟩) tW wlt (items:=l.map fun c=>D.str [c]) (by
      intro b hb;rcases Bw.mp hb with rfl|hb
      ·exact .inl rfl
      ·exact bE hb) ⟨_,BD _ rfl,rfl,rfl⟩ (by simp) its
    exact k I _ ok hI (by simpa using hl) (ay.push O _ _)
theorem rC {r:Mine.R}{v:Value}{items:List D}{E:VS}{Q:VS}(h:r.asI=some items)(tW:∀b,B.T b->W b)(wlt:∀b,W b->b < s.heap.objs.size)(g:aK B s)(R:aD A (K - 4))(e₀:ay B s₀ s)(rp:bS B K s₀ W r v s)
  (k:∀it F p I s',ItAt B K s₀ W it F p I items s'->items.length<=lim->ay B s s'->Q (.ref it) s'):wpAny B.M A (Gp v) Q E s:=by
 cases r with
 |own l=>exact ah h
 |d x=>
  simp only[bS] at rp;exact j5 O (K:=K) h tW wlt rp fun I s' ok hI hl e=>k _ _ _ _ _ (it_at O e₀ rfl e ok hI) hl e
 |it l=>
  obtain rfl:=A0 h;rcases rp with⟨r,lo,n,t,u,z,rfl,hw,hr,h0,hl,rfl⟩|⟨a,F,p,I,rfl,hty,ok,hI,hF,hp,hg,hl⟩
  ·have hrs:=uR lo n
   refine wpAny_pyIter_range hr (th h0) ?_;refine AZ hrs ?_;obtain⟨F,p,I,hI⟩:=zO O (s₀:=s₀) (s:=s) (W:=W) (o:={ cls:=.type "range_iterator", data:=.fields #[Er lo,Er ((n - lo).toNat:Int),Er 1] }) (T := "") (fun A hA=>Walks.range hA s.heap.objs.size lo 1 (n - lo).toNat)
    (fun i h st=>⟨_,_,st,rfl,by decide⟩) tW wlt e₀ (items:=(Bn (n - lo).toNat).map fun(i:Nat)=>D.int (lo+i)) (by
     intro b hb;rcases Bw.mp hb with rfl|hb
     ·exact .inl rfl
     ·exact bE hb) (by show IsRangeIter _ _ _ _ _;simpa using BD _ rfl) (by simp) (by
     rintro j v d e ⟨t,rfl⟩;simp only[CU,Bt] at e;refine ak e fun i hi e91=>?_;subst e91;have:i=j:=by
      have:=B0.mp hi;refine x1 this fun h1 h2=>?_
      simpa using h2.symm
     subst this
     exact⟨t,by simp⟩)
   exact k _ _ _ _ _ hI (by simpa using hl) (ay.push O _ _)
  ·exact ok.self _ _ _ _ _ _ hI g R (k a F p I s ⟨ok,hI,hF,hp,hg⟩ hl (ay.refl _))
end
end Mine
namespace Mine
variable {B:Bs}
noncomputable abbrev fB (W Wc:AP):Pv:=⟨fun b=>W b/\¬Wc b,fun J=>False⟩
noncomputable abbrev zP (B:Bs)(pe:Env) (x:Nat):Pv:=⟨fun b=>b=pe.locals\/pe.cells.lookup (B.nm x)=some b,fun J=>False⟩
theorem n9 {h:Heap}{a b:Addr}{m:Str->Option Value}{vs:Array Value}{n:Nat}(x:h.Ns a m)(y:h.get? b=some { cls:=.type "list", dict:=none,data:=.seq vs n,slots:=#[] }):b≠a:=by
 rintro rfl;refine yn x fun o es ep e hd J=>?_;obtain rfl:=A0 (y.symm.trans e);cases hd
theorem iS {o:Obj}(h:B.TabO o):∃(es:Array DictEntry) (n:Nat)(e:DictEntry)(v:Value),o.data=.dict es n/\es.find? (fun e=>Value.isStr e.key (cR [65]))=some e/\es.toList.find? (fun e=>Value.isStrOf (cR [65]) e.key)=some e/\e.val=v/\v≠.none:=by
 obtain⟨x,es,n,kvs,e,c,d,hk1,hp,hk,nd,hv,hl,ne⟩:=h
 cases hp':es.toList with
 |nil=>
  replace hp:=hp'▸hp
  cases hp
  have:x.ks=[]:=by cases hx:x.ks<;>simp_all
  rw[this] at ne;exact ah ne
 |cons e0 r=>
  replace hp:=hp'▸hp
  cases hp with
  |@cons _ kv _ kvs' h1 h2 h3=>
   have hk0:kv.1=cR [65]:=by
    cases hx:x.ks with
    |nil=>rw[hx] at ne;exact ah ne
    |cons y ys=>
     rw[hx] at ne hk;obtain rfl:=A0 ne;simp only[Bo,Fw] at hk;exact hk.1
   have h1':Value.isStrOf (cR [65]) e0.key=true:=hk0▸h1;refine x1 (Value.isStrOf_shape h1') fun t ht=>?_;have hf:es.toList.find? (fun e=>Value.isStrOf (cR [65]) e.key)=some e0:=by exact AZ hp'<|AZ (Cg)<|AZ h1' rfl
   have hf2:es.find? (fun e=>Value.isStr e.key (cR [65]))=some e0:=by
    refine AZ (BE (Fn))<|AZ hp'<|AZ (Cg) ?_
    have:Value.isStr e0.key (cR [65])=true:=by refine AZ ht ?_;simp[Value.isStr]
    exact AZ this rfl
   refine⟨es,n,e0,e0.val,d,hf2,hf,rfl,fun z=>?_⟩;have hl0:x.vs≠[]:=fun z=>by
    rw[z] at hl
    cases hx:x.ks with
    |nil=>rw[hx] at ne;exact ah ne
    |cons y ys=>rw[hx] at hl;exact nozs hl
   refine x2 (CI hl0) fun y ys hy=>?_;refine sI (hv 0 y (by refine AZ hy ?_;rfl)) fun q t hq hq2=>?_;obtain rfl:=A0 hq;rw[h2,hq2] at z;exact nomatch z
theorem lV {h:Heap}{a:Addr}{m:Str->Option Value}(x:h.Ns a m)(z:m (cR [65])=none):∀o,h.get? a=some o->¬B.KO o:=by
 rintro o e (⟨_,vs,hv⟩|q)
 ·refine yn x fun o' es ep e' hd J=>?_
  obtain rfl:=A0 (e.symm.trans e');rw[hv] at hd;exact nomatch hd
 ·refine x33 x fun o' es ep e' hd J hm=>?_
  obtain rfl:=A0 (e.symm.trans e');obtain⟨es',n,e0,v,hd',hf,J⟩:=iS q;rw[hd] at hd'
  injection hd' with hd'
  subst hd';have:=hm (cR [65]);unfold nsFind findBy at this;rw[hf,z] at this;exact kS this
theorem w5 {h:Heap}{a:Addr}{v:Option Value}(x:h.IsCell a v):∀o,h.get? a=some o->¬B.KO o:=by
 rintro o e (⟨_,vs,hv⟩|q)
 ·refine ak x fun o' e' hd=>?_
  obtain rfl:=A0 (e.symm.trans e');rw[hv] at hd;exact nomatch hd
 ·refine ak x fun o' e' hd=>?_
  obtain rfl:=A0 (e.symm.trans e');obtain⟨es',n,e0,v,hd',J⟩:=iS q;rw[hd] at hd';exact nomatch hd'
theorem wH {h:Heap}{a:Addr}{vs:Array Value}{n:Nat}(x:h.get? a=some { cls:=.type "list", dict:=none,data:=.seq vs n,slots:=#[] }):∀o,h.get? a=some o->¬B.KO o:=by
 rintro o e q;obtain rfl:=A0 (x.symm.trans e);exact zJ q rfl rfl
theorem mF {o:Obj}{es:Array DictEntry}{n:Nat}(d:o.data=.dict es n)(c:o.cls≠.type "code") (h:∀e∈es.toList,Value.isStrOf (cR [65]) e.key=false):¬B.KO o:=by
 rintro(q|q)
 ·exact c q.1
 ·obtain⟨es',n',e0,v,hd',J,hf,J⟩:=iS q
  rw[d] at hd'
  injection hd' with hd'
  subst hd';have h1:=F5 hf;have h2:=h e0 (DB hf);rw[h1] at h2;exact zy h2
theorem ww {h:Heap}{a:Addr}{kvs:List (Str×Value)}(x:h.DictOf (B4 B.prog B.w) a kvs)(z:∀q∈kvs,q.2=.none):∀o,h.get? a=some o->¬B.KO o:=by
 rintro o e (q|q)
 ·refine yn x fun o' es ep e' hx J=>?_
  obtain rfl:=A0 (e.symm.trans e');have e:Value.type "dict" = .type "code" := hx.1.symm.trans q.1
  injection e with e
  exact absurd e (by decide)
 ·refine x35 x fun o' es ep e' hx hd J hp J=>?_
  obtain rfl:=A0 (e.symm.trans e');obtain⟨es',n,e0,v,hd',J,hf,rfl,hv⟩:=iS q;rw[hd] at hd'
  injection hd' with hd'
  subst hd';have:=hp.find (cR [65]);rw[show(es.toList.find? fun e=>(B4 B.prog B.w).is (cR [65]) e.key)=some e0 from hf] at this;unfold DX at this
  cases hk:kvs.find? (fun kv=>decide (kv.1=cR [65])) with
  |none=>rw[hk] at this;exact kS this
  |some kv=>
   rw[hk] at this;exact hv ((A0 this).trans (z kv (DB hk)))
theorem rY {h:Heap}{a b:Addr}{m:Option Value}{vs:Array Value}{n:Nat}(x:h.IsCell a m)(y:h.get? b=some { cls:=.type "list", dict:=none,data:=.seq vs n,slots:=#[] }):b≠a:=by
 rintro rfl;refine ak x fun o e hd=>?_;obtain rfl:=A0 (y.symm.trans e);cases hd
theorem oO {K:Type} [DecidableEq K]{prog:Hu}{w:World}{knd:KeyKind prog w K}{h:Heap}{a b:Addr}{kvs:List (K×Value)}{v:Option Value}(x:h.DictOf knd a kvs)(y:h.IsCell b v):a≠b:=by
 rintro rfl;refine x33 x fun o es ep e J hd J=>?_;refine ak y fun o' e' hd'=>?_;obtain rfl:=A0 (e.symm.trans e');rw[hd] at hd';exact nomatch hd'
theorem gD {h:Heap}{a b:Addr}{m:Str->Option Value}{v:Option Value}(x:h.Ns a m)(y:h.IsCell b v):b≠a:=by
 rintro rfl;refine yn x fun o es ep e hd J=>?_;refine ak y fun o' e' hd'=>?_;obtain rfl:=A0 (e.symm.trans e');rw[hd] at hd';exact nomatch hd'
section
variable (O:B.Ok)
include O
variable {Γ:aj}{ρ:ac}{Wc W:AP}{pe:Env}{A:BO}{s:Be}
theorem cM {h':Heap}{t:Nat}{a:Addr}(ha:¬B.T a)(hc:∀o,s.heap.get? a=some o->¬B.KO o)(hs:Dy a s.heap h'):ao B ⟨fun b=>b=a,fun J=>False⟩ s { s with heap:=h',toks:=t }:=
 ⟨fun b o J n e=>hs.extBut b o n e,fun b o n e=>hs.extBut b o (fun q=>hc o (q▸e) n) e,by refine AZ hs.1 ?_;exact Bq _,fun x=>O.tikeep _ _ x fun b o tb e=>hs.extBut b o (fun q=>tb.elim (fun tb=>ha (q▸tb)) fun n=>hc o (q▸e) n) e,fun J J J e=>e,Bq _,id,rfl⟩
theorem aK.own {s':Be}(g:aK B s)(ow:∀b,W b->¬Wc b->B.Hi b)(e:ao B (fB W Wc) s s'):aK B s':=g.moveP e fun b q=>ow b q.1 q.2
theorem Ctx.change {ρ':ac}{h':Heap}{t:Nat}{a:Addr}(X:Ctx B Γ Wc W pe ρ s)(ha:W a/\¬Wc a)(hnc:∀o,s.heap.get? a=some o->¬B.KO o)(hs:Dy a s.heap h')
  (hl:∃m,h'.Ns pe.locals m/\m (cR [65])=none) (hc:∀x c,pe.cells.lookup (B.nm x)=some c->∃v,h'.IsCell c v)
  (hv:∀x e,ρ' x=some e->∃v,dA B pe h' x v/\aX B pe.locals h' Wc W e v) (hse:∀x,am ρ' x↔am ρ x)
  (hown:∀x y e e' v v' b,ρ' x=some e->ρ' y=some e'->dA B pe h' x v->dA B pe h' y v'->aU h' e v b->aU h' e' v' b->x=y):Ctx B Γ Wc W pe ρ' { s with heap:=h',toks:=t } where
 good:=aK.own O X.good X.ow ((cM O (fun t=>ha.2 (X.tW _ t)) hnc hs).mono (fun b q=>q▸ha) fun i q=>q)
 fn:=X.fn
 glob:=X.glob
 blt:=X.blt
 tW:=X.tW
 cW:=X.cW
 wlt:=fun b q=>by refine AZ (show({ s with heap:=h',toks:=t }:Be).heap.objs.size=s.heap.objs.size from hs.1) ?_;exact X.wlt b q
 loc:=hl
 locW:=X.locW
 ow:=X.ow
 code:=X.code
 kinds:=X.kinds
 cells:=fun x c q=>⟨hc x c q,(X.cells x c q).2⟩
 apart:=X.apart
 cellW:=fun x c q=>by
  rcases X.cellW x c q with z|z
  ·exact .inl ((hse x).mpr z)
  ·exact .inr z
 vars:=hv
 sealedW:=fun x q=>X.sealedW x ((hse x).mp q)
 owns:=hown
theorem aX.keep {h h':Heap}{L:Addr}{e:fu}{v:Value}(r:aX B L h Wc W e v)(k:∀b o,(¬W b\/B.KO o)->h.get? b=some o->h'.get? b=some o)(ko:∀b,aU h e v b->W b->¬Wc b->gu B L h b->∀o,h.get? b=some o->h'.get? b=some o):aX B L h' Wc W e v:=
 r.map (fun d u r=>aw.move O k (fun b q=>.inl q) d u r) (fun d u r=>ab.move O k (fun b q=>.inl q) d u r) (fun c o w q=>⟨k c o (.inl w) q,w⟩) (fun b o w wc t=>⟨⟨w,wc⟩,ko b o w wc t⟩) fun J J q=>q
theorem gu.ne_loc {L:Addr}{h:Heap}{b:Addr}{m:Str->Option Value}(t:gu B L h b)(n:h.Ns L m):b≠L:=t.elim (fun⟨J,J2,z⟩=>n9 n z) fun z=>z.1
theorem gu.ne_cell {L:Addr}{h:Heap}{b c:Addr}{v:Option Value}(t:gu B L h b)(n:h.IsCell c v):b≠c:=t.elim (fun⟨J,J2,z⟩=>rY n z) fun⟨J,J2,z,J3⟩=>oO z n
theorem gu.nc {L:Addr}{h:Heap}{b:Addr}(t:gu B L h b):∀o,h.get? b=some o->¬B.KO o:=t.elim (fun⟨J,J2,z⟩=>wH z) fun⟨J,J2,z,y⟩=>ww z y
theorem ac.set_self (ρ:ac) (x:Nat)(e:fu):ρ.set x e x=some e:=by simp[ac.set]
theorem ac.set_ne (ρ:ac){x y:Nat}(e:fu)(h:y≠x):ρ.set x e y=ρ y:=by simp[ac.set,h]
theorem Ctx.put {x:Nat}{en:fu}{v:Value}{h':Heap}{t:Nat}{c:Addr}(X:Ctx B Γ Wc W pe ρ s)(hs:¬am ρ x)(hne:∀d,en≠.sealed d)(r:aX B pe.locals s.heap Wc W en v)
  (ho:∀b,aU s.heap en v b->∀y e' w,y≠x->ρ y=some e'->dA B pe s.heap y w->¬aU s.heap e' w b)
  (hcW:W c/\¬Wc c) (hnc:∀o,s.heap.get? c=some o->¬B.KO o) (hs':Dy c s.heap h') (hn':∃m,h'.Ns pe.locals m/\m (cR [65])=none) (hcell:∀y c',pe.cells.lookup (B.nm y)=some c'->∃v,h'.IsCell c' v)
  (hot:∀b,gu B pe.locals s.heap b->b≠c) (lv:dA B pe h' x v) (mv:∀y w,y≠x->dA B pe s.heap y w->dA B pe h' y w):Ctx B Γ Wc W pe (ρ.set x en) { s with heap:=h',toks:=t }:=by
 have hse:∀y,am (ρ.set x en) y↔am ρ y:=by
  intro y
  by_cases hy:y=x
  ·subst hy
   constructor
   ·rintro⟨d',e⟩;rw[ac.set_self O] at e;exact absurd (A0 e) (hne d')
   ·intro q;exact absurd q hs
  ·unfold am;rw[ac.set_ne O _ _ hy]
 have keepW:∀b o,(¬W b\/B.KO o)->s.heap.get? b=some o->h'.get? b=some o:=fun b o hw e=>hs'.extBut b o (fun q=>hw.elim (fun hw=>hw (q▸hcW.1)) fun hc=>hnc o (q▸e) hc) e;have back:∀{e u b w},aX B pe.locals s.heap Wc W e u->aU h' e w b->w=u->aU s.heap e u b:=fun r o e=>by subst e;exact aU.back r (fun c' o w q=>keepW c' o (.inl w) q) o
 refine Ctx.change O X hcW hnc hs' hn' hcell (fun y e hy=>?_) hse (fun y z e e' u u' a hy hz ly lz oy oz=>?_)
 ·by_cases hyx:y=x
  ·subst hyx
   rw[ac.set_self O] at hy;obtain rfl:=A0 hy;exact⟨v,lv,aX.keep O r keepW fun b J J J t o q=>hs'.extBut b o (hot b t) q⟩
  ·rw[ac.set_ne O _ _ hyx] at hy
   refine ak (X.vars y e hy) fun w lw rw'=>?_;exact⟨w,mv y w hyx lw,aX.keep O rw' keepW fun b J J J t o q=>hs'.extBut b o (hot b t) q⟩
 ·have clash:∀q e' w w',q≠x->ρ q=some e'->dA B pe h' x w->aU h' en w a->dA B pe h' q w'->aU h' e' w' a->False:=fun q e' w w' hqx hq lx o1 lq o2=>by
   refine ak (X.vars q _ hq) fun w2 l2 r2=>?_;exact ho a (back r o1 (dA.uniq lx lv)) q e' w2 hqx hq l2 (back r2 o2 (dA.uniq lq (mv q w2 hqx l2)))
  by_cases hyx:y=x
  ·by_cases hzx:z=x
   ·exact AZ hyx<|AZ hzx rfl
   ·rw[hyx,ac.set_self O] at hy
    rw[ac.set_ne O _ _ hzx] at hz;obtain rfl:=A0 hy;exact(clash z e' u u' hzx hz (hyx▸ly) oy lz oz).elim
  ·by_cases hzx:z=x
   ·rw[hzx,ac.set_self O] at hz
    rw[ac.set_ne O _ _ hyx] at hy;obtain rfl:=A0 hz;exact(clash y e u' u hyx hy (hzx▸lz) oz ly oy).elim
   ·replace hy:=(ac.set_ne O _ _ hyx)▸hy
    replace hz:=(ac.set_ne O _ _ hzx)▸hz;refine ak (X.vars y _ hy) fun w lw rw1=>?_;refine ak (X.vars z _ hz) fun w' lw' rw2=>?_;exact X.owns y z e e' w w' a hy hz lw lw' (back rw1 oy (dA.uniq ly (mv y w hyx lw))) (back rw2 oz (dA.uniq lz (mv z w' hzx lw')))
theorem Ctx.storeE' {x:Nat}{en:fu}{v:Value}{E:VS}{Q:Unit->Be->Prop}(X:Ctx B Γ Wc W pe ρ s)(hk:Γ x=some .local\/Γ x=some .cell)(hs:¬am ρ x)(hne:∀d,en≠.sealed d)(r:aX B pe.locals s.heap Wc W en v)
  (ho:∀b,aU s.heap en v b->∀y e' w,y≠x->ρ y=some e'->dA B pe s.heap y w->¬aU s.heap e' w b)
  (h:∀s',Ctx B Γ Wc W pe (ρ.set x en) s'->ao B (zP B pe x) s s'->s'.heap.objs.size=s.heap.objs.size->dA B pe s'.heap x v/\(∀y w,y≠x->dA B pe s.heap y w->dA B pe s'.heap y w)->Q () s'):wpAny B.M A (Eb pe (B.nm x) v) Q E s:=by
 rcases hk with hk|hk
 ·refine aS (X.kinds _ _ hk) fun kk J=>?_
  refine ak X.loc fun m n hz=>?_;refine Ds kk n (fun h' hn' hs'=>?_) (by refine AZ X.fn ?_;rfl);have mv:∀y w,y≠x->dA B pe s.heap y w->dA B pe h' y w:=by
   rintro y w hy (⟨k,m',n',e⟩|⟨k,c,e,hc⟩)
   ·have:=Ns.uniq n n';subst this
    refine .inl ⟨k,_,hn',?_⟩;refine AZ (if_neg (fun q=>hy (O.inj _ _ q))) ?_;exact e
   ·exact .inr ⟨k,c,e,C5.moved hc fun o z=>hs'.extBut _ o (gD n hc) z⟩
  refine h _ (Ctx.put O X hs hne r ho X.locW (lV n hz) hs' ⟨_,hn',by refine AZ (if_neg (fun q=>O.nA _ q.symm)) ?_;exact hz⟩ (fun y c e=>?_) (fun b t=>gu.ne_loc O t n) (.inl ⟨kk,_,hn',by simp⟩) mv) ((cM O (fun q=>X.locW.2 (X.tW _ q)) (lV n hz) hs').mono (fun b q=>.inl q) fun i q=>q) hs'.1 ⟨.inl ⟨kk,_,hn',by simp⟩,mv⟩;refine aS (X.cells y c e) fun p91 J=>?_;obtain⟨w,hw⟩:=p91;exact⟨w,C5.moved hw fun o z=>hs'.extBut _ o (gD n hw) z⟩
 ·refine aS (X.kinds _ _ hk) fun kk hcell=>?_
  refine x1 (hcell (.inl rfl)) fun c hc=>?_;refine aS (X.cells _ _ hc) fun p91 J=>?_;obtain⟨w₀,hw₀⟩:=p91;have hcW:W c/\¬Wc c:=(X.cellW x c hc).resolve_left hs;refine ak X.loc fun m n hz=>?_;refine wpAny_storeName_cell X.fn kk hc hw₀ (fun h' hc' hs'=>?_);have hcl:c≠pe.locals:=gD n hw₀;have hn':h'.Ns pe.locals m:=n.sameBut hs' (Fj hcl);have cne:∀y c',B.nm y≠B.nm x->pe.cells.lookup (B.nm y)=some c'->c'≠c:=by
   rintro y c' hne e rfl;exact hne (Hq X.apart (mem_of_lookup e) (mem_of_lookup hc))
  have mv:∀y w,y≠x->dA B pe s.heap y w->dA B pe h' y w:=by
   rintro y w hy (⟨k,m',n',e⟩|⟨k,c',e,hc'⟩)
   ·have:=Ns.uniq n n';subst this
    exact .inl ⟨k,_,hn',e⟩
   ·exact .inr ⟨k,c',e,C5.moved hc' fun o z=>hs'.extBut _ o (cne y c' (fun q=>hy (O.inj _ _ q)) e) z⟩
  have ts:({ s with heap:=h' }:Be)={ s with heap:=h',toks:=s.toks }:=rfl;refine AZ ts ?_;refine h _ (Ctx.put O X hs hne r ho hcW (w5 hw₀) hs' ⟨_,hn',hz⟩ (fun y c' e=>?_) (fun b t=>gu.ne_cell O t hw₀) (.inr ⟨.inl kk,c,hc,hc'⟩) mv) ((cM O (fun q=>hcW.2 (X.tW _ q)) (w5 hw₀) hs').mono (fun b q=>.inr (q▸hc)) fun i q=>q) hs'.1 ⟨.inr ⟨.inl kk,c,hc,hc'⟩,mv⟩
  by_cases hcc:c'=c
  ·subst hcc;exact⟨_,hc'⟩
  ·refine aS (X.cells y c' e) fun p91 J=>?_
   obtain⟨w,hw⟩:=p91;exact⟨w,C5.moved hw fun o z=>hs'.extBut _ o hcc z⟩
theorem Ctx.storeE {x:Nat}{en:fu}{v:Value}{E:VS}{Q:Unit->Be->Prop}(X:Ctx B Γ Wc W pe ρ s)(hk:Γ x=some .local\/Γ x=some .cell)(hs:¬am ρ x)(hne:∀d,en≠.sealed d)(r:aX B pe.locals s.heap Wc W en v)
  (ho:∀b,aU s.heap en v b->∀y e' w,y≠x->ρ y=some e'->dA B pe s.heap y w->¬aU s.heap e' w b)
  (h:∀s',Ctx B Γ Wc W pe (ρ.set x en) s'->ao B (zP B pe x) s s'->Q () s'):wpAny B.M A (Eb pe (B.nm x) v) Q E s:=
 Ctx.storeE' O X hk hs hne r ho fun s' X' e' J J=>h s' X' e'
theorem Ctx.store {x:Nat}{d:D}{v:Value}{E:VS}{Q:Unit->Be->Prop}(X:Ctx B Γ Wc W pe ρ s)(hk:Γ x=some .local\/Γ x=some .cell)(hs:¬am ρ x)(r:aw B s.heap W d v)
  (h:∀s',Ctx B Γ Wc W pe (ρ.set x (.fz d)) s'->ao B (zP B pe x) s s'->Q () s'):wpAny B.M A (Eb pe (B.nm x) v) Q E s:=
 Ctx.storeE O X hk hs (fun J e=>xO rfl e) (en:=.fz d) r (fun J e=>e.elim) h
theorem Ctx.moveP' {p:Pv}{s':Be}(X:Ctx B Γ Wc W pe ρ s)(e:ao B p s s')(hp:∀b,p.a b->Wc b)(g':aK B s'):Ctx B Γ Wc W pe ρ s':=by
 have kO:∀b o,¬Wc b->s.heap.get? b=some o->s'.heap.get? b=some o:=fun b o n q=>e.keep b o (fun t=>n (X.tW _ t)) (fun t=>n (hp _ t)) q;have kW:=e.kW X.tW' (fun b q=>X.cW b (hp b q));have cWc:∀x c,pe.cells.lookup (B.nm x)=some c->¬Wc c:=fun x c q=>by
  rcases X.cellW x c q with z|z
  ·refine ak (X.sealedW x z) fun c' e' hw=>?_
   obtain rfl:=A0 (q.symm.trans e');exact fun t=>hw (X.cW _ t)
  ·exact z.2
 have mv:∀y w,dA B pe s.heap y w->dA B pe s'.heap y w:=by
  rintro y w (⟨k,m',n',q⟩|⟨k,c',q,hc'⟩)
  ·exact .inl ⟨k,_,CN.moved n' fun o z=>kO _ o X.locW.2 z,q⟩
  ·exact .inr ⟨k,c',q,C5.moved hc' fun o z=>kO _ o (cWc y c' q) z⟩
 exact{
  good:=g'
  fn:=X.fn
  glob:=X.glob
  blt:=X.blt
  tW:=X.tW
  cW:=X.cW
  wlt:=fun b q=>Ba (X.wlt b q) e.size
  loc:=let ⟨m,n,z⟩:=X.loc;⟨m,CN.moved n fun o y=>kO _ o X.locW.2 y,z⟩
  locW:=X.locW
  ow:=X.ow
  code:=X.code
  kinds:=X.kinds
  cells:=fun x c q=>let ⟨⟨v,hv⟩,ht⟩:=X.cells x c q;⟨⟨v,C5.moved hv fun o y=>kO _ o (cWc x c q) y⟩,ht⟩
  apart:=X.apart
  cellW:=X.cellW
  vars:=fun x en q=>by
   refine ak (X.vars x en q) fun v l r=>?_;exact⟨v,mv _ _ l,r.map (fun d u r=>aw.move O kW (fun b q=>.inl q) d u r) (fun d u r=>ab.move O kW (fun b q=>.inl q) d u r) (fun c o w q=>⟨kW c o (.inl w) q,w⟩) (fun b J w wc J=>⟨⟨w,wc⟩,fun o q=>kO b o wc q⟩) fun J J q=>q⟩
  sealedW:=X.sealedW
  owns:=X.owns' mv fun c o w q=>kW c o (.inl w) q }
theorem Ctx.moveP {p:Pv}{s':Be}(X:Ctx B Γ Wc W pe ρ s)(e:ao B p s s')(hp:∀b,p.a b->Wc b)(h0:∀b,p.a b->B.Hi b):Ctx B Γ Wc W pe ρ s':=
 Ctx.moveP' O X e hp (X.good.moveP e h0)
end
end Mine
namespace Mine
variable {B:Bs}
noncomputable abbrev cw (W N:AP):Addr->Prop:=fun b=>W b\/N b
section
variable (O:B.Ok)
include O
variable {Γ:aj}{ρ:ac}{Wc W:AP}{pe:Env}{A:BO}{s:Be}
theorem Ctx.grow' {p:Pv}{s':Be}{N:AP}(X:Ctx B Γ Wc W pe ρ s)(e:ao B p s s')(hp:∀b,p.a b->Wc b)(g':aK B s')(hN:∀b,N b->s.heap.objs.size<=b/\b < s'.heap.objs.size):Ctx B Γ (cw Wc N) (cw W N) pe ρ s':=by
 have X':=Ctx.moveP' O X e hp g';have kW:=e.kW X.tW' (fun b q=>X.cW b (hp b q));have nN:∀b,b < s.heap.objs.size->¬N b:=fun b h n=>Bd _ (Ba h (hN b n).1);have up:∀d v,aw B s.heap W d v->aw B s'.heap (cw W N) d v:=fun d v r=>aw.move O kW (fun b q=>q.elim .inl fun n=>.inr (BY (hN b n).1)) d v r;have cell_lt:∀x c,pe.cells.lookup (B.nm x)=some c->c < s.heap.objs.size:=fun x c q=>by
  refine aS (X.cells x c q) fun p91 J=>?_;obtain⟨v,hv⟩:=p91;exact hv.lt
 exact{
  good:=X'.good
  fn:=X.fn
  glob:=X.glob
  blt:=X.blt
  tW:=fun b t=>.inl (X.tW b t)
  cW:=fun b q=>q.elim (fun z=>.inl (X.cW b z)) .inr
  wlt:=fun b q=>q.elim (fun z=>X'.wlt b z) fun n=>(hN b n).2
  loc:=X'.loc
  locW:=⟨.inl X.locW.1,fun q=>q.elim X.locW.2 (nN _ (X.wlt _ X.locW.1))⟩
  ow:=fun b q n=>q.elim (fun z=>X.ow b z fun w=>n (.inl w)) fun z=>absurd (.inr z) n
  code:=X.code
  kinds:=X.kinds
  cells:=X'.cells
  apart:=X.apart
  cellW:=fun x c q=>(X.cellW x c q).imp_right fun z=>⟨.inl z.1,fun w=>w.elim z.2 (nN _ (cell_lt x c q))⟩
  vars:=fun x en q=>by
   refine ak (X'.vars x en q) fun v l r=>?_;refine ak (X.vars x en q) fun v₀ l₀ r₀=>?_;have kO:∀b o,¬Wc b->s.heap.get? b=some o->s'.heap.get? b=some o:=fun b o n q=>e.keep b o (fun t=>n (X.tW _ t)) (fun t=>n (hp _ t)) q;have:v=v₀:=by
    refine dA.uniq l ?_;rcases l₀ with⟨k,m',n',q'⟩|⟨k,c',q',hc'⟩
    ·exact .inl ⟨k,_,CN.moved n' fun o z=>kO _ o X.locW.2 z,q'⟩
    ·refine .inr ⟨k,c',q',C5.moved hc' fun o z=>kO _ o ?_ z⟩
     rcases X.cellW x c' q' with z|z
     ·refine ak (X.sealedW x z) fun c'' e' hw=>?_
      obtain rfl:=A0 (q'.symm.trans e');exact fun t=>hw (X.cW _ t)
     ·exact z.2
   subst this;refine⟨v,l,?_⟩;exact r₀.map up (fun d v r=>ab.move O kW (fun b q=>q.elim .inl fun n=>.inr (BY (hN b n).1)) d v r) (fun c o w q=>⟨kW c o (.inl w) q,fun z=>z.elim w (nN _ (BG q))⟩) (fun b J w wc J=>⟨⟨.inl w,fun z=>z.elim wc (nN _ (X.wlt _ w))⟩,fun o q=>kO b o wc q⟩) fun J J q=>q
  sealedW:=fun x q=>let ⟨c,h1,h2⟩:=X.sealedW x q;⟨c,h1,fun w=>w.elim h2 (nN _ (cell_lt x c h1))⟩
  owns:=X'.owns }
theorem Ctx.grow {p:Pv}{s':Be}{N:AP}(X:Ctx B Γ Wc W pe ρ s)(e:ao B p s s')(hp:∀b,p.a b->Wc b)(h0:∀b,p.a b->B.Hi b)(hN:∀b,N b->s.heap.objs.size<=b/\b < s'.heap.objs.size):Ctx B Γ (cw Wc N) (cw W N) pe ρ s':=
 Ctx.grow' O X e hp (X.good.moveP e h0) hN
theorem Ctx.weaken {ρ':ac}(X:Ctx B Γ Wc W pe ρ s)(h:∀y e,ρ' y=some e->ρ y=some e)(hs:∀y,am ρ y->am ρ' y):Ctx B Γ Wc W pe ρ' s:=
 { X with
  cellW:=fun x c q=>(X.cellW x c q).imp_left (hs x)
  vars:=fun x e q=>X.vars x e (h x e q)
  sealedW:=fun x q=>X.sealedW x (let ⟨d,e⟩:=q;⟨d,h x _ e⟩)
  owns:=fun x y e e' v v' b hx hy=>X.owns x y e e' v v' b (h x _ hx) (h y _ hy) }
theorem gc {s s':Be}(k:∀b o,s.heap.get? b=some o->s'.heap.get? b=some o)(hs:s.heap.objs.size<=s'.heap.objs.size)(g:s'.gens=s.gens)(os:s'.os=s.os):ay B s s':=
 ⟨fun b o J e=>k b o e,fun b o J e=>k b o e,hs,fun t=>O.tikeep _ _ t fun b o J e=>k b o e,fun i x e=>by refine AZ g ?_;exact e,fun t=>by refine AZ g ?_;exact t,os⟩
theorem ao.own_trans {p:Pv}{s' s'':Be}(a:ao B p s s')(b:ao B p s' s''):ao B p s s'':=a.trans b (fun J q=>.inl q) (fun J q=>.inl q)
noncomputable def vK (B:Bs)(pe:Env)(ρ:ac)(h:Heap)(b:Addr):Prop:=∀y e w,ρ y=some e->dA B pe h y w->¬aU h e w b
noncomputable def fJ (l:List ((Nat×Pos)×fu))(ρ:ac):ac:=l.foldl (fun ρ q=>ρ.set q.1.1 q.2) ρ
theorem rh {Z:AP}(hZW:∀b,Z b->W b){st:Nat×Pos->Value->Sem Unit}(hst:∀q v (Q:Unit->Be->Prop)(E:VS) s,wpAny B.M A (Eb pe (B.nm q.1) v) Q E s->wpAny B.M A (st q v) Q E s):
  ∀(l:List ((Nat×Pos)×fu×Value)) (ρ:ac) (s:Be) (Q:Unit->Be->Prop) (E:VS),Ctx B Γ Wc W pe ρ s->
  (∀q∈l,(Γ q.1.1=some .local\/Γ q.1.1=some .cell)/\¬am ρ q.1.1)->(∀q∈l,∀b,(zP B pe q.1.1).a b->Z b)->
  (∀q∈l,aX B pe.locals s.heap Wc W q.2.1 q.2.2/\(∀d,q.2.1≠.sealed d)/\∀b,aU s.heap q.2.1 q.2.2 b->vK B pe ρ s.heap b)->l.Pairwise (fun p q=>∀b,aU s.heap p.2.1 p.2.2 b->¬aU s.heap q.2.1 q.2.2 b)->
  (∀s',Ctx B Γ Wc W pe (fJ (l.map fun q=>(q.1,q.2.1)) ρ) s'->ao B ⟨Z,fun J=>False⟩ s s'->Q () s')->
  wpAny B.M A (G7 (l.map fun q=>st q.1) (l.map (·.2.2))) Q E s
 |[],ρ,s,Q,E,X,_,_,_,_,k=>by
  show wpAny _ _ (pure ()) _ _ _;exact Bk (k s X (ao.refl _ _))
 |⟨q,en,v⟩::l,ρ,s,Q,E,X,hx,hz,r,hp,k=>by
  show wpAny _ _ (do Hs (l.map (·.2.2)) (st q v);G7 (l.map fun q=>st q.1) (l.map (·.2.2))) _ _ _;have h1:=hx _ Bj;refine pL (r _ Bj) fun r1 r2 r3=>?_;refine aS (BV.mp hp) fun p1 p2=>?_;refine Bc (Cv (hst q v _ _ _ (Ctx.storeE' O X h1.1 h1.2 r2 r1 (fun b o y e' w hy hρ hl=>r3 b o y e' w hρ hl) fun s1 X1 ez J hm=>?_)));have e1:ao B ⟨Z,fun J=>False⟩ s s1:=ez.mono (hz _ Bj) fun i q=>q;have kW:=e1.kW X.tW' hZW;have kc:∀c o,¬W c->s.heap.get? c=some o->s1.heap.get? c=some o:=fun c o w q=>kW c o (.inl w) q
  have keep:∀{e w},aX B pe.locals s.heap Wc W e w->aX B pe.locals s1.heap Wc W e w:=fun r=>aX.keep O r kW fun b o w wc t ob g=>ez.keep b ob (fun u=>wc (X.tW b u)) (fun z=>by
   refine ak X.loc fun m n J=>?_;rcases z with rfl|z
   ·exact gu.ne_loc O t n rfl
   ·refine aS (X.cells _ _ z) fun p91 J=>?_
    obtain⟨u,hu⟩:=p91
    exact gu.ne_cell O t hu rfl) g
  refine rh hZW hst l _ s1 Q E X1 (fun q' hq=>⟨(hx q' (Bi _ hq)).1,?_⟩) (fun q hq=>hz q (Bi _ hq)) (fun q' hq=>?_) (p2.imp_of_mem fun{a b} ha hb h c oa ob=>h c (aU.back (r a (Bi _ ha)).1 kc oa) (aU.back (r b (Bi _ hb)).1 kc ob)) fun s2 X2 e2=>k s2 X2 (e1.own_trans O e2)
  ·have h2:=(hx q' (Bi _ hq)).2
   by_cases hqx:q'.1.1=q.1
   ·rintro⟨d',e⟩;rw[hqx,ac.set_self O] at e;exact absurd (A0 e) (r2 d')
   ·rintro⟨d',e⟩;rw[ac.set_ne O _ _ hqx] at e;exact h2 ⟨d',e⟩
  ·refine pL (r q' (Bi _ hq)) fun s1' s2' s3'=>?_
   refine⟨keep s1',s2',fun b o y e w hy hl o'=>?_⟩;have ob:=aU.back s1' kc o
   by_cases hyx:y=q.1
   ·subst hyx
    rw[ac.set_self O] at hy;obtain rfl:=A0 hy;obtain rfl:=dA.uniq hl hm.1;exact p1 q' hq b (aU.back r1 kc o') ob
   ·replace hy:=(ac.set_ne O _ _ hyx)▸hy
    refine ak (X.vars y _ hy) fun w0 l0 r0=>?_;obtain rfl:=dA.uniq hl (hm.2 y w0 hyx l0);exact s3' b ob y _ _ hy l0 (aU.back r0 kc o')
omit O in
theorem zip3 {α β γ:Type}:∀(xs:List α)(es:List β)(vs:List γ),xs.length=es.length->es.length=vs.length->(xs.zip (es.zip vs)).map (·.2.2)=vs/\(xs.zip (es.zip vs)).map (fun q=>(q.1,q.2.1))=xs.zip es/\(xs.zip (es.zip vs)).map (·.1)=xs
 |[],[],[],_,_=>⟨rfl,rfl,rfl⟩
 |x::xs,e::es,v::vs,h1,h2=>by
  refine pL (zip3 xs es vs (D2 h1) (D2 h2)) fun a b c=>?_;exact⟨congrArg (v::·) a,congrArg ((x,e)::·) b,congrArg (x::·) c⟩
 |[],_::_,_,h,_=>nozs h
 |_::_,[],_,h,_=>nosz h
 |_,[],_::_,_,h=>nozs h
 |_,_::_,[],_,h=>nosz h
structure mN (B:Bs)(pe:Env)(ρ:ac)(Wc W:AP)(h:Heap)(es:List fu)(vs:List Value):Prop where
 len:es.length=vs.length
 at':∀q∈es.zip vs,aX B pe.locals h Wc W q.1 q.2/\(∀d,q.1≠.sealed d)/\∀b,aU h q.1 q.2 b->vK B pe ρ h b
 pair:(es.zip vs).Pairwise fun p q=>∀b,aU h p.1 p.2 b->¬aU h q.1 q.2 b
omit O in
theorem wU:∀{ds:List D}{vs:List Value},ab B s.heap W ds vs->mN B pe ρ Wc W s.heap (ds.map .fz) vs
 |[],[],_=>⟨rfl,fun J h=>(bE h),B3⟩
 |[],_::_,r=>nomatch r
 |d::ds,vs,r=>by
  obtain⟨v,vs,rfl,rv,ra⟩:=r;obtain⟨a,b,c⟩:mN B pe ρ Wc W s.heap (ds.map .fz) vs:=wU ra;exact⟨congrArg (·+1) a,fun q hq=>(Bw.mp hq).elim (fun e=>by subst e;exact⟨rv,fun J e=>(xO rfl e),fun J o=>o.elim⟩) (b q),BV.mpr ⟨fun J J J o=>o.elim,c⟩⟩
theorem qL (xs:List (Nat×Pos))(ds:List D)(ρ:ac):fJ (xs.zip (ds.map .fz)) ρ=(xs.zip ds).foldl (fun ρ q=>ρ.set q.1.1 (.fz q.2)) ρ:=by
 unfold fJ;refine AZ List.zip_map_right<|AZ List.foldl_map ?_;rfl
theorem dy (nm:Nat->Str)(pe:Env):∀xs:List (Nat×Pos),EG (xs.map fun q=>Cd (nm q.1) q.2) pe=(xs.map fun q=>Cd (nm q.1) q.2).map fun t=>(false,DG t pe)
 |[]=>rfl
 |q::r=>by
  show(false,DG (.Name (nm q.1) q.2) pe)::EG (r.map fun q=>Cd (nm q.1) q.2) pe=_;refine AZ (dy nm pe r) ?_;rfl
omit O in
theorem n8 {α β:Type}{R:β->β->Prop}:∀(xs:List α)(l:List β),l.Pairwise R->(xs.zip l).Pairwise fun p q=>R p.2 q.2
 |[],_,_=>B3
 |_::_,[],_=>B3
 |x::xs,b::l,h=>BV.mpr ⟨fun q hq=>(BV.mp h).1 _ (CL hq).2,n8 xs l (BV.mp h).2⟩
theorem ja {α:Type}:∀l:List α,∀f:α->Value->Sem Unit,(l.map fun t=>((false,f t):Bool×(Value->Sem Unit))).findIdx? (·.1)=none
 |[],_=>rfl
 |a::r,f=>by refine AZ Bo<|AZ (List.findIdx?_cons) ?_;simp[ja r f]
theorem nE {Z:AP}{xs:List (Nat×Pos)}{es:List fu}{a:Addr}{vs:Array Value}{k:Nat}{p:Pos}{E:VS}{Q:Unit->Be->Prop}(hh:A.handled=none)(hl:xs.length=es.length)(X:Ctx B Γ Wc W pe ρ s)
  (hx:∀q∈xs,(Γ q.1=some .local\/Γ q.1=some .cell)/\¬am ρ q.1) (hZW:∀b,Z b->W b) (hz:∀q∈xs,∀b,(zP B pe q.1).a b->Z b) (ht:s.heap.IsTuple a vs) (r:∀h',(∀b o,s.heap.get? b=some o->h'.get? b=some o)->s.heap.objs.size<=h'.objs.size->mN B pe ρ Wc W h' es vs.toList)
  (kk:∀s',Ctx B Γ Wc W pe (fJ (xs.zip es) ρ) s'->ao B ⟨Z,fun J=>False⟩ s s'->Q () s'):
  wpAny B.M A (DG (.Tuple (xs.map fun q=>.Name (B.nm q.1) q.2) k p) pe (.ref a)) Q E s:=by
 refine AZ (arm_assign_Tuple _ _ _ _ _) ?_;refine Bc (B8 ?_);unfold unpack;have hlen:=(r s.heap (fun J J e=>e) (Bq _)).len;have hlen':es.length=vs.size:=by exact AZ hlen<|AZ Ca rfl
 have hn:(EG (xs.map fun q=>Cd (B.nm q.1) q.2) pe).length=vs.size:=by
  refine AZ (dy O _ _ _) ?_;simp only[Bx];lia
 refine AZ hn<|AZ (show(EG (xs.map fun q=>Cd (B.nm q.1) q.2) pe).findIdx? (·.1)=none by refine AZ (dy O _ _ _) ?_;exact ja O _ _) ?_
 refine Bc (Cv (Mine.uz (Hd hh ht fun h' he hsz=>?_)));have k:∀b o,s.heap.get? b=some o->h'.get? b=some o:=fun b o e=>he b o (DA (BG e)) e;have e1:ay B s { s with heap:=h' }:=gc O k hsz rfl rfl;have R:=r h' k hsz;refine pL (zip3 xs es vs.toList hl hlen) fun z1 z2 z3=>?_;have:(EG (xs.map fun q=>Cd (B.nm q.1) q.2) pe).map (·.2)=(xs.zip (es.zip vs.toList)).map fun q=>DG (.Name (B.nm q.1.1) q.1.2) pe:=by
  refine AZ (dy O _ _ _)<|AZ BR<|AZ BR ?_
  exact(congrArg (List.map fun q:Nat×Pos=>DG (.Name (B.nm q.1) q.2) pe) z3.symm).trans (BR ..)
 refine AZ this ?_;have G:=rh O (A:=A) hZW (st:=fun q=>DG (.Name (B.nm q.1) q.2) pe) (fun q v Q E s h=>Dj h) _ ρ _ Q E (X.move O e1) (fun q hq=>hx q.1 (CL hq).1) (fun q hq=>hz q.1 (CL hq).1) (fun q hq=>R.at' _ (CL hq).2) (n8 xs (es.zip vs.toList) R.pair) fun s2 X2 e2=>kk s2 (z2▸X2) ((e1.toP _).trans e2 (fun J q=>.inl q) (fun J q=>.inl q));rw[z1] at G;exact G
theorem jn {Z:AP}{xs:List (Nat×Pos)}{ds:List D}{v:Value}{k:Nat}{p:Pos}{E:VS}{Q:Unit->Be->Prop}(hh:A.handled=none)(hl:xs.length=ds.length)(X:Ctx B Γ Wc W pe ρ s)
  (hx:∀q∈xs,(Γ q.1=some .local\/Γ q.1=some .cell)/\¬am ρ q.1) (hZW:∀b,Z b->W b) (hz:∀q∈xs,∀b,(zP B pe q.1).a b->Z b) (r:aw B s.heap W (.tup ds) v)
  (kk:∀s',Ctx B Γ Wc W pe ((xs.zip ds).foldl (fun ρ q=>ρ.set q.1.1 (.fz q.2)) ρ) s'->ao B ⟨Z,fun J=>False⟩ s s'->Q () s'):
  wpAny B.M A (DG (.Tuple (xs.map fun q=>.Name (B.nm q.1) q.2) k p) pe v) Q E s:=by
 simp only[aw] at r;obtain⟨a,vs,n,rfl,hw,hg,hlim,ra⟩:=r;refine nE O hh (es:=ds.map .fz) (by refine AZ (Bx _) ?_;exact hl) X hx hZW hz ⟨_,hg,rfl,n,rfl⟩ (fun h' k hs=>wU (s:={ s with heap:=h' }) (ab.move O (fun b o J e=>k b o e) (fun b q=>.inl q) _ _ ra)) fun s' X' e'=>kk s' (qL O xs ds ρ▸X') e'
theorem oA {sc:LK}{x:Nat}(h:sc.lookup x=some .local\/sc.lookup x=some .cell):aB Γ sc x=some .local\/aB Γ sc x=some .cell:=by
 show(sc.lookup x).map _=_\/(sc.lookup x).map _=_;rcases h with h|h<;>refine AZ h ?_<;>simp
theorem i9:∀(l:List ((Nat×Pos)×D))(ρ:ac) (y:Nat),(∀q∈l,q.1.1≠y)->(l.foldl (fun ρ q=>ρ.set q.1.1 (.fz q.2)) ρ) y=ρ y
 |[],_,_,_=>rfl
 |q::r,ρ,y,h=>by
  exact AZ F4<|AZ (i9 r _ y fun q hq=>h q (Bi _ hq))<|AZ (ac.set_ne O _ _ (Fj (h q Bj))) rfl
theorem gk:∀(l:List ((Nat×Pos)×D))(ρ:ac) (y:Nat),am (l.foldl (fun ρ q=>ρ.set q.1.1 (.fz q.2)) ρ) y->am ρ y
 |[],_,_,h=>h
 |q::r,ρ,y,h=>by
  rw[F4] at h;refine x1 (gk r _ y h) fun d e=>?_
  by_cases hy:y=q.1.1
  ·subst hy;rw[ac.set_self O] at e;exact xO rfl (A0 e)
  ·rw[ac.set_ne O _ _ hy] at e;exact⟨d,e⟩
theorem tg_ok {Z:AP}{t:Tg}{d:D}{v:Value}{sc:LK}{Γ₀:aj}{ρ':ac}{E:VS}{Q:Unit->Be->Prop}(hh:A.handled=none)(hf:t.fit sc ρ=true)(hb:w9 t d ρ=some ρ')(X:Ctx B (aB Γ₀ sc) Wc W pe ρ s)
  (hZW:∀b,Z b->W b) (hz:∀x b,sc.lookup x=some .local\/sc.lookup x=some .cell->(zP B pe x).a b->Z b)
  (r:aw B s.heap W d v) (k:∀s',Ctx B (aB Γ₀ sc) Wc W pe ρ' s'->(∀y e,ρ y=some e->ρ' y=some e)->(∀y,am ρ' y->am ρ y)->ao B ⟨Z,fun J=>False⟩ s s'->Q () s'):
  wpAny B.M A (DG (t.py B.nm) pe v) Q E s:=by
 cases t with
 |name x p=>
  simp only[Tg.fit,Bz,BZ,beq_iff_eq,Gb] at hf;obtain rfl:=A0 hb;have ns:¬am ρ x:=fun⟨d,e⟩=>by rw[hf.2] at e;exact ah e
  refine Dj (Ctx.store O X (oA O hf.1) ns r fun s1 X1 e1=>k s1 X1 (fun y e h=>?_) (fun y h=>?_) (e1.mono (fun b q=>hz x b hf.1 q) fun i q=>q))
  ·have:y≠x:=by rintro rfl;rw[hf.2] at h;exact ah h
   refine AZ (ac.set_ne O _ _ this) ?_;exact h
  ·refine x1 h fun d' e=>?_
   by_cases hy:y=x
   ·subst hy;rw[ac.set_self O] at e;exact xO rfl (A0 e)
   ·rw[ac.set_ne O _ _ hy] at e;exact⟨d',e⟩
 |tup xs kk p=>
  simp only[Tg.fit,Bz,Bp,BZ,beq_iff_eq,Gb] at hf
  cases d with
  |tup ds=>
   obtain⟨hl,rfl⟩:=aJ hb;refine jn O hh hl X (fun q hq=>⟨oA O (hf.2 q hq).1,fun⟨d,e⟩=>by replace e:=((hf.2 q hq).2)▸e;cases e⟩) hZW (fun q hq b=>hz q.1 b (hf.2 q hq).1) r fun s1 X1 e1=>k s1 X1 (fun y e h=>?_) (fun y h=>gk O _ _ _ h) e1;rw[i9 O]
   ·exact h
   ·rintro⟨q,d⟩ hq rfl
    have:=(hf.2 q (CL hq).1).2;rw[this] at h;exact ah h
  |_=>exact ah hb
end
end Mine
namespace Mine
variable {B:Bs}{K:Nat}
theorem jd {elt:Expr}{gens:List E0}{scope:Scope}{pos:Pos}{d:Nat}{it acc:Value}{env:Env}{t i:Expr}{fs:List Expr}(h:gens[d]?=some ⟨t,i,fs,0⟩)(h':gens[d+1]?=none):
  F9 (.ListComp elt gens scope pos) d it acc env=(do
   EB i.pos
   match <-Ec it with
   |none=>pure (.done .next)
   |some v=>
    CM t it v
    DG t env v
    let ok <-forIn fs true fun c r=>if r=true then do let ok <-Fs c env (eval c env);pure (CH ok) else pure (CH r)
    if ok then do
     (do let x <-eval elt env;let _ <-call (.builtin "list.append") [acc,x];pure ())
     again (.compLoop (.ListComp elt gens scope pos) d it acc env)
    else again (.compLoop (.ListComp elt gens scope pos) d it acc env)):=by
 unfold F9;dsimp only;refine AZ h<|AZ h' ?_
 rfl
theorem jc {elt:Expr}{gens:List E0}{scope:Scope}{pos:Pos}{d:Nat}{it acc:Value}{env:Env}{t i t' i':Expr}{fs fs':List Expr}(h:gens[d]?=some ⟨t,i,fs,0⟩)(h':gens[d+1]?=some ⟨t',i',fs',0⟩):
  F9 (.ListComp elt gens scope pos) d it acc env=(do
   EB i.pos
   match <-Ec it with
   |none=>pure (.done .next)
   |some v=>
    CM t it v
    DG t env v
    let ok <-forIn fs true fun c r=>if r=true then do let ok <-Fs c env (eval c env);pure (CH ok) else pure (CH r)
    if ok then do
     let x <-eval i' env
     EB i'.pos
     let x <-ET i' env x
     let u <-Hs [x] (Gp x)
     let _ <-runOwn (.compStart (.ListComp elt gens scope pos) (d+1) u acc env) env
     again (.compLoop (.ListComp elt gens scope pos) d it acc env)
    else again (.compLoop (.ListComp elt gens scope pos) d it acc env)):=by
 unfold F9;dsimp only;refine AZ h<|AZ h' ?_
 rfl
section
variable (O:B.Ok)
include O
variable {Γ:aj}{ρ:ac}{Wc W:AP}{pe:Env}{A:BO}{s:Be}
theorem q0 (nm:Nat->Str)(e:E)(env:Env)(x:Value):ET (e.py nm) env x=pure x:=by cases e<;>rfl
theorem ke {e:Expr}{d:Nat}{it:Addr}{acc:Value}{env:Env}{R:Dv->Be->Prop}{F:AP}{I:List D->Pv->Be->Prop}{l:List D}{p:Pv}{g:E0}
  (hd:(clausesOf e)[d]?=some g) (ha:g.is_async=0) (hf:(Code.compStart e d (.ref it) acc env).isFrame=false) (hu:A.under (.compStart e d (.ref it) acc env)=A) (hq:(Code.compLoop e d (.ref it) acc env).quiet=true)
  (ok:bL B K F it I) (hI:I l p s) (g0:aK B s) (R20:aD A (K - 4))
  (h:C3 B.M A (.compLoop e d (.ref it) acc env) R s):C3 B.M A (.compStart e d (.ref it) acc env) R s:=by
 refine Dq ?_;refine AZ hu ?_;have hden:B.M.den (.compStart e d (.ref it) acc env)=(compStart e d (.ref it) acc env).onRaise (fun x=>do Ee x env;EB theWindowsPlace):=by
  show(if(Code.compStart e d (.ref it) acc env).isFrame then _ else _)=_;refine AZ hf ?_;rfl
 refine AZ hden ?_;refine wpAny_notedAt ?_;unfold compStart;refine AZ hd ?_;simp only[GL,ha];show wpAny _ _ (ask >>= _) _ _ s;refine Bc (wpAny_askSetting (wpAny_ite ?_))
 split
 ·exact Bc (Bk (Bk ⟨hq,h⟩))
 ·exact Bc (FT (Bc (B8 (Bc (ok.self _ _ _ _ _ _ hI g0 R20 (Bk ⟨hq,h⟩))))))
structure db (Wc W:AP)(s:Be)(Wc' W':AP):Prop where
 w:∀b,W b->W' b
 c:∀b,Wc b->Wc' b
 new:∀b,W' b->W b\/s.heap.objs.size<=b
 own:∀b,(W' b/\¬Wc' b)↔(W b/\¬Wc b)
theorem db.refl (Wc W:AP)(s:Be):db Wc W s Wc W:=⟨fun J q=>q,fun J q=>q,fun J q=>.inl q,fun J=>Iff.rfl⟩
theorem db.trans {Wc1 W1 Wc2 W2:AP}{s':Be}(a:db Wc W s Wc1 W1)(hs:s.heap.objs.size<=s'.heap.objs.size)(b:db Wc1 W1 s' Wc2 W2):db Wc W s Wc2 W2:=
 ⟨fun x q=>b.w x (a.w x q),fun x q=>b.c x (a.c x q),fun x q=>(b.new x q).elim (a.new x) fun z=>.inr (Bf hs z),fun x=>(b.own x).trans (a.own x)⟩
theorem db.or {N:AP}(wlt:∀b,W b->b < s.heap.objs.size)(hN:∀b,N b->s.heap.objs.size<=b):db Wc W s (cw Wc N) (cw W N):=
 ⟨fun J q=>.inl q,fun J q=>.inl q,fun b q=>q.imp_right (hN b),fun b=>⟨fun⟨h1,h2⟩=>⟨h1.elim id fun n=>absurd (.inr n) h2,fun w=>h2 (.inl w)⟩,fun⟨h1,h2⟩=>⟨.inl h1,fun w=>w.elim h2 fun n=>Bd _ (Ba (wlt b h1) (hN b n))⟩⟩⟩
theorem jW (nm:Nat->Str):∀(gs:List Gn) (d:Nat),(sq nm gs)[d]?=(gs[d]?).map fun g=>match g with|.mk t it ifs=>⟨t.py nm,it.py nm,fq nm ifs,0⟩
 |[],d=>by simp[sq]
 |.mk t it ifs::r,0=>by simp[sq]
 |.mk t it ifs::r,d+1=>by simpa [sq] using jW nm r d
noncomputable abbrev tgt (Z:AP)(p:Pv)(D₀:Addr):Pv:=⟨fun b=>Z b\/p.a b\/b=D₀,p.g⟩
theorem ab.on {Wc' W':AP}{s':Be}{p:Pv}{D₀:Addr}{Z:AP}{ds:List D}{vs:List Value}(hZ:∀b,Z b->W b/\¬Wc b)(X:Ctx B Γ Wc W pe ρ s)(r:ab B s.heap W ds vs)(e:ao B (tgt Z p D₀) s s')(hp:∀b,p.a b->Wc b)(hD:Wc D₀)(g:db Wc W s Wc' W'):ab B s'.heap W' ds vs:=
 ab.move O (e.kW X.tW' fun b z=>z.elim (fun z=>(hZ _ z).1) fun z=>z.elim (fun z=>X.cW _ (hp _ z)) fun z=>X.cW _ (z▸hD)) (fun b q=>(g.new b q).imp_right fun z=>BY z) _ _ r
noncomputable def jg (B:Bs) (K:Nat)(Φ:bU)(r:List Gn):Prop:=∀t it ifs,Gn.mk t it ifs∈r->bg B K Φ it/\lr B K Φ ifs
theorem rR {α:Type}{l:List α}{d:Nat}{x:α}{r:List α}(h:l.drop d=x::r):l[d]?=some x/\l.drop (d+1)=r:=by
 have h1:=congrArg Hl h;rw[FZ] at h1;refine⟨h1,?_⟩;have:=congrArg List.tail h;rw[List.tail_drop] at this;exact this
theorem vX {K:Nat}{Φ:bU}{sc:LK}{Γ₀:aj}{D₀:Addr}{thenC elseC noneC:Sem Fin}{Post:Fin->Be->Prop}{Ex:VS}{ip:Pos}{t:Tg}{ifs:List E}{it:Addr}{F:AP}{I:List D->Pv->Be->Prop}
  {x:D}{rest:List D}{ρ':ac}{c:Bool}{p:Pv}{o:Obj}{Z:AP}(hZ:∀b,Z b->W b/\¬Wc b) (hz:∀x b,sc.lookup x=some .local\/sc.lookup x=some .cell->(zP B pe x).a b->Z b) (RK:aD A K) (R20:aD A (K - 4)) (hifs:lr B K Φ ifs) (ok:bL B K F it I) (X:Ctx B (aB Γ₀ sc) Wc W pe ρ s) (hI:I (x::rest) p s) (hF:∀b,F b->¬W b/\b < s.heap.objs.size)
  (hp:∀b,p.a b->Wc b/\B.Hi b) (hfit:t.fit sc ρ=true) (hbind:w9 t x ρ=some ρ') (hc:x4 Φ (aB Γ₀ sc) ρ' ifs=some c) (hD:s.heap.get? D₀=some o) (hDc:Wc D₀) (hD0:B.Hi D₀) (hDp:¬p.a D₀)
  (k:∀s3 Wc3 W3 p1,Ctx B (aB Γ₀ sc) Wc3 W3 pe ρ' s3->(∀y e,ρ y=some e->ρ' y=some e)->(∀y,am ρ' y->am ρ y)->db Wc W s Wc3 W3->I rest p1 s3->(∀b,p1.a b->p.a b\/s.heap.objs.size<=b)->(∀b,p1.a b->Wc3 b/\B.Hi b)->p1.g=p.g->¬p1.a D₀->
   ao B (tgt Z p D₀) s s3->s3.heap.get? D₀=some o->(c=true->wpAny B.M A thenC Post Ex s3)/\(c=false->wpAny B.M A elseC Post Ex s3)):
  wpAny B.M A (do
   EB ip
   match <-Ec (.ref it) with
   |none=>noneC
   |some v=>
    CM (t.py B.nm) (.ref it) v
    DG (t.py B.nm) pe v
    let ok <-forIn (fq B.nm ifs) true fun c r=>if r=true then do let ok <-Fs c pe (eval c pe);pure (CH ok) else pure (CH r)
    if ok then thenC else elseC) Post Ex s:=by
 have nT:¬B.T D₀:=hD0.2;have hDlt:=BG hD;refine Bc (B8 (Bc (ok.next _ _ _ _ _ _ _ hI X.good R20 fun v s1 p1 e1 hsub hnew hg rv hI1=>?_)));have hN:∀b,(p1.a b/\s.heap.objs.size<=b)->s.heap.objs.size<=b/\b < s1.heap.objs.size:=fun b q=>⟨q.2,(ok.sub _ _ _ hI1 b q.1).2.2⟩;have X1:=Ctx.grow O X e1 (fun b q=>(hp b q).1) (fun b q=>(hp b q).2) hN;have g1:db Wc W s (cw Wc fun b=>p1.a b/\s.heap.objs.size<=b) (cw W fun b=>p1.a b/\s.heap.objs.size<=b):=db.or O X.wlt fun b q=>q.2;have hp1:∀b,p1.a b->(cw Wc fun b=>p1.a b/\s.heap.objs.size<=b) b/\B.Hi b:=fun b q=>by
  rcases hnew b q with z|z
  ·exact⟨.inl (hp b z).1,(hp b z).2⟩
  ·exact⟨.inr ⟨q,z⟩,X.good.hi z⟩
 have hDp1:¬p1.a D₀:=fun q=>(hnew _ q).elim hDp fun z=>Bd _ (Ba hDlt z);have hF1:∀b,F b->¬(cw W fun b=>p1.a b/\s.heap.objs.size<=b) b:=fun b q z=>z.elim (hF b q).1 fun z=>Bd _ (Ba (hF b q).2 z.2);have rv1:aw B s1.heap (cw W fun b=>p1.a b/\s.heap.objs.size<=b) x v:=aw.less O rv fun b q z=>hF1 b z q;generalize hWc1:(cw Wc fun b=>p1.a b/\s.heap.objs.size<=b)=Wc1 at *;generalize hW1:(cw W fun b=>p1.a b/\s.heap.objs.size<=b)=W1 at *;have let_ok:∀{Q:Unit->Be->Prop},Q () s1->wpAny B.M A (CM (t.py B.nm) (.ref it) v) Q Ex s1:=fun hQ=>by
  cases t with
  |name y q=>exact iA hQ
  |tup xs kk q=>
   refine ak (ok.ty _ _ _ hI1) fun T hT hok=>?_;exact zG hT hok hQ
 refine Bc (let_ok (Bc (tg_ok O (Z:=Z) R20.handled hfit hbind X1 (fun b q=>g1.w b (hZ b q).1) hz rv1 fun s2 X2 hmono hseal e2=>?_)));refine Bc (BH (hifs _ _ _ hc _ _ _ _ _ X2 RK) ?_ fun J J f=>f.elim);rintro c' s3 ⟨e3,rfl⟩;have X3:=X2.move O e3;have e13:ao B ⟨Z,fun J=>False⟩ s1 s3:=e2.trans (e3.toP _) (fun J q=>.inl q) (fun J q=>.inl q);have et:ao B (tgt Z p D₀) s s3:=by
  have q1:ao B (tgt Z p D₀) s s1:=e1.mono (fun b q=>.inr (.inl q)) (fun i q=>q);exact q1.trans e13 (fun b q=>.inl (.inl q)) (fun i q=>q.elim)
 have I3:I rest p1 s3:=by
  refine ok.stay _ _ _ _ hI1 (fun b o nt q z=>e13.keep b o nt (fun w=>?_) z) e13.ck e13.size (fun i y q z=>e13.gens i y (fun w=>w.elim) z) X3.good;have w:=(g1.own b).mpr (hZ b w);rcases q with q|q
  ·exact hF1 b q w.1
  ·exact w.2 (hp1 b q).1
 have hD3:s3.heap.get? D₀=some o:=e13.keep D₀ o nT (fun w=>(hZ _ w).2 hDc) (e1.keep D₀ o nT hDp hD);refine aS (k s3 Wc1 W1 p1 X3 hmono hseal g1 I3 hnew hp1 hg hDp1 et hD3) fun kt kf=>?_
 cases c' with
 |true=>exact kt rfl
 |false=>exact kf rfl
theorem fg {elt:Expr}{gens:List E0}{scope:Scope}{pos:Pos}{d:Nat}{it acc:Value}{R:Dv->Be->Prop}
  (h:wpAny B.M A (F9 (.ListComp elt gens scope pos) d it acc pe) (fun fin s'=>match fin with|.done f=>R (.ok f) s'|.again c'=>c'.quiet=true/\C3 B.M A c' R s') (notedBy B.M A pe fun e s'=>R (.error e) s') s):
  C3 B.M A (.compLoop (.ListComp elt gens scope pos) d it acc pe) R s:=by
 refine Dq ?_;show wpAny _ A ((F9 (.ListComp elt gens scope pos) d it acc pe).onRaise (fun x=>do Ee x pe;Di x)) _ _ s;exact EP h
theorem iV {D₀:Addr}(h:B.Hi D₀):¬B.T D₀:=h.2
structure AccAt (D₀:Addr)(Wc W:AP)(vs:Array Value) (n:Nat)(s:Be):Prop where
 at':s.heap.get? D₀=some { cls:=.type "list", dict:=none,data:=.seq vs n,slots:=#[] }
 c:Wc D₀
 hi:B.Hi D₀
noncomputable def vJ (lo:Nat)(v:Value)(h:Heap):Prop:=∃(b:Addr) (n:Nat),v=.ref b/\lo<=b/\h.get? b=some { cls:=.type "list", dict:=none,data:=.seq #[] n,slots:=#[] }
noncomputable def FrE (B:Bs) (K:Nat)(Φ:bU)(e:E):Prop:=∀Γ ρ r,ev Φ Γ ρ e=some r->∀Wc W pe A s,Ctx B Γ Wc W pe ρ s->aD A K->
 wpAny B.M A (eval (e.py B.nm) pe) (fun v s'=>(ay B s s'/\bS B K s W r v s')/\vJ s.heap.objs.size v s'.heap) i6 s
set_option tactic.hygienic true in
omit O in
theorem asD_rep {r:Mine.R}{d:D}{v:Value}{s':Be}{K:Nat}(hd:r.asD=some d)(h:bS B K s W r v s'):aw B s'.heap W d v:=by
 cases r
 case d x=>obtain rfl:=A0 hd;exact h
 all_goals exact ah hd
theorem useFr {fr:Bool}{e:E}{d:D}{r:Mine.R}{Φ:bU}{K:Nat}(hS:bg B K Φ e)(hfr:fr=true->FrE B K Φ e)(h:ev Φ Γ ρ e=some r)(hd:r.asD=some d)(X:Ctx B Γ Wc W pe ρ s)(R:aD A K){E:VS}{Q:VS}
  (k:∀v s',ay B s s'->Ctx B Γ Wc W pe ρ s'->aw B s'.heap W d v->(fr=true->vJ s.heap.objs.size v s'.heap)->Q v s'):wpAny B.M A (eval (e.py B.nm) pe) Q E s:=by
 cases fr with
 |false=>exact cX O hS h hd X R fun v s' e X' q=>k v s' e X' q fun z=>ce z
 |true=>
  refine BH (hfr rfl Γ ρ r h Wc W pe A s X R) (fun v s' h'=>k v s' h'.1.1 (X.move O h'.1.1) ?_ fun J=>h'.2) fun J J f=>f.elim;have:=h'.1.2;exact asD_rep hd this
structure lB (lo:Nat)(vs:List Value)(h:Heap):Prop where
 nd:vs.Pairwise (·≠·)
 at':∀v∈vs,vJ lo v h
noncomputable def xe (B:Bs)(fr:Bool)(Z:AP)(sc:LK)(Γ₀:aj)(pe:Env)(D₀:Addr)(ρ:ac)(l:List D)(Wc W:AP)(p:Pv)(vs:Array Value)(R:Dv->Be->Prop)(s:Be):Prop:=
 ∀s' Wc' W' vs' n',Ctx B (aB Γ₀ sc) Wc' W' pe ρ s'->db Wc W s Wc' W'->s'.heap.get? D₀=some { cls:=.type "list", dict:=none,data:=.seq (vs++vs'.toArray) n',slots:=#[] }->ab B s'.heap W' l vs'->
  ao B (tgt Z p D₀) s s'->(fr=true->lB s.heap.objs.size vs' s'.heap)->R (.ok .next) s'
theorem qh {fr:Bool}{Z:AP}{sc:LK}{Γ₀:aj}{D₀:Addr}{R:Dv->Be->Prop}{it:Addr}{F:AP}{I:List D->Pv->Be->Prop}{p:Pv}{vs:Array Value}{n:Nat}{ip:Pos}{f:Value->Sem Fin}{Ex:VS}
  (R20:aD A (K - 4)) (ok:bL B K F it I) (X:Ctx B (aB Γ₀ sc) Wc W pe ρ s) (hI:I [] p s) (hp:∀b,p.a b->Wc b/\B.Hi b) (hA:AccAt (B:=B) D₀ Wc W vs n s) (hDp:¬p.a D₀) (k:xe B fr Z sc Γ₀ pe D₀ ρ [] Wc W p vs R s):
  wpAny B.M A (do
   EB ip
   match <-Ec (.ref it) with
   |none=>pure (.done .next)
   |some v=>f v) (fun fin s'=>match fin with|.done f=>R (.ok f) s'|.again c'=>c'.quiet=true/\C3 B.M A c' R s') Ex s:=by
 refine Bc (B8 (Bc (ok.done _ _ _ _ _ hI X.good R20 fun s1 e1=>Bk ?_)));refine k s1 Wc W [] n (Ctx.moveP O X e1 (fun b q=>(hp b q).1) fun b q=>(hp b q).2) (db.refl O _ _ _) ?_ ab.nil (e1.mono (fun b q=>.inr (.inl q)) fun i q=>q) fun J=>⟨B3,fun J h=>bE h⟩;have:=e1.keep D₀ _ (iV O hA.hi) hDp hA.at'
 simpa using this
theorem gF {fr:Bool}{Z:AP}{sc:LK}{Γ₀:aj}{D₀:Addr}{R:Dv->Be->Prop}{p p1:Pv}{vs:Array Value}{l1 l2:List D}{s1:Be}{Wc1 W1:AP}{vsa:List Value}
  (hZ:∀b,Z b->W b/\¬Wc b) (X:Ctx B (aB Γ₀ sc) Wc W pe ρ s) (X1:Ctx B (aB Γ₀ sc) Wc1 W1 pe ρ s1) (g1:db Wc W s Wc1 W1) (e1:ao B (tgt Z p D₀) s s1) (hp1:∀b,p1.a b->Wc1 b) (hnew:∀b,p1.a b->p.a b\/s.heap.objs.size<=b) (hg:p1.g=p.g) (hDc:Wc D₀)
  (r1:ab B s1.heap W1 l1 vsa) (hfl:fr=true->∃lo,s.heap.objs.size<=lo/\lB lo vsa s1.heap/\(∀b,lo<=b->¬p1.a b)/\D₀ < lo) (k:xe B fr Z sc Γ₀ pe D₀ ρ (l1++l2) Wc W p vs R s):xe B fr Z sc Γ₀ pe D₀ ρ l2 Wc1 W1 p1 (vs++vsa.toArray) R s1:=by
 intro s' Wc' W' vs' n' X' g' hD' r' e' f';refine k s' Wc' W' (vsa++vs') n' X' (g1.trans O e1.size g') (by refine AZ hD' ?_;simp) (ab.append (ab.on O (fun b q=>(g1.own b).mpr (hZ b q)) X1 r1 e' hp1 (g1.c _ hDc) g') r') (e1.trans e' (fun b q=>?_) fun i q=>.inl (by refine AZ (BE hg) ?_;exact q)) fun hfr=>?_
 ·rcases q with q|q|q
  ·exact .inl (.inl q)
  ·exact(hnew b q).imp (fun z=>.inr (.inl z)) id
  ·exact .inl (.inr (.inr q))
 ·refine vQ (hfl hfr) fun lo hlo p91 p1' d1=>?_
  obtain⟨n1,a1⟩:=p91;obtain⟨n2,a2⟩:=f' hfr;have kp:∀v∈vsa,∃(b:Addr) (n:Nat),v=.ref b/\(lo<=b/\b < s1.heap.objs.size)/\s'.heap.get? b=some { cls:=.type "list", dict:=none,data:=.seq #[] n,slots:=#[] }:=fun v hv=>by
   refine kJ (a1 v hv) fun b n e91=>?_;subst e91;intro hb g;refine⟨b,n,rfl,⟨hb,BG g⟩,e'.keep b _ (X.good.hi (Bf hlo hb)).2 (fun q=>?_) g⟩;rcases q with q|q|q
   ·exact Bd _ (Ba (X.wlt b (hZ b q).1) (Bf hlo hb))
   ·exact p1' b hb q
   ·exact Bd _ (Ba (q▸d1) hb)
  refine⟨GZ.mpr ⟨n1,n2,fun v hv w hw e=>?_⟩,fun v hv=>?_⟩
  ·refine kJ (kp v hv) fun b n e1' h1 J=>?_
   refine kJ (a2 w hw) fun b' n' e2' h2 J=>?_;replace e:=e2'▸e1'▸e;obtain rfl:=Value.ref.inj e;exact Bd _ (Ba h1.2 h2)
  ·rcases CY.mp hv with hv|hv
   ·refine kJ (kp v hv) fun b n e1' h1 g=>?_
    exact⟨b,n,e1',Bf hlo h1.1,g⟩
   ·refine kJ (a2 v hv) fun b n e1' h1 g=>?_
    exact⟨b,n,e1',Bf e1.size h1,g⟩
theorem loop_ok {fr:Bool}{Z:AP}{K:Nat}{Φ:bU}{elt:E}{gens:List Gn}{sc:LK}{pos:Pos}{Γ₀:aj}{D₀:Addr}(hz:∀x b,sc.lookup x=some .local\/sc.lookup x=some .cell->(zP B pe x).a b->Z b)(RK:aD A K)(R20:aD A (K - 4))(helt:bg B K Φ elt)(hfr:fr=true->FrE B K Φ elt):
  ∀(r:List Gn),(fr=true->r=[])->jg B K Φ r->∀(t:Tg) (itE:E) (ifs:List E),lr B K Φ ifs->∀(d:Nat),gens.drop d=.mk t itE ifs::r->
  ∀(it:Addr) (F:AP) (I:List D->Pv->Be->Prop),bL B K F it I->∀(items:List D) (ρ:ac) (l:List D) (R:Dv->Be->Prop) (s:Be) (Wc W:AP) (p:Pv) (vs:Array Value) (n:Nat),
   eN sc t (fun ρ'=>do
     let c <-x4 Φ (aB Γ₀ sc) ρ' ifs
     if c then evG Φ sc (aB Γ₀ sc) r (fun ρ''=>do (<-ev Φ (aB Γ₀ sc) ρ'' elt).asD) ρ' else some []) ρ items=some l->
   (∀b,Z b->W b/\¬Wc b)->Ctx B (aB Γ₀ sc) Wc W pe ρ s->I items p s->(∀b,F b->¬W b/\b < s.heap.objs.size)->(∀b,p.a b->Wc b/\B.Hi b)->AccAt (B:=B) D₀ Wc W vs n s->¬p.a D₀->vs.size+l.length<=lim->
   xe B fr Z sc Γ₀ pe D₀ ρ l Wc W p vs R s->
   C3 B.M A (.compLoop (.ListComp (elt.py B.nm) (sq B.nm gens) (cy B.nm sc) pos) d (.ref it) (.ref D₀) pe) R s:=by
 intro r
 induction r with
 |nil=>
  intro J hgs t itE ifs hifs d hdrop it F I ok items;refine aS (rR O hdrop) fun hd hd1=>?_;have h1:(sq B.nm gens)[d]?=some ⟨t.py B.nm,itE.py B.nm,fq B.nm ifs,0⟩:=by refine AZ (jW O _ _ _)<|AZ hd ?_;rfl
  have h2:(sq B.nm gens)[d+1]?=none:=by
   refine AZ (jW O _ _ _) ?_;have:=congrArg Hl hd1;rw[FZ] at this;refine AZ this ?_;rfl
  induction items with
  |nil=>
   intro ρ l R s Wc W p vs n hev hZ X hI hF hp hA hDp hlim k;simp only[jH,Bl] at hev;subst hev;refine fg O ?_;refine AZ (jd h1 h2) ?_;exact qh O R20 ok X hI hp hA hDp k
  |cons x rest ihi=>
   intro ρ l R s Wc W p vs n hev hZ X hI hF hp hA hDp hlim k;simp only[f6] at hev
   split at hev
   case isFalse=>exact ah hev
   rename_i hfit
   simp only[Bh,Bg,Bl] at hev;refine jI hev fun ρ' hb l1 p91 l2 hrest e92=>?_;subst e92;obtain⟨c,hc,hbody⟩:=p91;refine fg O ?_;refine AZ (jd h1 h2) ?_;refine vX O hZ hz RK R20 hifs ok X hI hF hp hfit hb hc hA.at' hA.c hA.hi hDp fun s3 Wc3 W3 p1 X3 hmono hseal g3 I3 hnew hp1 hg hDp1 e3 hD3=>?_;have X3ρ:=Ctx.weaken O X3 hmono hseal;have F3:∀b,F b->¬W3 b/\b < s3.heap.objs.size:=fun b q=>⟨fun z=>(g3.new b z).elim (hF b q).1 fun z=>Bd _ (Ba (hF b q).2 z),Ba (hF b q).2 e3.size⟩;refine⟨fun hct=>?_,fun hcf=>?_⟩
   ·subst hct
    simp only[if_true,iR,Bt,Bh,Bg] at hbody;refine ak hbody fun y p91 e92=>?_;subst e92;obtain⟨re,he,hre⟩:=p91;refine Bc (Bc (useFr O helt hfr he hre X3 RK fun w s4 e4 X4 q4 f4=>Bc (E4 (items:=vs) ⟨n,e4.keep _ _ (iV O hA.hi) hD3⟩ (fun h' hl' hs'=>Bk (Bk ⟨rfl,?_⟩)) (aE (by simp only[Bm,BA,Da] at hlim;lia)))));refine x1 hl' fun n' hl'=>?_;have ea:ao B ⟨fun b=>b=D₀,fun J=>False⟩ s4 { s4 with heap:=h' }:=
     cM O (t:=s4.toks) (iV O hA.hi) (wH (e4.keep _ _ (iV O hA.hi) hD3)) hs'
    have X4ρ:=X3ρ.move O e4;have X5:Ctx B (aB Γ₀ sc) Wc3 W3 pe ρ { s4 with heap:=h' }:=Ctx.moveP O X4ρ ea (fun b q=>q▸g3.c _ hA.c) (fun b q=>q▸hA.hi);have e35:ao B ⟨fun b=>b=D₀,fun J=>False⟩ s3 { s4 with heap:=h' }:=(e4.toP _).trans ea (fun b q=>.inl q) (fun i q=>.inl q);have e5:ao B (tgt Z p D₀) s { s4 with heap:=h' }:=e3.trans e35 (fun b q=>.inl (.inr (.inr q))) (fun i q=>q.elim);have I5:I rest p1 { s4 with heap:=h' }:=by
     refine ok.stay _ _ _ _ I3 (fun b o nt q z=>e35.keep b o nt (fun w=>?_) z) e35.ck e35.size (fun i y q z=>e35.gens i y (fun w=>w.elim) z) X5.good;subst w;rcases q with q|q
     ·exact(F3 _ q).1 (g3.w _ (X.cW _ hA.c))
     ·exact hDp1 q
    have r5:ab B ({ s4 with heap:=h' }:Be).heap W3 [y] [w]:=by
     exact ab.cons (aw.move O (ea.kW X3.tW' fun b z=>z▸g3.w _ (X.cW _ hA.c)) (fun b q=>.inl q) _ _ q4) ab.nil
    have f5:fr=true->∃lo,s.heap.objs.size<=lo/\lB lo [w] ({ s4 with heap:=h' }:Be).heap/\(∀b,lo<=b->¬p1.a b)/\D₀ < lo:=fun z=>by
     refine kJ (f4 z) fun b m e91=>?_;subst e91;intro hb g;have hDs:=BG hD3;refine⟨s3.heap.objs.size,e3.size,⟨List.pairwise_singleton .., fun v hv=>?_⟩,fun b hb q=>Bd _ (Ba (ok.sub _ _ _ I3 b q).2.2 hb),hDs⟩;obtain rfl:=BK.mp hv;exact⟨b,m,rfl,hb,hs'.extBut b _ (fun q=>Bd _ (Ba (q▸hDs) hb)) g⟩
    refine ihi ρ l2 R _ Wc3 W3 p1 (vs++[w].toArray) n' hrest (fun b q=>(g3.own b).mpr (hZ b q)) X5 I5 (fun b q=>⟨(F3 b q).1,Ba (F3 b q).2 e35.size⟩) hp1 ⟨?_,g3.c _ hA.c,hA.hi⟩ hDp1 ?_ (gF O hZ X X5 g3 e5 (fun b q=>(hp1 b q).1) hnew hg hA.c r5 f5 k)
    ·refine AZ hl' ?_;simp
    ·simp only[Ho,B7,Bm,BA,Da] at hlim ⊢;lia
   ·subst hcf
    simp only[BP,if_false,Bl] at hbody;subst hbody;refine Bk ⟨rfl,?_⟩;have:=gF O (l1:=[]) (l2:=l2) (vsa:=[]) hZ X X3ρ g3 e3 (fun b q=>(hp1 b q).1) hnew hg hA.c ab.nil (fun J=>⟨s3.heap.objs.size,e3.size,⟨B3,fun J h=>(bE h)⟩,fun b hb q=>Bd _ (Ba (ok.sub _ _ _ I3 b q).2.2 hb),BG hD3⟩) k;refine ihi ρ l2 R _ Wc3 W3 p1 vs n hrest (fun b q=>(g3.own b).mpr (hZ b q)) X3ρ I3 F3 hp1 ⟨hD3,g3.c _ hA.c,hA.hi⟩ hDp1 (by simpa using hlim) ?_
    simpa using this
 |cons g r ihr=>
  obtain⟨t',itE',ifs'⟩:=g;intro hf0 hgs t itE ifs hifs d hdrop it F I ok items;refine aS (rR O hdrop) fun hd hd1=>?_;refine aS (rR O hd1) fun hd2 hd3=>?_;have h1:(sq B.nm gens)[d]?=some ⟨t.py B.nm,itE.py B.nm,fq B.nm ifs,0⟩:=by refine AZ (jW O _ _ _)<|AZ hd ?_;rfl
  have h2:(sq B.nm gens)[d+1]?=some ⟨t'.py B.nm,itE'.py B.nm,fq B.nm ifs',0⟩:=by refine AZ (jW O _ _ _)<|AZ hd2 ?_;rfl
  refine aS (hgs t' itE' ifs' Bj) fun hit' hifs'=>?_;have hgs':jg B K Φ r:=fun a b c h=>hgs a b c (Bi _ h)
  induction items with
  |nil=>
   intro ρ l R s Wc W p vs n hev hZ X hI hF hp hA hDp hlim k;simp only[jH,Bl] at hev;subst hev;refine fg O ?_;refine AZ (jc h1 h2) ?_;exact qh O R20 ok X hI hp hA hDp k
  |cons x rest ihi=>
   intro ρ l R s Wc W p vs n hev hZ X hI hF hp hA hDp hlim k;simp only[f6] at hev
   split at hev
   case isFalse=>exact ah hev
   rename_i hfit
   simp only[Bh,Bg,Bl] at hev;refine jI hev fun ρ' hb l1 p91 l2 hrest e92=>?_;subst e92;obtain⟨c,hc,hbody⟩:=p91;refine fg O ?_;refine AZ (jc h1 h2) ?_;refine vX O hZ hz RK R20 hifs ok X hI hF hp hfit hb hc hA.at' hA.c hA.hi hDp fun s3 Wc3 W3 p1 X3 hmono hseal g3 I3 hnew hp1 hg hDp1 e3 hD3=>?_;have X3ρ:=Ctx.weaken O X3 hmono hseal;have F3:∀b,F b->¬W3 b/\b < s3.heap.objs.size:=fun b q=>⟨fun z=>(g3.new b z).elim (hF b q).1 fun z=>Bd _ (Ba (hF b q).2 z),Ba (hF b q).2 e3.size⟩;refine⟨fun hct=>?_,fun hcf=>?_⟩
   ·subst hct
    simp only[if_true,nv,Bh,Bg] at hbody;refine i2 hbody fun r4 h4 items' hi4 hloop=>?_;refine Bc (BH (hit' _ _ _ h4 _ _ _ _ _ X3 RK) ?_ fun J J f=>f.elim);rintro v4 s4 ⟨e4,q4⟩;have X4:=X3.move O e4;refine Bc (B8 ?_);refine AZ (q0 O _ _ _ _) ?_;refine Bc (Bk (Bc (Cv (rC O hi4 X4.tW' X4.wlt X4.good R20 e4 q4 fun it' F' p' I' s5 at5 hlen5 e5=>?_))));refine x04 at5 fun ok' hI' hF' hp' hg'=>?_;have e35:=e4.trans e5;have hN:∀b,p'.a b->s3.heap.objs.size<=b/\b < s5.heap.objs.size:=fun b q=>⟨hp' b q,(ok'.sub _ _ _ hI' b q).2.2⟩;have X5:Ctx B (aB Γ₀ sc) (cw Wc3 p'.a) (cw W3 p'.a) pe ρ' s5:=Ctx.grow O X3 (e35.toP ⟨fun J=>False,fun J=>False⟩) (fun b q=>q.elim) (fun b q=>q.elim) hN;have hD5:=e35.keep _ _ (iV O hA.hi) hD3;have hDp':¬p'.a D₀:=fun q=>Bd _ (Ba (BG hD3) (hp' _ q));refine Bc (wpAny_runOwn (h:=none) (show C3 B.M A _ _ s5 from ?_));refine ke O (g:=⟨t'.py B.nm,itE'.py B.nm,fq B.nm ifs',0⟩) (by show(sq B.nm gens)[d+1]?=_;exact h2) rfl rfl rfl rfl ok' hI' X5.good R20 ?_;refine ihr (fun z=>nomatch hf0 z) hgs' t' itE' ifs' hifs' (d+1) hd1 it' F' I' ok' items' ρ' l1 _ s5 _ _ p' vs n hloop (fun b q=>((db.or O X3.wlt fun b q=>hp' b q).own b).mpr ((g3.own b).mpr (hZ b q))) X5 hI' (fun b q=>⟨fun z=>z.elim (hF' b q).1 fun z=>(ok'.sub _ _ _ hI' b z).1 q,(hF' b q).2⟩) (fun b q=>⟨.inr q,X3.good.hi (hp' b q)⟩) ⟨hD5,.inl (g3.c _ hA.c),hA.hi⟩ hDp' (by simp only[Bm] at hlim;grind) ?_;intro s6 Wc6 W6 vsa n6 X6 g6 hD6 r6 e6 J;have X6ρ:=Ctx.weaken O X6 hmono hseal;have g36:db Wc3 W3 s3 Wc6 W6:=(db.or O X3.wlt fun b q=>hp' b q).trans O e35.size g6;have g06:db Wc W s Wc6 W6:=g3.trans O e3.size g36;have e06:ao B (tgt Z p D₀) s s6:=by
     refine(e3.trans (e35.toP ⟨fun J=>False,fun J=>False⟩) (fun b q=>q.elim) (fun i q=>q.elim)).trans e6 (fun b q=>?_) (fun i q=>?_)
     ·rcases q with q|q|q
      ·exact .inl (.inl q)
      ·exact .inr (Bf e3.size (hp' b q))
      ·exact .inl (.inr (.inr q))
     ·exact .inr (Bf e3.gsize (hg' i q))
    have e36:ao B ⟨fun b=>Z b\/s3.heap.objs.size<=b\/b=D₀,fun i=>s3.gens.size<=i⟩ s3 s6:=by
     refine(e35.toP _).trans e6 (fun b q=>?_) (fun i q=>.inr (hg' i q));rcases q with q|q|q
     ·exact .inl (.inl q)
     ·exact .inr (hp' b q)
     ·exact .inl (.inr (.inr q))
    have I6:I rest p1 s6:=by
     refine ok.stay _ _ _ _ I3 (fun b o nt q z=>e36.keep b o nt (fun w=>?_) z) e36.ck e36.size (fun i y q z=>e36.gens i y (fun w=>?_) z) X6.good
     ·rcases w with w|w|w
      ·have w:=(g3.own b).mpr (hZ b w)
       rcases q with q|q
       ·exact(F3 b q).1 w.1
       ·exact w.2 (hp1 b q).1
      ·rcases q with q|q
       ·exact Bd _ (Ba (F3 b q).2 w)
       ·exact Bd _ (Ba (ok.sub _ _ _ I3 b q).2.2 w)
      ·subst w
       rcases q with q|q
       ·exact(F3 _ q).1 (g3.w _ (X.cW _ hA.c))
       ·exact hDp1 q
     ·exact Bd _ (Ba (ok.subg _ _ _ I3 i q) w)
    refine Bk ⟨rfl,?_⟩;refine ihi ρ l2 R _ Wc6 W6 p1 (vs++vsa.toArray) n6 hrest (fun b q=>(g06.own b).mpr (hZ b q)) X6ρ I6 (fun b q=>⟨fun z=>(g06.new b z).elim (hF b q).1 fun z=>Bd _ (Ba (hF b q).2 z),Ba (hF b q).2 e06.size⟩) (fun b q=>⟨g36.c b (hp1 b q).1,(hp1 b q).2⟩) ⟨hD6,g06.c _ hA.c,hA.hi⟩ hDp1 ?_
     (gF O hZ X X6ρ g06 e06 (fun b q=>g36.c b (hp1 b q).1) hnew hg hA.c r6 (fun z=>nomatch hf0 z) k)
    have:=ab.length r6;simp only[Ho,B7,Bm] at hlim ⊢;lia
   ·subst hcf
    simp only[BP,if_false,Bl] at hbody;subst hbody;refine Bk ⟨rfl,?_⟩;have:=gF O (l1:=[]) (l2:=l2) (vsa:=[]) hZ X X3ρ g3 e3 (fun b q=>(hp1 b q).1) hnew hg hA.c ab.nil (fun z=>nomatch hf0 z) k;refine ihi ρ l2 R _ Wc3 W3 p1 vs n hrest (fun b q=>(g3.own b).mpr (hZ b q)) X3ρ I3 F3 hp1 ⟨hD3,g3.c _ hA.c,hA.hi⟩ hDp1 (by simpa using hlim) ?_
    simpa using this
end
end Mine
namespace Mine
variable {B:Bs}
noncomputable abbrev aR (nm:Nat->Str)(sc:LK):List (Str×NameKind):=sc.map fun q=>(nm q.1,q.2)
section
variable (O:B.Ok)
include O
theorem dt (x:Nat):∀sc:List (Nat×NameKind),(aR B.nm sc).lookup (B.nm x)=sc.lookup x
 |[]=>rfl
 |(y,k)::r=>by
  show C4 (B.nm x) ((B.nm y,k)::aR B.nm r)=_;rw[Bu,Bu]
  by_cases h:x=y
  ·subst h;simp
  ·have h1:(x==y)=false:=by simpa using h
   have h2:(B.nm x==B.nm y)=false:=by
    rw[beq_eq_false_iff_ne];exact fun q=>h (O.inj _ _ q)
   refine AZ h1<|AZ h2 ?_;exact dt x r
noncomputable def iL (nm:Nat->Str)(pe:Env):List (Nat×NameKind)->List (Str×Addr)->List (Str×Addr)
 |[],acc=>acc
 |(x,k)::r,acc=>if k==.free then iL nm pe r ((nm x,(pe.cells.lookup (nm x)).getD 0)::acc) else iL nm pe r acc
theorem oW {nm:Nat->Str}{pe:Env}{x:Nat}{k:NameKind}{r:LK}{acc:List (Str×Addr)}:iL nm pe ((x,k)::r) acc=if k==.free then iL nm pe r ((nm x,(pe.cells.lookup (nm x)).getD 0)::acc) else iL nm pe r acc:=rfl
theorem gL (nm:Nat->Str)(pe:Env)(f:Str×NameKind->List (Str×Addr)->Sem (ForInStep (List (Str×Addr))))(hf:∀n k cs,f (n,k) cs=if k==.free then(do let c <-cellOf pe n;pure (.yield ((n,c)::cs))) else pure (.yield cs)):
  ∀(sc:LK) (acc:List (Str×Addr)),(∀q∈sc,q.2=.free->(pe.cells.lookup (nm q.1)).isSome)->forIn (aR nm sc) acc f=pure (iL nm pe sc acc)
 |[],acc,_=>rfl
 |(x,k)::r,acc,h=>by
  show forIn ((nm x,k)::aR nm r) acc f=_
  (rw[EZ];refine AZ (hf _ _ _) ?_)
  refine AZ (oW O) ?_
  by_cases hk:(k==.free)=true
  ·refine AZ (if_pos hk)<|AZ (if_pos hk) ?_
   refine x1 (DE.mp (h (x,k) Bj (by simpa using hk))) fun c hc=>?_;have:cellOf pe (nm x)=pure c:=by unfold cellOf;exact AZ hc rfl
   refine AZ this<|AZ hc ?_
   exact gL nm pe f hf r _ fun q hq=>h q (Bi _ hq)
  ·refine AZ (if_neg hk)<|AZ (if_neg hk) ?_
   exact gL nm pe f hf r _ fun q hq=>h q (Bi _ hq)
theorem vB (pe:Env)(sc:LK)(h:∀q∈sc,q.2=.free->(pe.cells.lookup (B.nm q.1)).isSome):Fb (cy B.nm sc) pe=pure (iL B.nm pe sc []):=by
 unfold Fb;have:=gL O B.nm pe (fun x cs=>match x with|(name,kind)=>if kind==.free then(do let c <-cellOf pe name;pure (.yield ((name,c)::cs))) else pure (.yield cs)) (fun J J J=>rfl) sc [] h;exact(congrArg (fun t:Sem (List (Str×Addr))=>t >>= fun r=>(pure r:Sem (List (Str×Addr))) >>= fun r=>pure r) this).trans rfl
theorem dT (pe:Env) (x:Nat):∀(sc:LK)(acc:List (Str×Addr)),(sc.map (·.1)).Nodup->(iL B.nm pe sc acc).lookup (B.nm x)=if sc.lookup x=some .free then some ((pe.cells.lookup (B.nm x)).getD 0) else acc.lookup (B.nm x)
 |[],acc,_=>by simp[show iL B.nm pe [] acc=acc from rfl]
 |(y,k)::r,acc,hn=>by
  simp only[Bo,CD] at hn;refine AZ (oW O) ?_
  by_cases h:x=y
  ·subst h
   have hr:r.lookup x=none:=by
    rw[EK];intro q hq;rw[bne_iff_ne];rintro rfl;exact hn.1 (BC.mpr ⟨q,hq,rfl⟩)
   by_cases hk:(k==.free)=true
   ·refine AZ (if_pos hk)<|AZ (dT pe x r _ hn.2)<|AZ hr ?_
    have:k=.free:=by simpa using hk
    subst this;simp[Bu]
   ·refine AZ (if_neg hk)<|AZ (dT pe x r _ hn.2)<|AZ hr ?_
    have:k≠.free:=by simpa using hk
    simp[Bu,this]
  ·have h1:(x==y)=false:=by simpa using h
   have h2:(B.nm x==B.nm y)=false:=by
    rw[beq_eq_false_iff_ne];exact fun q=>h (O.inj _ _ q)
   by_cases hk:(k==.free)=true
   ·(refine AZ (if_pos hk)<|AZ (dT pe x r _ hn.2) ?_;rw[Bu,Bu];exact AZ h1<|AZ h2 rfl)
   ·(refine AZ (if_neg hk)<|AZ (dT pe x r _ hn.2) ?_;rw[Bu];exact AZ h1 rfl)
theorem kj (pe:Env):∀(sc:LK)(acc:List (Str×Addr))(n:Str)(c:Addr),(n,c)∈iL B.nm pe sc acc->(n,c)∈acc\/∃q∈sc,q.2=.free/\n=B.nm q.1/\c=(pe.cells.lookup (B.nm q.1)).getD 0
 |[],acc,n,c,h=>.inl h
 |(y,k)::r,acc,n,c,h=>by
  rw[oW O] at h
  by_cases hk:(k==.free)=true
  ·rw[if_pos hk] at h
   rcases kj pe r _ n c h with h|⟨q,hq,e⟩
   ·rcases Bw.mp h with h|h
    ·cases h
     exact .inr ⟨(y,k),Bj,by simpa using hk,rfl,rfl⟩
    ·exact .inl h
   ·exact .inr ⟨q,Bi _ hq,e⟩
  ·rw[if_neg hk] at h
   rcases kj pe r _ n c h with h|⟨q,hq,e⟩
   ·exact .inl h
   ·exact .inr ⟨q,Bi _ hq,e⟩
theorem lj (pe:Env):∀(sc:LK)(acc:List (Str×Addr)),(sc.map (·.1)).Nodup->(acc.map (·.1)).Nodup->(∀z∈acc,∀q∈sc,z.1≠B.nm q.1)->((iL B.nm pe sc acc).map (·.1)).Nodup
 |[],acc,_,h,_=>h
 |(y,k)::r,acc,hn,h,ha=>by
  simp only[Bo,CD] at hn;refine AZ (oW O) ?_
  by_cases hk:(k==.free)=true
  ·refine AZ (if_pos hk) ?_
   refine lj pe r _ hn.2 ?_ ?_
   ·refine AZ Bo<|AZ (propext CD) ?_
    refine⟨fun hm=>?_,h⟩;refine ak (BC.mp hm) fun z hz e=>?_;exact ha z hz (y,k) Bj e
   ·intro z hz q hq
    rcases Bw.mp hz with rfl|hz
    ·intro e
     exact hn.1 (BC.mpr ⟨q,hq,(O.inj _ _ e).symm⟩)
    ·exact ha z hz q (Bi _ hq)
  ·refine AZ (if_neg hk) ?_
   exact lj pe r _ hn.2 h fun z hz q hq=>ha z hz q (Bi _ hq)
theorem gN {pe:Env}(hp:pe.cells.Pairwise fun x y=>x.2≠y.2):∀(sc:LK)(acc:List (Str×Addr)),(sc.map (·.1)).Nodup->(∀q∈sc,q.2=.free->(pe.cells.lookup (B.nm q.1)).isSome)->
  acc.Pairwise (fun x y=>x.2≠y.2)->(∀z∈acc,∃n,pe.cells.lookup n=some z.2/\∀q∈sc,n≠B.nm q.1)->(iL B.nm pe sc acc).Pairwise fun x y=>x.2≠y.2
 |[],acc,_,_,h,_=>h
 |(y,k)::r,acc,hn,hs,h,ha=>by
  simp only[Bo,CD] at hn;refine AZ (oW O) ?_
  by_cases hk:(k==.free)=true
  ·refine AZ (if_pos hk) ?_
   refine x1 (DE.mp (hs (y,k) Bj (by simpa using hk))) fun c hc=>?_;simp only[hc,FC];refine gN hp r _ hn.2 (fun q hq=>hs q (Bi _ hq)) ?_ ?_
   ·refine BV.mpr ⟨fun z hz e=>?_,h⟩
    refine ak (ha z hz) fun n h1 h2=>?_;have e':c=z.2:=e;rw[<-e'] at h1;exact h2 (y,k) Bj (Hq hp (mem_of_lookup h1) (mem_of_lookup hc))
   ·intro z hz
    rcases Bw.mp hz with rfl|hz
    ·refine⟨B.nm y,hc,fun q hq e=>?_⟩
     exact hn.1 (BC.mpr ⟨q,hq,(O.inj _ _ e).symm⟩)
    ·refine ak (ha z hz) fun n h1 h2=>?_
     exact⟨n,h1,fun q hq=>h2 q (Bi _ hq)⟩
  ·refine AZ (if_neg hk) ?_
   refine gN hp r _ hn.2 (fun q hq=>hs q (Bi _ hq)) h fun z hz=>?_;refine ak (ha z hz) fun n h1 h2=>?_;exact⟨n,h1,fun q hq=>h2 q (Bi _ hq)⟩
theorem c5:∀(names:List (Str×NameKind))(h:Heap),h.objs.size<=(Ed h names).objs.size
 |[],_=>Bq _
 |(_,k)::r,h=>by
  unfold Ed
  split
  ·exact Bf (by refine AZ (BM _ _) ?_;lia) (c5 r _)
  ·exact c5 r h
theorem dw (x:Nat):∀(sc:LK)(h:Heap)(acc:List (Str×Addr)),(sc.map (·.1)).Nodup->
  (sc.lookup x=some .cell->∃c,(CF h.objs.size (aR B.nm sc) acc).lookup (B.nm x)=some c/\h.objs.size<=c/\c < (Ed h (aR B.nm sc)).objs.size/\(Ed h (aR B.nm sc)).IsCell c none)/\
  (sc.lookup x≠some .cell->(CF h.objs.size (aR B.nm sc) acc).lookup (B.nm x)=acc.lookup (B.nm x))
 |[],h,acc,_=>⟨fun q=>by simp at q,fun J=>rfl⟩
 |(y,k)::r,h,acc,hn=>by
  simp only[Bo,CD] at hn;show(_->∃c,(CF h.objs.size ((B.nm y,k)::aR B.nm r) acc).lookup (B.nm x)=some c/\_<=c/\c < (Ed h ((B.nm y,k)::aR B.nm r)).objs.size/\(Ed h ((B.nm y,k)::aR B.nm r)).IsCell c none)/\(_->(CF h.objs.size ((B.nm y,k)::aR B.nm r) acc).lookup (B.nm x)=_);unfold CF Ed
  by_cases hk:(k==.cell)=true
  ·simp only[if_pos hk]
   have hkc:k=.cell:=by simpa using hk
   subst hkc;have ih:=dw x r (h.push { cls:=.type "cell", data:=.cell none }) ((B.nm y,h.objs.size)::acc) hn.2
   replace ih:=(BM _ _)▸ih;have hsz:=c5 O (aR B.nm r) (h.push { cls:=.type "cell", data:=.cell none })
   rw[BM] at hsz
   by_cases hxy:x=y
   ·subst hxy
    have hr:r.lookup x=none:=by
     rw[EK];intro q hq;rw[bne_iff_ne];rintro rfl;exact hn.1 (BC.mpr ⟨q,hq,rfl⟩)
    refine⟨fun J=>⟨h.objs.size,?_,Bq _,hsz,?_⟩,fun q=>?_⟩
    ·refine AZ (ih.2 (by refine AZ hr ?_;simp)) ?_;simp[Bu]
    ·exact⟨_,Es _ _ _ _ (BD _ rfl),rfl⟩
    ·simp[Bu] at q
   ·have h1:(x==y)=false:=by simpa using hxy
    have h2:(B.nm x==B.nm y)=false:=by
     rw[beq_eq_false_iff_ne];exact fun q=>hxy (O.inj _ _ q)
    refine⟨fun q=>?_,fun q=>?_⟩
    ·rw[Bu,h1] at q
     refine vQ (ih.1 q) fun c e1 e2 e3 e4=>?_;exact⟨c,e1,CX e2,e3,e4⟩
    ·rw[Bu,h1] at q
     (refine AZ (ih.2 q) ?_;rw[Bu];exact AZ h2 rfl)
  ·simp only[if_neg hk]
   have hkc:k≠.cell:=by simpa using hk
   have ih:=dw x r h acc hn.2
   by_cases hxy:x=y
   ·subst hxy
    have hr:r.lookup x=none:=by
     rw[EK];intro q hq;rw[bne_iff_ne];rintro rfl;exact hn.1 (BC.mpr ⟨q,hq,rfl⟩)
    refine⟨fun q=>?_,fun J=>ih.2 (by refine AZ hr ?_;simp)⟩;simp[Bu,hkc] at q
   ·have h1:(x==y)=false:=by simpa using hxy
    (rw[Bu];refine AZ h1 ?_)
    exact ih
theorem dI:∀(names:List (Str×NameKind)) (n:Nat)(acc:List (Str×Addr)),(∀z∈acc,z.2 < n)->acc.Pairwise (fun x y=>x.2≠y.2)->(CF n names acc).Pairwise fun x y=>x.2≠y.2
 |[],n,acc,_,h=>h
 |(_,k)::r,n,acc,hl,h=>by
  unfold CF
  split
  ·refine dI r _ _ (fun z hz=>?_) (BV.mpr ⟨fun z hz e=>?_,h⟩)
   ·rcases Bw.mp hz with rfl|hz
    ·exact Ct _
    ·exact CV (hl z hz)
   ·have e':n=z.2:=e
    exact Bd _ (e'▸hl z hz)
  ·exact dI r _ _ hl h
end
end Mine
namespace Mine
variable {B:Bs}
section
variable (O:B.Ok)
include O
variable {Γ:aj}{ρ:ac}{Wc W:AP}{pe:Env}{A:BO}{s:Be}
set_option tactic.hygienic true in
theorem fA (pe:Env) (x:Nat):∀sc:List (Nat×NameKind),((aR B.nm sc).map fun(n,k)=>if(k==NameKind.free&&pe.scope.kind==.function&&pe.kindOf n==some .cell) then(n,NameKind.cell) else(n,k)).lookup (B.nm x)=
  (sc.lookup x).map fun k=>if(k==NameKind.free&&pe.scope.kind==.function&&pe.kindOf (B.nm x)==some .cell) then .cell else k
 |[]=>rfl
 |(y,k)::r=>by
  show C4 (B.nm x) ((if(k==NameKind.free&&pe.scope.kind==.function&&pe.kindOf (B.nm y)==some .cell)=true then(B.nm y,NameKind.cell) else(B.nm y,k))::_)=_
  by_cases h:x=y
  ·subst h
   rw[DP]
   split
   ·rename_i hc
    refine AZ DP ?_;exact congrArg some (if_pos hc).symm
   ·rename_i hc
    refine AZ DP ?_;exact congrArg some (if_neg hc).symm
  ·have h1:(x==y)=false:=by simpa using h
   have h2:(B.nm x==B.nm y)=false:=by
    rw[beq_eq_false_iff_ne];exact fun q=>h (O.inj _ _ q)
   refine AZ (Bu (a:=x))<|AZ h1 ?_
   split
   ·(rw[Bu];refine AZ h2 ?_);exact fA pe x r
   ·(rw[Bu];refine AZ h2 ?_);exact fA pe x r
theorem cm {α:Type}:∀{l:List (Nat×α)}{x:Nat}{k:α},l.lookup x=some k->(x,k)∈l
 |[],_,_,h=>by simp at h
 |(y,k')::r,x,k,h=>by
  rw[Bu] at h
  cases hb:x==y with
  |true=>rw[hb] at h;obtain rfl:=A0 h;refine AZ (show x=y by simpa using hb) ?_;exact Bj
  |false=>rw[hb] at h;exact Bi _ (cm h)
theorem bo {α:Type}:∀{l:List (Nat×α)}{x:Nat}{k:α},(l.map (·.1)).Nodup->(x,k)∈l->l.lookup x=some k
 |[],_,_,_,h=>by simp at h
 |(y,k')::r,x,k,hn,h=>by
  simp only[Bo,CD] at hn;rcases Bw.mp h with h1|h1
  ·cases h1;simp[Bu]
  ·have:x≠y:=by
    rintro rfl;exact hn.1 (BC.mpr ⟨(x,k),h1,rfl⟩)
   (rw[Bu];refine AZ (show(x==y)=false by simpa using this) ?_)
   exact bo hn.2 h1
structure pp (Γ:aj)(sc:LK):Prop where
 nd:(sc.map (·.1)).Nodup
 free:∀x,sc.lookup x=some .free->Γ x=some .cell\/Γ x=some .free
 kinds:∀x k,sc.lookup x=some k->k=.free\/k=.local\/k=.cell\/k=.globalImplicit
theorem im {sc:LK}(h:jS Γ sc=true):pp Γ sc:=by
 simp only[jS,Bz,decide_eq_true_eq,Bp] at h;refine⟨h.1,fun x hx=>?_,fun x k hx=>?_⟩
 ·have:=h.2 _ (cm O hx)
  simpa using this
 ·have:=h.2 _ (cm O hx)
  cases k<;>simp_all
theorem Ak {sc:LK}(hsc:pp Γ sc)(X:Ctx B Γ Wc W pe ρ s):∀x,sc.lookup x=some .free->(pe.kindOf (B.nm x)=some .cell\/pe.kindOf (B.nm x)=some .free)/\∃c,pe.cells.lookup (B.nm x)=some c:=fun x hx=>by
 rcases hsc.free x hx with h|h
 ·exact⟨.inl (X.kinds _ _ h).1,(X.kinds _ _ h).2 (.inl rfl)⟩
 ·exact⟨.inr (X.kinds _ _ h).1,(X.kinds _ _ h).2 (.inr rfl)⟩
theorem env_kin {sc:LK}(hsc:pp Γ sc)(X:Ctx B Γ Wc W pe ρ s):∀x kk,sc.lookup x=some kk->(if(kk==NameKind.free&&pe.scope.kind==.function&&pe.kindOf (B.nm x)==some .cell)=true then NameKind.cell else kk)=(if kk=.free/\Γ x=some .cell then .cell else kk):=fun x kk hx=>by
 by_cases hf:kk=.free
 ·subst hf
  rcases hsc.free x hx with h|h
  ·refine AZ ((X.kinds _ _ h).1)<|AZ X.fn<|AZ h ?_;simp
  ·refine AZ ((X.kinds _ _ h).1)<|AZ X.fn<|AZ h ?_;simp
 ·simp[hf]
theorem env_clo {sc:LK}(hsc:pp Γ sc)(hfk:∀x,sc.lookup x=some .free->(pe.kindOf (B.nm x)=some .cell\/pe.kindOf (B.nm x)=some .free)/\∃c,pe.cells.lookup (B.nm x)=some c):∀x,(iL B.nm pe sc []).lookup (B.nm x)=if sc.lookup x=some .free then pe.cells.lookup (B.nm x) else none:=fun x=>by
 refine AZ (dT O pe x sc [] hsc.nd) ?_
 split
 ·rename_i hx
  refine x1 ((hfk x hx).2) fun c hc=>?_;refine AZ hc ?_;rfl
 ·rfl
theorem AE {sc:LK}{Q:Env->Be->Prop}{cl:List (Str×Addr)}{h':Heap}(hsc:pp Γ sc)(X:Ctx B Γ Wc W pe ρ s)
  (k:∀s' cenv,Ctx B (aB Γ sc) Wc (cw W fun b=>s.heap.objs.size<=b/\b < s'.heap.objs.size) { cenv with scope:=EC (cy B.nm sc) pe } (ρ.cut sc) s'->ay B s s'->(∀x b,sc.lookup x=some .local\/sc.lookup x=some .cell->(zP B { cenv with scope:=EC (cy B.nm sc) pe } x).a b->s.heap.objs.size<=b/\b < s'.heap.objs.size)->s.heap.objs.size<=cenv.locals->Q cenv s')
  (hcl:iL B.nm pe sc []=cl) (hh':Ed (s.heap.push { cls:=.type "dict", data:=.dict #[] }) (aR B.nm sc)=h') (hL:(s.heap.push { cls:=.type "dict", data:=.dict #[] }).objs.size=s.heap.objs.size+1)
  (hfk:∀x,sc.lookup x=some .free->(pe.kindOf (B.nm x)=some .cell\/pe.kindOf (B.nm x)=some .free)/\∃c,pe.cells.lookup (B.nm x)=some c) (hkin:∀x kk,sc.lookup x=some kk->(if(kk==NameKind.free&&pe.scope.kind==.function&&pe.kindOf (B.nm x)==some .cell)=true then NameKind.cell else kk)=(if kk=.free/\Γ x=some .cell then .cell else kk)) (hclo:∀x,cl.lookup (B.nm x)=if sc.lookup x=some .free then pe.cells.lookup (B.nm x) else none):
  Q (newEnv (cy B.nm sc) s.heap.objs.size pe.globals (CF (s.heap.objs.size+1) (aR B.nm sc) cl) pe.qual none .none (some pe) Cc) { s with heap:=h' }:=by
 have hsz:=c5 O (aR B.nm sc) (s.heap.push { cls:=.type "dict", data:=.dict #[] })
 replace hsz:=hh'▸hsz;have keep:∀b o,s.heap.get? b=some o->h'.get? b=some o:=fun b o e=>hh'▸Es _ _ b o (By _ e);have eff:ay B s { s with heap:=h' }:=gc O keep (by show s.heap.objs.size<=h'.objs.size;lia) rfl rfl;have cf:=fun x=>dw O x sc (s.heap.push { cls:=.type "dict", data:=.dict #[] }) cl hsc.nd
 replace cf:=hL▸cf;simp only[hh'] at cf;have hcell:∀x c,(CF (s.heap.objs.size+1) (aR B.nm sc) cl).lookup (B.nm x)=some c->(sc.lookup x=some .cell/\s.heap.objs.size+1<=c/\c < h'.objs.size/\h'.IsCell c none)\/(sc.lookup x=some .free/\pe.cells.lookup (B.nm x)=some c):=fun x c e=>by
  by_cases hx:sc.lookup x=some .cell
  ·refine vQ ((cf x).1 hx) fun c' e1 e2 e3 e4=>?_
   obtain rfl:=A0 (e1.symm.trans e);exact .inl ⟨hx,e2,e3,e4⟩
  ·replace e:=(hclo _)▸((cf x).2 hx)▸e
   split at e
   ·exact .inr ⟨by assumption,e⟩
   ·exact ah e
 have nlt:∀b,b < s.heap.objs.size->¬(s.heap.objs.size<=b/\b < h'.objs.size):=fun b q z=>Bd _ (Ba q z.1);have clt:∀x c,pe.cells.lookup (B.nm x)=some c->c < s.heap.objs.size:=fun x c e=>by
  refine aS (X.cells x c e) fun p91 J=>?_;obtain⟨v,hv⟩:=p91;exact hv.lt
 have WcLt:∀b,Wc b->b < s.heap.objs.size:=fun b q=>X.wlt b (X.cW b q);have kind:∀x,(EC (cy B.nm sc) pe).names.lookup (B.nm x)=aB Γ sc x:=fun x=>by
  show((aR B.nm sc).map _).lookup (B.nm x)=(sc.lookup x).map _;refine AZ (fA O _ _ _) ?_
  cases hx:sc.lookup x with
  |none=>rfl
  |some kk=>simp only[CJ];exact AZ (hkin x kk hx) rfl
 have locOut:∀x v,sc.lookup x=some .free->dA B pe s.heap x v->∃c,pe.cells.lookup (B.nm x)=some c/\s.heap.IsCell c (some v):=fun x v hx l=>by
  rcases l with⟨kk,J⟩|⟨kk,c,e,hc⟩
  ·rcases(hfk x hx).1 with h|h<;>(rw[kk] at h;exact nomatch h)
  ·exact⟨c,e,hc⟩
 refine k { s with heap:=h' } (newEnv (cy B.nm sc) s.heap.objs.size pe.globals (CF (s.heap.objs.size+1) (aR B.nm sc) cl) pe.qual none .none (some pe) Cc) ?_ eff (fun x b hx hb=>by
  rcases hb with rfl|hb
  ·exact⟨Bq _,by show s.heap.objs.size < h'.objs.size;lia⟩
  ·rcases hcell x b hb with⟨J,h1,h2,J⟩|⟨hf,J⟩
   ·exact⟨CX h1,h2⟩
   ·rcases hx with hx|hx<;>(rw[hf] at hx;exact nomatch hx)) (Bq _)
 have X':=X.move O eff;have up:∀d v,aw B s.heap W d v->aw B h' (cw W fun b=>s.heap.objs.size<=b/\b < h'.objs.size) d v:=fun d v r=>
  aw.move O (fun b o J e=>keep b o e) (fun b q=>q.elim .inl fun z=>.inr (BY z.1)) d v r
 exact{
  good:=X'.good
  fn:=rfl
  glob:=X.glob
  blt:=X.blt
  tW:=X.tW
  cW:=fun b q=>.inl (X.cW b q)
  wlt:=fun b q=>q.elim (fun z=>X'.wlt b z) fun z=>z.2
  loc:=by
   refine⟨_,CN.keeps (CN.new s.heap (.type "dict")) fun b o e=>?_,rfl⟩
   exact hh'▸Es _ _ b o e
  locW:=⟨.inr ⟨Bq _,by show s.heap.objs.size < h'.objs.size;lia⟩,fun q=>Bd _ (WcLt _ q)⟩
  ow:=fun b q n=>q.elim (fun z=>X.ow b z n) fun z=>X.good.hi z.1
  code:=X.code
  kinds:=fun x kk hx=>by
   refine⟨by show(EC (cy B.nm sc) pe).names.lookup (B.nm x)=_;exact AZ (kind x)<|AZ hx rfl,fun hc=>?_⟩;show ∃c,(CF (s.heap.objs.size+1) (aR B.nm sc) cl).lookup (B.nm x)=some c;replace hx:(sc.lookup x).map _=some kk:=hx
   cases hs:sc.lookup x with
   |none=>replace hx:=hs▸hx;exact ah hx
   |some k0=>
    rw[hs] at hx;simp only[CJ,Bl] at hx
    by_cases hf:k0=.free
    ·subst hf
     refine x1 ((hfk x hs).2) fun c hc=>?_;refine⟨c,?_⟩;refine AZ ((cf x).2 (by refine AZ hs ?_;simp))<|AZ (hclo _)<|AZ (if_pos hs) ?_;exact hc
    ·simp only[hf,false_and,if_false] at hx
     subst hx;rcases hc with rfl|rfl
     ·refine ak ((cf x).1 hs) fun c e J=>?_
      exact⟨c,e⟩
     ·exact absurd rfl hf
  cells:=fun x c e=>by
   rcases hcell x c e with⟨J,h1,h2,h3⟩|⟨J,h1⟩
   ·exact⟨⟨_,h3⟩,fun t=>Bd _ (Ba (WcLt _ (X.tW _ t)) (CX h1))⟩
   ·refine aS (X.cells x c h1) fun p91 ht=>?_
    obtain⟨v,hv⟩:=p91;exact⟨⟨v,DH hv keep⟩,ht⟩
  apart:=by
   refine dI O _ _ _ (fun z hz=>?_) ?_
   ·obtain⟨n,c⟩:=z
    replace hz:=(BE hcl)▸hz;rcases kj O pe sc [] n c hz with h|⟨q,hq,hf,rfl,hc⟩
    ·exact bE h
    ·refine x1 ((hfk q.1 (by obtain⟨a,b⟩:=q;cases hf;exact bo O hsc.nd hq)).2) fun c' hc'=>?_
     rw[hc'] at hc;simp only[FC] at hc;subst hc;exact CV (clt _ _ hc')
   ·refine AZ (BE hcl) ?_
    exact gN O X.apart sc [] hsc.nd (fun q hq hf=>by
     refine x1 ((hfk q.1 (by obtain⟨a,b⟩:=q;cases hf;exact bo O hsc.nd hq)).2) fun c' hc'=>?_
     refine AZ hc' ?_;rfl) B3 (fun z hz=>by exact bE hz)
  cellW:=fun x c e=>by
   rcases hcell x c e with⟨J,h1,h2,h3⟩|⟨hf,h1⟩
   ·exact .inr ⟨.inr ⟨CX h1,h2⟩,fun q=>Bd _ (Ba (WcLt _ q) (CX h1))⟩
   ·rcases X.cellW x c h1 with⟨d,hd⟩|z
    ·exact .inl ⟨d,by unfold ac.cut;refine AZ (if_pos hf) ?_;exact hd⟩
    ·exact .inr ⟨.inl z.1,z.2⟩
  vars:=fun x en hx=>by
   unfold ac.cut at hx
   split at hx
   ·rename_i hf
    refine ak (X.vars x en hx) fun v l r=>?_;refine ak (locOut x v hf l) fun c hc hv=>?_;refine⟨v,.inr ⟨?_,c,?_,DH hv keep⟩,?_⟩
    ·show(EC (cy B.nm sc) pe).names.lookup (B.nm x)=_\/(EC (cy B.nm sc) pe).names.lookup (B.nm x)=_
     refine AZ (kind x) ?_;show(sc.lookup x).map _=_\/(sc.lookup x).map _=_;refine AZ hf ?_;simp only[CJ,true_and]
     split<;>simp
    ·show(CF (s.heap.objs.size+1) (aR B.nm sc) cl).lookup (B.nm x)=some c
     refine AZ ((cf x).2 (by refine AZ hf ?_;simp))<|AZ (hclo _)<|AZ (if_pos hf) ?_;exact hc
    ·exact r.map up (fun d u r=>ab.move O (fun b o J e=>keep b o e) (fun b q=>q.elim .inl fun z=>.inr (BY z.1)) d u r) (fun c o w q=>⟨keep c o q,fun z=>z.elim w fun z=>Bd _ (Ba (BG q) z.1)⟩) (fun b J w wc J=>⟨⟨.inl w,wc⟩,fun o q=>keep b o q⟩) fun b w J=>DA (X.wlt _ w)
   ·exact ah hx
  sealedW:=fun x hx=>by
   refine x1 hx fun d hx=>?_;unfold ac.cut at hx;refine oE hx fun hf hx=>?_;refine ak (X.sealedW x ⟨d,hx⟩) fun c h1 h2=>?_;refine⟨c,?_,fun q=>q.elim h2 (nlt _ (clt _ _ h1))⟩;show(CF (s.heap.objs.size+1) (aR B.nm sc) cl).lookup (B.nm x)=some c;refine AZ ((cf x).2 (by refine AZ hf ?_;simp))<|AZ (hclo _)<|AZ (if_pos hf) ?_;exact h1
  owns:=fun x y e e' u u' a hx hy lx ly o1 o2=>by
   unfold ac.cut at hx hy;refine oE hx fun hfx hx=>?_;refine oE hy fun hfy hy=>?_;refine ak (X.vars x _ hx) fun v l1 r1=>?_;refine ak (X.vars y _ hy) fun v' l2 r2=>?_;have back:∀z w,sc.lookup z=some .free->dA B pe s.heap z w->∀w',dA B { newEnv (cy B.nm sc) s.heap.objs.size pe.globals (CF (s.heap.objs.size+1) (aR B.nm sc) cl) pe.qual none .none (some pe) Cc with scope:=EC (cy B.nm sc) pe } h' z w'->w'=w:=by
    intro z w hf l w' l';refine ak (locOut z w hf l) fun c hc hv=>?_;refine dA.uniq l' (.inr ⟨?_,c,?_,DH hv keep⟩)
    ·show(EC (cy B.nm sc) pe).names.lookup (B.nm z)=_\/(EC (cy B.nm sc) pe).names.lookup (B.nm z)=_
     refine AZ (kind z) ?_;show(sc.lookup z).map _=_\/(sc.lookup z).map _=_;refine AZ hf ?_;simp only[CJ,true_and]
     split<;>simp
    ·show(CF (s.heap.objs.size+1) (aR B.nm sc) cl).lookup (B.nm z)=some c
     refine AZ ((cf z).2 (by refine AZ hf ?_;simp))<|AZ (hclo _)<|AZ (if_pos hf) ?_;exact hc
   have e1:=back x v hfx l1 _ lx;have e2:=back y v' hfy l2 _ ly;subst e1;subst e2
   exact X.owns x y e e' _ _ a hx hy l1 l2 (aU.back r1 (fun c o J q=>keep c o q) o1) (aU.back r2 (fun c o J q=>keep c o q) o2) }
theorem AD {sc:LK}{E:VS}{Q:Env->Be->Prop}(hsc:pp Γ sc)(X:Ctx B Γ Wc W pe ρ s)
  (k:∀s' cenv,Ctx B (aB Γ sc) Wc (cw W fun b=>s.heap.objs.size<=b/\b < s'.heap.objs.size) { cenv with scope:=EC (cy B.nm sc) pe } (ρ.cut sc) s'->ay B s s'->(∀x b,sc.lookup x=some .local\/sc.lookup x=some .cell->(zP B { cenv with scope:=EC (cy B.nm sc) pe } x).a b->s.heap.objs.size<=b/\b < s'.heap.objs.size)->s.heap.objs.size<=cenv.locals->Q cenv s'):
  wpAny B.M A (GO (cy B.nm sc) pe.globals (iL B.nm pe sc []) [] pe.qual none .none (some pe)) Q E s:=by
 refine Bc (show wpAny _ _ (alloc { cls:=.type "dict", data:=.dict #[] }) _ _ _ from wpAny_alloc ?_)
 refine Bc (wpAny_layCells _ (fun name kind cells=>by cases hkc:kind==NameKind.cell<;>simp only[hkc]) _ _ _ _ ?_);refine Bc (show wpAny _ _ (pure PUnit.unit) _ _ _ from Bk (Bk ?_));refine AZ (show(s.heap.push { cls:=.type "dict", data:=.dict #[] }).objs.size=s.heap.objs.size+1 from BM ..) ?_
 refine AZ (show(cy B.nm sc).names=aR B.nm sc from rfl) ?_;exact AE O hsc X k rfl rfl (BM ..) (Ak O hsc X) (env_kin O hsc X) (env_clo O hsc (Ak O hsc X))
end
end Mine
namespace Mine
variable {B:Bs}{K:Nat}
section
variable (O:B.Ok)
include O
variable {Γ:aj}{ρ:ac}{Wc W:AP}{pe:Env}{A:BO}{s:Be}
theorem oU {sc:LK}(hsc:pp Γ sc)(X:Ctx B Γ Wc W pe ρ s):Fb (cy B.nm sc) pe=pure (iL B.nm pe sc []):=by
 refine vB O pe sc ?_;rintro⟨x,kk⟩ hq hf
 cases hf
 rcases hsc.free x (bo O hsc.nd hq) with h|h
 ·refine x1 ((X.kinds _ _ h).2 (.inl rfl)) fun c hc=>?_;refine AZ hc ?_;rfl
 ·refine x1 ((X.kinds _ _ h).2 (.inr rfl)) fun c hc=>?_;refine AZ hc ?_;rfl
theorem tB {sc:LK}(hsc:pp Γ sc):∀x∈(cy B.nm sc).names,x.2=.local->(cy B.nm sc).names.lookup x.1=some .local:=by
 intro y hy hk;refine ak (BC.mp hy) fun q hq e91=>?_;subst e91;show(aR B.nm sc).lookup (B.nm q.1)=_;refine AZ (dt O _ _) ?_;obtain⟨x,k⟩:=q
 cases hk
 exact bo O hsc.nd hq
theorem lh {fr:Bool}{K:Nat}{Φ:bU}{elt:E}{t:Tg}{itE:E}{ifs:List E}{r:List Gn}{sc:LK}{p:Pos}{r1:Mine.R}{items l:List D}{use:Option (Value->Sem Unit)}{Ex:VS}{Q:VS}
  (hfr:fr=true->FrE B K Φ elt/\r=[]) (RK:aD A K) (R20:aD A (K - 4)) (helt:bg B K Φ elt) (hit:bg B K Φ itE) (hifs:lr B K Φ ifs) (hr:jg B K Φ r) (hsc:pp Γ sc) (X:Ctx B Γ Wc W pe ρ s) (h1:ev Φ Γ ρ itE=some r1) (hi:r1.asI=some items)
  (hl:eN sc t (fun ρ'=>do
     let c <-x4 Φ (aB Γ sc) ρ' ifs
     if c then evG Φ sc (aB Γ sc) r (fun ρ''=>do (<-ev Φ (aB Γ sc) ρ'' elt).asD) ρ' else some []) (ρ.cut sc) items=some l) (hlim:l.length<=lim)
  (k:∀s' a C,ay B s s'->Ctx B Γ Wc W pe ρ s'->aw B s'.heap (cw W fun b=>b=C) (.list l) (.ref a)->s.heap.objs.size<=a->s.heap.objs.size<=C->(∃m,s'.heap.Ns C m/\m (cR [65])=none)->C < s'.heap.objs.size->a≠C->(∃vs n,s'.heap.get? a=some { cls:=.type "list", dict:=none,data:=.seq vs n,slots:=#[] }/\ab B s'.heap (fun b=>W b\/b=C\/b=a) l vs.toList/\(fr=true->lB (a+1) vs.toList s'.heap))->compPost B.M A Ex use Q (.ref a) C (.ok .next) s'):
  wpAny B.M A (comprehension (.ListComp (elt.py B.nm) (sq B.nm (.mk t itE ifs::r)) (cy B.nm sc) p) (cy B.nm sc) pe (firstIterPos (sq B.nm (.mk t itE ifs::r)) p) (newList []) false (eval (itE.py B.nm) pe) use) Q Ex s:=by
 refine wpAny_comprehension_free (use:=use) (g:=⟨t.py B.nm,itE.py B.nm,fq B.nm ifs,0⟩) (gs:=sq B.nm r) rfl (fun x=>q0 O _ _ _ _) (oU O hsc X) rfl (tB O hsc) ?_;refine BH (hit _ _ _ h1 _ _ _ _ _ X RK) ?_ fun J J f=>f.elim;rintro v1 s1 ⟨e1,q1⟩;have X1:=X.move O e1;refine rC O hi X1.tW' X1.wlt X1.good R20 e1 q1 fun it F pv I s2 at2 hlen2 e2=>?_;refine x04 at2 fun ok hI hF hp hg=>?_;refine CB ?_;have e03:ay B s { s2 with heap:=s2.heap.push { cls:=.type "list", data:=.seq ([]:List Value).toArray } }:=(e1.trans e2).trans (ay.push O _ s2.toks)
 have hs3:({ s2 with heap:=s2.heap.push { cls:=.type "list", data:=.seq ([]:List Value).toArray } }:Be).heap.objs.size=s2.heap.objs.size+1:=BM ..
 have hsub:=ok.sub _ _ _ hI;have hN:∀b,(pv.a b\/b=s2.heap.objs.size)->s.heap.objs.size<=b/\b < ({ s2 with heap:=s2.heap.push { cls:=.type "list", data:=.seq ([]:List Value).toArray } }:Be).heap.objs.size:=fun b q=>by
  refine AZ hs3 ?_;rcases q with q|rfl
  ·exact⟨hp b q,CV (hsub b q).2.2⟩
  ·exact⟨(e1.trans e2).size,Ct _⟩
 have X3:=Ctx.grow O X (e03.toP ⟨fun J=>False,fun J=>False⟩) (fun b q=>q.elim) (fun b q=>q.elim) hN;have hobj:({ s2 with heap:=s2.heap.push { cls:=.type "list", data:=.seq ([]:List Value).toArray } }:Be).heap.get? s2.heap.objs.size=some { cls:=.type "list", dict:=none,data:=.seq #[] 0,slots:=#[] }:=BD _ rfl
 have e23:ay B s2 { s2 with heap:=s2.heap.push { cls:=.type "list", data:=.seq ([]:List Value).toArray } }:=ay.push O _ s2.toks
 generalize hS3:({ s2 with heap:=s2.heap.push { cls:=.type "list", data:=.seq ([]:List Value).toArray } }:Be)=s3 at *
 have hhi:B.Hi s2.heap.objs.size:=X.good.hi (e1.trans e2).size;refine AD O hsc X3 fun s4 cenv X4 e34 hz4 hL=>?_;have e24:=e23.trans e34;have e04:=e03.trans e34;have hD4:=e34.keep _ _ (iV O hhi) hobj;have I4:I items pv s4:=ok.stay _ _ _ _ hI (fun b o nt J z=>e24.keep b o nt z) e24.ck e24.size (fun i y J z=>e24.gens i y z) X4.good;have hDp:¬pv.a s2.heap.objs.size:=fun q=>Bd _ (hsub _ q).2.2;refine ke O (g:=⟨t.py B.nm,itE.py B.nm,fq B.nm ifs,0⟩) rfl rfl rfl rfl rfl ok I4 X4.good R20 ?_;have hs23:s2.heap.objs.size < s3.heap.objs.size:=by refine AZ hs3 ?_;exact Ct _
 refine loop_ok O (Z:=fun b=>s3.heap.objs.size<=b/\b < s4.heap.objs.size) hz4 RK R20 helt (fun z=>(hfr z).1) r (fun z=>(hfr z).2) hr t itE ifs hifs 0 rfl it F I ok items (ρ.cut sc) l _ s4 _ _ pv #[] 0 hl ?_ X4 I4 ?_ ?_ ⟨hD4,.inr (.inr rfl),hhi⟩ hDp (by simpa using hlim) ?_
 ·intro b q
  refine⟨.inr q,fun w=>?_⟩;exact Bd _ (Ba (X3.wlt b (X3.cW b w)) q.1)
 ·intro b q
  refine aS (hF b q) fun f1 f2=>?_;refine⟨fun w=>?_,Ba f2 e24.size⟩;rcases w with(w|w|w)|w
  ·exact f1 w
  ·exact(hsub b w).1 q
  ·subst w;exact Bd _ f2
  ·exact Bd _ (Ba (CP f2 hs23) w.1)
 ·intro b q
  exact⟨.inr (.inl q),X.good.hi (hp b q)⟩
 ·intro s' Wc' W' vs' n' X' g' hD' r' e' fl'
  have fin:ay B s s':=ao.toEff e04 e' (fun b q=>by
   rcases q with q|q|rfl
   ·exact Bf e03.size q.1
   ·exact hp b q
   ·exact(e1.trans e2).size) (fun i q=>hg i q)
  have hLW:(cw (cw W fun b=>pv.a b\/b=s2.heap.objs.size) fun b=>s3.heap.objs.size<=b/\b < s4.heap.objs.size) cenv.locals:=X4.locW.1;refine k s' s2.heap.objs.size cenv.locals fin (X.move O fin) ?_ (e1.trans e2).size (Bf e03.size hL) X'.loc (X'.wlt _ X'.locW.1) (fun q=>?_) ⟨vs'.toArray,n',by simpa using hD',?_,fun z=>?_⟩
  ·simp only[aw]
   refine⟨_,_,n',rfl,fun w=>?_,by simpa using hD',hlim,?_⟩
   ·rcases w with w|w
    ·exact Bd _ (Ba (X.wlt _ w) (e1.trans e2).size)
    ·rw[<-w] at hL
     exact Bd _ (Ba hs23 hL)
   ·simp only[Cx]
    exact ab.less O r' fun b q=>q.elim (fun q=>g'.w b (.inl (.inl q))) fun q=>q▸g'.w _ hLW
  ·replace hL:=(BE q)▸hL
   exact Bd _ (Ba hs23 hL)
  ·simp only[Cx]
   exact ab.less O r' fun b q=>q.elim (fun q=>g'.w b (.inl (.inl q))) fun q=>q.elim (fun q=>q▸g'.w _ hLW) fun q=>g'.w b (.inl (.inr (.inr q)))
  ·have f:=fl' z
   refine AZ Cx ?_;refine⟨f.nd,fun v hv=>?_⟩;refine kJ (f.at' v hv) fun b m e h1 h2=>?_;exact⟨b,m,e,Bf (Bf hs23 e34.size) h1,h2⟩
theorem yX {K:Nat}{Φ:bU}{elt:E}{t:Tg}{itE:E}{ifs:List E}{r:List Gn}{sc:LK}{p:Pos}(hK:20<=K)(helt:bg B K Φ elt)(hit:bg B K Φ itE)(hifs:lr B K Φ ifs)(hr:jg B K Φ r):bg B K Φ (.comp elt (.mk t itE ifs::r) sc p):=by
 intro Γ ρ rr h Wc W pe A s X R;have R20:aD A (K - 4):=⟨R.handled,BI (C2 (C0 _ _) _) R.depth,BI (Fe (C2 (Fk 3 (C0 _ _)) _) _) R.units⟩;simp only[f8] at h
 split at h
 case isFalse=>exact ah h
 rename_i hsc
 simp only[Bh,Bg,Bt,xS] at h;refine pK h fun r1 h1 items hi l hl d hd e91=>?_;subst e91;refine ifk hd fun hlim e95=>?_;subst e95;refine AZ kC<|AZ (arm_eval_ListComp _ _ _ _ _) ?_
 refine lh O (fr:=false) (use:=none) (fun z=>ce z) R R20 helt hit hifs hr (im O hsc) X h1 hi hl hlim fun s' a C e X' ra ha hC hns hlt hne J=>?_;refine ak hns fun m hm hz=>?_;refine⟨m,hm,fun h' hs'=>?_⟩;have ec:ao B ⟨fun b=>b=C,fun J=>False⟩ s' { s' with heap:=h' }:=by
  have:=cM O (s:=s') (h':=h') (t:=s'.toks) (a:=C) (fun t=>Bd _ (Ba (X.wlt _ (X.tW' _ t)) hC)) (lV hm hz) hs';exact this
 have ef:ay B s { s' with heap:=h' }:=ao.toEff e ec (fun b q=>q▸hC) (fun i q=>q.elim);refine⟨ef,?_⟩;refine aw.move O (ec.kW (fun b t=>.inl (X.tW' _ t)) fun b w=>.inr w) (fun b q=>.inl (.inl q)) _ _ ra
end
end Mine
namespace Mine
variable {B:Bs}
theorem po {pos:Pos}{v:Value}(a b:Int)(c:Value)(l:List Value)(h:TriplesOk l)(hn:FB pos (l++[Er a,Er b,c])=some v):FB pos l=some v\/v=c:=by
 fun_induction TriplesOk l with
 |case1=>
  simp only[D8,FB,Er] at hn
  split at hn
  ·obtain rfl:=A0 hn;exact .inr rfl
  ·exact ah hn
 |case2 a' t b' u x rest ih=>
  simp only[Dl,FB] at hn ⊢
  split at hn
  ·rename_i hc;refine AZ (if_pos hc) ?_;exact .inl hn
  ·rename_i hc;refine AZ (if_neg hc) ?_;exact ih h hn
 |case3 l h1 h2=>exact h.elim
section
variable (O:B.Ok)
include O
variable {Γ:aj}{ρ:ac}{Wc W:AP}{pe:Env}{A:BO}{s:Be}
structure MadeFn (B:Bs)(params:Arguments)(body:Ge)(scope:Scope)(qual:Str)(clos:List (Str×Addr))(h:Heap)(fd:Cu):Prop where
 params:fd.params=params
 body:fd.body=body
 scope:fd.scope=scope
 glob:fd.globals=BQ
 blt:fd.builtins=Cc
 dfl:fd.defaults=.none/\fd.kwdefaults=.none
 qual:fd.qualname=qual
 clos:fd.closure=clos
 code:iQ h fd.code fd.qualname
theorem code_ok {f:Nat}{c P:Addr}{pos:Pos}{fl:Nat}{name:Str}{params:Arguments}{body:Ge}{scope:Scope}{E:VS}{Q:VS}(hCT:B.CT f=some (c,P))(hcode:pe.code=.ref c)(g:aK B s)
  (k:∀v s',ay B s s'->iQ s'.heap v (B.qf f)->Q v s'):wpAny B.M A (functionCode pe pos fl name (B.qf f) params scope body) Q E s:=by
 refine x04 (O.hd f c P hCT) fun hd ncT hgP J J=>?_;have hd':CodeHd s.heap c P:=by
  refine x91 hd fun o vs file tf flags tg inF text tt e r=>?_;exact⟨o,vs,file,tf,flags,tg,inF,text,tt,g.base _ _ ncT e,r⟩
 refine pJ (g.ti.2 f c P hCT) fun ps hP ht hcodes=>?_
 cases hf:FB pos ps.toList with
 |some v=>exact wpAny_functionCode_hit hcode (hd'.code hP ht) hf (k v s (ay.refl _) (hcodes _ _ hf))
 |none=>
  refine Mine.uz (wpAny_functionCodeX hcode (hd'.code hP ht) (hd'.tab hP) hf fun c' h' tk hx hge hlt hic hrec htb hnew hsz=>?_);have hnc:∀o,s.heap.get? P=some o->¬B.KO o:=fun o e ic=>by obtain rfl:=A0 (hP.symm.trans e);exact(zK ic).elim (fun z=>nomatch z) fun z=>nomatch z
  have hcode':iQ h' (.ref c') (B.qf f):=by
   refine vQ hnew fun P' J J p91 J=>?_;obtain⟨o,vs,e1,e2,e3,J⟩:=p91;refine x43 hrec fun c'' o' vs' t e e1' e3' e4'=>?_
   cases e
   obtain rfl:=A0 (e1.symm.trans e1');exact⟨c',o,vs',t,rfl,e1,⟨e2,vs',e3'⟩,e3',e4'⟩
  have PT:B.T P:=.inl ⟨f,c,hCT⟩;refine k (.ref c') _ ⟨fun b o nt e=>hx b o (fun q=>nt (q▸PT)) e,fun b o ic e=>hx b o (fun q=>hnc o (q▸e) ic) e,hsz,fun J=>?_,fun J J e=>e,id,rfl⟩ hcode';refine⟨fun x ex=>?_,?_⟩
  ·obtain⟨t,n,gx⟩|⟨t,t',n,q,o,gx,nt,go,ko,sy⟩:=g.ti.1 x ex
   ·exact .raw t n (hx _ _ (fun z=>by rw[z,hP] at gx;exact nomatch gx) gx)
   ·exact .made t t' n q o (hx _ _ (fun z=>by rw[z,hP] at gx;exact nomatch gx) gx) nt (hx _ _ (fun z=>hnc o (z▸go) (.inr ko)) go) ko sy
  intro f2 c2 P2 e2
  by_cases hPP:P2=P
  ·subst hPP
   refine aS (O.ctinj _ _ _ _ _ hCT e2) fun e91=>?_;subst e91;intro e92;subst e92;refine⟨_,htb.2,?_,fun pos' v hv=>?_⟩
   ·refine AZ (show(ps++#[Er pos.line,Er pos.col,Value.ref c']).toList=ps.toList++[Er pos.line,Er pos.col,.ref c'] by simp) ?_
    exact TriplesOk_snoc _ _ _ _ ht
   ·replace hv:=(show(ps++#[Er pos.line,Er pos.col,Value.ref c']).toList=ps.toList++[Er pos.line,Er pos.col,.ref c'] by simp)▸hv
    rcases po _ _ _ _ ht hv with q|rfl
    ·exact(hcodes _ _ q).keep (B:=B) fun b o ic e=>hx b o (fun q=>hnc o (q▸e) ic) e
    ·exact hcode'
  ·refine pJ (g.ti.2 f2 c2 P2 e2) fun ps2 h1 h2 h3=>?_
   exact⟨ps2,hx _ _ hPP h1,h2,fun pos' v hv=>(h3 pos' v hv).keep (B:=B) fun b o ic e=>hx b o (fun q=>hnc o (q▸e) ic) e⟩
theorem make_fn {f:Nat}{c P:Addr}{clos:List (Str×Addr)}{pos:Pos}{fl:Nat}{name:Str}{params:Arguments}{body:Ge}{scope:Scope}{E:VS}{Q:VS}(hCT:B.CT f=some (c,P))(hcode:pe.code=.ref c)(hge:pe.globals=BQ)
  (hcl:Fb scope pe=pure clos) (g:aK B s) (hdoc:∀b,body=.stmts b->docOf b=none)
  (k:∀s' fa fd,ay B s s'->s.heap.objs.size<=fa->s'.heap.get? fa=some { cls:=.type "function", data:=.func fd }->MadeFn B params body scope (B.qf f) clos s'.heap fd->Q (.ref fa) s'):
  wpAny B.M A (Hr name (B.qf f) params body scope pe [] [] [] pos fl) Q E s:=by
 refine x04 (O.hd f c P hCT) fun J J J hb hbT=>?_;refine AZ (makeFunction_eq _ _ _ _ _ _ _ _ _ _ _)<|AZ (Hk (l:=params.kwonlyargs)) ?_
 refine Bc (Bk (Bc (Bk (Bc (Bk ?_)))));show wpAny B.M A (makeTail name (B.qf f) params body scope pe .none .none none pos fl) Q E s;unfold makeTail;refine AZ hcl<|AZ hge ?_
 refine Bc (Bk ?_)
 have main:∀(s1:Be) (ctv:Value),ay B s s1->aK B s1->wpAny B.M A (do
   let cdv <-functionCode pe pos fl name (B.qf f) params scope body
   let bl <-builtinsFor BQ pe.builtins
   let nm <-nsGet BQ "__name__"
   let doc <-match body with
    |.stmts b=>(match docOf b with|some s=>mkText s|none=>pure .none)
    |.expr _=>pure .none
   newObj (.type "function") (.func { name,qualname:=B.qf f,params,body,scope,globals:=BQ,closure:=clos,closureTuple:=ctv,code:=cdv,builtins:=bl,defaults:=.none,kwdefaults:=.none,annotations:=none,pyModule:=nm.getD .none,doc:=doc })) Q E s1:=by
  intro s1 ctv e1 g1;refine Bc (code_ok O hCT hcode g1 fun cdv s2 e2 hc2=>?_);have g2:=g1.move e2;refine x27 hb fun bm ob hbm hne0 J hneP hbo hcls hdict hdata=>?_;have hg':s2.heap.Ns BQ B.mg:=CN.moved O.g fun o e=>g2.base _ _ O.gT e;refine Bc (wpAny_builtinsFor hg' hbm hne0 (g2.base _ _ (hbT bm hbm) hbo) hcls hdict hdata ?_);refine Bc (wpAny_nsGet hg' ?_);have fin:∀doc:Value,wpAny B.M A (newObj (.type "function") (.func { name,qualname:=B.qf f,params,body,scope,globals:=BQ,closure:=clos,closureTuple:=ctv,code:=cdv,builtins:=Cc,defaults:=.none,kwdefaults:=.none,annotations:=none,pyModule:=(B.mg "__name__").getD .none,doc:=doc })) Q E s2:=by
   intro doc;refine CB ?_ (by size_fits);have ef:=(e1.trans e2).trans (ay.push O { cls:=.type "function", data:=.func { name,qualname:=B.qf f,params,body,scope,globals:=BQ,closure:=clos,closureTuple:=ctv,code:=cdv,builtins:=Cc,defaults:=.none,kwdefaults:=.none,annotations:=none,pyModule:=(B.mg "__name__").getD .none,doc:=doc } } s2.toks)
   exact k _ _ _ ef (e1.trans e2).size (BD _ rfl) ⟨rfl,rfl,rfl,rfl,rfl,⟨rfl,rfl⟩,rfl,rfl,hc2.keep (B:=B) fun b o J e=>By _ e⟩
  cases body with
  |expr e=>exact Bc (Bk (fin _))
  |stmts b=>
   have hd:=hdoc b rfl;dsimp only;refine AZ hd ?_;exact Bc (Bk (fin _))
 cases clos with
 |nil=>
  exact Bc (Bk (main s .none (ay.refl _) g))
 |cons q r=>
  exact Bc (wpAny_newTextTuple (main _ _ (ay.push O _ s.toks) (g.move (ay.push O _ s.toks))))
theorem yZ {K:Nat}{Φ:bU}{b:Bool}{p:Pos}:bg B K Φ (.bool b p):=by
 intro Γ ρ r h Wc W pe A s X R;simp only[pw,Bl] at h;subst h;exact Constant_bool ⟨ay.refl _,by simp only[bS,aw]⟩
structure xf (B:Bs)(id f:Nat)(ps:List (Nat×Pos))(body:E)(sc:LK):Prop where
 ls:B.LS id=some ⟨aV B.nm ps,.expr (body.py B.nm),cy B.nm sc,B.qf f,av sc⟩
 qf:B.qf f=B.pq f++("<lambda>" : Str)
 ct:∃c P,B.CT f=some (c,P)
set_option tactic.hygienic true in
theorem w6:∀(fr:List Nat)(caps:List D),fr.mapM (fun x=>match ρ x with|some (.sealed d)=>some d|_=>none)=some caps->Ctx B Γ Wc W pe ρ s->(∀x∈fr,pe.kindOf (B.nm x)=some .cell\/pe.kindOf (B.nm x)=some .free)->
  ∃cv:List Value,cv.length=fr.length/\ab B s.heap W caps cv/\∀(i x:Nat) (v:Value),fr[i]?=some x->cv[i]?=some v->∃c,pe.cells.lookup (B.nm x)=some c/\¬W c/\s.heap.IsCell c (some v)
 |[],caps,h,X,_=>by
  simp only[GC,EM,Bl] at h;subst h;exact⟨[],rfl,ab.nil,fun i x v e=>by simp at e⟩
 |x::fr,caps,h,X,hk=>by
  simp only[CQ,Bh,Bg,EM,Bl] at h;refine i2 h fun d hd caps' hc e91=>?_;subst e91;refine pJ (w6 fr caps' hc X fun y hy=>hk y (Bi _ hy)) fun cv h1 h2 h3=>?_
  split at hd
  ·rename_i d' hx
   obtain rfl:=A0 hd;refine ak (X.vars x _ hx) fun v l rv=>?_;refine ak (X.sealedW x ⟨_,hx⟩) fun c e1 e2=>?_;refine⟨v::cv,by simp[h1],ab.cons rv h2,fun i y w hi hv=>?_⟩
   cases i with
   |zero=>
    simp only[EL,Bl] at hi hv;subst hi;subst hv;refine⟨c,e1,e2,?_⟩;rcases l with⟨hl,m,n,J⟩|⟨J,c',e3,hc'⟩
    ·rcases hk x Bj with q|q<;>(rw[hl] at q;exact nomatch q)
    ·obtain rfl:=A0 (e1.symm.trans e3);exact hc'
   |succ i=>exact h3 i y w (by simpa using hi) (by simpa using hv)
  ·exact ah hd
theorem zC {id f fl:Nat}{name:Str}{params:Arguments}{body:Ge}{scope:Scope}{sc:LK}{p:Pos}{caps:List D}(hls:B.LS id=some ⟨params,body,scope,B.qf f,av sc⟩)(hct:∃c P,B.CT f=some (c,P))
  (hclos:Fb scope pe=Fb (cy B.nm sc) pe) (hS:pp Γ sc) (hcode:pe.code=B.cd f) (hdoc:∀b,body=.stmts b->docOf b=none) (X:Ctx B Γ Wc W pe ρ s)
  (hcaps:(av sc).mapM (fun x=>match ρ x with|some (.sealed d)=>some d|_=>none)=some caps):
  wpAny B.M A (Hr name (B.qf f) params body scope pe [] [] [] p fl) (fun v s'=>ay B s s'/\aw B s'.heap W (.lam id caps) v) i6 s:=by
 refine x2 hct fun c P hCT=>?_;have hcode:pe.code=.ref c:=by refine AZ hcode ?_;unfold Bs.cd;exact AZ hCT rfl
 refine make_fn O hCT hcode X.glob (hclos.trans (oU O hS X)) X.good hdoc fun s' fa fd e hfa hobj M=>?_;refine⟨e,?_⟩;have X':=X.move O e;have hfr:∀x,sc.lookup x=some .free↔x∈av sc:=fun x=>by
  unfold av;simp only[BC,Cq]
  constructor
  ·intro hx
   exact⟨(x,.free),⟨cm O hx,by simp⟩,rfl⟩
  ·rintro⟨⟨y,k⟩,⟨hm,hk⟩,rfl⟩
   have:k=.free:=by simpa using hk
   subst this;exact bo O hS.nd hm
 obtain⟨cv,h1,h2,h3⟩:=w6 O (av sc) caps hcaps X' fun x hx=>by
  rcases hS.free x ((hfr x).mpr hx) with h|h
  ·exact .inl (X.kinds _ _ h).1
  ·exact .inr (X.kinds _ _ h).1
 simp only[aw];refine⟨fa,cv,rfl,fun w=>Bd _ (Ba (X.wlt _ w) hfa),⟨_,_,fd,hls,hobj,rfl,fun w=>Bd _ (Ba (X.wlt _ w) hfa),?_⟩,h2⟩;have hlook:∀x,(iL B.nm pe sc []).lookup (B.nm x)=if sc.lookup x=some .free then some ((pe.cells.lookup (B.nm x)).getD 0) else none:=fun x=>by
  refine AZ (dT O pe x sc [] hS.nd) ?_;rfl
 have hsome:∀q∈sc,q.2=.free->(pe.cells.lookup (B.nm q.1)).isSome:=by
  rintro⟨x,kk⟩ hq hf'
  cases hf'
  rcases hS.free x (bo O hS.nd hq) with h|h
  ·refine x1 ((X.kinds _ _ h).2 (.inl rfl)) fun c hc=>?_;refine AZ hc ?_;rfl
  ·refine x1 ((X.kinds _ _ h).2 (.inr rfl)) fun c hc=>?_;refine AZ hc ?_;rfl
 refine⟨M.params,M.body,M.scope,M.glob,M.blt,M.dfl,M.qual,M.qual▸M.code,h1,fun x c hx=>?_,?_,?_,?_,fun i x v hi hv=>?_⟩
 ·rw[M.clos,hlook] at hx
  split at hx
  ·rename_i hx';exact(hfr x).mp hx'
  ·exact ah hx
 ·refine AZ M.clos ?_
  exact lj O pe sc [] hS.nd B3 fun z hz=>by exact bE hz
 ·intro z hz
  rw[M.clos] at hz;obtain⟨n,c⟩:=z;rcases kj O pe sc [] n c hz with h|⟨q,J,J,e,J⟩
  ·exact bE h
  ·exact⟨q.1,e⟩
 ·refine AZ M.clos ?_
  exact gN O X.apart sc [] hS.nd hsome B3 fun z hz=>by exact bE hz
 ·refine pJ (h3 i x v hi hv) fun c e1 e2 e3=>?_
  refine⟨c,?_,e2,e3⟩;refine AZ M.clos<|AZ (hlook _)<|AZ (if_pos ((hfr x).mpr (Co hi)))<|AZ e1 ?_;rfl
theorem v6 {K:Nat}{Φ:bU}{id f:Nat}{ps:List (Nat×Pos)}{body:E}{sc:LK}{p:Pos}(hl:xf B id f ps body sc):bg B K Φ (.lam id f ps body sc p):=by
 intro Γ ρ r h Wc W pe A s X R;simp only[sB] at h;refine oE h fun hc h=>?_;refine pL hc fun hsc hf hff=>?_;simp only[Bh,Bg,Bl] at h;refine ak h fun caps hcaps e91=>?_;subst e91;rcases X.code with q|⟨q1,q2⟩
 ·exact absurd (hff.symm.trans q) hf
 rw[hff] at q1 q2;show wpAny B.M A (Hr "<lambda>" (pe.qual ++ "<lambda>") (aV B.nm ps) (.expr (body.py B.nm)) (cy B.nm sc) pe [] [] [] p p.line) _ _ s
 refine AZ q2<|AZ (BE hl.qf) ?_
 exact zC O hl.ls hl.ct rfl (im O hsc) q1 (fun b e=>by exact nomatch e) X hcaps
end
end Mine
namespace Mine
theorem qg:mroOf (.type "slice")=pure [.type "slice", .type "object"]:=by refine AZ (mroOf_type _) ?_;kernel_rfl
theorem kU:typeLookup (.type "slice") "__new__" = pure (some (.builtin "slice.__new__")):=by refine AZ (typeLookup_type _ _)<|AZ builtinLookup_eq_fast ?_;kernel_rfl
theorem pQ:isSubtype (.type "slice") (.type "slice")=pure true:=by refine AZ (DY _ _) ?_;kernel_rfl
theorem kK (a b:Value):checkTypeCall "slice" ⟨[a,b],[]⟩=pure ():=by kernel_rfl
theorem mj (a b:Value):checkBuiltinCall "slice.__new__" ⟨[.type "slice", a,b],[]⟩=pure ():=by kernel_rfl
theorem mo:entryFor table "slice.__new__" = some Builtin.«slice.__new__»:=entryFor_of_tree (by kernel_rfl)
theorem md:Slot "slice" "__init__" "object.__init__" :=
 .of (owner := "object") (n := "__init__") (by refine AZ (typeLookup_type _ _)<|AZ builtinLookup_eq_fast ?_;kernel_rfl) (by decide +kernel) (by decide +kernel) (by decide +kernel)
  (by first|exact .inl (by decide +kernel)|exact .inr (by decide +kernel)) (by refine AZ (DY _ _) ?_;kernel_rfl)
theorem rZ:TypeCalled "slice" "slice.__new__" "object.__init__" :=
 ⟨by decide +kernel,by decide +kernel,⟨_,_,qg⟩,madeBy_type qg kU (by decide +kernel),by decide +kernel,pQ,md⟩
theorem xH (a b:Value):Meets (Builtin.«slice.__new__» ⟨[.type "slice", a,b],[]⟩) (fun J R s=>R (.ok (.ret (Value.ref s.heap.objs.size))) { s with heap:=s.heap.push { cls:=.type "slice", data:=.fields #[a,b,.none] } }):=
 .of_wp fun prog w A R s h=>by
  have hsub:=pQ;obtain⟨hp,g,d,tk,os⟩:=s;wp_walk;exact⟨_,rfl,h⟩
theorem sa {prog:Hu}{w:World}{A:BO}{E:VS}{s:Be}{a b:Value}{Q:VS}(h:Q (.ref s.heap.objs.size) { s with heap:=s.heap.push { cls:=.type "slice", data:=.fields #[a,b,.none] } }):
  wpAny (model prog w) A (call (.type "slice") [a,b]) Q E s:=
 callType_new rZ (by decide) (kK _ _) (mj _ _) (fun obj=>F.initArgs_range_2 obj _ _) mo (xH a b) ⟨⟨_,BD _ rfl,rfl⟩,h⟩
variable {B:Bs}
section
variable (O:B.Ok)
include O
variable {Γ:aj}{ρ:ac}{Wc W:AP}{pe:Env}{A:BO}{s:Be}{K:Nat}{Φ:bU}
set_option tactic.hygienic true in
omit O in
theorem len_inv {n:Nat}:∀{x:D},D.len x=some n->(∃l,x=.str l/\n=l.length)\/(∃l,x=.list l/\n=l.length)\/∃l,x=.tup l/\n=l.length:=fun{x} e=>by
 cases x
 case str l=>obtain rfl:=A0 e;exact .inl ⟨l,rfl,rfl⟩
 case list l=>obtain rfl:=A0 e;exact .inr (.inl ⟨l,rfl,rfl⟩)
 case tup l=>obtain rfl:=A0 e;exact .inr (.inr ⟨l,rfl,rfl⟩)
 all_goals exact ah e
omit O in
theorem zF {n:Nat}(h:n<=lim):(n:Int) < 2 ^ 63:=by unfold lim at h;lia
omit O in
theorem blt_len {n:Nat}{x:D}{v:Value}{E:VS}{Q:VS}(hn:D.len x=some n)(rx:bK B s.heap W x v)(k:∀t tk,Q (.int (n:Int) t) { s with toks:=tk }):wpAny B.M A (call (.builtin "len") [v]) Q E s:=by
 rcases len_inv hn with⟨l,rfl,rfl⟩|⟨ds,rfl,rfl⟩|⟨ds,rfl,rfl⟩
 ·refine ak (hV rx) fun t e91=>?_
  subst e91;intro hl;have hlen:(⟨l.toArray⟩:Str).length=l.length:=by simp[Str.length]
  refine P.len_str ?_ ?_
  ·refine AZ hlen ?_;exact HG.mpr (zF hl)
  ·refine AZ hlen ?_;exact k _ _
 ·obtain⟨a,vs,m,rfl,hg,hl,ra⟩:=rx
  have hsz:=ab.length ra;replace hsz:=Ca▸hsz;refine len_list ⟨_,hg,rfl,m,rfl⟩ (by refine AZ hsz ?_;exact zF hl) ?_;refine AZ hsz ?_;exact k _ _
 ·obtain⟨a,vs,m,rfl,hw,hg,hl,ra⟩:=rx
  have hsz:=ab.length ra;rw[Ca] at hsz;refine PyProof.Rows.len_tuple ⟨_,hg,rfl,m,rfl⟩ (by refine AZ hsz ?_;exact zF hl) ?_;refine AZ hsz ?_;exact k _ _
theorem blt_chr {x z:D}{v:Value}{E:VS}{Q:VS}(h:D.chr x=some z)(rx:bK B s.heap W x v)(k:∀r s',ay B s s'->aw B s'.heap W z r->Q r s'):wpAny B.M A (call (.builtin "chr") [v]) Q E s:=by
 refine ak (ai h) fun i hi h1=>?_;refine aS (aJ h1) fun hc e91=>?_;subst e91;have:=int?_eq hi;subst this;refine x1 (rF rx) fun t e91=>?_;subst e91;exact chr_of_range hc.1 (by lia) (k _ _ (ay.toks _) (nY (l:=[i.toNat]) (show 1<=lim by decide)))
theorem blt_ord {x z:D}{v:Value}{E:VS}{Q:VS}(h:D.ord x=some z)(rx:bK B s.heap W x v)(k:∀r s',ay B s s'->aw B s'.heap W z r->Q r s'):wpAny B.M A (call (.builtin "ord") [v]) Q E s:=by
 refine ak (ai h) fun l hl h1=>?_;refine ak (aI h1) fun c h2 e91=>?_;subst e91;have:=str?_eq hl;subst this;refine ak (hV rx) fun t e91=>?_;subst e91;intro J;unfold oneOf at h2
 split at h2<;>cases h2
 exact P.ord_of_char (k _ _ (ay.toks _) iq)
theorem blt_ok {f:Nat}{x z:D}{u v:Value}{E:VS}{Q:VS}(hb:eE f=some u)(h:D.builtin f [x]=some z)(rx:bK B s.heap W x v)
  (k:∀r s',ay B s s'->aw B s'.heap W z r->Q r s'):wpAny B.M A (call u [v]) Q E s:=by
 refine ak (ai (show(bltF f).bind (fun g=>g x)=some z from h)) fun g hg hz=>?_;refine bf (P:=fun f g=>eE f=some u->g x=some z->wpAny B.M A (call u [v]) Q E s) ?_ f g hg hb hz;refine Bb.mpr ⟨fun hb hz=>?_,Bb.mpr ⟨fun hb hz=>?_,Bb.mpr ⟨fun hb hz=>?_,fun J hq=>nomatch hq⟩⟩⟩
 ·obtain rfl:=A0 hb
  refine ak (aI hz) fun n hn e91=>?_;subst e91;exact blt_len hn rx fun t tk=>k _ _ (ay.toks _) iq
 ·obtain rfl:=A0 hb;exact blt_chr O hz rx k
 ·obtain rfl:=A0 hb;exact blt_ord O hz rx k
end
end Mine
namespace Mine
variable {B:Bs}{K:Nat}
theorem aD.less {A:BO}{k k':Nat}(h:aD A k)(hk:k'<=k):aD A k':=⟨h.handled,BI (C2 hk _) h.depth,BI (Fe (C2 (Fk 3 hk) _) _) h.units⟩
theorem aD.in1 {A:BO}{k:Nat}(h:aD A (k+1)):aD A.in1 k:=⟨h.handled,by have:=h.depth;show A.depth+k < 950;lia,by have:=h.units;show A.units+1+3 * k+300 < cLine;lia⟩
section
variable (O:B.Ok)
include O
variable {Γ:aj}{ρ:ac}{Wc W:AP}{pe:Env}{A:BO}{s s₀:Be}{K:Nat}{Φ:bU}
end
end Mine
section
open PySem PySem.W PySem.Calls PyProof.Rows PySem.Builtin PySem.Builtin.Str
namespace Mine
variable {B:Bs}{K:Nat}
section
variable (O:B.Ok)
include O
variable {Γ:aj}{ρ:ac}{Wc W:AP}{pe:Env}{A:BO}{s s₀:Be}{K:Nat}{Φ:bU}
theorem useR {e:E}{r:Mine.R}(hS:bg B K Φ e)(h:ev Φ Γ ρ e=some r)(X:Ctx B Γ Wc W pe ρ s)(R:aD A K){E:VS}{Q:VS}
  (k:∀v s',ay B s s'->Ctx B Γ Wc W pe ρ s'->bS B K s W r v s'->Q v s'):wpAny B.M A (eval (e.py B.nm) pe) Q E s:=
 BH (hS Γ ρ r h Wc W pe A s X R) (fun v s' h'=>k v s' h'.1 (X.move O h'.1) h'.2) fun J J f=>f.elim
theorem tree1 {pe:Env}{p:Pos}(e:E):EW p (C6 (fq B.nm [e]) pe)=[(false,eval (e.py B.nm) pe)]:=by
 refine AZ (bH O _ _ _ _)<|AZ a0<|AZ (aC _ _ _ _) ?_;rfl
set_option tactic.hygienic true in
theorem xv {e:E}{fp p:Pos}(he:bg B K Φ e):bg B K Φ (.blt 5 [e] fp p):=by
 intro Γ ρ r h Wc W pe A s X R;rw[px] at h;refine aS (cq h) fun hk h'=>?_;clear h;refine ak (ai h') fun r1 h1 h=>?_;clear h';refine ak (ai h) fun d hd h'=>?_;clear h
 split at h'
 case h_2=>exact ah h'
 refine aS (aJ h') fun hn e91=>?_;subst e91;clear h';refine B6 (iB O X hk rfl ?_);refine AZ (tree1 O _) ?_;refine callWith_type1 (cX O he h1 hd X R fun v s1 e1 X1 q1=>?_);refine x1 (j6 q1) fun t e91=>?_;subst e91
 rename_i n
 have hl:n<=1048576:=hn.2;refine call_range_1 ⟨e1.trans (ay.push O _ _),.inl ⟨_,_,_,_,_,_,rfl,fun w=>Bd _ (X1.wlt _ w),BD _ rfl,⟨⟨by decide,by decide⟩,by show(-1048576:Int)<=n;lia,hn.2⟩,by show _<=1048576;lia,?_⟩⟩;refine AZ (Int.sub_zero _) ?_;exact Dk fun i J=>by exact AZ (Int.zero_add _) rfl
theorem snd_lst {e:E}{fp p:Pos}:bg B K Φ (.blt 4 [e] fp p):=by
 intro Γ ρ r h;rw[xq] at h;exact ah h
theorem y0 {f:Nat}{e:E}{fp p:Pos}(h4:f≠4)(h5:f≠5)(he:bg B K Φ e):bg B K Φ (.blt f [e] fp p):=by
 intro Γ ρ r h Wc W pe A s X R;rw[kF h4 h5] at h;refine aS (cq h) fun hk h'=>?_;clear h;refine ak (ai h') fun r1 h1 h=>?_;clear h';refine ak (ai h) fun x hx h'=>?_;clear h;refine ak (aI h') fun z hz e91=>?_;subst e91;clear h';refine ak (ai (show(bltF f).bind (fun g=>g x)=some z from hz)) fun g hg J=>?_;have hb:=bf (P:=fun f J=>∃u,eE f=some (.builtin u)) (Bb.mpr ⟨⟨_,rfl⟩,Bb.mpr ⟨⟨_,rfl⟩,Bb.mpr ⟨⟨_,rfl⟩,C1 _⟩⟩⟩) f g hg;refine x1 hb fun u hu=>?_;refine B6 (iB O X hk hu ?_);refine AZ (tree1 O _) ?_;refine callWith_builtin1 (jm O he h1 hx X R fun v s1 e1 X1 q1 t1=>?_);exact blt_ok O hu hz q1 fun r s2 e2 q2=>⟨e1.trans e2,q2⟩
theorem snd_blt {f:Nat}{es:List E}{fp p:Pos}(hes:∀e,es=[e]->bg B K Φ e):bg B K Φ (.blt f es fp p):=by
 by_cases h:∃e,es=[e]
 ·refine x1 h fun e e91=>?_
  subst e91
  by_cases h4:f=4
  ·subst h4;exact snd_lst O
  ·by_cases h5:f=5
   ·subst h5;exact xv O (hes e rfl)
   ·exact y0 O h4 h5 (hes e rfl)
 ·intro Γ ρ r hr
  rw[sF fun e q=>h ⟨e,q⟩] at hr;exact ah hr
theorem uE {a b:E}{x y:D}{r1 r2:Mine.R}(ha:bg B K Φ a)(hb:bg B K Φ b)(h1:ev Φ Γ ρ a=some r1)(hx:r1.asD=some x)(h2:ev Φ Γ ρ b=some r2)(hy:r2.asD=some y)(X:Ctx B Γ Wc W pe ρ s)(R:aD A K){E:VS}{Q:List Value->Be->Prop}
  (k:∀u v s',ay B s s'->Ctx B Γ Wc W pe ρ s'->aw B s'.heap W x u->aw B s'.heap W y v->Q [u,v] s'):wpAny B.M A (GJ [(false,eval (a.py B.nm) pe),(false,eval (b.py B.nm) pe)]) Q E s:=
 B5 (cX O ha h1 hx X R fun u s1 e1 X1 q1=>B5 (cX O hb h2 hy X1 R fun v s2 e2 X2 q2=>Cj (k u v s2 (e1.trans e2) X2 (aw.eff O X1.tW' q1 e2) q2)))
theorem yD {pe:Env}{p:Pos}(a b:E):EW p (C6 [a.py B.nm,b.py B.nm] pe)=[(false,eval (a.py B.nm) pe),(false,eval (b.py B.nm) pe)]:=by
 refine AZ (show[a.py B.nm,b.py B.nm]=fq B.nm [a,b] from rfl)<|AZ (bH O _ _ _ _)<|AZ a0<|AZ (aC _ _ _ _)<|AZ a0<|AZ (aC _ _ _ _) ?_;rfl
set_option tactic.hygienic true in
omit O in
theorem tu {x:D}{o:Option Int}{v:Value}{h:Heap}(e:D.part x=some o)(r:aw B h W x v):∃l:Option (Int×Tok),v=Gq l/\l.map (·.1)=o:=by
 cases x
 case nil=>obtain rfl:=A0 e;exact⟨none,r,rfl⟩
 case int i=>refine aS (aJ e) fun J e91=>?_;subst e91;refine x1 (j6 r) fun t e91=>?_;subst e91;exact⟨some (i,t),rfl,rfl⟩
 all_goals exact ah e
theorem w8 {f:Nat}{x y z:D}{u v w:Value}{E:VS}{Q:VS}(hh:A.handled=none)(hb:eE f=some w)(h:D.builtin2 f x y=some z)(rx:aw B s.heap W x u)(ry:aw B s.heap W y v)(wlt:∀b,W b->b < s.heap.objs.size)
  (k:∀r s',ay B s s'->aw B s'.heap W z r->Q r s'):wpAny B.M A (call w [u,v]) Q E s:=by
 refine ak (ai (show(bltG f).bind (fun g=>g x y)=some z from h)) fun g hg hz=>?_;refine bf (P:=fun f g=>eE f=some w->g x y=some z->wpAny B.M A (call w [u,v]) Q E s) ?_ f g hg hb hz;refine Bb.mpr ⟨fun hb hz=>?_,Bb.mpr ⟨fun hb hz=>?_,fun J hq=>bE hq⟩⟩
 ·obtain rfl:=A0 hb
  refine ak (ai hz) fun i hi hz=>?_;refine ak (aI hz) fun j hj e91=>?_;subst e91;have:=int?_eq hi;subst this;have:=int?_eq hj;subst this;refine x1 (j6 rx) fun t e91=>?_;subst e91;refine x1 (j6 ry) fun t' e91=>?_;subst e91;refine Mine.uz (min_two_ints hh fun h' tk hk hs=>?_);have e:=gc O (s:=s) (s':={ s with heap:=h',toks:=tk }) hk hs rfl rfl
  by_cases hc:j < i
  ·rw[if_pos hc] at k ⊢;exact k _ _ e iq
  ·rw[if_neg hc] at k ⊢;exact k _ _ e iq
 ·obtain rfl:=A0 hb
  refine ak (ai hz) fun i hi hz=>?_;refine ak (aI hz) fun j hj e91=>?_;subst e91;refine ak (tu hi rx) fun l1 e91=>?_;subst e91;intro e1;refine ak (tu hj ry) fun l2 e91=>?_;subst e91;intro e2;refine sa (k _ _ (ay.push O _ s.toks) ?_);exact⟨_,l1,l2,rfl,fun q=>Bd _ (wlt _ q),BD _ rfl,e1,e2⟩
theorem y3 {f:Nat}{a b:E}{fp p:Pos}(ha:bg B K Φ a)(hb:bg B K Φ b):bg B K Φ (.blt2 f a b fp p):=by
 intro Γ ρ r h Wc W pe A s X R;rw[kG] at h;refine aS (cq h) fun hk h'=>?_;clear h;refine ak (ai h') fun r1 h1 h=>?_;clear h';refine ak (ai h) fun x hx h'=>?_;clear h;refine ak (ai h') fun r2 h2 h=>?_;clear h';refine ak (ai h) fun y hy h'=>?_;clear h;show wpAny B.M A (eval (.Call (.Name (B.nm f) fp) [a.py B.nm,b.py B.nm] [] p) pe) _ _ s
 by_cases h5:f=5
 ·subst h5
  rw[if_pos rfl] at h';refine ak (aI h') fun l hl e91=>?_;subst e91;refine ak (ai hl) fun i hi hl=>?_;refine ak (ai hl) fun j hj hl=>?_;refine aS (aJ hl) fun hc e91=>?_;subst e91;have:=int?_eq hi;subst this;have:=int?_eq hj;subst this;refine B6 (iB O X hk rfl ?_);refine AZ (yD O _ _) ?_;refine Fo rfl (Dc (uE O ha hb h1 hx h2 hy X R fun u v s1 e1 X1 q1 q2=>?_));refine x1 (j6 q1) fun t e91=>?_;subst e91;refine x1 (j6 q2) fun t' e91=>?_;subst e91;exact call_range_2 ⟨e1.trans (ay.push O _ _),.inl ⟨_,_,_,_,_,_,rfl,fun w=>Bd _ (X1.wlt _ w),BD _ rfl,⟨⟨hc.1,hc.2.1⟩,hc.2.2.1,hc.2.2.2.1⟩,hc.2.2.2.2,rfl⟩⟩
 ·replace h':=(if_neg h5)▸h'
  refine ak (aI h') fun z hz e91=>?_;subst e91;refine ak (ai (show(bltG f).bind (fun g=>g x y)=some z from hz)) fun g hg J=>?_;have hb':=bf (P:=fun f J=>eE f=some (.builtin "min")\/eE f=some (.type "slice")) (Bb.mpr ⟨.inl rfl,Bb.mpr ⟨.inr rfl,C1 _⟩⟩) f g hg
  rcases hb' with hu|hu
  ·refine B6 (iB O X hk hu ?_)
   refine AZ (yD O _ _) ?_;exact Dm rfl (Dc (uE O ha hb h1 hx h2 hy X R fun u v s1 e1 X1 q1 q2=>w8 O R.handled hu hz q1 q2 X1.wlt fun r s2 e2 q=>⟨e1.trans e2,q⟩))
  ·refine B6 (iB O X hk hu ?_)
   refine AZ (yD O _ _) ?_;exact Fo rfl (Dc (uE O ha hb h1 hx h2 hy X R fun u v s1 e1 X1 q1 q2=>w8 O R.handled hu hz q1 q2 X1.wlt fun r s2 e2 q=>⟨e1.trans e2,q⟩))
theorem snd_bi {n:Nat}{p:Pos}:bg B K Φ (.bi n p):=by
 intro Γ ρ r h Wc W pe A s X R;rw[vP] at h;refine aS (aJ h) fun p91 e92=>?_;subst e92;obtain⟨hk,hn⟩:=p91;have:∃v,eE n=some v:=by rcases hn with rfl|rfl<;>exact⟨_,rfl⟩
 refine x1 this fun v hv=>?_;exact iB O X hk hv ⟨ay.refl _,hv⟩
omit O in
theorem zS {l:List D}{b:Bool}(h:zT l=some b):(∃s,l=[.str s,.bi 7]/\b=true)\/(l=[.nil,.bi 7]/\b=false):=by
 obtain⟨⟨x,y⟩,hq,h⟩:=ai h;obtain rfl:=wF hq;obtain⟨hy,h⟩:=cq h;obtain rfl:y=.bi 7:=by
  cases y with
  |bi n=>exact congrArg D.bi (beq_iff_eq.mp hy)
  |_=>exact ce hy
 cases x with
 |str s=>exact .inl ⟨s,rfl,(A0 h).symm⟩
 |nil=>exact .inr ⟨rfl,(A0 h).symm⟩
 |_=>exact ah h
omit O in
theorem cvT_inv {o:Option fu}{x:Option Bool}{b:Bool}(h:(match o with|some (.sealed (.bi 6))=>x|_=>none)=some b):o=some (.sealed (.bi 6))/\x=some b:=by
 cases o with
 |none=>exact ah h
 |some en=>cases en with
  |sealed d=>cases d with
   |bi n=>
    by_cases hn:n=6
    ·subst hn;exact⟨rfl,h⟩
    ·split at h
     ·rename_i e;cases e;exact absurd rfl hn
     ·exact ah h
   |_=>exact ah h
  |_=>exact ah h
theorem uM {f:Nat}{es:List E}{fp p:Pos}(hS:iM B K Φ es):eU B K Φ (.callv f es fp p):=by
 intro Γ ρ b h Wc W pe A s X R;replace h:=lD▸h;obtain⟨hf,h⟩:=cvT_inv h;refine ak (ai h) fun l hl h'=>?_;refine ak (X.vars _ _ hf) fun v lv rv=>?_;obtain rfl:v=.builtin "isinstance" := A0 (rv.symm.trans rfl)
 refine F7 (e:=.Call (.Name (B.nm f) fp) (fq B.nm es) [] p) (B6 (BX (Ctx.name O X lv ?_ (O.cld f)) (O.dbg f))) rfl;refine AZ (bH O _ _ _ _) ?_;refine Dm (HE.mpr fun x hx=>by refine AZ (jY _ _ _ x hx) ?_;decide) (gI (jY _ _ _) (uD O hS hl X R fun vs s1 e1 X1 q1=>?_));rcases zS h' with⟨s,rfl,rfl⟩|⟨rfl,rfl⟩
 ·obtain⟨v1,r1,rfl,a1,b1⟩:=q1
  obtain⟨v2,r2,rfl,a2,b2⟩:=b1;subst b2;refine ak (jo a1) fun t e91=>?_;subst e91;intro J;obtain rfl:v2=.type "str" := A0 (a2.symm.trans rfl)
  exact GE (isinstance_true (Tx := "str") (T := "str") (by rfl) (by refine AZ (DY _ _) ?_;rfl)) ⟨DF _ _ _,B1 ⟨e1,rfl⟩⟩
 ·obtain⟨v1,r1,rfl,a1,b1⟩:=q1
  obtain⟨v2,r2,rfl,a2,b2⟩:=b1;subst b2;obtain rfl:v1=.none:=a1;obtain rfl:v2=.type "str" := A0 (a2.symm.trans rfl)
  exact GE (isinstance_false_none (by decide) (by rfl) (by refine AZ (DY _ _) ?_;rfl)) (B1 ⟨e1.trans (ay.toks _),rfl⟩)
theorem sU:∀(xs:List Str) (tk:Nat),(∀x∈xs,x.length<=lim)->ab B s.heap W (xs.map fun z=>.str z.cps.toList) (strsFrom tk xs)
 |[],_,_=>ab.nil
 |x::r,tk,h=>ab.cons (by
   exact⟨⟨tk,by cases x;simp⟩,by simpa [Str.length] using h x Bj⟩) (sU r (tk+1) fun y hy=>h y (Bi _ hy))
theorem nM (x y:Str):∀z∈De x y,z.length<=x.length:=by
 unfold De
 split
 ·intro z hz;replace hz:=BK.mp hz;subst hz;exact Bq _
 ·split
  ·intro z hz;replace hz:=BK.mp hz;subst hz;exact Bq _
  ·intro z hz
   unfold partsBetween at hz;replace hz:=BC.mp hz;refine ak hz fun p91 J e92=>?_;subst e92;obtain⟨i,j⟩:=p91;show(x.cps.extract i j).size<=x.cps.size;refine AZ Array.size_extract ?_;exact Bf (C0 _ _) (D0 _ _)
theorem yT {x y:List Nat}{t:Tok}{a:Sem Value}{pos:Pos}{E:VS}{Q:VS}(hx:x.length<=lim)(hy:y.length=1)
  (h:wpAny B.M A a (fun v s₁=>∃u,v=.str ⟨y.toArray⟩ u/\∀obj tk,obj={ cls:=.type "list", data:=.seq (strsFrom tk (De ⟨x.toArray⟩ ⟨y.toArray⟩)).toArray }\/(∃t',De ⟨x.toArray⟩ ⟨y.toArray⟩=[⟨x.toArray⟩]/\obj={ cls:=.type "list", data:=.seq #[.str ⟨x.toArray⟩ t'] })->
   ∀k,Q (.ref s₁.heap.objs.size) { s₁ with heap:=s₁.heap.push obj,toks:=k }) E s):MethodOnS B.prog B.w A E "split" (.str ⟨x.toArray⟩ t) pos [(false,a)] Q s:=by
 have hlx:(⟨x.toArray⟩:Str).length=x.length:=by simp[Str.length]
 have hly:(⟨y.toArray⟩:Str).length=1:=by simp[Str.length,hy]
 refine⟨"str", _,EH,Gu,PySem.F.type_str_split,DF _ _ _,(fun J e=>nomatch e),
  method1_meets Gu PySem.F.entry_str_split (BH h (fun v s₁ h₁=>?_) fun J J e=>e)⟩
 refine ak h₁ fun u e91=>?_;subst e91;intro hq;refine⟨DF _ _ _,PySem.F.args_str_split_2 _ _,?_⟩;have hy0:((⟨y.toArray⟩:Str).length==0)=false:=by refine AZ hly ?_;rfl
 have hsz:(⟨x.toArray⟩:Str).length<=sizeLine:=by refine AZ hlx ?_;exact aE hx
 cases h1:(decide ((⟨x.toArray⟩:Str).length < (⟨y.toArray⟩:Str).length)||decide (strKind ⟨x.toArray⟩ < strKind ⟨y.toArray⟩))
 ·cases hf:(occurrences ⟨x.toArray⟩ ⟨y.toArray⟩ 0 (⟨x.toArray⟩:Str).length ((⟨x.toArray⟩:Str).length+1)).isEmpty
  ·have he:De ⟨x.toArray⟩ ⟨y.toArray⟩=partsBetween ⟨x.toArray⟩ (occurrences ⟨x.toArray⟩ ⟨y.toArray⟩ 0 (⟨x.toArray⟩:Str).length ((⟨x.toArray⟩:Str).length+1)) (⟨y.toArray⟩:Str).length:=by
    unfold De;exact AZ (if_neg (by refine AZ h1 ?_;simp))<|AZ (if_neg (by refine AZ hf ?_;simp)) rfl
   have hn:(partsBetween ⟨x.toArray⟩ (occurrences ⟨x.toArray⟩ ⟨y.toArray⟩ 0 (⟨x.toArray⟩:Str).length ((⟨x.toArray⟩:Str).length+1)) (⟨y.toArray⟩:Str).length).length<=sizeLine:=by
    refine AZ (BE he) ?_;have:=split_le ⟨x.toArray⟩ ⟨y.toArray⟩;rw[hlx] at this;have:sizeLine=16777216:=by decide
    unfold lim at hx;lia
   refine⟨_,meets_str_split_sep _ _ t u h1 hy0 hf hsz hn,?_⟩;refine AZ (BE he) ?_;exact hq _ s₁.toks (.inl rfl) _
  ·have he:De ⟨x.toArray⟩ ⟨y.toArray⟩=[⟨x.toArray⟩]:=by
    unfold De;exact AZ (if_neg (by refine AZ h1 ?_;simp))<|AZ (if_pos hf) rfl
   exact⟨_,meets_str_split_not_found _ _ t u h1 hy0 hf,hq _ 0 (.inr ⟨t,he,rfl⟩) s₁.toks⟩
 ·have he:De ⟨x.toArray⟩ ⟨y.toArray⟩=[⟨x.toArray⟩]:=by
   unfold De;exact AZ (if_pos h1) rfl
  exact⟨_,meets_str_split_cannot_occur _ _ t u h1,hq _ 0 (.inr ⟨t,he,rfl⟩) s₁.toks⟩
omit O in
theorem vg:∀{a:E},a.isBase=true->∃(P:E->Prop),P a/\∀b,P b->∀(nm:Nat->Str)(n:Str)(env:Env)(w:Sem Value),FN (b.py nm) n env w=w:=fun{a} h=>by
 cases a<;>first|exact ce h|exact⟨fun b=>b=_,rfl,fun b e nm n env w=>by refine AZ e ?_;rfl⟩
omit O in
theorem rg (nm:Nat->Str){a:E}(h:a.isBase=true)(n:Str)(env:Env)(w:Sem Value):FN (a.py nm) n env w=w:=
 let ⟨_,h1,h2⟩:=vg h;h2 a h1 nm n env w
omit O in
theorem met_inv {m:Nat}{x y z:D}(h:D.method x m [y]=some z):(m=10/\∃a b,x=.str a/\y=.str b/\z=.int (Fc ⟨a.toArray⟩ ⟨b.toArray⟩))\/
  (m=11/\∃a b,x=.str a/\y=.str b/\(b.length=1/\a.length < 1000)/\z=.list ((De ⟨a.toArray⟩ ⟨b.toArray⟩).map fun z=>.str z.cps.toList))\/
  m=15/\∃a b,x=.str a/\y=.str b/\z=.bool (FJ ⟨a.toArray⟩ ⟨b.toArray⟩):=by
 refine ak (ai (show(metF m).bind (fun g=>g x y)=some z from h)) fun g hg hz=>?_;have key:=bf (P:=fun m g=>(m=10/\g=D.mfind)\/(m=11/\g=D.msplit)\/m=15/\g=D.mends) (Bb.mpr ⟨.inl ⟨rfl,rfl⟩,Bb.mpr ⟨.inr (.inl ⟨rfl,rfl⟩),Bb.mpr ⟨.inr (.inr ⟨rfl,rfl⟩),C1 _⟩⟩⟩) m g hg;refine key.imp (fun⟨hm,e⟩=>⟨hm,?_⟩) fun key=>key.imp (fun⟨hm,e⟩=>⟨hm,?_⟩) fun⟨hm,e⟩=>⟨hm,?_⟩
 ·subst e
  refine ak (ai hz) fun a ha h1=>?_;refine ak (aI h1) fun b hb h2=>?_;exact⟨a,b,str?_eq ha,str?_eq hb,h2.symm⟩
 ·subst e
  refine ak (ai hz) fun a ha h1=>?_;refine ak (ai h1) fun b hb h2=>?_;refine aS (aJ h2) fun hc h3=>?_;exact⟨a,b,str?_eq ha,str?_eq hb,hc,h3.symm⟩
 ·subst e
  refine ak (ai hz) fun a ha h1=>?_;refine ak (aI h1) fun b hb h2=>?_;exact⟨a,b,str?_eq ha,str?_eq hb,h2.symm⟩
set_option tactic.hygienic true in
theorem yV {a:E}{m:Nat}{es:List E}{ap p:Pos}(ha:bg B K Φ a)(hes:∀e,es=[e]->bg B K Φ e):bg B K Φ (.meth a m es ap p):=by
 intro Γ ρ r h Wc W pe A s X R;rw[xm] at h;refine aS (cq h) fun hc h'=>?_;clear h;replace hc:=Dh.mp hc
 split at h'
 ·rename_i e
  simp only[Bh,Bg,Bt] at h';refine cU h' fun r1 h1 x hx r2 h2 y hy z hz e91=>?_;subst e91;rcases met_inv hz with⟨rfl,x',y',rfl,rfl,rfl⟩|⟨rfl,x',y',rfl,rfl,hy1,rfl⟩|⟨rfl,x',y',rfl,rfl,rfl⟩
  ·refine Gg (rg _ hc.1 _ _ _) (by refine AZ (aC _ _ _ _) ?_;rfl) hc.2 (cX O ha h1 hx X R fun u s1 e1 X1 q1=>?_)
   refine ak (jo q1) fun t e91=>?_;subst e91;intro hl;refine AZ (O.mnm 10 _ rfl) ?_;refine SB.find (cX O (hes e rfl) h2 hy X1 R fun v s2 e2 X2 q2=>?_);refine ak (jo q2) fun t' e91=>?_;subst e91;intro J;exact⟨_,_,rfl,(e1.trans e2).trans (ay.toks _),iq (B:=B) (h:=s2.heap) (W:=W)⟩
  ·refine Gg (rg _ hc.1 _ _ _) (by refine AZ (aC _ _ _ _) ?_;rfl) hc.2 (cX O ha h1 hx X R fun u s1 e1 X1 q1=>?_)
   refine ak (jo q1) fun t e91=>?_;subst e91;intro hl;refine AZ (O.mnm 11 _ rfl) ?_;refine yT O hl hy1.1 (cX O (hes e rfl) h2 hy X1 R fun v s2 e2 X2 q2=>?_);refine ak (jo q2) fun t' e91=>?_;subst e91;intro J;refine⟨t',rfl,fun obj tk ho k=>?_⟩;have hle:∀z∈De ⟨x'.toArray⟩ ⟨y'.toArray⟩,z.length<=lim:=fun z hz=>by
    have:=nM O ⟨x'.toArray⟩ ⟨y'.toArray⟩ z hz;have e:(⟨x'.toArray⟩:Str).length=x'.length:=by simp[Str.length]
    lia
   have hn:((De ⟨x'.toArray⟩ ⟨y'.toArray⟩).map fun z=>D.str z.cps.toList).length<=lim:=by
    refine AZ (Bx _) ?_;have:=split_le ⟨x'.toArray⟩ ⟨y'.toArray⟩;have e:(⟨x'.toArray⟩:Str).length=x'.length:=by simp[Str.length]
    have h2:=hy1.2;unfold lim;lia
   rcases ho with rfl|⟨t'',he,rfl⟩
   ·refine⟨(e1.trans e2).trans (ay.push O _ _),?_⟩
    exact dg O X2.wlt (by simpa using sU O (s:=s2) _ tk hle) hn
   ·refine⟨(e1.trans e2).trans (ay.push O _ _),?_⟩
    rw[he] at hn ⊢;exact dg O X2.wlt (ab.cons ⟨⟨t'',by simp⟩,hl⟩ ab.nil) hn
  ·refine Gg (rg _ hc.1 _ _ _) (by refine AZ (aC _ _ _ _) ?_;rfl) hc.2 (cX O ha h1 hx X R fun u s1 e1 X1 q1=>?_)
   refine ak (jo q1) fun t e91=>?_;subst e91;intro hl;refine AZ (O.mnm 15 _ rfl) ?_;refine SB.endswith (cX O (hes e rfl) h2 hy X1 R fun v s2 e2 X2 q2=>?_);refine ak (jo q2) fun t' e91=>?_;subst e91;intro J;exact⟨_,_,rfl,e1.trans e2,rfl⟩
 ·exact ah h'
end
end Mine
end
namespace Mine
variable {B:Bs}
structure Lm where
 id:Nat
 f:Nat
 ps:List (Nat×Pos)
 body:E
 sc:List (Nat×NameKind)
mutual
noncomputable def E.lms:E->List Lm
 |.bin a _ b _=>a.lms++b.lms
 |.cmp a _ b _=>a.lms++b.lms
 |.cmp2 a _ b _ c _=>a.lms++(b.lms++c.lms)
 |.bop _ es _=>oq es
 |.not a _=>a.lms
 |.ife t a b _=>t.lms++(a.lms++b.lms)
 |.idx a i _=>a.lms++i.lms
 |.slc a lo hi _ _=>a.lms++(lmsO lo++lmsO hi)
 |.usub a _=>a.lms
 |.list es _=>oq es
 |.tup es _ _=>oq es
 |.attr a _ _=>a.lms
 |.comp elt gs _ _=>elt.lms++lmsG gs
 |.call _ es _ _=>oq es
 |.callv _ es _ _=>oq es
 |.calle f es _=>f.lms++oq es
 |.blt _ es _ _=>oq es
 |.blt2 _ a b _ _=>a.lms++b.lms
 |.meth a _ es _ _=>a.lms++oq es
 |.lam id f ps body sc _=>[⟨id,f,ps,body,sc⟩]
 |_=>[]
noncomputable def oq:List E->List Lm
 |[]=>[]
 |e::r=>e.lms++oq r
noncomputable def lmsO:Option E->List Lm
 |none=>[]
 |some e=>e.lms
noncomputable def lmsG:List Gn->List Lm
 |[]=>[]
 |.mk _ it ifs::r=>it.lms++(oq ifs++lmsG r)
end
noncomputable def fZ (B:Bs)(l:List Lm):Prop:=∀x∈l,xf B x.id x.f x.ps x.body x.sc
noncomputable abbrev E.ok (B:Bs)(e:E):Prop:=fZ B e.lms
noncomputable abbrev okL (B:Bs)(es:List E):Prop:=fZ B (oq es)
noncomputable abbrev okO (B:Bs)(o:Option E):Prop:=fZ B (lmsO o)
noncomputable abbrev okG (B:Bs)(gs:List Gn):Prop:=fZ B (lmsG gs)
theorem cS {a b:List Lm}(h:fZ B (a++b)):fZ B a:=fun x hx=>h x (D3 _ hx)
theorem bR {a b:List Lm}(h:fZ B (a++b)):fZ B b:=fun x hx=>h x (DO _ hx)
theorem xT:fZ B []:=fun x hx=>bE hx
theorem okG_tl {g:Gn}{r:List Gn}(h:okG B (g::r)):okG B r:=by cases g;exact bR (bR h)
section
variable (O:B.Ok){K:Nat}{Φ:bU}
include O
theorem eP:∀es:List E,(∀e∈es,bg B K Φ e/\eU B K Φ e)->iM B K Φ es
 |[],_=>za O
 |e::r,h=>xE O (h e Bj).1 (eP r fun x hx=>h x (Bi _ hx))
theorem v8 (op:EJ):∀es:List E,(∀e∈es,bg B K Φ e/\eU B K Φ e)->AT B K Φ op es
 |[],_=>zc O
 |e::r,h=>xG O (h e Bj).2 (v8 op r fun x hx=>h x (Bi _ hx))
theorem jO:∀es:List E,(∀e∈es,bg B K Φ e/\eU B K Φ e)->lr B K Φ es
 |[],_=>zb O
 |e::r,h=>xF O (h e Bj).2 (jO r fun x hx=>h x (Bi _ hx))
theorem qe {e:E}(h:∀Γ ρ,cT Φ Γ ρ e=none):eU B K Φ e:=by
 intro Γ ρ b hb;rw[h] at hb;exact ah hb
theorem noE' {e:E}(h:∀Γ ρ,ev Φ Γ ρ e=none):bg B K Φ e:=by
 intro Γ ρ b hb;rw[h] at hb;exact ah hb
noncomputable def GnS (B:Bs) (K:Nat)(Φ:bU):Gn->Prop
 |.mk _ it ifs=>it.ok B->okL B ifs->bg B K Φ it/\∀e∈ifs,bg B K Φ e/\eU B K Φ e
noncomputable def GsS (B:Bs) (K:Nat)(Φ:bU)(gs:List Gn):Prop:=∀t it ifs,Gn.mk t it ifs∈gs->bg B K Φ it/\∀e∈ifs,bg B K Φ e/\eU B K Φ e
theorem gsS_of {gs:List Gn}(h:GsS B K Φ gs):jg B K Φ gs:=fun t it ifs hm=>⟨(h t it ifs hm).1,jO O ifs (h t it ifs hm).2⟩
theorem Ad {elt:E}{sc:LK}{p:Pos}:bg B K Φ (.comp elt [] sc p):=noE' O fun Γ J=>by refine AZ f8 ?_;split<;>rfl
theorem comp_of (hK:24<=K){elt:E}{sc:LK}{p:Pos}(h1:bg B K Φ elt):∀gs:List Gn,GsS B K Φ gs->bg B K Φ (.comp elt gs sc p)
 |[],_=>Ad O
 |.mk t it ifs::r,h=>yX O (Bf (by decide) hK) h1 (h t it ifs Bj).1 (jO O ifs (h t it ifs Bj).2) (gsS_of O fun t' it' ifs' hm=>h t' it' ifs' (Bi _ hm))
theorem snd (hK:24<=K)(P:bD B K Φ):∀e:E,e.ok B->bg B K Φ e/\eU B K Φ e:=
 E.rec (motive_1:=fun e=>e.ok B->bg B K Φ e/\eU B K Φ e) (motive_2:=GnS B K Φ) (motive_3:=fun es=>okL B es->∀e∈es,bg B K Φ e/\eU B K Φ e)
  (motive_4:=fun o=>okO B o->∀e,o=some e->bg B K Φ e) (motive_5:=fun gs=>okG B gs->GsS B K Φ gs)
  (fun J J J=>⟨snd_int O,qe O fun J J=>rfl⟩)
  (fun J J J=>⟨snd_str O,qe O fun J J=>rfl⟩)
  (fun J J=>⟨snd_nil O,qe O fun J J=>rfl⟩)
  (fun J J J=>⟨yZ O,qe O fun J J=>rfl⟩)
  (fun J J J=>⟨nP O,xB O⟩)
  (fun J J J J ia ib h=>⟨snd_bin O (ia (cS h)).1 (ib (bR h)).1,qe O fun J J=>rfl⟩)
  (fun J J J J ia ib h=>⟨snd_cmp O (ia (cS h)).1 (ib (bR h)).1,y6 O (ia (cS h)).1 (ib (bR h)).1⟩)
  (fun J J J J J J ia ib ic h=>⟨yY O (ia (cS h)).1 (ib (cS (bR h))).1 (ic (bR (bR h))).1,xC O (ia (cS h)).1 (ib (cS (bR h))).1 (ic (bR (bR h))).1⟩)
  (fun op es J ies h=>⟨v7 O (fun e he=>(ies h e he).1),y7 O (v8 O op es (ies h))⟩)
  (fun J J ia h=>⟨noE' O fun J J=>rfl,y5 O (ia h).2⟩)
  (fun J J J J=>⟨snd_neg O,qe O fun J J=>rfl⟩)
  (fun J J J J it ia ib h=>⟨snd_ife O (it (cS h)).2 (ia (cS (bR h))).1 (ib (bR (bR h))).1,qe O fun J J=>rfl⟩)
  (fun J J J ia ib h=>⟨snd_idx O (ia (cS h)).1 (ib (bR h)).1,qe O fun J J=>rfl⟩)
  (fun J J J J J ia il ih h=>⟨snd_slc O (ia (cS h)).1 (il (cS (bR h))) (ih (bR (bR h))),qe O fun J J=>rfl⟩)
  (fun es J ies h=>⟨yW O (eP O es (ies h)),qe O fun J J=>rfl⟩)
  (fun es J J ies h=>⟨snd_tup O (eP O es (ies h)),qe O fun J J=>rfl⟩)
  (fun J J J ia h=>⟨y4 O (ia h).1,qe O fun J J=>rfl⟩)
  (fun J gs J J ie ig h=>⟨comp_of O hK (ie (cS h)).1 gs (ig (bR h)),qe O fun J J=>rfl⟩)
  (fun J J ia h=>⟨yU O (ia h).1,qe O fun J J=>rfl⟩)
  (fun J J J=>⟨snd_bi O,qe O fun J J=>rfl⟩)
  (fun J es J J ies h=>⟨sZ O P (eP O es (ies h)),xD O P (eP O es (ies h))⟩)
  (fun J es J J ies h=>⟨xw O P (eP O es (ies h)),uM O (eP O es (ies h))⟩)
  (fun J es J ia ies h=>⟨xA O P (ia (cS h)).1 (eP O es (ies (bR h))),qe O fun J J=>rfl⟩)
  (fun J es J J ies h=>⟨snd_blt O (fun e he=>by subst he;exact(ies h e Bj).1),qe O fun J J=>rfl⟩)
  (fun J J J J J ia ib h=>⟨y3 O (ia (cS h)).1 (ib (bR h)).1,qe O fun J J=>rfl⟩)
  (fun J J es J J ia ies h=>⟨yV O (ia (cS h)).1 (fun e he=>by subst he;exact(ies (bR h) e Bj).1),qe O fun J J=>rfl⟩)
  (fun J J J J J J J h=>⟨v6 O (h _ Bj),qe O fun J J=>rfl⟩)
  (fun J J ifs ii il h1 h2=>⟨(ii h1).1,il h2⟩)
  (fun J e he=>bE he)
  (fun J J ia ir h e he=>(Bw.mp he).elim (fun q=>q▸ia (cS h)) fun q=>ir (bR h) e q)
  (fun J J q=>ah q)
  (fun J ia h e q=>A0 q▸(ia h).1)
  (fun J J J J hm=>bE hm)
  (fun g J ig ir h t it ifs hm=>(Bw.mp hm).elim (fun q=>by subst q;exact ig (cS h) (cS (bR h))) fun q=>ir (okG_tl h) t it ifs q)
theorem y9 (hK:24<=K)(P:bD B K Φ):∀es:List E,okL B es->∀e∈es,bg B K Φ e/\eU B K Φ e
 |[],_,e,he=>bE he
 |a::r,h,e,he=>(Bw.mp he).elim (fun q=>q▸snd O hK P a (cS h)) fun q=>y9 hK P r (bR h) e q
theorem sndG (hK:24<=K)(P:bD B K Φ):∀gs:List Gn,okG B gs->jg B K Φ gs
 |[],_,t,it,ifs,hm=>bE hm
 |.mk t' it' ifs'::r,h,t,it,ifs,hm=>(Bw.mp hm).elim (fun q=>by cases q;exact⟨(snd O hK P it' (cS h)).1,jO O ifs' (y9 O hK P ifs' (cS (bR h)))⟩) fun q=>sndG hK P r (bR (bR h)) t it ifs q
end
end Mine
namespace Mine
inductive g7 where
 |nx (ρ:ac)
 |rt (d:D)
noncomputable def aj.mine (Γ:aj)(ρ:ac) (x:Nat):Bool:=(Γ x==some .local||Γ x==some .cell)&&(match ρ x with|some (.sealed _)=>false|_=>true)
noncomputable def o7:Nat->E->Bool
 |_,.name ..=>true
 |_,.call ..=>true
 |_,.callv ..=>true
 |_,.calle ..=>true
 |_,.comp ..=>true
 |_,.list ..=>true
 |_,.blt ..=>true
 |_,.blt2 ..=>true
 |_,.meth ..=>true
 |_,.bi ..=>true
 |n+1,.bin a _ b _=>o7 n a||o7 n b
 |n+1,.idx a i _=>o7 n a||o7 n i
 |_,_=>false
noncomputable abbrev E.notConst (e:E):Bool:=o7 8 e
noncomputable def E.isConst:E->Bool
 |.int ..=>true
 |.str ..=>true
 |.nil ..=>true
 |.bool ..=>true
 |_=>false
noncomputable def E.isNew:E->Bool
 |.list ..=>true
 |.comp ..=>true
 |_=>false
noncomputable def E.isRows:E->Bool
 |.comp (.list [] _) [.mk (.name _ _) _ []] _ _=>true
 |_=>false
noncomputable def qD (m:Nat)(e:E)(d:D):Option fu:=if m=0 then some (.fz d) else match d with
 |.list l=>if m=1/\e.isNew then some (.own l) else if m=2/\e.isRows then some (.own2 (l.map fun _=>[])) else none
 |_=>none
noncomputable def Ag (Φ:bU)(Γ:aj)(ρ:ac):List Nat->List E->Option (List fu)
 |[],[]=>some []
 |m::ms,e::es=>do
  let d <-(<-ev Φ Γ ρ e).asD
  let en <-qD m e d
  let r <-Ag Φ Γ ρ ms es
  some (en::r)
 |_,_=>none
noncomputable def qV (xs:List (Nat×Pos))(ds:List D)(ρ:ac):ac:=(xs.zip ds).foldl (fun ρ q=>ρ.set q.1.1 (.fz q.2)) ρ
noncomputable def qH (Γ:aj):Tg->D->ac->Option ac
 |.name x _,d,ρ=>if Γ.mine ρ x then some (ρ.set x (.fz d)) else none
 |.tup xs _ _,.tup ds,ρ=>if xs.length=ds.length/\xs.all fun q=>Γ.mine ρ q.1 then some (qV xs ds ρ) else none
 |_,_,_=>none
noncomputable def dF (Γ:aj)(t:Tg)(body:ac->Option g7):ac->List D->Option g7
 |ρ,[]=>some (.nx ρ)
 |ρ,d::r=>do
  let ρ1 <-qH Γ t d ρ
  match <-body ρ1 with
  |.nx ρ2=>dF Γ t body ρ2 r
  |.rt d=>some (.rt d)
noncomputable def lc (c:ac->Option Bool)(body:ac->Option g7):Nat->ac->Option g7
 |0,_=>none
 |n+1,ρ=>do
  let t <-c ρ
  if t then(do
   match <-body ρ with
   |.nx ρ2=>lc c body n ρ2
   |.rt d=>some (.rt d))
  else some (.nx ρ)
noncomputable def yh (z y:D):Option D:=match z with
 |.int _=>D.add z y
 |.str _=>D.add z y
 |_=>none
noncomputable def qK (l:List D)(j y:D):Option (List D):=j.int?.bind fun j=>if 0<=j/\j < l.length then(l[j.toNat]?).bind fun z=>(yh z y).map fun w=>l.set j.toNat w else none
noncomputable def uh (ll:List (List D))(j y:D):Option (List (List D)):=j.int?.bind fun j=>if 0<=j/\j < ll.length then(ll[j.toNat]?).bind fun l=>if l.length < lim then some (ll.set j.toNat (l++[y])) else none else none
noncomputable def nJ (t a b:List Nat):List Nat:=(G8 ⟨t.toArray⟩ ⟨a.toArray⟩ ⟨b.toArray⟩).cps.toList
section
variable (Φ:bU) (N:Nat)(Γ:aj)
mutual
noncomputable def bJ (ρ:ac):St->Option g7
 |.asg x e _ _=>do
  let d <-(<-ev Φ Γ ρ e).asD
  if Γ.mine ρ x then some (.nx (ρ.set x (.fz d))) else none
 |.own x e _ _=>match e with
  |.list es _=>do
   let l <-g8 Φ Γ ρ es
   if Γ.mine ρ x/\l.length<=lim then some (.nx (ρ.set x (.own l))) else none
  |_=>none
 |.asgT xs ms _ e _ _=>match e with
  |.tup es _ _=>do
   let l <-Ag Φ Γ ρ ms es
   if xs.length=l.length/\(es.any E.notConst||es.all E.isConst)/\(xs.map (·.1)).Nodup/\xs.all (fun q=>Γ.mine ρ q.1)/\l.length<=lim then some (.nx (fJ (xs.zip l) ρ)) else none
  |_=>none
 |.asgU xs _ e _ _=>if e.isName||e.isCall then do
   match(<-ev Φ Γ ρ e).asD with
   |some (.tup ds)=>if xs.length=ds.length/\xs.all (fun q=>Γ.mine ρ q.1) then some (.nx (qV xs ds ρ)) else none
   |_=>none
  else none
 |.augN x op e _ _=>match ρ x,op with
  |some (.fz d),.Add=>do
   let y <-(<-ev Φ Γ ρ e).asD
   match d with
   |.int _=>do
    let z <-D.bin .Add d y
    if Γ.mine ρ x then some (.nx (ρ.set x (.fz z))) else none
   |.str _=>do
    let z <-D.bin .Add d y
    if Γ.mine ρ x then some (.nx (ρ.set x (.fz z))) else none
   |_=>none
  |_,_=>none
 |.augI x i op e _ _ _=>match ρ x,op with
  |some (.own l),.Add=>do
   let j <-(<-ev Φ Γ ρ i).asD
   let y <-(<-ev Φ Γ ρ e).asD
   (qK l j y).map fun l'=>.nx (ρ.set x (.own l'))
  |_,_=>none
 |.app x e _ ap cp _=>match ρ x with
  |some (.own l)=>if ap.endLine==cp.line then do
    let y <-(<-ev Φ Γ ρ e).asD
    if l.length < lim then some (.nx (ρ.set x (.own (l++[y])))) else none
   else none
  |_=>none
 |.app2 x i e _ _ ap cp _=>match ρ x with
  |some (.own2 ll)=>if ap.endLine==cp.line then do
    let j <-(<-ev Φ Γ ρ i).asD
    let y <-(<-ev Φ Γ ρ e).asD
    (uh ll j y).map fun l'=>.nx (ρ.set x (.own2 l'))
   else none
  |_=>none
 |.raw _=>none
 |.defS x id f _ _ sc _ _=>if jS Γ sc/\f≠0/\Γ.f=f/\Γ.mine ρ x then do
   let caps <-(av sc).mapM fun x=>match ρ x with|some (.sealed d)=>some d|_=>none
   some (.nx (ρ.set x (.fz (.lam id caps))))
  else none
 |.forS t it body _=>do
  let items <-(<-ev Φ Γ ρ it).asI
  dF Γ t (fun ρ=>aL ρ body) ρ items
 |.whl c body _=>lc (fun ρ=>cT Φ Γ ρ c) (fun ρ=>aL ρ body) N ρ
 |.ifS c a b _=>do
  let t <-cT Φ Γ ρ c
  if t then aL ρ a else aL ρ b
 |.ret e _=>do
  let d <-(<-ev Φ Γ ρ e).asD
  some (.rt d)
 |.tryS body hs _=>if hs.isEmpty then none else aL ρ body
 |.frz x=>match ρ x with
  |some (.own l)=>some (.nx (ρ.set x (.fz (.list l))))
  |some (.own2 l)=>if l.all (fun r=>decide (r.length<=lim)) then some (.nx (ρ.set x (.fz (.list (l.map .list))))) else none
  |_=>none
 |.sub x a b _ _ _ _ _ q6 _ _ q9 _ _=>match ρ x with
  |some (.fz (.str t))=>if Γ.mine ρ x/\a≠b/\t.length+(t.length+1) * b.length<=16777216/\(nJ t a b).length<=lim/\q6.endLine=q9.line then
    some (.nx (if Ej ⟨t.toArray⟩ ⟨a.toArray⟩ then ρ.set x (.fz (.str (nJ t a b))) else ρ))
   else none
  |_=>none
 |.seal x=>match ρ x with
  |some (.fz d)=>if Γ x=some .cell then some (.nx (ρ.set x (.sealed d))) else none
  |_=>none
noncomputable def aL (ρ:ac):List St->Option g7
 |[]=>some (.nx ρ)
 |s::r=>do
  match <-bJ ρ s with
  |.nx ρ'=>aL ρ' r
  |.rt d=>some (.rt d)
end
end
section
variable {Φ:bU}{N:Nat}{Γ:aj}{ρ:ac}
theorem ni  : aL Φ N Γ ρ []=(some (.nx ρ)):=rfl
theorem fH {s r}:aL Φ N Γ ρ (s::r)=(do
  match <-bJ Φ N Γ ρ s with
  |.nx ρ'=>aL Φ N Γ ρ' r
  |.rt d=>some (.rt d)):=rfl
theorem hU {t body}:dF Γ t body ρ []=some (.nx ρ):=rfl
theorem dU {t body d r}:dF Γ t body ρ (d::r)=(do
  let ρ1 <-qH Γ t d ρ
  match <-body ρ1 with
  |.nx ρ2=>dF Γ t body ρ2 r
  |.rt d=>some (.rt d)):=rfl
theorem m8 {x e u1 u2}:bJ Φ N Γ ρ (.asg x e u1 u2)=(do
  let d <-(<-ev Φ Γ ρ e).asD
  if Γ.mine ρ x then some (.nx (ρ.set x (.fz d))) else none):=rfl
theorem m6 {x e u1 u2}:bJ Φ N Γ ρ (.own x e u1 u2)=(match e with
  |.list es _=>do
   let l <-g8 Φ Γ ρ es
   if Γ.mine ρ x/\l.length<=lim then some (.nx (ρ.set x (.own l))) else none
  |_=>none):=rfl
theorem lK {xs ms u1 e u2 u3}:bJ Φ N Γ ρ (.asgT xs ms u1 e u2 u3)=(match e with
  |.tup es _ _=>do
   let l <-Ag Φ Γ ρ ms es
   if xs.length=l.length/\(es.any E.notConst||es.all E.isConst)/\(xs.map (·.1)).Nodup/\xs.all (fun q=>Γ.mine ρ q.1)/\l.length<=lim then some (.nx (fJ (xs.zip l) ρ)) else none
  |_=>none):=rfl
theorem lJ {xs u1 e u2 u3}:bJ Φ N Γ ρ (.asgU xs u1 e u2 u3)=(if e.isName||e.isCall then do
   match(<-ev Φ Γ ρ e).asD with
   |some (.tup ds)=>if xs.length=ds.length/\xs.all (fun q=>Γ.mine ρ q.1) then some (.nx (qV xs ds ρ)) else none
   |_=>none
  else none):=rfl
theorem lM {x i e u1 u2 ap cp u3}:bJ Φ N Γ ρ (.app2 x i e u1 u2 ap cp u3)=(match ρ x with
  |some (.own2 ll)=>if ap.endLine==cp.line then do
    let j <-(<-ev Φ Γ ρ i).asD
    let y <-(<-ev Φ Γ ρ e).asD
    (uh ll j y).map fun l'=>.nx (ρ.set x (.own2 l'))
   else none
  |_=>none):=rfl
theorem lH {x op e u1 u2}:bJ Φ N Γ ρ (.augN x op e u1 u2)=(match ρ x,op with
  |some (.fz d),.Add=>do
   let y <-(<-ev Φ Γ ρ e).asD
   match d with
   |.int _=>do
    let z <-D.bin .Add d y
    if Γ.mine ρ x then some (.nx (ρ.set x (.fz z))) else none
   |.str _=>do
    let z <-D.bin .Add d y
    if Γ.mine ρ x then some (.nx (ρ.set x (.fz z))) else none
   |_=>none
  |_,_=>none):=rfl
theorem lI {x i op e u1 u2 u3}:bJ Φ N Γ ρ (.augI x i op e u1 u2 u3)=(match ρ x,op with
  |some (.own l),.Add=>do
   let j <-(<-ev Φ Γ ρ i).asD
   let y <-(<-ev Φ Γ ρ e).asD
   (qK l j y).map fun l'=>.nx (ρ.set x (.own l'))
  |_,_=>none):=rfl
theorem nh {x e u1 ap cp u2}:bJ Φ N Γ ρ (.app x e u1 ap cp u2)=(match ρ x with
  |some (.own l)=>if ap.endLine==cp.line then do
    let y <-(<-ev Φ Γ ρ e).asD
    if l.length < lim then some (.nx (ρ.set x (.own (l++[y])))) else none
   else none
  |_=>none):=rfl
theorem lG {x id f u1 u2 sc u3 u4}:bJ Φ N Γ ρ (.defS x id f u1 u2 sc u3 u4)=(if jS Γ sc/\f≠0/\Γ.f=f/\Γ.mine ρ x then do
   let caps <-(av sc).mapM fun x=>match ρ x with|some (.sealed d)=>some d|_=>none
   some (.nx (ρ.set x (.fz (.lam id caps))))
  else none):=rfl
theorem lF {t it body u1}:bJ Φ N Γ ρ (.forS t it body u1)=(do
  let items <-(<-ev Φ Γ ρ it).asI
  dF Γ t (fun ρ=>aL Φ N Γ ρ body) ρ items):=rfl
theorem mY {c body u1}:bJ Φ N Γ ρ (.whl c body u1)=(lc (fun ρ=>cT Φ Γ ρ c) (fun ρ=>aL Φ N Γ ρ body) N ρ):=rfl
theorem m7 {c a b u1}:bJ Φ N Γ ρ (.ifS c a b u1)=(do
  let t <-cT Φ Γ ρ c
  if t then aL Φ N Γ ρ a else aL Φ N Γ ρ b):=rfl
theorem jj {e u1}:bJ Φ N Γ ρ (.ret e u1)=(do
  let d <-(<-ev Φ Γ ρ e).asD
  some (.rt d)):=rfl
theorem lE {body hs u1}:bJ Φ N Γ ρ (.tryS body hs u1)=(if hs.isEmpty then none else aL Φ N Γ ρ body):=rfl
theorem jk {x}:bJ Φ N Γ ρ (.frz x)=(match ρ x with
  |some (.own l)=>some (.nx (ρ.set x (.fz (.list l))))
  |some (.own2 l)=>if l.all (fun r=>decide (r.length<=lim)) then some (.nx (ρ.set x (.fz (.list (l.map .list))))) else none
  |_=>none):=rfl
theorem mZ {x a b u1 u2 u3 u4 u5 q6 u6 u7 q9 u8 u9}:bJ Φ N Γ ρ (.sub x a b u1 u2 u3 u4 u5 q6 u6 u7 q9 u8 u9)=(match ρ x with
  |some (.fz (.str t))=>if Γ.mine ρ x/\a≠b/\t.length+(t.length+1) * b.length<=16777216/\(nJ t a b).length<=lim/\q6.endLine=q9.line then
    some (.nx (if Ej ⟨t.toArray⟩ ⟨a.toArray⟩ then ρ.set x (.fz (.str (nJ t a b))) else ρ))
   else none
  |_=>none):=rfl
theorem hJ {x}:bJ Φ N Γ ρ (.seal x)=(match ρ x with
  |some (.fz d)=>if Γ x=some .cell then some (.nx (ρ.set x (.sealed d))) else none
  |_=>none):=rfl
end
end Mine
namespace Mine
variable {B:Bs}
structure SG (Wc W:AP)(s:Be)(Wc' W':AP):Prop where
 c:∀b,Wc b->Wc' b
 new:∀b,W' b->W b\/s.heap.objs.size<=b
 own:∀b,W' b->¬Wc' b->(W b/\¬Wc b)\/s.heap.objs.size<=b
noncomputable def SK (B:Bs)(Γ:aj)(pe:Env)(Wc W:AP)(s:Be)(out:g7)(next:Be->Prop)(ret:VS):Prop:=match out with
 |.nx ρ'=>∀s' Wc' W',SG Wc W s Wc' W'->Ctx B Γ Wc' W' pe ρ' s'->ao B (fB W Wc) s s'->next s'
 |.rt d=>∀v s',ao B (fB W Wc) s s'->aw B s'.heap Wc d v->ret v s'
noncomputable def cQ (B:Bs) (K:Nat)(Φ:bU) (N:Nat)(st:St):Prop:=∀Γ ρ out,bJ Φ N Γ ρ st=some out->∀Wc W pe A s (Q:Flow->Be->Prop)(E:VS)(rest:List Stmt),Ctx B Γ Wc W pe ρ s->aD A K->
 SK B Γ pe Wc W s out (fun s'=>wpAny B.M A (execs rest pe) Q E s') (fun v s'=>Q (.ret v) s')->wpAny B.M A (execs (St.py B.nm st++rest) pe) Q E s
noncomputable def gZ (B:Bs) (K:Nat)(Φ:bU) (N:Nat)(ss:List St):Prop:=∀Γ ρ out,aL Φ N Γ ρ ss=some out->∀Wc W pe A s (Q:Flow->Be->Prop)(E:VS),Ctx B Γ Wc W pe ρ s->aD A K->
 SK B Γ pe Wc W s out (fun s'=>Q .next s') (fun v s'=>Q (.ret v) s')->wpAny B.M A (execs (fm B.nm ss) pe) Q E s
section
variable (O:B.Ok)
include O
variable {Γ:aj}{ρ:ac}{Wc W:AP}{pe:Env}{A:BO}{s s₀:Be}{K N:Nat}{Φ:bU}
theorem SG.refl (Wc W:AP)(s:Be):SG Wc W s Wc W:=⟨fun _ q=>q,fun _ q=>.inl q,fun _ a b=>.inl ⟨a,b⟩⟩
theorem SG.trans {s':Be}{Wc1 W1 Wc2 W2:AP}(a:SG Wc W s Wc1 W1)(hs:s.heap.objs.size<=s'.heap.objs.size)(b:SG Wc1 W1 s' Wc2 W2):SG Wc W s Wc2 W2:=
 ⟨fun x q=>b.c x (a.c x q),fun x q=>(b.new x q).elim (a.new x) fun z=>.inr (Bf hs z),fun x q n=>(b.own x q n).elim (fun z=>a.own x z.1 z.2) fun z=>.inr (Bf hs z)⟩
theorem SG.eff {s' s'':Be}{Wc1 W1:AP}(a:SG Wc W s Wc1 W1)(e:ao B (fB W Wc) s s')(e':ao B (fB W1 Wc1) s' s''):ao B (fB W Wc) s s'':=
 e.trans e' (fun b q=>a.own b q.1 q.2) (fun i q=>q.elim)
theorem SK.step {s':Be}{Wc1 W1:AP}{out:g7}{next:Be->Prop}{ret:VS}(a:SG Wc W s Wc1 W1)(e:ao B (fB W Wc) s s')(X:Ctx B Γ Wc1 W1 pe ρ s')(k:SK B Γ pe Wc W s out next ret):SK B Γ pe Wc1 W1 s' out next ret:=by
 cases out with
 |nx ρ'=>exact fun s2 Wc2 W2 g X2 e2=>k s2 Wc2 W2 (SG.trans O a e.size g) X2 (SG.eff O a e e2)
 |rt d=>exact fun v s2 e2 r=>k v s2 (SG.eff O a e e2) (aw.less O r a.c)
theorem cj {x:Nat}(h:Γ.mine ρ x=true):(Γ x=some .local\/Γ x=some .cell)/\¬am ρ x:=by
 simp only[aj.mine,Bz,BZ,beq_iff_eq] at h;refine⟨h.1,fun⟨d,e⟩=>?_⟩;rw[e] at h;exact absurd h.2 (by simp)
theorem fw {x:Nat}(X:Ctx B Γ Wc W pe ρ s)(hs:¬am ρ x):∀b,(zP B pe x).a b->W b/\¬Wc b:=fun b q=>by
 rcases q with rfl|q
 ·exact X.locW
 ·exact(X.cellW x b q).resolve_left hs
theorem yS:gZ B K Φ N []:=by
 intro Γ ρ out h Wc W pe A s Q E X R k;simp only[ni,Bl] at h;subst h;exact Cw (k s Wc W (SG.refl O _ _ _) X (ao.refl _ _))
theorem v3 {st:St}{ss:List St}(h1:cQ B K Φ N st)(h2:gZ B K Φ N ss):gZ B K Φ N (st::ss):=by
 intro Γ ρ out h Wc W pe A s Q E X R k;simp only[fH,Bh,Bg] at h;obtain⟨o1,ho1,h⟩:=h;refine h1 Γ ρ o1 ho1 Wc W pe A s Q E (fm B.nm ss) X R ?_
 cases o1 with
 |nx ρ'=>
  intro s1 Wc1 W1 g1 X1 e1;exact h2 Γ ρ' out h Wc1 W1 pe A s1 Q E X1 R (SK.step O g1 e1 X1 k)
 |rt d=>
  replace h:=A0 h;subst h;exact k
theorem xK (nm:Nat->Str)(e:E)(hc:∀a b c d,e≠.comp a b c d)(t:Option Expr) (l:Nat)(env:Env):swapsWith (e.py nm) t l env=pure false:=by
 cases e<;>first|rfl|exact absurd rfl (hc _ _ _ _)
theorem qI {x:Nat}{e:E}{d:D}{r:Mine.R}{xp p:Pos}{Q:Flow->Be->Prop}{Ex:VS}{rest:List Stmt}(he:bg B K Φ e)(h1:ev Φ Γ ρ e=some r)(hd:r.asD=some d)(hm:Γ.mine ρ x=true)(X:Ctx B Γ Wc W pe ρ s)(R:aD A K)
  (hs:swapsWith (e.py B.nm) (some (.Name (B.nm x) xp)) p.line pe=pure false) (k:SK B Γ pe Wc W s (.nx (ρ.set x (.fz d))) (fun s'=>wpAny B.M A (execs rest pe) Q Ex s') (fun v s'=>Q (.ret v) s')):
  wpAny B.M A (execs (.Assign [.Name (B.nm x) xp] (e.py B.nm) p::rest) pe) Q Ex s:=by
 refine aS (cj O hm) fun hk hns=>?_;refine Br (CC (cX O he h1 hd X R fun v s1 e1 X1 q1=>Ctx.store O X1 hk hns q1 fun s2 X2 e2=>?_) hs);exact k s2 Wc W (SG.refl O _ _ _) X2 ((e1.toP _).trans e2 (fun b q=>.inl (fw O X1 hns b q)) fun i q=>q.elim)
theorem st_asg {x:Nat}{e:E}{xp p:Pos}(hK:20<=K)(he:bg B K Φ e)(hcomp:∀elt t it ifs r sc cp,e=.comp elt (.mk t it ifs::r) sc cp->bg B K Φ elt/\bg B K Φ it/\lr B K Φ ifs/\jg B K Φ r):cQ B K Φ N (.asg x e xp p):=by
 intro Γ ρ out h Wc W pe A s Q Ex rest X R k;have R20:aD A (K - 4):=R.less (C0 _ _);simp only[m8,Bh,Bg] at h;obtain⟨r,h1,d,hd,h⟩:=h
 split at h
 case isFalse=>exact ah h
 rename_i hm
 obtain rfl:=A0 h;show wpAny B.M A (execs (.Assign [.Name (B.nm x) xp] (e.py B.nm) p::rest) pe) Q Ex s
 by_cases hc:∃a b c d,e=.comp a b c d
 ·obtain⟨elt,gs,sc,cp,rfl⟩:=hc
  have hsw:∃b,swapsWith ((E.comp elt gs sc cp).py B.nm) (some (.Name (B.nm x) xp)) p.line pe=pure b:=⟨_,rfl⟩;obtain⟨b,hb⟩:=hsw
  cases b with
  |false=>exact qI O he h1 hd hm X R hb k
  |true=>
   refine aS (cj O hm) fun hk hns=>?_;rw[f8] at h1
   split at h1
   case isFalse=>exact ah h1
   rename_i hsc
   cases gs with
   |nil=>exact ah h1
   |cons g rr=>
    obtain⟨t,itE,ifs⟩:=g;refine x03 (hcomp _ _ _ _ _ _ _ rfl) fun k1 k2 k3 k4=>?_;simp only[Bh,Bg,Bt,xS] at h1;refine pK h1 fun r1 h2 items hi l hl d' hd' e91=>?_;subst e91
    split at hd'
    case isFalse=>exact ah hd'
    rename_i hlim
    obtain rfl:=A0 hd';obtain rfl:=A0 hd;refine Br ?_;rw[kC] at hb ⊢;refine AZ (exec_Assign_Name_used _ _ _ _ hb) ?_;refine Bc (B8 (Bc ?_));show wpAny B.M A (do let _ <-comprehension (.ListComp (elt.py B.nm) (sq B.nm (.mk t itE ifs::rr)) (cy B.nm sc) cp) (cy B.nm sc) pe (firstIterPos (sq B.nm (.mk t itE ifs::rr)) cp) (newList []) false (eval (itE.py B.nm) pe) (some (DG (.Name (B.nm x) xp) pe))) _ _ s;refine Bc (BH (lh O (fr:=false) (use:=some (DG (.Name (B.nm x) xp) pe)) (Ex:=Ex) (Q:=fun _ s'=>wpAny B.M A (execs rest pe) Q Ex s') (fun z=>ce z) R R20 k1 k2 k3 k4 (im O hsc) X h2 hi hl hlim fun s' a C e X' ra ha hC hns' hlt hne _=>?_) (fun _ s' hq=>Bk (Bk hq)) fun _ _ e=>e);show wpAny B.M A (DG (.Name (B.nm x) xp) pe (.ref a)) _ _ s';have XC:=Ctx.grow O X (e.toP ⟨fun _=>False,fun _=>False⟩) (fun b q=>q.elim) (fun b q=>q.elim) (N:=fun b=>b=C) (fun b q=>by subst q;exact⟨hC,hlt⟩);refine Dj (Ctx.store O XC hk hns ra fun s2 X2 e2=>?_);refine ak hns' fun m hm' hz'=>?_;have zn:¬(zP B pe x).a C:=fun q=>(fw O XC hns C q).2 (.inr rfl);have nTC:¬B.T C:=fun t=>Bd _ (Ba (X.wlt _ (X.tW' _ t)) hC);have hm2:s2.heap.Ns C m:=CN.moved hm' fun o z=>e2.keep C o nTC zn z;refine⟨m,hm2,fun h' hs'=>?_⟩;have ec:ao B ⟨fun b=>b=C,fun _=>False⟩ s2 { s2 with heap:=h' }:=cM O (s:=s2) (h':=h') (t:=s2.toks) nTC (lV hm2 hz') hs';have X3:Ctx B Γ _ _ pe _ { s2 with heap:=h' }:=Ctx.moveP O X2 ec (fun b q=>.inr q) (fun b q=>q▸X.good.hi hC);refine k _ (cw Wc fun b=>b=C) (cw W fun b=>b=C) ⟨fun b q=>.inl q,fun b q=>q.imp_right fun(q:b=C)=>q▸hC,fun b q n=>.inl ⟨q.elim id fun z=>absurd (.inr z) n,fun w=>n (.inl w)⟩⟩ X3 ?_;refine((e.toP _).trans e2 (fun b q=>.inl ?_) fun i q=>q.elim).trans ec (fun b (q:b=C)=>.inr (q▸hC)) fun i q=>q.elim;exact fw O X hns b q
 ·exact qI O he h1 hd hm X R (xK O _ _ (fun a b c d q=>hc ⟨a,b,c,d,q⟩) _ _ _) k
theorem j0 {x:Nat}{p:Pos}{t:List Nat}(h:ρ x=some (.fz (.str t)))(X:Ctx B Γ Wc W pe ρ s){E:VS}{Q:VS}
  (k:∀tk,t.length<=lim->Q (.str ⟨t.toArray⟩ tk) s):wpAny B.M A (eval (.Name (B.nm x) p) pe) Q E s:=by
 refine BX ?_ (O.dbg x);refine ak (X.vars x _ h) fun v l rv=>?_;refine Ctx.name O X l ?_ (O.cld x);simp only[aX,aw] at rv;refine aS rv fun p91 hl=>?_;obtain⟨tk,rfl⟩:=p91;exact k tk hl
theorem uQ {a b t:List Nat}{tk:Tok}{q7 q8 q9:Pos}(hs:0 < s.toks)(hab:a≠b)(hb:t.length+(t.length+1) * b.length<=16777216){E:VS}{Q:VS}
  (k:∀t' n,Q (.str (G8 ⟨t.toArray⟩ ⟨a.toArray⟩ ⟨b.toArray⟩) t') { s with toks:=n }):
  MethodOnS B.prog B.w A E (Str.ofString "replace") (.str ⟨t.toArray⟩ tk) q9 [(false,eval (.Constant (.str ⟨a.toArray⟩) 0 q7) pe),(false,eval (.Constant (.str ⟨b.toArray⟩) 0 q8) pe)] Q s:=by
 refine⟨"str", _,EH,PySem.F.slot_str_replace,PySem.F.type_str_replace,DF _ _ _,(fun _ e=>nomatch e),?_⟩
 refine Dm rfl (Dc (B5 (Gf (B5 (Gf (Cj ?_))))));refine BH (SC.replace (x:=⟨t.toArray⟩) (y:=⟨a.toArray⟩) (z:=⟨b.toArray⟩) (t:=tk) (u:=s.toks) (v:=s.toks+1) (Q:=Q) (E:=E) (by show @Ne Nat _ _;lia) (by show @Ne Nat _ _;lia) (by show @Ne Nat _ _;lia) ?_ ?_ ?_) (fun _ _ h=>h) fun _ _ h=>h
 ·simp only[beq_eq_false_iff_ne,ne_eq]
  intro e
  injection e with e
  exact hab (by simpa using congrArg GH e)
 ·simpa [Str.length] using hb
 ·intro t' n
  exact k t' n
theorem sub_ok {x:Nat}{a b t:List Nat}{q1 q2 q3 q4 q5 q6 q7 q8 q9 q10 q11:Pos}{Q:Flow->Be->Prop}{Ex:VS}{rest:List Stmt}(h:ρ x=some (.fz (.str t)))(hm:Γ.mine ρ x=true)(hab:a≠b)(hb:t.length+(t.length+1) * b.length<=16777216)
  (hl:(nJ t a b).length<=lim) (hline:(q6.endLine==q9.line)=true) (X:Ctx B Γ Wc W pe ρ s) (R:aD A K)
  (k:SK B Γ pe Wc W s (.nx (if Ej ⟨t.toArray⟩ ⟨a.toArray⟩ then ρ.set x (.fz (.str (nJ t a b))) else ρ)) (fun s'=>wpAny B.M A (execs rest pe) Q Ex s') (fun v s'=>Q (.ret v) s')):
  wpAny B.M A (execs (St.py B.nm (.sub x a b q1 q2 q3 q4 q5 q6 q7 q8 q9 q10 q11)++rest) pe) Q Ex s:=by
 refine aS (cj O hm) fun hk hns=>?_;refine Br (GN (Dt (Gf ?_) rfl));have X1:Ctx B Γ Wc W pe ρ { s with toks:=s.toks+1 }:=X.move O (ay.toks _);refine j0 O h X1 fun tk hlt=>?_;refine SB.contains (B1 ?_)
 cases hc:Ej ⟨t.toArray⟩ ⟨a.toArray⟩ with
 |false=>
  rw[hc] at k;simp only[BP,if_false] at k ⊢;exact Cw (k _ Wc W (SG.refl O _ _ _) X1 ((ay.toks _).toP _))
 |true=>
  rw[hc] at k;simp only[if_true] at k ⊢;refine Br (CC (Call_method2 rfl rfl hline (j0 O h X1 fun tk' _=>uQ O (by show 0 < s.toks+1;lia) hab hb fun t' n=>?_)) rfl);have X2:Ctx B Γ Wc W pe ρ { s with toks:=n }:=X.move O (ay.toks _);refine Ctx.store O X2 hk hns (d:=.str (nJ t a b)) ?_ fun s3 X3 e3=>Cw ?_
  ·simp only[aw]
   exact⟨⟨t',by simp[nJ]⟩,hl⟩
  ·exact k s3 Wc W (SG.refl O _ _ _) X3 (((ay.toks _).toP _).trans e3 (fun b q=>.inl (fw O X2 hns b q)) fun i q=>q.elim)
set_option tactic.hygienic true in
theorem st_sub {x:Nat}{a b:List Nat}{q1 q2 q3 q4 q5 q6 q7 q8 q9 q10 q11:Pos}:cQ B K Φ N (.sub x a b q1 q2 q3 q4 q5 q6 q7 q8 q9 q10 q11):=by
 intro Γ ρ out h Wc W pe A s Q Ex rest X R k;simp only[mZ] at h
 split at h
 ·rename_i t ht
  split at h
  ·rename_i hc
   obtain rfl:=A0 h;exact sub_ok O ht hc.1 hc.2.1 hc.2.2.1 hc.2.2.2.1 (by simpa using hc.2.2.2.2) X R k
  ·exact ah h
 ·exact ah h
end
end Mine
namespace Mine
variable {B:Bs}{K:Nat}
section
variable (O:B.Ok)
include O
variable {Γ:aj}{ρ:ac}{Wc W:AP}{pe:Env}{A:BO}{s s₀:Be}{K N:Nat}{Φ:bU}
theorem st_ret {e:E}{p:Pos}(he:bg B K Φ e):cQ B K Φ N (.ret e p):=by
 intro Γ ρ out h Wc W pe A s Q Ex rest X R k;simp only[jj,Bh,Bg,Bl] at h;obtain⟨r,h1,d,hd,rfl⟩:=h;exact Br (Dw (cX O he h1 hd X R fun v s1 e1 X1 q1=>k v s1 (e1.toP _) (aw.less O q1 X.cW)))
theorem st_if {c:E}{a b:List St}{p:Pos}(hc:eU B K Φ c)(ha:gZ B K Φ N a)(hb:gZ B K Φ N b):cQ B K Φ N (.ifS c a b p):=by
 intro Γ ρ out h Wc W pe A s Q Ex rest X R k;simp only[m7,Bh,Bg] at h;obtain⟨t,h1,h⟩:=h;refine Br (GN (sM O hc h1 X R fun s1 e1 X1=>?_));have k1:=SK.step O (SG.refl O Wc W s) (e1.toP _) X1 k
 cases t with
 |true=>
  simp only[if_true] at h ⊢;exact ha _ _ _ h _ _ _ _ _ _ _ X1 R (by cases out<;>exact k1)
 |false=>
  simp only[BP,if_false] at h ⊢;exact hb _ _ _ h _ _ _ _ _ _ _ X1 R (by cases out<;>exact k1)
theorem st_try {body:List St}{hs:List ExceptHandler}{p:Pos}(ha:gZ B K Φ N body):cQ B K Φ N (.tryS body hs p):=by
 intro Γ ρ out h Wc W pe A s Q Ex rest X R k;simp only[lE] at h
 split at h
 ·exact ah h
 rename_i hne
 cases hs with
 |nil=>exact absurd rfl hne
 |cons h0 hr=>
  refine Br (wpAny_Try_except ?_);refine ha _ _ _ h _ _ _ _ _ _ _ X R ?_
  cases out with
  |nx ρ'=>exact fun s' Wc' W' g X' e=>Cw (k s' Wc' W' g X' e)
  |rt d=>exact k
noncomputable def FK (B:Bs)(Γ:aj)(pe:Env)(Wc W:AP)(p:Pv)(s:Be)(out:g7)(R:Dv->Be->Prop):Prop:=match out with
 |.nx ρ'=>∀s' Wc' W',SG Wc W s Wc' W'->Ctx B Γ Wc' W' pe ρ' s'->ao B ⟨fun b=>(W b/\¬Wc b)\/p.a b,p.g⟩ s s'->R (.ok .next) s'
 |.rt d=>∀v s',ao B ⟨fun b=>(W b/\¬Wc b)\/p.a b,p.g⟩ s s'->aw B s'.heap Wc d v->R (.ok (.ret v)) s'
theorem AH {t:Tg}{d:D}{v:Value}{ρ':ac}{E:VS}{Q:Unit->Be->Prop}(hh:A.handled=none)(hb:qH Γ t d ρ=some ρ')(X:Ctx B Γ Wc W pe ρ s)(r:aw B s.heap W d v)
  (k:∀s',Ctx B Γ Wc W pe ρ' s'->ao B (fB W Wc) s s'->Q () s'):wpAny B.M A (DG (t.py B.nm) pe v) Q E s:=by
 cases t with
 |name x p=>
  simp only[qH] at hb;refine ifk hb fun hm e95=>?_;subst e95;obtain⟨hk,hns⟩:=cj O hm;exact Dj (Ctx.store O X hk hns r fun s1 X1 e1=>k s1 X1 (e1.mono (fw O X hns) fun i q=>q))
 |tup xs kk p=>
  cases d with
  |tup ds=>
   refine ifk hb fun hm e95=>?_;subst e95;have hall:=Bp.mp hm.2;exact jn O (Z:=fun b=>W b/\¬Wc b) hh hm.1 X (fun q hq=>cj O (hall q hq)) (fun b q=>q.1) (fun q hq b z=>fw O X (cj O (hall q hq)).2 b z) r fun s1 X1 e1=>k s1 X1 e1
  |_=>exact ah hb
theorem for_ok {t:Tg}{body:List St}(hbody:gZ B K Φ N body)(RK:aD A K)(R20:aD A (K - 4)){it:Addr}{F:AP}{I:List D->Pv->Be->Prop}(ok:bL B K F it I):
  ∀(items:List D) (ρ:ac) (out:g7) (R:Dv->Be->Prop) (s:Be) (Wc W:AP) (p:Pv),dF Γ t (fun ρ=>aL Φ N Γ ρ body) ρ items=some out->Ctx B Γ Wc W pe ρ s->I items p s->(∀b,F b->¬W b/\b < s.heap.objs.size)->
   (∀b,p.a b->Wc b/\B.Hi b)->FK B Γ pe Wc W p s out R->C3 B.M A (.forLoop (t.py B.nm) (.ref it) (fm B.nm body) [] pe) R s:=by
 intro items
 induction items with
 |nil=>
  intro ρ out R s Wc W p hev X hI hF hp k;simp only[hU,Bl] at hev;subst hev;refine Dq ?_;show wpAny _ A ((ES (t.py B.nm) (.ref it) (fm B.nm body) [] pe).onRaise (fun x=>do Ee x pe;Di x)) _ _ s;refine EP ?_;simp only[ES];refine Bc (B8 (Bc (EV (ok.done _ _ _ _ _ hI X.good R20 fun s1 e1=>?_))));refine Bk ⟨rfl,codeAny_block (Cw ?_)⟩;exact k s1 Wc W (SG.refl O _ _ _) (Ctx.moveP O X e1 (fun b q=>(hp b q).1) fun b q=>(hp b q).2) (e1.mono (fun b q=>.inr q) fun i q=>q)
 |cons d rest ih=>
  intro ρ out R s Wc W p hev X hI hF hp k;simp only[dU,Bh,Bg] at hev;obtain⟨ρ1,hb,o1,ho1,hrest⟩:=hev;refine Dq ?_;show wpAny _ A ((ES (t.py B.nm) (.ref it) (fm B.nm body) [] pe).onRaise (fun x=>do Ee x pe;Di x)) _ _ s;refine EP ?_;simp only[ES];refine Bc (B8 (Bc (EV (ok.next _ _ _ _ _ _ _ hI X.good R20 fun v s1 p1 e1 hsub hnew hg rv hI1=>?_))));have hN:∀b,(p1.a b/\s.heap.objs.size<=b)->s.heap.objs.size<=b/\b < s1.heap.objs.size:=fun b q=>⟨q.2,(ok.sub _ _ _ hI1 b q.1).2.2⟩;have X1:=Ctx.grow O X e1 (fun b q=>(hp b q).1) (fun b q=>(hp b q).2) hN;have g1:db Wc W s (cw Wc fun b=>p1.a b/\s.heap.objs.size<=b) (cw W fun b=>p1.a b/\s.heap.objs.size<=b):=db.or O X.wlt fun b q=>q.2;have hp1:∀b,p1.a b->(cw Wc fun b=>p1.a b/\s.heap.objs.size<=b) b/\B.Hi b:=fun b q=>by
   rcases hnew b q with z|z
   ·exact⟨.inl (hp b z).1,(hp b z).2⟩
   ·exact⟨.inr ⟨q,z⟩,X.good.hi z⟩
  have hF1:∀b,F b->¬(cw W fun b=>p1.a b/\s.heap.objs.size<=b) b:=fun b q z=>z.elim (hF b q).1 fun z=>Bd _ (Ba (hF b q).2 z.2);have rv1:aw B s1.heap (cw W fun b=>p1.a b/\s.heap.objs.size<=b) d v:=aw.less O rv fun b q z=>hF1 b z q;generalize hWc1:(cw Wc fun b=>p1.a b/\s.heap.objs.size<=b)=Wc1 at *;generalize hW1:(cw W fun b=>p1.a b/\s.heap.objs.size<=b)=W1 at *;have let_ok:∀{E:VS}{Q:Unit->Be->Prop},Q () s1->wpAny B.M A (CM (t.py B.nm) (.ref it) v) Q E s1:=fun hQ=>by
   cases t with
   |name y q=>exact iA hQ
   |tup xs kk q=>
    refine ak (ok.ty _ _ _ hI1) fun T hT hok=>?_;exact zG hT hok hQ
  refine Bc (let_ok (Bc (AH O R20.handled hb X1 rv1 fun s2 X2 e2=>?_)));have own1:∀b,W1 b/\¬Wc1 b->W b/\¬Wc b:=fun b q=>(g1.own b).mp q;have e02:ao B ⟨fun b=>(W b/\¬Wc b)\/p.a b,p.g⟩ s s2:=(e1.mono (p':=⟨fun b=>(W b/\¬Wc b)\/p.a b,p.g⟩) (fun b q=>.inr q) fun i q=>q).trans e2 (fun b q=>.inl (.inl (own1 b q))) fun i q=>q.elim;refine Bc (hbody _ _ _ ho1 _ _ _ _ _ _ _ X2 RK ?_)
  cases o1 with
  |rt d'=>
   simp only[Bl] at hrest;subst hrest;intro v' s3 e3 r3;exact Bk (k v' s3 (e02.trans e3 (fun b q=>.inl (.inl (own1 b q))) fun i q=>q.elim) (aw.less O r3 g1.c))
  |nx ρ2=>
   intro s3 Wc3 W3 g3 X3 e3;have e13:ao B (fB W1 Wc1) s1 s3:=e2.trans e3 (fun b q=>.inl q) fun i q=>q.elim;have I3:I rest p1 s3:=by
    refine ok.stay _ _ _ _ hI1 (fun b o nt q z=>e13.keep b o nt (fun w=>?_) z) e13.ck e13.size (fun i y q z=>e13.gens i y (fun w=>w.elim) z) X3.good;rcases q with q|q
    ·exact hF1 b q w.1
    ·exact w.2 (hp1 b q).1
   have F3:∀b,F b->¬W3 b/\b < s3.heap.objs.size:=fun b q=>⟨fun z=>(g3.new b z).elim (hF1 b q) fun z=>Bd _ (Ba (hF b q).2 (Bf e02.size z)),Ba (hF b q).2 (Bf e02.size e3.size)⟩;have e03:=e02.trans e3 (fun b q=>.inl (.inl (own1 b q))) fun i q=>q.elim;have sg03:SG Wc W s Wc3 W3:=⟨fun b q=>g3.c b (g1.c b q),fun b q=>(g3.new b q).elim (g1.new b) fun z=>.inr (Bf e02.size z),fun b q n=>(g3.own b q n).elim (fun z=>.inl (own1 b z)) fun z=>.inr (Bf e02.size z)⟩;refine Bk ⟨rfl,ih ρ2 out R s3 Wc3 W3 p1 hrest X3 I3 F3 (fun b q=>⟨g3.c b (hp1 b q).1,(hp1 b q).2⟩) ?_⟩
   have back:∀{s4:Be},ao B ⟨fun b=>(W3 b/\¬Wc3 b)\/p1.a b,p1.g⟩ s3 s4->ao B ⟨fun b=>(W b/\¬Wc b)\/p.a b,p.g⟩ s s4:=fun e4=>e03.trans e4 (fun b q=>by
    rcases q with q|q
    ·exact(sg03.own b q.1 q.2).imp .inl id
    ·exact(hnew b q).imp .inr id) fun i q=>.inl (by refine AZ (BE hg) ?_;exact q)
   cases out with
   |nx ρ'=>exact fun s4 Wc4 W4 g4 X4 e4=>k s4 Wc4 W4 (SG.trans O sg03 e03.size g4) X4 (back e4)
   |rt d'=>exact fun v' s4 e4 r4=>k v' s4 (back e4) (aw.less O r4 sg03.c)
theorem st_for {t:Tg}{itE:E}{body:List St}{p:Pos}(hK:20<=K)(hit:bg B K Φ itE)(hbody:gZ B K Φ N body):cQ B K Φ N (.forS t itE body p):=by
 intro Γ ρ out h Wc W pe A s Q Ex rest X R k;have R20:aD A (K - 4):=R.less (C0 _ _);simp only[lF,Bh,Bg] at h;refine i2 h fun r h1 items hi h=>?_;refine Br (wpAny_For (useR O hit h1 X R fun v s1 e1 X1 q1=>rC O hi X1.tW' X1.wlt X1.good R20 e1 q1 fun it F pv I s2 at2 hlen2 e2=>?_) (fun x=>q0 O _ _ _ _));refine x04 at2 fun ok hI hF hp hg=>?_;have e02:=e1.trans e2;have hsub:=ok.sub _ _ _ hI;have X2:=Ctx.grow O X (e02.toP ⟨fun J=>False,fun J=>False⟩) (fun b q=>q.elim) (fun b q=>q.elim) (N:=pv.a) (fun b q=>⟨hp b q,(hsub b q).2.2⟩);have g2:db Wc W s (cw Wc pv.a) (cw W pv.a):=db.or O X.wlt hp;have sg:SG Wc W s (cw Wc pv.a) (cw W pv.a):=⟨g2.c,g2.new,fun b q n=>.inl ((g2.own b).mp ⟨q,n⟩)⟩;refine for_ok O hbody R R20 ok items ρ out _ s2 _ _ pv h X2 hI (fun b q=>⟨fun z=>z.elim (hF b q).1 fun z=>(hsub b z).1 q,(hF b q).2⟩) (fun b q=>⟨.inr q,X.good.hi (hp b q)⟩) ?_
 have back:∀{s4:Be},ao B ⟨fun b=>((cw W pv.a) b/\¬(cw Wc pv.a) b)\/pv.a b,pv.g⟩ s2 s4->ao B (fB W Wc) s s4:=fun e4=>(e02.toP _).trans e4 (fun b q=>by
  rcases q with q|q
  ·exact .inl ((g2.own b).mp q)
  ·exact .inr (hp b q)) fun i q=>.inr (hg i q)
 cases out with
 |nx ρ'=>exact fun s4 Wc4 W4 g4 X4 e4=>k s4 Wc4 W4 (SG.trans O sg e02.size g4) X4 (back e4)
 |rt d=>exact fun v' s4 e4 r4=>k v' s4 (back e4) (aw.less O r4 sg.c)
theorem whl_ok {c:E}{body:List St}(hc:eU B K Φ c)(hbody:gZ B K Φ N body)(RK:aD A K):∀(n:Nat)(ρ:ac)(out:g7)(R:Dv->Be->Prop)(s:Be)(Wc W:AP),lc (fun ρ=>cT Φ Γ ρ c) (fun ρ=>aL Φ N Γ ρ body) n ρ=some out->
  Ctx B Γ Wc W pe ρ s->SK B Γ pe Wc W s out (fun s'=>R (.ok .next) s') (fun v s'=>R (.ok (.ret v)) s')->C3 B.M A (.whileLoop (c.py B.nm) (fm B.nm body) [] pe) R s:=by
 intro n
 induction n with
 |zero=>intro ρ out R s Wc W hev;exact ah hev
 |succ n ih=>
  intro ρ out R s Wc W hev X k;simp only[lc,Bh,Bg] at hev;obtain⟨t,ht,hev⟩:=hev;refine Dq ?_;show wpAny _ A ((whileTurn (c.py B.nm) (fm B.nm body) [] pe).onRaise (fun x=>do Ee x pe;Di x)) _ _ s;refine EP ?_;unfold whileTurn;refine Bc (sM O hc ht X RK fun s1 e1 X1=>?_);have k1:=SK.step O (SG.refl O Wc W s) (e1.toP _) X1 k
  cases t with
  |false=>
   simp only[BP,if_false,Bl] at hev ⊢;subst hev;exact Bc (Cw (Bk (k1 s1 Wc W (SG.refl O _ _ _) X1 (ao.refl _ _))))
  |true=>
   simp only[if_true,Bg] at hev ⊢;obtain⟨o1,ho1,hrest⟩:=hev;refine Bc (hbody _ _ _ ho1 _ _ _ _ _ _ _ X1 RK ?_)
   cases o1 with
   |rt d=>
    simp only[Bl] at hrest;subst hrest;exact fun v s2 e2 r2=>Bk (k1 v s2 e2 r2)
   |nx ρ2=>exact fun s2 Wc2 W2 g2 X2 e2=>Bk ⟨rfl,ih ρ2 out R s2 Wc2 W2 hrest X2 (SK.step O g2 e2 X2 k1)⟩
theorem st_whl {c:E}{body:List St}{p:Pos}(hc:eU B K Φ c)(hbody:gZ B K Φ N body):cQ B K Φ N (.whl c body p):=by
 intro Γ ρ out h Wc W pe A s Q Ex rest X R k;simp only[mY] at h;exact Br (wpAny_While (whl_ok O hc hbody R N ρ out _ s Wc W h X (by cases out<;>exact k)))
end
end Mine
namespace Mine
variable {B:Bs}
section
variable (O:B.Ok)
include O
variable {Γ:aj}{ρ:ac}{Wc W:AP}{pe:Env}{A:BO}{s s₀:Be}{K N:Nat}{Φ:bU}
theorem Ctx.growOwn {s':Be}{N:AP}(X:Ctx B Γ Wc W pe ρ s)(e:ay B s s')(hN:∀b,N b->s.heap.objs.size<=b/\b < s'.heap.objs.size):Ctx B Γ Wc (cw W N) pe ρ s':=by
 have Y:=Ctx.grow O X (e.toP ⟨fun J=>False,fun J=>False⟩) (fun b q=>q.elim) (fun b q=>q.elim) hN;have nWc:∀b,N b->¬Wc b:=fun b n w=>Bd _ (Ba (X.wlt b (X.cW b w)) (hN b n).1)
 exact{ Y with
  tW:=X.tW
  cW:=fun b q=>.inl (X.cW b q)
  locW:=⟨.inl X.locW.1,X.locW.2⟩
  ow:=fun b q n=>q.elim (fun z=>X.ow b z n) fun z=>X.good.hi (hN b z).1
  cellW:=fun x c q=>(X.cellW x c q).imp_right fun z=>⟨.inl z.1,z.2⟩
  vars:=fun x en q=>by
   refine ak (Y.vars x en q) fun v l r=>?_
   exact⟨v,l,r.map (fun J J r=>r) (fun J J r=>r) (fun J J w q=>⟨q,w⟩) (fun b J w wc J=>⟨⟨w,fun q=>wc (.inl q)⟩,fun J q=>q⟩) fun J J q=>q⟩ }
theorem st_own {x:Nat}{es:List E}{lp xp p:Pos}(hs:iM B K Φ es):cQ B K Φ N (.own x (.list es lp) xp p):=by
 intro Γ ρ out h Wc W pe A s Q Ex rest X R k;simp only[m6,Bh,Bg] at h;refine ak h fun l h1 h=>?_;refine oE h fun hc h=>?_;refine aS hc fun hm hl=>?_;obtain rfl:=A0 h;refine aS (cj O hm) fun hk hns=>?_;refine Br (CC ?_ rfl);show wpAny B.M A (eval (.List (fq B.nm es) lp) pe) _ _ s;refine List_ ?_;refine AZ (bH O _ _ _ _) ?_;refine uD O hs h1 X R fun vs s1 e1 X1 q1=>?_;refine CB ?_ (by show vs.toArray.size<=sizeLine;refine AZ B7<|AZ (ab.length q1) ?_;exact aE hl);have e2:ay B s1 { s1 with heap:=s1.heap.push { cls:=.type "list", data:=.seq vs.toArray } }:=ay.push O _ s1.toks
 have hsz:({ s1 with heap:=s1.heap.push { cls:=.type "list", data:=.seq vs.toArray } }:Be).heap.objs.size=s1.heap.objs.size+1:=BM ..
 have X2:=Ctx.growOwn O X1 e2 (N:=fun b=>b=s1.heap.objs.size) (fun b q=>by refine AZ hsz<|AZ q ?_;exact⟨Bq _,Ct _⟩);have hfresh:∀b,W b->b < s1.heap.objs.size:=X1.wlt;refine Ctx.storeE O X2 hk hns (fun d e=>by exact xO rfl e) (en:=.own l) ⟨_,vs.toArray,0,rfl,.inr rfl,fun w=>Bd _ (hfresh _ (X1.cW _ w)),BD _ rfl,hl,?_⟩ (fun b ob y e' w hy hρ hloc hb=>?_) fun s3 X3 e3=>?_
 ·simp only[Cx]
  exact ab.move O (fun b o J e=>By _ e) (fun b q=>q.imp_right fun q=>BY (El q.symm)) _ _ q1
 ·obtain rfl:=Value.ref.inj ob
  refine ak (X1.vars y _ hρ) fun w' lw rw'=>?_;obtain rfl:=dA.uniq hloc (X1.locmove e2 lw);exact Bd _ (hfresh _ (aU.w rw' (aU.back rw' (fun c o w q=>e2.keep c o (fun t=>w (X1.tW' _ t)) q) hb)).1.1)
 ·have e13:=(e1.trans e2)
  refine k s3 Wc (cw W fun b=>b=s1.heap.objs.size) ⟨fun b q=>q,fun b q=>q.imp_right fun(q:b=s1.heap.objs.size)=>q▸e1.size,fun b q n=>q.elim (fun z=>.inl ⟨z,n⟩) fun(z:b=s1.heap.objs.size)=>.inr (z▸e1.size)⟩ X3 ?_;refine(e13.toP _).trans e3 (fun b q=>?_) fun i q=>q.elim;rcases q with rfl|q
  ·exact .inl X.locW
  ·have:=(X.cellW x b (by exact q)).resolve_left hns
   exact .inl this
theorem wO {x:Nat}{en:fu}{d:D}{v:Value}{N:Nat}{next:Be->Prop}{ret:VS}(X:Ctx B Γ Wc W pe ρ s)(hx:ρ x=some en)(lv:dA B pe s.heap x v)(r:aX B pe.locals s.heap Wc W en v)(hne:∀d,en≠.sealed d)(rd:aw B s.heap (fun b=>W b/\¬aU s.heap en v b) d v)
  (k:SK B Γ pe Wc W s (.nx (ρ.set x (.fz d))) next ret):next s:=by
 have ow:=fun b (o:aU s.heap en v b)=>aU.w r o;refine ak X.loc fun m hm hz=>?_;refine k s Wc (fun b=>W b/\¬aU s.heap en v b) ⟨fun b q=>q,fun b q=>.inl q.1,fun b q n=>.inl ⟨q.1,n⟩⟩ ?_ (ao.refl _ _);have hse:∀y,am (ρ.set x (.fz d)) y↔am ρ y:=by
  intro y
  by_cases hy:y=x
  ·subst hy
   constructor
   ·rintro⟨d',e⟩;rw[ac.set_self O] at e;exact xO rfl (A0 e)
   ·rintro⟨d',e⟩;rw[hx] at e;exact absurd (A0 e) (hne d')
  ·unfold am;rw[ac.set_ne O _ _ hy]
 exact{ X with
  cW:=fun b q=>⟨X.cW b q,fun e=>(ow b e).1.2 q⟩
  wlt:=fun b q=>X.wlt b q.1
  locW:=⟨⟨X.locW.1,fun e=>gu.ne_loc O (ow _ e).2 hm rfl⟩,X.locW.2⟩
  ow:=fun b q n=>X.ow b q.1 n
  cellW:=fun y c q=>by
   rcases X.cellW y c q with z|z
   ·exact .inl ((hse y).mpr z)
   ·refine .inr ⟨⟨z.1,fun e=>?_⟩,z.2⟩
    refine aS (X.cells y c q) fun p91 J=>?_;obtain⟨w,hw⟩:=p91;exact gu.ne_cell O (ow _ e).2 hw rfl
  vars:=fun y e hy=>by
   by_cases hyx:y=x
   ·subst hyx
    rw[ac.set_self O] at hy;obtain rfl:=A0 hy;exact⟨v,lv,rd⟩
   ·rw[ac.set_ne O _ _ hyx] at hy
    refine ak (X.vars y e hy) fun w lw rw'=>?_;exact⟨w,lw,rw'.map (fun J J r=>aw.less O r fun b q=>q.1) (fun J J r=>ab.less O r fun b q=>q.1) (fun J J w q=>⟨q,fun z=>w z.1⟩) (fun b o w wc J=>⟨⟨⟨w,fun z=>hyx (X.owns y x _ _ _ _ b hy hx lw lv o z)⟩,wc⟩,fun J q=>q⟩) fun J J q=>q⟩
  sealedW:=fun y q=>by
   refine ak (X.sealedW y ((hse y).mp q)) fun c h1 h2=>?_;exact⟨c,h1,fun z=>h2 z.1⟩
  owns:=fun y z e1 e2 u1 u2 b hy hz ly lz o1 o2=>by
   have hyx:y≠x:=by rintro rfl;rw[ac.set_self O] at hy;obtain rfl:=A0 hy;exact o1
   have hzx:z≠x:=by rintro rfl;rw[ac.set_self O] at hz;obtain rfl:=A0 hz;exact o2
   rw[ac.set_ne O _ _ hyx] at hy;rw[ac.set_ne O _ _ hzx] at hz
   exact X.owns y z _ _ _ _ b hy hz ly lz o1 o2 }
theorem ab.of_get {h:Heap}:∀(ds:List D)(vs:List Value),vs.length=ds.length->(∀(i:Nat) d v,ds[i]?=some d->vs[i]?=some v->aw B h W d v)->ab B h W ds vs
 |[],[],_,_=>ab.nil
 |[],_::_,h,_=>nosz h
 |_::_,[],h,_=>nozs h
 |d::ds,v::vs,h,k=>ab.cons (k 0 d v rfl rfl) (ab.of_get ds vs (D2 h) fun i d v h1 h2=>k (i+1) d v h1 h2)
set_option tactic.hygienic true in
theorem st_frz {x:Nat}:cQ B K Φ N (.frz x):=by
 intro Γ ρ out h Wc W pe A s Q Ex rest X R k;simp only[jk] at h
 split at h
 case h_3=>exact ah h
 ·rename_i l hx
  obtain rfl:=A0 h;refine ak (X.vars x _ hx) fun v lv r=>?_;refine wO O (N:=N) X hx lv r (fun J e=>xO rfl e) ?_ k;obtain⟨a,vs,n,rfl,hW,hWc,hg,hl,ra⟩:=r;exact⟨a,vs,n,rfl,fun q=>q.2 rfl,hg,hl,ab.less O ra fun b q=>q.1⟩
 ·rename_i l hx
  refine aS (aJ h) fun hall e=>?_;obtain rfl:=e;refine ak (X.vars x _ hx) fun v lv r=>?_;refine wO O (N:=N) X hx lv r (fun J e=>xO rfl e) ?_ k;obtain⟨c,bs,n,rfl,w,g,nd,len,hl,r⟩:=r;refine⟨c,_,n,rfl,fun q=>w q.1,g,by refine AZ (Bx _) ?_;exact hl,?_⟩;refine AZ Cx ?_;refine ab.of_get O _ _ (by simp[len]) fun i d v hd hv=>?_;rw[CU] at hd hv;refine ak (aI hd) fun l' h1 e91=>?_;subst e91;refine ak (aI hv) fun b h2 e91=>?_;subst e91;obtain⟨a,vs,n',e,J,J,hg,hl',ra⟩:=r i b l' h2 h1;obtain rfl:=Value.ref.inj e;exact⟨b,vs,n',rfl,fun q=>q.2 ⟨c,bs,n,rfl,g,Co h2⟩,hg,hl',ab.less O ra fun b q=>q.1⟩
set_option tactic.hygienic true in
theorem vY {x:Nat}:cQ B K Φ N (.seal x):=by
 intro Γ ρ out h Wc W pe A s Q Ex rest X R k;simp only[hJ] at h
 split at h
 case h_2=>exact ah h
 rename_i d hx
 split at h
 case isFalse=>exact ah h
 rename_i hk
 obtain rfl:=A0 h;refine aS (X.kinds _ _ hk) fun kk hc=>?_;refine x1 (hc (.inl rfl)) fun c hc=>?_;refine aS (X.cells x c hc) fun p91 hcT=>?_;obtain⟨w,hw⟩:=p91;have hns:¬am ρ x:=fun⟨d',e⟩=>by rw[hx] at e;exact xO rfl (A0 e)
 refine aS ((X.cellW x c hc).resolve_left hns) fun hcW hcWc=>?_;refine ak X.loc fun m hm hz=>?_;refine k s Wc (fun b=>W b/\b≠c) ⟨fun b q=>q,fun b q=>.inl q.1,fun b q n=>.inl ⟨q.1,n⟩⟩ ?_ (ao.refl _ _);have hse:∀y,am (ρ.set x (.sealed d)) y↔(am ρ y\/y=x):=by
  intro y
  by_cases hy:y=x
  ·subst hy
   exact⟨fun J=>.inr rfl,fun J=>⟨d,ac.set_self O _ _ _⟩⟩
  ·unfold am;refine AZ (ac.set_ne O _ _ hy) ?_;simp[hy]
 exact{ X with
  cW:=fun b q=>⟨X.cW b q,fun e=>hcWc (e▸q)⟩
  wlt:=fun b q=>X.wlt b q.1
  locW:=⟨⟨X.locW.1,fun e=>gD hm hw e.symm⟩,X.locW.2⟩
  ow:=fun b q n=>X.ow b q.1 n
  cellW:=fun y c' q=>by
   by_cases hy:y=x
   ·exact .inl ((hse y).mpr (.inr hy))
   rcases X.cellW y c' q with z|z
   ·exact .inl ((hse y).mpr (.inl z))
   ·refine .inr ⟨⟨z.1,?_⟩,z.2⟩
    rintro rfl;exact hy (O.inj _ _ (Hq X.apart (mem_of_lookup q) (mem_of_lookup hc)))
  vars:=fun y e hy=>by
   by_cases hyx:y=x
   ·subst hyx
    rw[ac.set_self O] at hy;obtain rfl:=A0 hy;refine ak (X.vars y _ hx) fun v lv rv=>?_;exact⟨v,lv,aw.less O rv fun b q=>q.1⟩
   ·rw[ac.set_ne O _ _ hyx] at hy
    refine ak (X.vars y e hy) fun w' lw rw'=>?_;exact⟨w',lw,rw'.map (fun J J r=>aw.less O r fun b q=>q.1) (fun J J r=>ab.less O r fun b q=>q.1) (fun J J w q=>⟨q,fun z=>w z.1⟩) (fun b o w wc t=>⟨⟨⟨w,gu.ne_cell O t hw⟩,wc⟩,fun J q=>q⟩) fun J J q=>q⟩
  sealedW:=fun y q=>by
   rcases(hse y).mp q with q|rfl
   ·refine ak (X.sealedW y q) fun c' h1 h2=>?_
    exact⟨c',h1,fun z=>h2 z.1⟩
   ·exact⟨c,hc,fun z=>z.2 rfl⟩
  owns:=fun y z e1 e2 u1 u2 b hy hz ly lz o1 o2=>by
   have hyx:y≠x:=by rintro rfl;rw[ac.set_self O] at hy;obtain rfl:=A0 hy;exact o1
   have hzx:z≠x:=by rintro rfl;rw[ac.set_self O] at hz;obtain rfl:=A0 hz;exact o2
   rw[ac.set_ne O _ _ hyx] at hy;rw[ac.set_ne O _ _ hzx] at hz
   exact X.owns y z _ _ _ _ b hy hz ly lz o1 o2 }
theorem Ctx.setAt {x:Nat}{en en':fu}{v:Value}{a:Addr}{h':Heap}{t:Nat}(X:Ctx B Γ Wc W pe ρ s)(hx:ρ x=some en)(lv:dA B pe s.heap x v)(ha:aU s.heap en v a)(hne:∀d,en≠.sealed d)(hne':∀d,en'≠.sealed d)(hs:Dy a s.heap h')
  (hr:(∀b o,(¬W b\/B.KO o)->s.heap.get? b=some o->h'.get? b=some o)->aX B pe.locals h' Wc W en' v) (hoa:∀b,aU h' en' v b->aU s.heap en v b):
  Ctx B Γ Wc W pe (ρ.set x en') { s with heap:=h',toks:=t }/\ao B (fB W Wc) s { s with heap:=h',toks:=t }:=by
 refine ak (X.vars x _ hx) fun v0 lv0 r0=>?_;obtain rfl:=dA.uniq lv lv0;refine aS (aU.w r0 ha) fun p91 hT=>?_;obtain⟨hW,hWc⟩:=p91;have hnc:=gu.nc O hT;have keepW:∀b o,(¬W b\/B.KO o)->s.heap.get? b=some o->h'.get? b=some o:=fun b o hw e=>hs.extBut b o (fun q=>hw.elim (fun hw=>hw (q▸hW)) fun hc=>hnc o (q▸e) hc) e;refine ak X.loc fun m hm hz=>?_;have hal:a≠pe.locals:=gu.ne_loc O hT hm;have hm':h'.Ns pe.locals m:=hm.sameBut hs (Fj hal);have cne:∀y c,pe.cells.lookup (B.nm y)=some c->c≠a:=fun y c q=>by
  refine aS (X.cells y c q) fun p91 J=>?_;obtain⟨w,hw⟩:=p91;exact Fj (gu.ne_cell O hT hw)
 have mv:∀y w,dA B pe s.heap y w->dA B pe h' y w:=by
  rintro y w (⟨k,m',n',e⟩|⟨k,c',e,hc'⟩)
  ·have:=Ns.uniq hm n';subst this
   exact .inl ⟨k,_,hm',e⟩
  ·exact .inr ⟨k,c',e,C5.moved hc' fun o z=>hs.extBut _ o (cne y c' e) z⟩
 have hse:∀y,am (ρ.set x en') y↔am ρ y:=by
  intro y
  by_cases hy:y=x
  ·subst hy
   constructor
   ·rintro⟨d',e⟩;rw[ac.set_self O] at e;exact absurd (A0 e) (hne' d')
   ·rintro⟨d',e⟩;rw[hx] at e;exact absurd (A0 e) (hne d')
  ·unfold am;rw[ac.set_ne O _ _ hy]
 have old:∀y e w b,(ρ.set x en') y=some e->dA B pe h' y w->aU h' e w b->∃e0 w0,ρ y=some e0/\dA B pe s.heap y w0/\aU s.heap e0 w0 b:=fun y e w b hy ly o=>by
  by_cases hyx:y=x
  ·subst hyx
   rw[ac.set_self O] at hy;obtain rfl:=A0 hy;obtain rfl:=dA.uniq ly (mv _ _ lv);exact⟨en,w,hx,lv,hoa b o⟩
  ·replace hy:=(ac.set_ne O _ _ hyx)▸hy
   refine ak (X.vars y e hy) fun w0 lw rw'=>?_;obtain rfl:=dA.uniq ly (mv _ _ lw);exact⟨e,w,hy,lw,aU.back rw' (fun c o w q=>keepW c o (.inl w) q) o⟩
 refine⟨Ctx.change O X ⟨hW,hWc⟩ hnc hs ⟨m,hm',hz⟩ (fun y c q=>?_) (fun y e hy=>?_) hse (fun y z e1 e2 u1 u2 b hy hz ly lz o1 o2=>?_),(cM O (fun q=>hWc (X.tW _ q)) hnc hs).mono (fun b q=>q▸⟨hW,hWc⟩) fun i q=>q⟩
 ·refine aS (X.cells y c q) fun p91 J=>?_
  obtain⟨w,hw⟩:=p91;exact⟨w,C5.moved hw fun o z=>hs.extBut _ o (cne y c q) z⟩
 ·by_cases hyx:y=x
  ·subst hyx
   rw[ac.set_self O] at hy;obtain rfl:=A0 hy;exact⟨_,mv _ _ lv,hr keepW⟩
  ·replace hy:=(ac.set_ne O _ _ hyx)▸hy
   refine ak (X.vars y e hy) fun w lw rw'=>?_;exact⟨w,mv y w lw,aX.keep O rw' keepW fun b o J J J ob q=>hs.extBut b ob (fun z=>hyx (X.owns y x _ _ _ _ b hy hx lw lv o (z▸ha))) q⟩
 ·refine kJ (old y e1 u1 b hy ly o1) fun f1 w1 a1 a2 a3=>?_
  refine kJ (old z e2 u2 b hz lz o2) fun f2 w2 b1 b2 b3=>?_;exact X.owns y z _ _ _ _ b a1 b1 a2 b2 a3 b3
theorem Ctx.setOwn {x:Nat}{l l':List D}{a:Addr}{vs vs':Array Value}{n n':Nat}{h':Heap}{t:Nat}(X:Ctx B Γ Wc W pe ρ s)(hx:ρ x=some (.own l))(lv:dA B pe s.heap x (.ref a))(hW:W a)(hWc:¬Wc a)
  (hg:s.heap.get? a=some { cls:=.type "list", dict:=none,data:=.seq vs n,slots:=#[] }) (hs:Dy a s.heap h') (hg':h'.get? a=some { cls:=.type "list", dict:=none,data:=.seq vs' n',slots:=#[] }) (hl:l'.length<=lim) (ra:ab B s.heap W l' vs'.toList):
  Ctx B Γ Wc W pe (ρ.set x (.own l')) { s with heap:=h',toks:=t }/\ao B (fB W Wc) s { s with heap:=h',toks:=t }:=
 Ctx.setAt O X hx lv rfl (fun J e=>xO rfl e) (fun J e=>xO rfl e) hs (fun keepW=>⟨a,vs',n',rfl,hW,hWc,hg',hl,ab.move O keepW (fun b q=>.inl q) _ _ ra⟩) fun b o=>o
end
end Mine
namespace Mine
variable {B:Bs}
theorem o6 {prog:Hu}{w:World}{A:BO}{E:VS}{s:Be}{l:Addr}{items:Array Value}{n:Nat}{k:Int}{t:Tok}{v:Value}{Q:Unit->Be->Prop}(ho:s.heap.get? l=some { cls:=.type "list", dict:=none,data:=.seq items n,slots:=#[] })
  (h0:0<=k) (hfit:k < 2 ^ 63) (hn:k < items.size)
  (hQ:Q () { s with heap:=s.heap.update l (Obj.mapSeq (·.setIfInBounds k.toNat v)) }):wpAny (model prog w) A (setItem (.ref l) (.int k t) v) Q E s:=by
 have hl:s.heap.IsList l items:=⟨_,ho,rfl,n,rfl⟩;unfold setItem
 try with_reducible refine Cv ?_
 first|refine Bc (Bk ?_)|skip
 refine Bc (wpAny_sequenceKey hl.typeIs (by decide) ?_)
 refine Bc (Hf (name:=Str.ofString "__setitem__") hl.typeIs slot_list_setitem
  (Gm slot_list_setitem hl.typeIs entry_list_setitem ?_ (args_list_setitem _ _ _)))
 show wpAny _ _ (Builtin.List.listSubscript? (.int k t) >>= _) _ _ s;refine Bc (wpAny_listSubscript_int (fitsIndex_of h0 hfit) ?_);clear hfit;refine x1 (Int.eq_ofNat_of_zero_le h0) fun j e91=>?_;subst e91;have hj:j < items.size:=by lia
 have hx':items[j]?=some items[j]:=Gl hj;show wpAny _ _ ((seqItemAt l j >>= fun r=>pure (r.map (j,·))) >>= _) _ _ s;refine Bc (Bc (wpAny_seqItemAt ho rfl (Bk ?_)));refine AZ hx' ?_;show wpAny _ _ (setSeqItemAt l j v >>= _) _ _ s;refine Bc (wpAny_setSeqItemAt ho rfl ?_)
 first
  |exact Bc (Bk (Bk ⟨.none,rfl,Bk hQ⟩))
  |exact Bk ⟨.none,rfl,Bk hQ⟩
section
variable (O:B.Ok)
include O
variable {Γ:aj}{ρ:ac}{Wc W:AP}{pe:Env}{A:BO}{s s₀:Be}{K N:Nat}{Φ:bU}
set_option tactic.hygienic true in
theorem st_app {x:Nat}{e:E}{xp ap cp p:Pos}(he:bg B K Φ e):cQ B K Φ N (.app x e xp ap cp p):=by
 intro Γ ρ out h Wc W pe A s Q Ex rest X R k;simp only[nh] at h
 split at h
 case h_2=>exact ah h
 rename_i l hx
 split at h
 case isFalse=>exact ah h
 rename_i hline
 simp only[Bh,Bg] at h;refine i2 h fun r h1 y hy h=>?_;refine ifk h fun hl e95=>?_;subst e95;obtain⟨v,lv,a,vs,n,rfl,hW,hWc,hg,hl2,ra⟩:=X.vars x _ hx;have hsz:=ab.length ra;rw[Ca] at hsz;refine Br (wpAny_Expr ?_ (by unfold Ft;refine AZ X.fn ?_;rfl) rfl);refine wpAny_Call_append rfl (by refine AZ (aC _ _ _ _) ?_;rfl) hline (by refine AZ (aC _ _ _ _) ?_;rfl) ?_;refine BX (Ctx.name O X lv ?_ (O.cld x)) (O.dbg x);refine⟨a,vs,rfl,⟨_,n,hg,rfl,rfl,rfl⟩,cX O he h1 hy X R fun w s1 e1 X1 q1=>?_⟩;have nT:¬B.T a:=fun t=>hWc (X.tW _ t);have hg1:=e1.keep a _ nT hg;refine E4 ⟨n,hg1⟩ (fun h' hl' hs'=>?_) (aE (by lia));refine x1 hl' fun n' hg'=>?_;have ra1:=ab.eff O X.tW' ra e1;refine aS (Ctx.setOwn O (t:=s1.toks) X1 hx (X.locmove e1 lv) hW hWc hg1 hs' hg' (l':=l++[y]) (by simp only[Bm,BA,Da];lia) (by refine AZ Hn ?_;exact ab.append ra1 (ab.cons q1 ab.nil))) fun X2 e2=>?_;exact k _ Wc W (SG.refl O _ _ _) X2 ((e1.toP _).trans e2 (fun b q=>.inl q) fun i q=>.inl q)
theorem oD {x y z:D}{u v:Value}{E:VS}{Q:VS}(h:D.add x y=some z)(hx:(∃i,x=.int i)\/∃l,x=.str l)(rx:aw B s.heap W x u)(ry:aw B s.heap W y v)
  (k:∀r s',ay B s s'->aw B s'.heap W z r->Q r s'):wpAny B.M A (inplaceOp .Add u v) Q E s:=by
 rcases hx with⟨i,rfl⟩|⟨a,rfl⟩
 ·refine ak (aI h) fun j hj e91=>?_
  subst e91;have:=int?_eq hj;subst this;refine x1 (j6 rx) fun t e91=>?_;subst e91;refine x1 (j6 ry) fun t' e91=>?_;subst e91;exact wpAny_iadd_int (k _ _ (ay.toks _) iq)
 ·refine ak (ai h) fun b hj h1=>?_
  refine aS (aJ h1) fun hl e91=>?_;subst e91;have:=str?_eq hj;subst this;refine ak (jo rx) fun t e91=>?_;subst e91;intro J;refine ak (jo ry) fun t' e91=>?_;subst e91;intro J;exact SB.iadd (fun t' tk=>k _ _ (ay.toks _) (by refine AZ (vW _ _) ?_;exact nY hl)) (aE (by simpa [Str.length] using hl))
set_option tactic.hygienic true in
omit O in
theorem aug_inv {Γ:aj}{ρ:ac}{x:Nat}{y:D}{out:g7}:∀{d:D},(match d with
   |.int _=>do
    let z <-D.bin .Add d y
    if Γ.mine ρ x then some (g7.nx (ρ.set x (.fz z))) else none
   |.str _=>do
    let z <-D.bin .Add d y
    if Γ.mine ρ x then some (g7.nx (ρ.set x (.fz z))) else none
   |_=>none)=some out->((∃i,d=.int i)\/∃l,d=.str l)/\∃z,D.bin .Add d y=some z/\Γ.mine ρ x=true/\out=.nx (ρ.set x (.fz z)):=fun{d} h=>by
 cases d
 case int i=>refine ak (ai h) fun z hz h=>?_;refine aS (aJ h) fun hm e91=>?_;subst e91;exact⟨.inl ⟨_,rfl⟩,z,hz,hm,rfl⟩
 case str i=>refine ak (ai h) fun z hz h=>?_;refine aS (aJ h) fun hm e91=>?_;subst e91;exact⟨.inr ⟨_,rfl⟩,z,hz,hm,rfl⟩
 all_goals exact ah h
set_option tactic.hygienic true in
theorem st_augN {x:Nat}{op:EI}{e:E}{xp p:Pos}(he:bg B K Φ e):cQ B K Φ N (.augN x op e xp p):=by
 intro Γ ρ out h Wc W pe A s Q Ex rest X R k;have main:∀d r y z,ρ x=some (.fz d)->op=.Add->ev Φ Γ ρ e=some r->r.asD=some y->D.bin .Add d y=some z->((∃i,d=.int i)\/∃l,d=.str l)->Γ.mine ρ x=true->out=.nx (ρ.set x (.fz z))->
   wpAny B.M A (execs (St.py B.nm (.augN x op e xp p)++rest) pe) Q Ex s:=by
  intro d r y z hx hop h1 hy hz hd hm ho;subst hop;subst ho;refine aS (cj O hm) fun hk hns=>?_;refine ak (X.vars x _ hx) fun v lv rv=>?_;refine Br (wpAny_AugAssign_Name (Ctx.name O X lv (cX O he h1 hy X R fun w s1 e1 X1 q1=>?_) (O.cld x)));refine oD O hz hd (aw.eff O X.tW' rv e1) q1 fun r2 s2 e2 q2=>?_;have X2:=X1.move O e2;refine Ctx.store O X2 hk hns q2 fun s3 X3 e3=>?_;exact k s3 Wc W (SG.refl O _ _ _) X3 (((e1.trans e2).toP _).trans e3 (fun b q=>.inl (fw O X hns b q)) fun i q=>q.elim)
 simp only[lH] at h
 split at h
 case h_2=>exact ah h
 rename_i d hx
 simp only[Bh,Bg] at h;refine i2 h fun r h1 y hy h=>?_;refine yu (aug_inv h) fun hd z hz hm ho=>?_;exact main _ r y z hx rfl h1 hy hz hd hm ho
set_option tactic.hygienic true in
omit O in
theorem AJ {z y w:D}(h:yh z y=some w):((∃i,z=.int i)\/∃l,z=.str l)/\D.add z y=some w:=by
 cases z
 case int i=>exact⟨.inl ⟨i,rfl⟩,h⟩
 case str i=>exact⟨.inr ⟨i,rfl⟩,h⟩
 all_goals exact ah h
omit O in
theorem yk {l l':List D}{j y:D}(h:qK l j y=some l'):∃a z w,j=.int a/\(0<=a/\a < l.length)/\l[a.toNat]?=some z/\yh z y=some w/\l.set a.toNat w=l':=by
 refine ak (ai h) fun a ha h1=>?_;refine aS (cq h1) fun hc h2=>?_;refine ak (ai h2) fun z hz h3=>?_;refine ak (aI h3) fun w hw h4=>?_;exact⟨a,z,w,int?_eq ha,hc,hz,hw,h4⟩
omit O in
theorem aug_py {nm:Nat->Str}(i:E):∀ov iv new,augStore (i.py nm) ov iv new=(do Hs [new,ov,iv] (setItem ov iv new);release [new,ov,iv] [];pure .next):=by
 cases i<;>exact fun J J J=>rfl
set_option tactic.hygienic true in
theorem st_augI {x:Nat}{i e:E}{op:EI}{xp sp p:Pos}(hi:bg B K Φ i)(he:bg B K Φ e):cQ B K Φ N (.augI x i op e xp sp p):=by
 intro Γ ρ out h Wc W pe A s Q Ex rest X R k;simp only[lI] at h
 split at h
 case h_2=>exact ah h
 rename_i l hx
 simp only[Bh,Bg,Bt] at h;refine cU h fun rj hj1 j hj ry hy1 y hy l' hadd e91=>?_;subst e91;refine x34 (yk hadd) fun j z wz e91=>?_;subst e91;intro hlt hz hw0 e92;subst e92;refine aS (AJ hw0) fun hzs hw0=>?_;obtain⟨v,lv,a,vs,n,rfl,hW,hWc,hg,hl2,ra⟩:=X.vars x _ hx;have hsz:=ab.length ra;replace hsz:=Ca▸hsz;have nT:¬B.T a:=fun t=>hWc (X.tW _ t);refine Br (wpAny_AugAssign_SubscriptAny ?_ (aug_py i));refine BX (Ctx.name O X lv ?_ (O.cld x)) (O.dbg x);refine cX O hi hj1 hj X R fun w s1 e1 X1 q1=>?_;refine x1 (j6 q1) fun t e91=>?_;subst e91;have hg1:=e1.keep a _ nT hg;refine ak (ab.get (ab.eff O X.tW' ra e1) hz) fun w hw rw'=>?_;have hj63:j < 2 ^ 63:=by
  have:(l.length:Int)<=1048576:=by unfold lim at hl2;lia
  lia
 refine FU ⟨_,hg1,rfl,n,rfl⟩ hlt.1 hj63 (by refine AZ (BE (C7)) ?_;exact hw) ?_;refine cX O he hy1 hy X1 R fun w2 s2 e2 X2 q2=>?_;refine oD O hw0 hzs (aw.eff O X.tW' rw' e2) q2 fun r3 s3 e3 q3=>?_;have X3:=X2.move O e3;have e03:=(e1.trans e2).trans e3;have hg3:s3.heap.get? a=_:=e03.keep a _ nT hg;refine o6 hg3 hlt.1 hj63 (by lia) ?_;have hg4:=GX (Obj.mapSeq (·.setIfInBounds j.toNat r3)) hg3 rfl;have ra3:=ab.eff O X.tW' ra e03;have hjn:j.toNat < l.length:=by omega
 have key:ab B s3.heap W (l.set j.toNat wz) (vs.setIfInBounds j.toNat r3).toList:=by
  refine ab.of_get O _ _ (by simp[hsz]) fun i d v hd hv=>?_;simp only[Array.toList_setIfInBounds] at hv;rw[HB] at hd hv
  by_cases hi:j.toNat=i
  ·simp only[hi,if_true] at hd hv
   split at hd
   ·obtain rfl:=A0 hd
    split at hv
    ·obtain rfl:=A0 hv;exact q3
    ·exact ah hv
   ·exact ah hd
  ·simp only[hi,if_false] at hd hv
   refine ak (ab.get ra3 hd) fun v' hv' rv'=>?_;obtain rfl:=A0 (hv.symm.trans hv');exact rv'
 refine aS (Ctx.setOwn O (t:=s3.toks) X3 hx (X.locmove e03 lv) hW hWc hg3 (Gd ..) hg4 (l':=l.set j.toNat wz) (by refine AZ EY ?_;exact hl2) key) fun X4 e4=>?_;exact k _ Wc W (SG.refl O _ _ _) X4 ((e03.toP _).trans e4 (fun b q=>.inl q) fun i q=>.inl q)
end
end Mine
namespace Mine
variable {B:Bs}
section
variable (O:B.Ok)
include O
variable {Γ:aj}{ρ:ac}{Wc W:AP}{pe:Env}{A:BO}{s s₀:Be}{K N:Nat}{Φ:bU}
theorem fr_list {p:Pos}:FrE B K Φ (.list [] p):=by
 intro Γ ρ r h Wc W pe A s X R;have h':(some (Mine.R.d (.list [])))=some r:=h;obtain rfl:=A0 h';show wpAny B.M A (eval (.List (fq B.nm []) p) pe) _ _ s;refine List_ (Cj ?_);refine CB ?_ (by size_fits);exact⟨⟨ay.push O _ s.toks,dg O X.wlt ab.nil (Cp _)⟩,_,0,rfl,Bq _,BD _ rfl⟩
theorem uc {fr:Bool}{elt:E}{t:Tg}{itE:E}{ifs:List E}{rr:List Gn}{sc:LK}{cp:Pos}{l:List D}{r:Mine.R}(hfr:fr=true->FrE B K Φ elt/\rr=[])(h:ev Φ Γ ρ (.comp elt (.mk t itE ifs::rr) sc cp)=some r)(hr:r.asD=some (.list l))(hK:20<=K)
  (k1:bg B K Φ elt) (k2:bg B K Φ itE) (k3:lr B K Φ ifs) (k4:jg B K Φ rr) (X:Ctx B Γ Wc W pe ρ s) (R:aD A K){E:VS}{Q:VS}
  (k:∀a s' vs n,ay B s s'->s.heap.objs.size<=a->s'.heap.get? a=some { cls:=.type "list", dict:=none,data:=.seq vs n,slots:=#[] }->ab B s'.heap (fun b=>W b\/b=a) l vs.toList->l.length<=lim->(fr=true->lB (a+1) vs.toList s'.heap)->Q (.ref a) s'):
  wpAny B.M A (eval ((Mine.E.comp elt (.mk t itE ifs::rr) sc cp).py B.nm) pe) Q E s:=by
 replace h:=f8▸h;refine aS (cq h) fun hsc h1=>?_;refine ak (ai h1) fun r1 h2 h3=>?_;refine ak (ai h3) fun items hi h4=>?_;refine ak (ai h4) fun l' hl h5=>?_;refine ak (aI h5) fun d' hd' e91=>?_;subst e91;refine aS (aJ hd') fun hlim e91=>?_;subst e91;obtain rfl:l'=l:=by injection hr with hr;injection hr
 refine AZ kC<|AZ (arm_eval_ListComp _ _ _ _ _) ?_
 refine lh O (fr:=fr) (use:=none) hfr R (R.less (C0 _ _)) k1 k2 k3 k4 (im O hsc) X h2 hi hl hlim fun s' a C e X' ra ha hC hns hlt hne hnew=>?_;refine ak hns fun m hm hz=>?_;refine kJ hnew fun vs n g rl fl=>?_;refine⟨m,hm,fun h' hs'=>?_⟩;have ec:ao B ⟨fun b=>b=C,fun J=>False⟩ s' { s' with heap:=h' }:=
  cM O (s:=s') (h':=h') (t:=s'.toks) (a:=C) (fun t=>Bd _ (Ba (X.wlt _ (X.tW' _ t)) hC)) (lV hm hz) hs'
 have ef:ay B s { s' with heap:=h' }:=ao.toEff e ec (fun b q=>q▸hC) (fun i q=>q.elim);refine k a _ vs n ef ha (hs'.extBut _ _ hne g) (ab.move O (fun b o q x=>q.elim (fun q=>hs'.extBut b o (fun z=>q (.inr (.inl z))) x) fun q=>ec.ck b o q x) (fun b q=>.inl (q.imp_right .inr)) _ _ rl) hlim fun z=>?_;have f:=fl z;refine⟨f.nd,fun v hv=>?_⟩;refine kJ (f.at' v hv) fun b m' e h1 h2=>?_;exact⟨b,m',e,h1,hs'.extBut _ _ (n9 hm h2) h2⟩
omit O in
theorem tQ {lo:Nat}{h:Heap}:∀{vs:List Value},lB lo vs h->∃bs:List Addr,vs=bs.map Value.ref/\bs.Nodup/\∀b∈bs,lo<=b/\∃n,h.get? b=some { cls:=.type "list", dict:=none,data:=.seq #[] n,slots:=#[] }
 |[],_=>⟨[],rfl,B3,fun J h=>bE h⟩
 |v::vs,f=>by
  refine aS (BV.mp f.nd) fun n1 n2=>?_;refine pJ (tQ ⟨n2,fun v hv=>f.at' v (Bi _ hv)⟩) fun bs e91=>?_;subst e91;intro nd hb;refine kJ (f.at' v Bj) fun b n e91=>?_;subst e91;intro h1 h2;refine⟨b::bs,rfl,BV.mpr ⟨fun c hc e=>n1 (.ref c) (BC.mpr ⟨c,hc,rfl⟩) (by exact AZ e rfl),nd⟩,fun c hc=>?_⟩;rcases Bw.mp hc with rfl|hc
  ·exact⟨h1,n,h2⟩
  ·exact hb c hc
structure ku (B:Bs) (K:Nat)(Φ:bU)(e:E):Prop where
 s:bg B K Φ e
 l:∀es p,e=.list es p->iM B K Φ es
 c:∀elt t it ifs r sc cp,e=.comp elt (.mk t it ifs::r) sc cp->bg B K Φ elt/\bg B K Φ it/\lr B K Φ ifs/\jg B K Φ r
omit O in
theorem zi:∀{e:E},e.isRows=true->∃p x q it sc cp,e=.comp (.list [] p) [.mk (.name x q) it []] sc cp:=fun{e} h=>by
 cases e with
 |comp elt gs sc cp=>cases elt with
  |list es p=>cases es with
   |nil=>cases gs with
    |nil=>exact ce h
    |cons g r=>
     obtain⟨t,it,ifs⟩:=g
     cases t with
     |name x q=>cases ifs with
      |nil=>cases r with
       |nil=>exact⟨_,_,_,_,_,_,rfl⟩
       |cons=>exact ce h
      |cons=>exact ce h
     |tup=>exact ce h
   |cons=>exact ce h
  |_=>exact ce h
 |_=>exact ce h
set_option tactic.hygienic true in
omit O in
theorem new_inv:∀{e:E},e.isNew=true->(∃es p,e=.list es p)\/∃elt gs sc p,e=.comp elt gs sc p:=fun{e} h=>by
 cases e
 case list es p=>exact .inl ⟨es,p,rfl⟩
 case comp elt gs sc p=>exact .inr ⟨elt,gs,sc,p,rfl⟩
 all_goals exact ce h
omit O in
theorem x9 {m:Nat}{e:E}{d:D}{en:fu}(h:qD m e d=some en):(m=0/\en=.fz d)\/∃l,d=.list l/\((e.isNew=true/\en=.own l)\/e.isRows=true/\en=.own2 (l.map fun J=>[])):=by
 unfold qD at h
 split at h
 ·rename_i h0;exact .inl ⟨h0,(A0 h).symm⟩
 ·split at h
  ·rename_i l
   split at h
   ·rename_i hc;exact .inr ⟨l,rfl,.inl ⟨hc.2,(A0 h).symm⟩⟩
   ·split at h
    ·rename_i hc;exact .inr ⟨l,rfl,.inr ⟨hc.2,(A0 h).symm⟩⟩
    ·exact ah h
  ·exact ah h
theorem vm {es:List E}{p:Pos}{r:Mine.R}{l:List D}(h:ev Φ Γ ρ (.list es p)=some r)(hr:r.asD=some (.list l)):g8 Φ Γ ρ es=some l/\l.length<=lim:=by
 rw[kD] at h;refine ak (ai h) fun l' hl h1=>?_;refine ak (aI h1) fun d hd e91=>?_;subst e91;refine aS (aJ hd) fun hlim e91=>?_;subst e91;obtain rfl:l'=l:=by injection hr with hr;injection hr
 exact⟨hl,hlim⟩
theorem ent_ok {m:Nat}{e:E}{d:D}{en:fu}{r:Mine.R}(hK:20<=K)(P:ku B K Φ e)(h:ev Φ Γ ρ e=some r)(hd:r.asD=some d)(he:qD m e d=some en)(X:Ctx B Γ Wc W pe ρ s)(R:aD A K){E:VS}{Q:VS}
  (k:∀v s' N,ay B s s'->(∀b,N b->s.heap.objs.size<=b/\b < s'.heap.objs.size)->aX B pe.locals s'.heap Wc (cw W N) en v->(∀b,aU s'.heap en v b->N b)->(∀d,en≠.sealed d)->Q v s'):wpAny B.M A (eval (e.py B.nm) pe) Q E s:=by
 have wcn:∀b,s.heap.objs.size<=b->¬Wc b:=fun b hb w=>Bd _ (Ba (X.wlt b (X.cW b w)) hb);have wn:∀b,s.heap.objs.size<=b->¬W b:=fun b hb w=>Bd _ (Ba (X.wlt b w) hb);rcases x9 he with⟨J,rfl⟩|⟨l,rfl,⟨hn,rfl⟩|⟨hn,rfl⟩⟩
 ·exact cX O P.s h hd X R fun v s1 e1 X1 q1=>k v s1 (fun J=>False) e1 (fun b q=>q.elim) (aw.less O (W':=cw W fun J=>False) q1 fun b q=>q.elim id False.elim) (fun b o=>o.elim) fun d e=>nomatch e
 ·have fin:∀a s' vs n,ay B s s'->s.heap.objs.size<=a->s'.heap.get? a=some { cls:=.type "list", dict:=none,data:=.seq vs n,slots:=#[] }->ab B s'.heap (fun b=>W b\/b=a) l vs.toList->l.length<=lim->Q (.ref a) s':=fun a s' vs n e1 ha g ra hl=>
   k (.ref a) s' (fun b=>b=a) e1 (fun b q=>q▸⟨ha,BG g⟩) ⟨a,vs,n,rfl,.inr rfl,wcn a ha,g,hl,ra⟩ (fun b o=>(Value.ref.inj o).symm) fun d e=>nomatch e
  rcases new_inv hn with⟨es,p,rfl⟩|⟨elt,gs,sc,p,rfl⟩
  ·refine aS (vm O h hd) fun hl hlim=>?_
   show wpAny B.M A (eval (.List (fq B.nm es) p) pe) _ _ s;refine List_ ?_;refine AZ (bH O _ _ _ _) ?_;refine uD O (P.l es p rfl) hl X R fun vs s1 e1 X1 q1=>?_;refine CB ?_ (by show vs.toArray.size<=sizeLine;refine AZ B7<|AZ (ab.length q1) ?_;exact aE hlim);refine fin _ _ vs.toArray 0 (e1.trans (ay.push O _ s1.toks)) e1.size (BD _ rfl) ?_ hlim;exact ab.move O (fun b o J e=>By _ e) (fun b q=>q.imp_right fun(q:b=_)=>BY (El q.symm)) _ _ q1
  ·cases gs with
   |nil=>rw[f8] at h;exact nomatch (cq h).2
   |cons g rr=>
    obtain⟨t,it,ifs⟩:=g;refine x03 (P.c _ _ _ _ _ _ _ rfl) fun k1 k2 k3 k4=>?_;exact uc O (fr:=false) (fun z=>ce z) h hd hK k1 k2 k3 k4 X R fun a s' vs n e1 ha g ra hl J=>fin a s' vs n e1 ha g ra hl
 ·refine x6 (zi hn) fun p x q it sc cp e91=>?_
  subst e91;refine x03 (P.c _ _ _ _ _ _ _ rfl) fun k1 k2 k3 k4=>?_;refine uc O (fr:=true) (fun J=>⟨fr_list O,rfl⟩) h hd hK k1 k2 k3 k4 X R fun a s' vs n e1 ha g ra hl fl=>?_;refine pJ (tQ (fl rfl)) fun bs hbs nd hb=>?_;have hvs:vs=(bs.map Value.ref).toArray:=by exact AZ (BE hbs) rfl
  subst hvs;have hlen:bs.length=l.length:=by
   have:=ab.length ra;rw[hbs,Bx] at this;exact this
  have lo:∀b∈bs,s.heap.objs.size<=b:=fun b hm=>Bf (CW ha) (hb b hm).1;refine k (.ref a) s' (fun b=>b∈bs) e1 (fun b q=>⟨lo b q,?_⟩) ⟨a,bs,n,rfl,fun z=>z.elim (wn a ha) fun z=>Bd _ (hb a z).1,g,nd,by exact AZ hlen<|AZ (Bx _) rfl,by refine AZ (Bx _) ?_;exact hl,fun i b l' h1 h2=>?_⟩ (fun b o=>?_) fun d e=>nomatch e
  ·refine uy (hb b q) fun J J g'=>?_
   exact BG g'
  ·have hm:=Co h1
   refine uy (hb b hm) fun J n' g'=>?_;replace h2:=(CU)▸h2;refine ak (aI h2) fun J J e91=>?_;subst e91;exact⟨b, #[],n',rfl,.inr hm,wcn b (lo b hm),g',Cp _,ab.nil⟩
  ·refine yn o fun c' bs' n' e g' m'=>?_
   obtain rfl:=Value.ref.inj e;obtain rfl:=jV g g';exact m'
theorem wT (hK:20<=K):∀(ms:List Nat)(es:List E)(l:List fu)(N:AP)(s:Be),(∀e∈es,ku B K Φ e)->Ag Φ Γ ρ ms es=some l->ay B s₀ s->(∀b,N b->s₀.heap.objs.size<=b/\b < s.heap.objs.size)->Ctx B Γ Wc W pe ρ s₀->aD A K->∀{E:VS}{Q:List Value->Be->Prop},
  (∀vs s' N',ay B s s'->(∀b,N b->N' b)->(∀b,N' b->N b\/s.heap.objs.size<=b)->(∀b,N' b->b < s'.heap.objs.size)->l.length=vs.length->(∀q∈l.zip vs,aX B pe.locals s'.heap Wc (cw W N') q.1 q.2/\(∀d,q.1≠.sealed d)/\∀b,aU s'.heap q.1 q.2 b->N' b/\s.heap.objs.size<=b)->
   (l.zip vs).Pairwise (fun p q=>∀b,aU s'.heap p.1 p.2 b->¬aU s'.heap q.1 q.2 b)->Q vs s')->wpAny B.M A (GJ (C6 (fq B.nm es) pe)) Q E s
 |[],[],l,N,s,_,h,e0,hN,X,R,E,Q,k=>by
  obtain rfl:=A0 h;exact Cj (k [] s N (ay.refl _) (fun J q=>q) (fun J q=>.inl q) (fun b q=>(hN b q).2) rfl (fun J h=>bE h) B3)
 |[],_::_,_,_,_,_,h,_,_,_,_,_,_,_=>ah h
 |_::_,[],_,_,_,_,h,_,_,_,_,_,_,_=>ah h
 |m::ms,e::es,l,N,s,hP,h,e0,hN,X,R,E,Q,k=>by
  refine ak (ai h) fun r h1 h2=>?_;refine ak (ai h2) fun d hd h3=>?_;refine ak (ai h3) fun en hen h4=>?_;refine ak (ai h4) fun l' hl h5=>?_;obtain rfl:=A0 h5;have Xs:=Ctx.grow O X (e0.toP ⟨fun J=>False,fun J=>False⟩) (fun b q=>q.elim) (fun b q=>q.elim) hN;refine AZ a0<|AZ (aC _ _ _ _) ?_
  refine B5 (ent_ok O hK (hP e Bj) h1 hd hen Xs R fun v s1 M e1 hM r1 ho hs=>?_);refine wT hK ms es l' (cw N M) s1 (fun e he=>hP e (Bi _ he)) hl (e0.trans e1) (fun b q=>q.elim (fun q=>⟨(hN b q).1,Ba (hN b q).2 e1.size⟩) fun q=>⟨Bf e0.size (hM b q).1,(hM b q).2⟩) X R fun vs s2 N' e2 n1 n2 n3 hlen rl hp=>?_;have up:∀b,cw W N' b->cw (cw W N) M b\/s1.heap.get? b=none:=fun b q=>q.elim (fun q=>.inl (.inl (.inl q))) fun q=>(n2 b q).elim (fun q=>.inl (q.elim (fun q=>.inl (.inr q)) .inr)) fun q=>.inr (BY q);have kW:=e2.kW (W:=cw (cw W N) M) fun b t=>.inl (.inl (X.tW' b t));have kc:∀c o,¬cw (cw W N) M c->s1.heap.get? c=some o->s2.heap.get? c=some o:=fun c o w q=>kW c o (.inl w) q;have r2:aX B pe.locals s2.heap Wc (cw W N') en v:=r1.map (fun d u r=>aw.move O kW up d u r) (fun d u r=>ab.move O kW up d u r) (fun c o w q=>⟨kc c o w q,fun z=>(up c z).elim w fun z=>by rw[q] at z;exact kS z⟩)
   (fun b o w wc J=>⟨⟨.inr (n1 b (.inr (ho b o))),fun z=>wc (.inl z)⟩,fun ob q=>e2.keep b ob (fun t=>wc (.inl (X.tW b t))) q⟩) fun J J q=>q
  have hob:∀b,aU s2.heap en v b->M b:=fun b o=>ho b (aU.back r1 kc o);refine k (v::vs) s2 N' (e1.trans e2) (fun b q=>n1 b (.inl q)) (fun b q=>(n2 b q).elim (fun q=>q.imp id fun q=>(hM b q).1) fun q=>.inr (Bf e1.size q)) n3 (congrArg (·+1) hlen) (fun q hq=>?_) (BV.mpr ⟨fun q hq b o1 o2=>?_,hp⟩)
  ·rcases Bw.mp hq with rfl|hq
   ·exact⟨r2,hs,fun b o=>⟨n1 b (.inr (hob b o)),(hM b (hob b o)).1⟩⟩
   ·refine pL (rl q hq) fun a1 a2 a3=>?_
    exact⟨a1,a2,fun b o=>⟨(a3 b o).1,Bf e1.size (a3 b o).2⟩⟩
  ·have h1:=(hM b (hob b o1)).2
   exact Bd _ (Ba h1 ((rl q hq).2.2 b o2).2)
end
end Mine
namespace Mine
variable {B:Bs}
section
variable (O:B.Ok)
include O
variable {Γ:aj}{ρ:ac}{Wc W:AP}{pe:Env}{A:BO}{s s₀:Be}{K N:Nat}{Φ:bU}
set_option tactic.hygienic true in
theorem c7:∀(n:Nat)(e:E),o7 n e=true->DZ n (e.py B.nm)=false
 |n,e,h=>by
  cases e
  case bin a op b p=>
   cases n with
   |zero=>exact ce h
   |succ n=>
    show(DZ n (a.py B.nm)&&DZ n (b.py B.nm))=false;rcases Fh.mp (show(o7 n a||o7 n b)=true from h) with h|h
    ·refine AZ (c7 n a h) ?_;rfl
    ·exact AZ (c7 n b h)<|AZ (E8 _) rfl
  case idx a b p=>
   cases n with
   |zero=>exact ce h
   |succ n=>
    show(DZ n (a.py B.nm)&&DZ n (b.py B.nm))=false;rcases Fh.mp (show(o7 n a||o7 n b)=true from h) with h|h
    ·refine AZ (c7 n a h) ?_;rfl
    ·exact AZ (c7 n b h)<|AZ (E8 _) rfl
  case name=>cases n<;>exact O.dbg _
  case bi=>cases n<;>exact O.dbg _
  all_goals cases n<;>first|rfl|exact ce h
theorem km:∀es:List E,es.any E.notConst=true->(fq B.nm es).all (DZ 8)=false
 |[],h=>ce h
 |e::r,h=>by
  simp only[a0,GD];rw[D1,BZ] at h;rcases h with h|h
  ·refine AZ (c7 O 8 e h) ?_;rfl
  ·refine AZ (km r h) ?_;simp
theorem l3:∀es:List E,es.all E.isConst=true->(fq B.nm es).all (foldedForSure 8)=true
 |[],_=>rfl
 |e::r,h=>by
  simp only[a0,GD];replace h:=(Bz _ _)▸GD▸h;refine AZ (l3 r h.2)<|AZ (Fm _) ?_
  have h:=h.1
  cases e<;>first|rfl|exact ce h
theorem i4 (pe:Env) (line:Nat):∀xs:List (Nat×Pos),let ns:=(xs.map fun q=>Cd (B.nm q.1) q.2).filterMap (fun
  |.Name id pos=>if pe.kindOf id==some .local&&pos.line==line then some id else none
  |_=>none);ns.length<=xs.length/\(ns.length=xs.length->ns=xs.map fun q=>B.nm q.1)
 |[]=>⟨Bq _,fun J=>rfl⟩
 |q::r=>by
  refine aS (i4 pe line r) fun h1 h2=>?_;dsimp only at h1 h2 ⊢;refine AZ Bo<|AZ Fg ?_
  dsimp only
  by_cases hc:(pe.kindOf (B.nm q.1)==some .local&&q.2.line==line)=true
  ·refine AZ (if_pos hc) ?_
   exact⟨Cs h1,fun e=>congrArg (B.nm q.1::·) (h2 (D2 e))⟩
  ·refine AZ (if_neg hc) ?_
   exact⟨CW h1,fun e=>absurd (e▸h1:(q::r).length<=r.length) (G9 _)⟩
theorem uK {xs:List (Nat×Pos)}{es:List E}{k k':Nat}{tp p':Pos}(h:(es.any E.notConst||es.all E.isConst)=true):FM [.Tuple (xs.map fun q=>.Name (B.nm q.1) q.2) k tp] (.Tuple (fq B.nm es) k' p') pe=pure none\/
  FM [.Tuple (xs.map fun q=>.Name (B.nm q.1) q.2) k tp] (.Tuple (fq B.nm es) k' p') pe=pure (some (xs.map fun q=>B.nm q.1)):=by
 unfold FM;dsimp only;generalize hl:(((xs.map fun q=>Cd (B.nm q.1) q.2).head?.map (·.pos.line)).getD 0)=line;have hn:=i4 O pe line xs;dsimp only at hn
 generalize hns:((xs.map fun q=>Cd (B.nm q.1) q.2).filterMap (fun
  |.Name id pos=>if pe.kindOf id==some .local&&pos.line==line then some id else none
  |_=>none))=ns at hn ⊢
 split
 ·exact .inl rfl
 ·split
  ·exact .inl rfl
  ·split
   ·exact .inl rfl
   ·rename_i h3
    split
    ·exact .inl rfl
    ·rename_i h4
     refine .inr ?_;rcases Fh.mp h with h|h
     ·refine AZ (km O es h) ?_
      simp only[BP,if_false];have:ns.length=xs.length:=by
       simp only[BZ,bne_iff_ne,ne_eq,not_or,Decidable.not_not,Bx] at h3;exact h3.1
      exact AZ (hn.2 this) rfl
     ·exact absurd (l3 O es h) h4
omit O in
theorem nd_idx {α:Type}{l:List α}{i j:Nat}{a:α}(nd:l.Nodup)(h1:l[i]?=some a)(h2:l[j]?=some a):i=j:=by
 refine x1 (B0.mp h1) fun a1 a2=>?_;refine x1 (B0.mp h2) fun b1 b2=>?_;exact(HC a1 nd).mp (h1.trans h2.symm)
theorem lP (env:Env)(v:Value)(st:List (Value->Sem Unit)):assignStores env v none st=(assignAll v st >>= fun J=>(pure Flow.next:Sem Flow)):=rfl
theorem sV (env:Env)(v:Value)(names:List Str)(st:List (Value->Sem Unit)):assignStores env v (some names) st=(rule "assign.swapped-stores" >>= fun J=>unpackItems v names.length none >>= fun items=>G7 (names.reverse.map fun n=>GQ env n) items.reverse >>= fun J=>(pure Flow.next:Sem Flow)):=rfl
theorem mJ:∀(l:List ((Nat×Pos)×fu))(ρ:ac) (y:Nat),(∀q∈l,q.1.1≠y)->fJ l ρ y=ρ y
 |[],_,_,_=>rfl
 |q::r,ρ,y,h=>by
  show fJ r (ρ.set q.1.1 q.2) y=ρ y;exact AZ (mJ r _ y fun q hq=>h q (Bi _ hq))<|AZ (ac.set_ne O _ _ (Fj (h q Bj))) rfl
theorem rH:∀(l:List ((Nat×Pos)×fu))(ρ:ac),(l.map (·.1.1)).Nodup->∀q∈l,fJ l ρ q.1.1=some q.2
 |[],_,_,q,h=>by exact bE h
 |a::r,ρ,hn,q,h=>by
  simp only[Bo,CD] at hn;show fJ r (ρ.set a.1.1 a.2) q.1.1=some q.2;rcases Bw.mp h with rfl|h
  ·rw[mJ O,ac.set_self O]
   intro z hz e;exact hn.1 (BC.mpr ⟨z,hz,e⟩)
  ·exact rH r _ hn.2 q h
theorem z6 (l:List ((Nat×Pos)×fu))(ρ:ac)(hn:(l.map (·.1.1)).Nodup):fJ l.reverse ρ=fJ l ρ:=by
 funext y
 by_cases h:∃q∈l,q.1.1=y
 ·refine ak h fun q hq e91=>?_
  subst e91;exact AZ (rH O l ρ hn q hq)<|AZ (rH O l.reverse ρ (by refine AZ DT ?_;exact GT.mpr (List.Pairwise.imp Fj hn)) q (DS.mpr hq)) rfl
 ·rw[mJ O,mJ O]
  ·exact fun q hq e=>h ⟨q,hq,e⟩
  ·exact fun q hq e=>h ⟨q,DS.mp hq,e⟩
theorem tR {s':Be}{b:Addr}(X:Ctx B Γ Wc W pe ρ s)(e:ay B s s')(hb:s.heap.objs.size<=b):vK B pe ρ s'.heap b:=fun y e' w hy hl o=>by
 refine ak (X.vars y _ hy) fun w0 l0 r0=>?_;obtain rfl:=dA.uniq hl (X.locmove e l0);exact Bd _ (Ba (X.wlt b (aU.w r0 (aU.back r0 (fun c o w q=>e.keep c o (fun t=>w (X.tW' c t)) q) o)).1.1) hb)
theorem st_asgT {xs:List (Nat×Pos)}{ms:List Nat}{k:Nat}{es:List E}{k':Nat}{p' tp p:Pos}(hK:20<=K)(hs:∀e∈es,ku B K Φ e):cQ B K Φ N (.asgT xs ms k (.tup es k' p') tp p):=by
 intro Γ ρ out h Wc W pe A s Q Ex rest X R kk;simp only[lK,Bh,Bg] at h;refine ak h fun l h1 h=>?_;refine oE h fun hc h=>?_;refine x04 hc fun hlen hany hnd hall hl=>?_;obtain rfl:=A0 h;have hmine:∀q∈xs,(Γ q.1=some .local\/Γ q.1=some .cell)/\¬am ρ q.1:=fun q hq=>cj O (Bp.mp hall q hq);have hpy:St.py B.nm (.asgT xs ms k (.tup es k' p') tp p)++rest=.Assign [.Tuple (xs.map fun q=>.Name (B.nm q.1) q.2) k tp] (.Tuple (fq B.nm es) k' p') p::rest:=rfl;refine AZ hpy ?_;refine Br ?_;refine AZ (exec_Assign_arm _ _ _) ?_;refine Bc (B8 ?_);have hsw:swapsWithSole [.Tuple (xs.map fun q=>.Name (B.nm q.1) q.2) k tp] (.Tuple (fq B.nm es) k' p') p.line pe=pure false:=rfl;refine AZ hsw ?_;refine Bc (Bk ?_);refine AZ (if_neg (by decide)) ?_;refine Bc (Tuple_ ?_);refine AZ (bH O _ _ _ _) ?_;refine wT O hK ms es l (fun J=>False) s hs h1 (ay.refl _) (fun b q=>q.elim) X R fun vs s1 M e1 J n2 n3 hlv rl hp=>?_;have hlv':vs.length<=lim:=hlv▸hl;refine CB ?_ (by show vs.toArray.size<=sizeLine;refine AZ B7 ?_;exact aE hlv');have e2:ay B s1 { s1 with heap:=s1.heap.push { cls:=.type "tuple", data:=.seq vs.toArray } }:=ay.push O _ s1.toks
 have e02:=e1.trans e2;have hM:∀b,M b->s.heap.objs.size<=b/\b < ({ s1 with heap:=s1.heap.push { cls:=.type "tuple", data:=.seq vs.toArray } }:Be).heap.objs.size:=fun b q=>⟨(n2 b q).elim False.elim id,Ba (n3 b q) e2.size⟩
 have X2:=Ctx.growOwn O X e02 hM;have g1:SG Wc W s Wc (cw W M):=⟨fun b q=>q,fun b q=>q.imp_right fun q=>(hM b q).1,fun b q n=>q.elim (fun q=>.inl ⟨q,n⟩) fun q=>.inr (hM b q).1⟩;have own1:∀b,(cw W M) b/\¬Wc b->(W b/\¬Wc b)\/s.heap.objs.size<=b:=fun b q=>q.1.elim (fun z=>.inl ⟨z,q.2⟩) fun z=>.inr (hM b z).1;have fin:∀s3,Ctx B Γ Wc (cw W M) pe (fJ (xs.zip l) ρ) s3->ao B (fB (cw W M) Wc) { s1 with heap:=s1.heap.push { cls:=.type "tuple", data:=.seq vs.toArray } } s3->wpAny B.M A (execs rest pe) Q Ex s3:=fun s3 X3 e3=>
  kk s3 Wc (cw W M) g1 X3 ((e02.toP _).trans e3 own1 fun i q=>q.elim)
 have ht:({ s1 with heap:=s1.heap.push { cls:=.type "tuple", data:=.seq vs.toArray } }:Be).heap.IsTuple s1.heap.objs.size vs.toArray:=⟨_,BD _ rfl,rfl,0,rfl⟩
 have ER:∀h',(∀b o,(s1.heap.push { cls:=.type "tuple", data:=.seq vs.toArray }).get? b=some o->h'.get? b=some o)->(s1.heap.push { cls:=.type "tuple", data:=.seq vs.toArray }).objs.size<=h'.objs.size->mN B pe ρ Wc (cw W M) h' l vs:=fun h' kp hsz=>by
  have e3:ay B s { s1 with heap:=h' }:=e02.trans (gc O (s:={ s1 with heap:=s1.heap.push { cls:=.type "tuple", data:=.seq vs.toArray } }) (s':={ s1 with heap:=h' }) kp hsz rfl rfl)
  have kp1:∀b o,s1.heap.get? b=some o->h'.get? b=some o:=fun b o q=>kp b o (By _ q);have bk:∀q∈l.zip vs,∀b,aU h' q.1 q.2 b->aU s1.heap q.1 q.2 b:=fun q hq b o=>aU.back (rl q hq).1 (fun c o J g=>kp1 c o g) o
  exact⟨hlv,fun q hq=>⟨(rl q hq).1.map (fun d u r=>aw.move O (fun b o J e=>kp1 b o e) (fun b q=>.inl q) d u r) (fun d u r=>ab.move O (fun b o J e=>kp1 b o e) (fun b q=>.inl q) d u r) (fun c o w g=>⟨kp1 c o g,w⟩) (fun b J w wc J=>⟨⟨w,wc⟩,fun o g=>kp1 b o g⟩) fun J J q=>q,(rl q hq).2.1,
   fun b o=>tR O X e3 ((rl q hq).2.2 b (bk q hq b o)).2⟩,hp.imp_of_mem fun{a b} ha hb h c oa ob=>h c (bk a ha c oa) (bk b hb c ob)⟩
 rcases uK O (pe:=pe) (xs:=xs) (es:=es) (k:=k) (k':=k') (tp:=tp) (p':=p') hany with hw|hw
 ·refine AZ hw ?_
  refine Bc (Bk ?_);refine AZ (lP O _ _ _) ?_;refine Bc ?_;have ha:assignAll (.ref s1.heap.objs.size) ((EG [GK (xs.map fun q=>Cd (B.nm q.1) q.2) k tp] pe).map (·.2))=DG (.Tuple (xs.map fun q=>.Name (B.nm q.1) q.2) k tp) pe (.ref s1.heap.objs.size):=rfl;refine AZ ha ?_;exact nE O (Z:=fun b=>cw W M b/\¬Wc b) R.handled hlen X2 hmine (fun b q=>q.1) (fun q hq b z=>fw O X2 (hmine q hq).2 b z) ht (fun h' kp hsz=>by refine AZ Cx ?_;exact ER h' kp hsz) fun s3 X3 e3=>Bk (fin s3 X3 e3)
 ·refine AZ hw ?_
  refine Bc (Bk ?_);refine AZ (sV O _ _ _ _) ?_;refine Bc (FT ?_);refine AZ (show(xs.map fun q=>B.nm q.1).length=vs.toArray.size by simp[hlen,hlv]) ?_;refine Bc (Mine.uz (Hd R.handled ht fun h' he hsz=>?_));have kp:∀b o,({ s1 with heap:=s1.heap.push { cls:=.type "tuple", data:=.seq vs.toArray } }:Be).heap.get? b=some o->h'.get? b=some o:=fun b o e=>he b o (DA (BG e)) e
  have e3:ay B { s1 with heap:=s1.heap.push { cls:=.type "tuple", data:=.seq vs.toArray } } { s1 with heap:=h' }:=gc O kp hsz rfl rfl
  have X3:=X2.move O e3;refine pL (zip3 xs l vs hlen hlv) fun z1 z2 z3=>?_;have ER':=ER h' kp hsz;have G:=rh O (A:=A) (Z:=fun b=>cw W M b/\¬Wc b) (fun b q=>q.1) (st:=fun q=>GQ pe (B.nm q.1)) (fun q v Q E s h=>wpAny_bindName h) (xs.zip (l.zip vs)).reverse ρ { s1 with heap:=h' } (fun J s4=>wpAny B.M A (pure Flow.next) (fun f s'=>wpAny B.M A (execs rest pe) Q Ex s') Ex s4) Ex X3 (fun q hq=>hmine q.1 (CL (DS.mp hq)).1)
   (fun q hq b z=>fw O X3 (hmine q.1 (CL (DS.mp hq)).1).2 b z) (fun q hq=>ER'.at' _ (CL (DS.mp hq)).2)
   (GT.mpr ((n8 xs (l.zip vs) ER'.pair).imp fun h c o1 o2=>h c o2 o1)) fun s4 X4 e4=>Bk ?_
  ·rw[DT,DT,z1,show(xs.zip (l.zip vs)).map (fun q=>GQ pe (B.nm q.1.1))=(xs.map fun q=>B.nm q.1).map fun n=>GQ pe n by refine AZ BR ?_;exact(BR (l:=xs.zip (l.zip vs)) (f:=(·.1)) (g:=fun q:Nat×Pos=>GQ pe (B.nm q.1))).symm.trans (congrArg _ z3), <-DT] at G
   refine Bc ?_;refine AZ (show vs.toArray.toList.reverse=vs.reverse by exact AZ Cx rfl) ?_;exact G
  ·rw[DT,z2,z6 O _ _ (by refine AZ (show(xs.zip l).map (·.1.1)=((xs.zip l).map (·.1)).map (·.1) by refine AZ BR ?_;rfl)<|AZ (List.map_fst_zip (by lia)) ?_;exact hnd)] at X4
   exact fin s4 X4 ((e3.toP _).trans e4 (fun b q=>.inl q) fun i q=>q.elim)
theorem xL (nm:Nat->Str){e:E}(h:(e.isName||e.isCall)=true)(ts:List Expr)(k l:Nat)(tp:Pos)(env:Env):swapsWithSole [.Tuple ts k tp] (e.py nm) l env=pure false/\FM [.Tuple ts k tp] (e.py nm) env=pure none:=by
 cases e<;>first|exact⟨rfl,rfl⟩|exact ce h
set_option tactic.hygienic true in
theorem st_asgU {xs:List (Nat×Pos)}{k:Nat}{e:E}{tp p:Pos}(he:bg B K Φ e):cQ B K Φ N (.asgU xs k e tp p):=by
 intro Γ ρ out h Wc W pe A s Q Ex rest X R kk;replace h:=lJ▸h;refine aS (cq h) fun hc h'=>?_;refine ak (ai h') fun r h1 h2=>?_
 split at h2
 case h_2=>exact ah h2
 rename_i ds hd
 refine aS (aJ h2) fun hc2 e91=>?_;subst e91;have hmine:∀q∈xs,(Γ q.1=some .local\/Γ q.1=some .cell)/\¬am ρ q.1:=fun q hq=>cj O (Bp.mp hc2.2 q hq);have hpy:St.py B.nm (.asgU xs k e tp p)++rest=.Assign [.Tuple (xs.map fun q=>.Name (B.nm q.1) q.2) k tp] (e.py B.nm) p::rest:=rfl;refine AZ hpy ?_;refine Br ?_;refine aS (xL O B.nm hc (xs.map fun q=>Cd (B.nm q.1) q.2) k p.line tp pe) fun w1 w2=>?_;refine AZ (exec_Assign_arm _ _ _) ?_;refine Bc (B8 ?_);refine AZ w1 ?_;refine Bc (Bk ?_);refine AZ (if_neg (by decide)) ?_;refine Bc (cX O he h1 hd X R fun v s1 e1 X1 q1=>?_);refine AZ w2 ?_;refine Bc (Bk ?_);refine AZ (lP O _ _ _) ?_;refine Bc ?_;have ha:assignAll v ((EG [GK (xs.map fun q=>Cd (B.nm q.1) q.2) k tp] pe).map (·.2))=DG (.Tuple (xs.map fun q=>.Name (B.nm q.1) q.2) k tp) pe v:=rfl;refine AZ ha ?_;exact jn O (Z:=fun b=>W b/\¬Wc b) R.handled hc2.1 X1 hmine (fun b q=>q.1) (fun q hq b z=>fw O X1 (hmine q hq).2 b z) q1 fun s3 X3 e3=>Bk (kk s3 Wc W (SG.refl O _ _ _) X3 ((e1.toP _).trans e3 (fun b q=>.inl q) fun i q=>q.elim))
omit O in
theorem yj {ll l':List (List D)}{j y:D}(h:uh ll j y=some l'):∃a l,j=.int a/\(0<=a/\a < ll.length)/\ll[a.toNat]?=some l/\l.length < lim/\ll.set a.toNat (l++[y])=l':=by
 refine ak (ai h) fun a ha h1=>?_;refine aS (cq h1) fun hc h2=>?_;refine ak (ai h2) fun l hl h3=>?_;refine aS (aJ h3) fun h4 h5=>?_;exact⟨a,l,int?_eq ha,hc,hl,h4,h5⟩
set_option tactic.hygienic true in
theorem st_app2 {x:Nat}{i e:E}{xp sp ap cp p:Pos}(hi:bg B K Φ i)(he:bg B K Φ e):cQ B K Φ N (.app2 x i e xp sp ap cp p):=by
 intro Γ ρ out h Wc W pe A s Q Ex rest X R k;rw[lM] at h
 split at h
 case h_2=>exact ah h
 rename_i ll hx
 refine aS (cq h) fun hline h'=>?_;refine ak (ai h') fun rj hj1 h2=>?_;refine ak (ai h2) fun j hj h3=>?_;refine ak (ai h3) fun ry hy1 h4=>?_;refine ak (ai h4) fun y hy h5=>?_;refine ak (aI h5) fun l' happ e91=>?_;subst e91;refine x24 (yj happ) fun j l e91=>?_;subst e91;intro hlt hl hllim e92;subst e92;refine ak (X.vars x _ hx) fun v lv r0=>?_;have r0':=r0;obtain⟨c,bs,n,rfl,w,g,nd,len,hl2,ri⟩:=r0;have hbl:j.toNat < bs.length:=by refine AZ len ?_;exact(B0.mp hl).1
 have hb:bs[j.toNat]?=some bs[j.toNat]:=CA hbl;obtain⟨b,vs,nb,eb,hW,hWc,hg,hlb,ra⟩:=ri _ _ _ hb hl;have eb:=Value.ref.inj eb;replace hb:=eb▸hb;have hmem:b∈bs:=Co hb;have nTc:¬B.T c:=fun t=>w (X.tW' c t);have nT:¬B.T b:=fun t=>hWc (X.tW _ t);have hsz:=ab.length ra;rw[Ca] at hsz;have hj63:j < 2 ^ 63:=by
  have:(ll.length:Int)<=1048576:=by unfold lim at hl2;lia
  lia
 refine Br (wpAny_Expr ?_ (by unfold Ft;refine AZ X.fn ?_;rfl) rfl);refine wpAny_Call_append rfl (by refine AZ (aC _ _ _ _) ?_;rfl) hline (by refine AZ (aC _ _ _ _) ?_;rfl) ?_;refine Subscript_ (BX (Ctx.name O X lv (cX O hi hj1 hj X R fun wi s1 e1 X1 q1=>?_) (O.cld x)) (O.dbg x));refine x1 (j6 q1) fun t e91=>?_;subst e91;have g1:=e1.keep c _ nTc g;have L1:s1.heap.IsList c (bs.map Value.ref).toArray:=⟨_,g1,rfl,n,rfl⟩;refine tail_any L1.typeIs F6.lookup ?_ (zm O _ _ _ _);refine FU ⟨_,g1,rfl,n,rfl⟩ hlt.1 hj63 (by refine AZ (GV)<|AZ (CU)<|AZ hb ?_;rfl) ?_;have hg1:=e1.keep b _ nT hg;refine⟨b,vs,rfl,⟨_,nb,hg1,rfl,rfl,rfl⟩,cX O he hy1 hy X1 R fun wv s2 e2 X2 q2=>?_⟩;have e02:=e1.trans e2;have hg2:=e02.keep b _ nT hg;have g2:=e02.keep c _ nTc g;refine E4 ⟨nb,hg2⟩ (fun h' hl' hs'=>?_) (aE (by lia));refine x1 hl' fun n' hg'=>?_;have hcb:c≠b:=fun e=>w (e▸hW);have oa:aU s2.heap (.own2 ll) (.ref c) b:=⟨c,bs,n,rfl,g2,hmem⟩
 obtain⟨X3,e3⟩:=Ctx.setAt O (t:=s2.toks) (en':=.own2 (ll.set j.toNat (l++[y]))) X2 hx (X.locmove e02 lv) oa (fun J e=>nomatch e) (fun J e=>nomatch e) hs' (fun keepW=>by
  refine⟨c,bs,n,rfl,w,hs'.extBut _ _ hcb g2,nd,by refine AZ EY ?_;exact len,by refine AZ EY ?_;exact hl2,fun i b' l' h1 h2=>?_⟩;rw[HB] at h2
  by_cases hi:j.toNat=i
  ·subst hi
   obtain rfl:=A0 (hb.symm.trans h1);rw[if_pos rfl] at h2
   split at h2
   ·obtain rfl:=A0 h2
    refine⟨b,vs.push wv,n',rfl,hW,hWc,hg',by simp only[Bm,BA,Da];lia,?_⟩;refine AZ Hn ?_;exact ab.append (ab.move O keepW (fun b q=>.inl q) _ _ (ab.eff O X.tW' ra e02)) (ab.cons (aw.move O keepW (fun b q=>.inl q) _ _ q2) ab.nil)
   ·exact ah h2
  ·rw[if_neg hi] at h2
   obtain⟨b2,vs2,n2,e,a1,a2,a3,a4,a5⟩:=ri i b' l' h1 h2;obtain rfl:=Value.ref.inj e
   have hne:b'≠b:=fun e=>hi (by
    subst e
    exact(nd_idx nd hb h1))
   exact⟨b',vs2,n2,rfl,a1,a2,hs'.extBut _ _ hne (e02.keep _ _ (fun t=>a2 (X.tW _ t)) a3),a4,ab.move O keepW (fun b q=>.inl q) _ _ (ab.eff O X.tW' a5 e02)⟩) (fun b' o=>by
  refine yn o fun c' bs' n'' e g' m=>?_;obtain rfl:=Value.ref.inj e;have g3:h'.get? c=some { cls:=.type "list", dict:=none,data:=.seq (bs.map Value.ref).toArray n,slots:=#[] }:=hs'.extBut _ _ hcb g2
  obtain rfl:=jV g3 g'
  exact⟨c,bs,n,rfl,g2,m⟩)
 exact k _ Wc W (SG.refl O _ _ _) X3 ((e02.toP _).trans e3 (fun b q=>.inl q) fun i q=>.inl q)
structure iP (B:Bs)(x id f:Nat)(ps:List (Nat×Pos))(body:List Stmt)(sc:LK)(gen:Bool):Prop where
 ls:B.LS id=some ⟨aV B.nm ps,.stmts body,{ cy B.nm sc with isGenerator:=gen },B.qf f,av sc⟩
 qf:B.qf f=B.pq f++B.nm x
 ct:∃c P,B.CT f=some (c,P)
 doc:docOf body=none
theorem wB (nm:Nat->Str)(env:Env):∀ps:List (Nat×Pos),annotationsOf (ps.map fun q=>{ arg:=nm q.1,annotation:=none,pos:=q.2 }) env=[]
 |[]=>rfl
 |q::r=>wB nm env r
theorem st_def {x id f:Nat}{ps:List (Nat×Pos)}{body:List Stmt}{sc:LK}{gen:Bool}{p:Pos}(hl:iP B x id f ps body sc gen):cQ B K Φ N (.defS x id f ps body sc gen p):=by
 intro Γ ρ out h Wc W pe A s Q Ex rest X R k;simp only[lG] at h;refine oE h fun hc h=>?_;refine x03 hc fun hsc hf hff hm=>?_;simp only[Bh,Bg,Bl] at h;refine ak h fun caps hcaps e91=>?_;subst e91;refine aS (cj O hm) fun hk hns=>?_;rcases X.code with q|⟨q1,q2⟩
 ·exact absurd (hff.symm.trans q) hf
 rw[hff] at q1 q2;show wpAny B.M A (execs (.FunctionDef (B.nm x) (aV B.nm ps) body [] none [] { cy B.nm sc with isGenerator:=gen } none (B.nm x) p::rest) pe) Q Ex s;refine Br ?_;refine AZ (exec_def _ _ _ _ _ _ _) ?_;have hqn:qualnameIn pe (B.nm x) (B.nm x)=B.qf f:=by
  unfold qualnameIn;refine AZ hl.qf<|AZ (BE q2) ?_
  rcases hk with hk|hk<;>(refine AZ ((X.kinds _ _ hk).1) ?_;rfl)
 have hann:annTrees (aV B.nm ps) none pe=[]:=by
  unfold annTrees aV;simp only[D8,CE,Option.toList_none];have e:evalOpt none pe=none:=rfl
  simpa [e] using wB O B.nm pe ps
 refine AZ hqn<|AZ hann ?_
 refine Bc (B8 (Bc (Cv (Bc (Bk (Bc (Cv (Bk (Cv (Bc (Bk ?_)))))))))));refine BH (zC O hl.ls hl.ct rfl (im O hsc) q1 (fun b e=>by cases e;exact hl.doc) X hcaps) ?_ fun J J f=>f.elim;rintro v s1 ⟨e1,r1⟩;refine Bc (B8 (Bc (wpAny_bindName (Ctx.store O (X.move O e1) hk hns r1 fun s2 X2 e2=>Bk ?_))));exact k s2 Wc W (SG.refl O _ _ _) X2 ((e1.toP _).trans e2 (fun b q=>.inl (fw O X hns b q)) fun i q=>q.elim)
end
end Mine
namespace Mine
variable {B:Bs}
structure Df where
 x:Nat
 id:Nat
 f:Nat
 ps:List (Nat×Pos)
 body:List Stmt
 sc:List (Nat×NameKind)
 gen:Bool
mutual
noncomputable def St.lms:St->List Lm
 |.asg _ e _ _=>e.lms
 |.own _ e _ _=>e.lms
 |.asgT _ _ _ e _ _=>e.lms
 |.asgU _ _ e _ _=>e.lms
 |.app2 _ i e _ _ _ _ _=>i.lms++e.lms
 |.augN _ _ e _ _=>e.lms
 |.augI _ i _ e _ _ _=>i.lms++e.lms
 |.app _ e _ _ _ _=>e.lms
 |.forS _ it body _=>it.lms++om body
 |.whl c body _=>c.lms++om body
 |.ifS c a b _=>c.lms++(om a++om b)
 |.ret e _=>e.lms
 |.tryS body _ _=>om body
 |_=>[]
noncomputable def om:List St->List Lm
 |[]=>[]
 |s::r=>s.lms++om r
end
mutual
noncomputable def St.dfs:St->List Df
 |.defS x id f ps body sc gen _=>[⟨x,id,f,ps,body,sc,gen⟩]
 |.forS _ _ body _=>oQ body
 |.whl _ body _=>oQ body
 |.ifS _ a b _=>oQ a++oQ b
 |.tryS body _ _=>oQ body
 |_=>[]
noncomputable def oQ:List St->List Df
 |[]=>[]
 |s::r=>s.dfs++oQ r
end
noncomputable def oZ (B:Bs)(l:List Df):Prop:=∀x∈l,iP B x.x x.id x.f x.ps x.body x.sc x.gen
theorem dfs1 {a b:List Df}(h:oZ B (a++b)):oZ B a:=fun x hx=>h x (D3 _ hx)
theorem dfs2 {a b:List Df}(h:oZ B (a++b)):oZ B b:=fun x hx=>h x (DO _ hx)
theorem Ax:oZ B []:=fun x hx=>bE hx
noncomputable def St.ok (B:Bs)(st:St):Prop:=fZ B st.lms/\oZ B st.dfs
noncomputable def jF (B:Bs)(ss:List St):Prop:=fZ B (om ss)/\oZ B (oQ ss)
theorem ci {ss:List St}(h:om ss=[])(h':oQ ss=[]):jF B ss:=by
 unfold jF;refine AZ h<|AZ h' ?_;exact⟨xT,Ax⟩
section
variable (O:B.Ok){K N:Nat}{Φ:bU}
include O
theorem noS {st:St}(h:∀Γ ρ,bJ Φ N Γ ρ st=none):cQ B K Φ N st:=by
 intro Γ ρ b hb;rw[h] at hb;exact ah hb
theorem jN (hK:24<=K)(P:bD B K Φ)(e:E)(h:e.ok B):bg B K Φ e:=(snd O hK P e h).1
theorem oT (hK:24<=K)(P:bD B K Φ)(e:E)(h:e.ok B):∀elt t it ifs r sc cp,e=.comp elt (.mk t it ifs::r) sc cp->bg B K Φ elt/\bg B K Φ it/\lr B K Φ ifs/\jg B K Φ r:=by
 rintro elt t it ifs r sc cp rfl;exact⟨jN O hK P elt (cS h),jN O hK P it (cS (bR h)),jO O ifs (y9 O hK P ifs (cS (bR (bR h)))),sndG O hK P r (bR (bR (bR h)))⟩
theorem own_of {x:Nat}{xp p:Pos}:∀{e:E},(∀es lp,e=.list es lp->iM B K Φ es)->cQ B K Φ N (.own x e xp p):=fun{e} h=>by
 cases e
 case list=>exact st_own O (h _ _ rfl)
 all_goals exact noS O fun J J=>rfl
theorem zv (hK:24<=K)(P:bD B K Φ)(e:E)(h:e.ok B):ku B K Φ e:=⟨jN O hK P e h,fun es p q=>by subst q;exact eP O es (y9 O hK P es h),oT O hK P e h⟩
theorem wA:∀{es:List E},okL B es->∀e∈es,e.ok B
 |[],_,_,h=>bE h
 |a::r,h,e,he=>(Bw.mp he).elim (fun q=>q▸cS h) fun q=>wA (bR h) e q
theorem asgT_of {xs:List (Nat×Pos)}{ms:List Nat}{k:Nat}{tp p:Pos}(hK:20<=K):∀{e:E},(∀es k' lp,e=.tup es k' lp->∀e∈es,ku B K Φ e)->cQ B K Φ N (.asgT xs ms k e tp p):=fun{e} h=>by
 cases e
 case tup=>exact st_asgT O hK (h _ _ _ rfl)
 all_goals exact noS O fun J J=>rfl
theorem sndSt (hK:24<=K)(P:bD B K Φ):∀st:St,st.ok B->cQ B K Φ N st:=
 St.rec (motive_1:=fun st=>st.ok B->cQ B K Φ N st) (motive_2:=fun ss=>jF B ss->gZ B K Φ N ss)
  (fun J e J J h=>st_asg O (Bf (by decide) hK) (jN O hK P e h.1) (oT O hK P e h.1))
  (fun J J J J h=>own_of O fun es lp e=>by subst e;exact eP O es (y9 O hK P es h.1))
  (fun J J J J J J h=>asgT_of O (Bf (by decide) hK) fun es k' lp e=>by subst e;exact fun e he=>zv O hK P e (wA O (es:=es) h.1 e he))
  (fun J J e J J h=>st_augN O (jN O hK P e h.1))
  (fun J i J e J J J h=>st_augI O (jN O hK P i (cS h.1)) (jN O hK P e (bR h.1)))
  (fun J J e J J h=>st_asgU O (jN O hK P e h.1))
  (fun J e J J J J h=>st_app O (jN O hK P e h.1))
  (fun J i e J J J J J h=>st_app2 O (jN O hK P i (cS h.1)) (jN O hK P e (bR h.1)))
  (fun J J=>noS O fun J J=>rfl)
  (fun J J J J J J J J h=>st_def O (h.2 _ Bj))
  (fun J it J J ib h=>st_for O (Bf (by decide) hK) (jN O hK P it (cS h.1)) (ib ⟨bR h.1,h.2⟩))
  (fun c J J ib h=>st_whl O (snd O hK P c (cS h.1)).2 (ib ⟨bR h.1,h.2⟩))
  (fun c J J J ia ib h=>st_if O (snd O hK P c (cS h.1)).2 (ia ⟨cS (bR h.1),dfs1 h.2⟩) (ib ⟨bR (bR h.1),dfs2 h.2⟩))
  (fun e J h=>st_ret O (jN O hK P e h.1))
  (fun J J J ib h=>st_try O (ib h))
  (fun J J=>st_frz O)
  (fun J J=>vY O)
  (fun J J J J J J J J J J J J J J J=>st_sub O)
  (fun J=>yS O)
  (fun J J is ir h=>v3 O (is ⟨cS h.1,dfs1 h.2⟩) (ir ⟨bR h.1,dfs2 h.2⟩))
theorem y8 (hK:24<=K)(P:bD B K Φ):∀ss:List St,jF B ss->gZ B K Φ N ss
 |[],_=>yS O
 |s::r,h=>v3 O (sndSt O hK P s ⟨cS h.1,dfs1 h.2⟩) (y8 hK P r ⟨bR h.1,dfs2 h.2⟩)
end
end Mine
namespace Mine
variable {B:Bs}
noncomputable def aq (ps:List Nat)(args:List D)(ρ:ac):ac:=(ps.zip args).foldl (fun ρ q=>ρ.set q.1 (.fz q.2)) ρ
noncomputable def aH (sc:LK) (f:Nat):aj:=⟨fun x=>sc.lookup x,f⟩
theorem aD.deeper {A:BO}{k:Nat}{env:Env}(h:aD A (k+2)):aD (A.deeper env) k:=
 ⟨h.handled,by have:=h.depth;show A.depth+1+k < 950;lia,by have:=h.units;show A.units+3+3 * k+300 < cLine;lia⟩
theorem aD.lim {A:BO}{k:Nat}(h:aD A k):A.depth < recursionLimit:=BI (FY _ k) (CP h.depth (by decide))
section
variable (O:B.Ok)
include O
variable {Γ:aj}{ρ:ac}{Wc W:AP}{pe:Env}{A:BO}{s s₀:Be}{K N:Nat}{Φ:bU}
theorem qG (f:Str×Value->PUnit->Sem (ForInStep PUnit))(hf:∀n v u,f (n,v) u=(do Eb pe n v;pure (.yield ⟨⟩))):∀(ps:List Nat)(args:List D)(vals:List Value)(ρ:ac)(s:Be)(Q:PUnit->Be->Prop)(E:VS),ps.length=args.length->
  Ctx B Γ Wc W pe ρ s->(∀x∈ps,(Γ x=some .local\/Γ x=some .cell)/\¬am ρ x)->ab B s.heap W args vals->
  (∀s',Ctx B Γ Wc W pe (aq ps args ρ) s'->ao B (fB W Wc) s s'->s'.heap.objs.size=s.heap.objs.size->Q ⟨⟩ s')->wpAny B.M A (forIn ((ps.map B.nm).zip vals) ⟨⟩ f) Q E s
 |[],[],vals,ρ,s,Q,E,_,X,_,r,k=>by
  simp only[Dx,Hy];exact Bk (k s X (ao.refl _ _) rfl)
 |[],_::_,_,_,_,_,_,h,_,_,_,_=>by simp at h
 |_::_,[],_,_,_,_,_,h,_,_,_,_=>by simp at h
 |x::ps,d::args,vals,ρ,s,Q,E,hl,X,hx,r,k=>by
  simp only[ab] at r;obtain⟨v,vs',rfl,rv,ra⟩:=r;simp only[Bo,Ce]
  (rw[EZ];refine AZ (hf _ _ _) ?_)
  have h1:=hx x Bj;refine Bc (Bc (Ctx.storeE' O X h1.1 h1.2 (fun J e=>by exact xO rfl e) (en:=.fz d) rv (fun J o=>o.elim) fun s1 X1 e1 hz1 J=>Bk ?_));have e1:ao B (fB W Wc) s s1:=e1.mono (fw O X h1.2) fun i q=>q;refine qG f hf ps args vs' _ s1 Q E (by simpa using hl) X1 (fun q hq=>⟨(hx q (Bi _ hq)).1,?_⟩) ?_ fun s2 X2 e2 hz2=>k s2 X2 (e1.own_trans O e2) (hz2.trans hz1)
  ·have h2:=(hx q (Bi _ hq)).2
   by_cases hqx:q=x
   ·rintro⟨d',e⟩;rw[hqx,ac.set_self O] at e;exact xO rfl (A0 e)
   ·rintro⟨d',e⟩;rw[ac.set_ne O _ _ hqx] at e;exact h2 ⟨d',e⟩
  ·exact ab.move O (e1.kW X.tW' fun b q=>q.1) (fun b q=>.inl q) _ _ ra
structure vL (B:Bs)(sc:LK)(cl:List (Str×Addr))(ρc:ac)(W:AP)(s:Be):Prop where
 nd:(sc.map (·.1)).Nodup
 kinds:∀x k,sc.lookup x=some k->k=.free\/k=.local\/k=.cell\/k=.globalImplicit
 free:∀x,sc.lookup x=some .free->∃c v d,cl.lookup (B.nm x)=some c/\s.heap.IsCell c (some v)/\¬W c/\ρc x=some (.sealed d)/\aw B s.heap W d v
 only:∀x c,cl.lookup (B.nm x)=some c->sc.lookup x=some .free
 apart:cl.Pairwise fun x y=>x.2≠y.2
 low:∀z∈cl,z.2 < s.heap.objs.size
 rho:∀x e,ρc x=some e->sc.lookup x=some .free
theorem tU {sc:LK}{scope:Scope}{f:Nat}{cl:List (Str×Addr)}{ρc:ac}{ps:List Nat}{args:List D}{vals:List Value}{qual:Str}{func:Option Addr}{code:Value}{E:VS}{Q:Env->Be->Prop}
  (hn:scope.names=aR B.nm sc) (hk:scope.kind=.function) (hcode:f=0\/(code=B.cd f/\qual=B.pq f)) (C:vL B sc cl ρc W s) (g:aK B s) (tW:∀b,B.T b->W b) (wlt:∀b,W b->b < s.heap.objs.size)
  (hps:∀x∈ps,sc.lookup x=some .local\/sc.lookup x=some .cell) (hl:ps.length=args.length) (ra:ab B s.heap W args vals)
  (k:∀s' env (W':AP),Ctx B (aH sc f) W W' env (aq ps args ρc) s'->(∀b,W' b->W b\/s.heap.objs.size<=b)->ay B s s'->(∀b,s.heap.objs.size<=b->b < s'.heap.objs.size->W' b)->env.scope=scope->Q env s'):
  wpAny B.M A (GO scope BQ cl ((ps.map B.nm).zip vals) qual func code none Cc) Q E s:=by
 refine Bc (show wpAny _ _ (alloc { cls:=.type "frame", data:=.dict #[] }) _ _ _ from wpAny_alloc ?_)
 refine Bc (wpAny_layCells _ (fun name kind cells=>by cases hkc:kind==NameKind.cell<;>simp only[hkc]) _ _ _ _ ?_);dsimp only;refine AZ hn<|AZ (show(s.heap.push { cls:=.type "frame", data:=.dict #[] }).objs.size=s.heap.objs.size+1 from BM ..) ?_
 have hL:(s.heap.push { cls:=.type "frame", data:=.dict #[] }).objs.size=s.heap.objs.size+1:=BM ..
 have hsz:=c5 O (aR B.nm sc) (s.heap.push { cls:=.type "frame", data:=.dict #[] })
 have cf:=fun x=>dw O x sc (s.heap.push { cls:=.type "frame", data:=.dict #[] }) cl C.nd
 replace cf:=hL▸cf;generalize hh':Ed (s.heap.push { cls:=.type "frame", data:=.dict #[] }) (aR B.nm sc)=h' at *
 have keep:∀b o,s.heap.get? b=some o->h'.get? b=some o:=fun b o e=>hh'▸Es _ _ b o (By _ e);have eff:ay B s { s with heap:=h' }:=gc O keep (by show s.heap.objs.size<=h'.objs.size;lia) rfl rfl;have hcell:∀x c,(CF (s.heap.objs.size+1) (aR B.nm sc) cl).lookup (B.nm x)=some c->(sc.lookup x=some .cell/\s.heap.objs.size+1<=c/\c < h'.objs.size/\h'.IsCell c none)\/(sc.lookup x=some .free/\cl.lookup (B.nm x)=some c):=fun x c e=>by
  by_cases hx:sc.lookup x=some .cell
  ·refine vQ ((cf x).1 hx) fun c' e1 e2 e3 e4=>?_
   obtain rfl:=A0 (e1.symm.trans e);exact .inl ⟨hx,e2,e3,e4⟩
  ·rw[(cf x).2 hx] at e
   exact .inr ⟨C.only x c e,e⟩
 let N:Addr->Prop:=fun b=>s.heap.objs.size<=b/\b < h'.objs.size
 let env:Env:={ scope:=scope,locals:=s.heap.objs.size,globals:=BQ,cells:=CF (s.heap.objs.size+1) (aR B.nm sc) cl,qual:=qual,func:=func,code:=code,frame:=some s.heap.objs.size,builtins:=Cc }
 have kind:∀x,env.kindOf (B.nm x)=sc.lookup x:=fun x=>by
  show scope.names.lookup (B.nm x)=_;exact AZ hn<|AZ (dt O _ _) rfl
 have up:∀d v,aw B s.heap W d v->aw B h' (cw W N) d v:=fun d v r=>aw.move O (fun b o J e=>keep b o e) (fun b q=>q.elim .inl fun z=>.inr (BY z.1)) d v r
 have X0:Ctx B (aH sc f) W (cw W N) env ρc { s with heap:=h' }:={
  good:=g.move eff
  fn:=hk
  glob:=rfl
  blt:=rfl
  tW:=tW
  cW:=fun b q=>.inl q
  wlt:=fun b q=>q.elim (fun z=>Ba (wlt b z) eff.size) fun z=>z.2
  loc:=⟨_,CN.keeps (CN.new s.heap (.type "frame")) fun b o e=>hh'▸Es _ _ b o e,rfl⟩
  locW:=⟨.inr ⟨Bq _,by show s.heap.objs.size < h'.objs.size;lia⟩,fun q=>Bd _ (wlt _ q)⟩
  ow:=fun b q n=>q.elim (fun z=>absurd z n) fun z=>g.hi z.1
  code:=hcode
  kinds:=fun x kk hx=>by
   refine⟨by refine AZ (kind x) ?_;exact hx,fun hc=>?_⟩;replace hx:sc.lookup x=some kk:=hx;rcases hc with rfl|rfl
   ·refine ak ((cf x).1 hx) fun c e J=>?_
    exact⟨c,e⟩
   ·refine x31 (C.free x hx) fun c v d h1 J=>?_
    exact⟨c,by show(CF (s.heap.objs.size+1) (aR B.nm sc) cl).lookup (B.nm x)=_;refine AZ ((cf x).2 (by refine AZ hx ?_;simp)) ?_;exact h1⟩
  cells:=fun x c e=>by
   rcases hcell x c e with⟨J,h1,h2,h3⟩|⟨hf,h1⟩
   ·exact⟨⟨_,h3⟩,fun t=>Bd _ (Ba (wlt _ (tW _ t)) (CX h1))⟩
   ·refine x33 (C.free x hf) fun c' v d e1 e2 e3 J=>?_
    obtain rfl:=A0 (h1.symm.trans e1);exact⟨⟨_,DH e2 keep⟩,fun t=>e3 (tW _ t)⟩
  apart:=dI O _ _ _ (fun z hz=>CV (C.low z hz)) C.apart
  cellW:=fun x c e=>by
   rcases hcell x c e with⟨J,h1,h2,h3⟩|⟨hf,h1⟩
   ·exact .inr ⟨.inr ⟨CX h1,h2⟩,fun q=>Bd _ (Ba (wlt _ q) (CX h1))⟩
   ·refine x34 (C.free x hf) fun c' v d J J J e4 J=>?_
    exact .inl ⟨d,e4⟩
  vars:=fun x en hx=>by
   have hf:=C.rho x en hx;refine x34 (C.free x hf) fun c v d e1 e2 e3 e4 e5=>?_;obtain rfl:=A0 (hx.symm.trans e4);refine⟨v,.inr ⟨.inr (by refine AZ (kind x) ?_;exact hf),c,?_,DH e2 keep⟩,up d v e5⟩;show(CF (s.heap.objs.size+1) (aR B.nm sc) cl).lookup (B.nm x)=some c;refine AZ ((cf x).2 (by refine AZ hf ?_;simp)) ?_;exact e1
  sealedW:=fun x hx=>by
   refine x1 hx fun d hx=>?_;have hf:=C.rho x _ hx;refine x33 (C.free x hf) fun c v d' e1 e2 e3 J=>?_;refine⟨c,?_,fun q=>q.elim e3 fun z=>Bd _ (Ba e2.lt z.1)⟩;show(CF (s.heap.objs.size+1) (aR B.nm sc) cl).lookup (B.nm x)=some c;refine AZ ((cf x).2 (by refine AZ hf ?_;simp)) ?_;exact e1
  owns:=fun x y e e' v v' b hx hy lx ly o J=>by
   have hf:=C.rho x _ hx;refine x34 (C.free x hf) fun c v d' J J J e4 J=>?_;obtain rfl:=A0 (hx.symm.trans e4)
   exact o.elim }
 have hns:∀x∈ps,¬am ρc x:=fun x hx ⟨d,e⟩=>by
  have hf:=C.rho x _ e;rcases hps x hx with h|h<;>(rw[hf] at h;exact nomatch h)
 refine Bc (qG O (pe:=env) (Γ:=aH sc f) (Wc:=W) (W:=cw W N) _ (fun J J J=>rfl) ps args vals ρc _ _ _ hl X0 (fun x hx=>⟨hps x hx,hns x hx⟩) (ab.move O (fun b o J e=>keep b o e) (fun b q=>q.elim .inl fun z=>.inr (BY z.1)) _ _ ra) fun s2 X2 e2 hz2=>Bk ?_);exact k s2 env (cw W N) X2 (fun b q=>q.imp_right fun z=>z.1) (ao.toEff eff e2 (fun b q=>q.1.elim (fun z=>absurd z q.2) fun z=>z.1) fun i q=>q.elim) (fun b h1 h2=>.inr ⟨h1,by rw[hz2] at h2;exact h2⟩) rfl
theorem mK {sc:LK}{scope:Scope}{f:Nat}{cl:List (Str×Addr)}{ρc:ac}{ps:List Nat}{args:List D}{vals:List Value}{qual:Str}{func:Option Addr}{code:Value}{E:VS}{Q:Env->Be->Prop}
  (hn:scope.names=aR B.nm sc) (hk:scope.kind=.function) (hcode:f=0\/(code=B.cd f/\qual=B.pq f)) (C:vL B sc cl ρc W s) (g:aK B s) (tW:∀b,B.T b->W b) (wlt:∀b,W b->b < s.heap.objs.size)
  (hps:∀x∈ps,sc.lookup x=some .local\/sc.lookup x=some .cell) (hl:ps.length=args.length) (ra:ab B s.heap W args vals)
  (k:∀s' env (W':AP),Ctx B (aH sc f) W W' env (aq ps args ρc) s'->(∀b,W' b->W b\/s.heap.objs.size<=b)->ay B s s'->Q env s'):
  wpAny B.M A (GO scope BQ cl ((ps.map B.nm).zip vals) qual func code none Cc) Q E s:=
 tU O hn hk hcode C g tW wlt hps hl ra fun s' env W' X h e J J=>k s' env W' X h e
end
inductive AY (B:Bs)(fd:Cu):Prop
 |mk (c:Addr) (o:Obj) (vs:Array Value) (t:Tok) (e:fd.code=.ref c) (nt:¬B.T c) (g:B.h₀.get? c=some o) (d:o.data=.fields vs) (x:vs[1]?=some (.str fd.qualname t))
end Mine
namespace Mine
variable {B:Bs}
structure bp (B:Bs)(f fid:Nat)(ps:List Nat)(sc:LK)(body:List Stmt)(fa:Addr)(fo:Obj)(fd:Cu):Prop where
 mg:B.mg (B.nm f)=some (.ref fa)
 nT:¬B.T fa
 at':B.h₀.get? fa=some fo
 data:fo.data=.func fd
 body:fd.body=.stmts body
 names:fd.scope.names=aR B.nm sc
 kind:fd.scope.kind=.function
 gen:fd.scope.isGenerator=false
 co:fd.scope.isCoroutine=false
 glob:fd.globals=BQ
 blt:fd.builtins=Cc
 clos:fd.closure=[]
 code:AY B fd
 bind:∀vals:List Value,vals.length=ps.length->Fu fd ⟨vals,[]⟩=pure ((ps.map B.nm).zip vals)
 fid:fid=0\/(fd.code=B.cd fid/\fd.qualname++(".<locals>." : Str)=B.pq fid)
 nd:(sc.map (·.1)).Nodup
 kinds:∀x k,sc.lookup x=some k->k=.local\/k=.cell\/k=.globalImplicit
 ps:∀x∈ps,sc.lookup x=some .local\/sc.lookup x=some .cell
noncomputable def cN (fr:List Nat)(caps:List D):ac:=fun x=>((fr.zip caps).lookup x).map .sealed
section
variable (O:B.Ok)
include O
variable {Γ:aj}{ρ:ac}{Wc W:AP}{pe:Env}{A:BO}{s s₀:Be}{K N:Nat}{Φ:bU}
theorem aK.lim (g:aK B s):s.heap.NoLimit:=by
 refine ak O.nolimit fun mc h1 h2=>?_;exact⟨mc,CN.moved h1 fun o e=>g.base _ _ O.csT e,h2⟩
theorem rT {f fid:Nat}{ps:List Nat}{sc:LK}{ss:List St}{fa:Addr}{fo:Obj}{fd:Cu}{args:List D}{d:D}(F:bp B f fid ps sc (fm B.nm ss) fa fo fd)(hK:24<=K)(P:bD B K Φ)(hb:jF B ss)
  (hl:ps.length=args.length) (hev:aL Φ N (aH sc fid) (aq ps args fun J=>none) ss=some (.rt d)):cu B (K+2) f args d:=by
 refine⟨fa,fo,fd,F.mg,F.nT,F.at',F.data,fun A s W vals g R tW wlt ra=>?_⟩;have ho:=g.base _ _ F.nT F.at';obtain⟨c,oc,vs,t,hc1,hc2,hc3,hc4,hc5⟩:=F.code;have hcd:s.heap.CodeRec fd.code fd.qualname:=⟨c,oc,vs,t,hc1,g.base _ _ hc2 hc3,hc4,hc5⟩;have hvl:vals.length=ps.length:=by refine AZ (ab.length ra) ?_;omega
 refine Du R.lim ho F.data F.co F.gen F.body hcd ?_;refine AZ (F.bind vals hvl)<|AZ F.glob<|AZ F.clos<|AZ F.blt ?_
 refine Bk ?_;refine mK O (sc:=sc) (f:=fid) (ρc:=fun J=>none) F.names F.kind F.fid ⟨F.nd,fun x k h=>.inr (F.kinds x k h),fun x h=>?_,fun x c h=>by simp at h,B3,fun z h=>(by exact bE h),fun x e h=>by exact ah h⟩ g tW wlt F.ps hl ra fun s1 env W' X1 hW' e1=>?_
 ·rcases F.kinds x _ h with h|h|h<;>exact nomatch h
 ·refine⟨aK.lim O (g.move e1),E9 ?_⟩
  refine y8 O (N:=N) hK P ss hb _ _ _ hev _ _ _ _ _ _ _ X1 R.deeper ?_;intro v s2 e2 r2;exact⟨v,rfl,ao.toEff e1 e2 (fun b q=>(hW' b q.1).elim (fun z=>absurd z q.2) id) fun i q=>q.elim,r2⟩
theorem i7:∀(fr:List Nat)(caps:List D) (i:Nat) (x:Nat)(d:D),fr.Nodup->fr[i]?=some x->caps[i]?=some d->(fr.zip caps).lookup x=some d
 |[],_,_,_,_,_,h,_=>by simp at h
 |_::_,[],_,_,_,_,_,h=>by simp at h
 |y::fr,c::caps,0,x,d,hn,h1,h2=>by
  simp only[EL,Bl] at h1 h2;subst h1;subst h2;simp[Bu]
 |y::fr,c::caps,i+1,x,d,hn,h1,h2=>by
  simp only[CD] at hn;simp only[List.getElem?_cons_succ] at h1 h2;have:x≠y:=by rintro rfl;exact hn.1 (Co h1)
  (refine AZ Ce ?_;rw[Bu];refine AZ (show(x==y)=false by simpa using this) ?_)
  exact i7 fr caps i x d hn.2 h1 h2
theorem oi:∀(fr:List Nat)(caps:List D) (x:Nat)(d:D),(fr.zip caps).lookup x=some d->x∈fr:=fun fr caps x d h=>(CL (cm O h)).1
theorem i8 {α:Type}:∀{l:List (Str×α)}{z:Str×α},(l.map (·.1)).Nodup->z∈l->l.lookup z.1=some z.2
 |[],_,_,h=>by exact bE h
 |a::r,z,hn,h=>by
  simp only[Bo,CD] at hn;rcases Bw.mp h with h1|h1
  ·subst h1
   obtain⟨z1,z2⟩:=z;rw[Bu];simp
  ·have:z.1≠a.1:=by
    intro e;exact hn.1 (BC.mpr ⟨z,h1,e⟩)
   obtain⟨a1,a2⟩:=a
   (rw[Bu];refine AZ (show(z.1==a1)=false by simpa using this) ?_)
   exact i8 hn.2 h1
theorem wY {L:f0}{cv:List Value}{caps:List D}{fd:Cu}{sc:LK}(l:xg B L cv s.heap W fd)(hfr:L.fr=av sc)(hnd:(sc.map (·.1)).Nodup)(hk:∀x k,sc.lookup x=some k->k=.free\/k=.local\/k=.cell\/k=.globalImplicit)
  (rc:ab B s.heap W caps cv):vL B sc fd.closure (cN (av sc) caps) W s:=by
 have hmem:∀x,sc.lookup x=some .free↔x∈av sc:=fun x=>by
  unfold av;simp only[BC,Cq]
  constructor
  ·intro hx
   exact⟨(x,.free),⟨cm O hx,by simp⟩,rfl⟩
  ·rintro⟨⟨y,k⟩,⟨hm,hk⟩,rfl⟩
   have:k=.free:=by simpa using hk
   subst this;exact bo O hnd hm
 have hfn:(av sc).Nodup:=by
  unfold av;exact List.Sublist.nodup (List.Sublist.map _ Eh) hnd
 have hlen:=ab.length rc;have hlen2:=l.len;replace hlen2:=hfr▸hlen2;have free:∀x,sc.lookup x=some .free->∃c v d,fd.closure.lookup (B.nm x)=some c/\s.heap.IsCell c (some v)/\¬W c/\cN (av sc) caps x=some (.sealed d)/\aw B s.heap W d v:=fun x hx=>by
  refine x1 (G0 ((hmem x).mp hx)) fun i hi=>?_;have hilt:=(B0.mp hi).1;have hv:cv[i]?=some cv[i]:=CA (by omega);have hd:caps[i]?=some caps[i]:=CA (by omega);refine ak (ab.get rc hd) fun v' hv' rv=>?_;obtain rfl:=A0 (hv.symm.trans hv');refine pJ (l.cells i x _ (by refine AZ hfr ?_;exact hi) hv) fun c h1 h2 h3=>?_;exact⟨c,_,_,h1,h3,h2,by unfold cN;refine AZ (i7 O _ _ i x _ hfn hi hd) ?_;rfl,rv⟩
 refine⟨hnd,hk,free,fun x c h=>(hmem x).mpr (hfr▸l.only x c h),l.apart,fun z hz=>?_,fun x e h=>?_⟩
 ·refine x1 (l.nms z hz) fun x hx=>?_
  have hlook:fd.closure.lookup z.1=some z.2:=i8 O l.keys hz;replace hlook:=hx▸hlook;refine yn (free x ((hmem x).mpr (hfr▸l.only x _ hlook))) fun c v d e1 e2 J=>?_;obtain rfl:=A0 (hlook.symm.trans e1);exact e2.lt
 ·unfold cN at h
  rw[Bt] at h;refine ak h fun d hd J=>?_;exact(hmem x).mpr (oi O _ _ _ _ hd)
structure LExp (B:Bs) (id:Nat)(L:f0)(ps:List Nat)(sc:LK)(e:E):Prop where
 ls:B.LS id=some L
 body:L.body=.expr (e.py B.nm)
 names:L.scope.names=aR B.nm sc
 kind:L.scope.kind=.function
 gen:L.scope.isGenerator=false
 co:L.scope.isCoroutine=false
 fr:L.fr=av sc
 bind:∀(fd:Cu) (vals:List Value),fd.params=L.params->fd.defaults=.none->fd.kwdefaults=.none->vals.length=ps.length->Fu fd ⟨vals,[]⟩=pure ((ps.map B.nm).zip vals)
 nd:(sc.map (·.1)).Nodup
 kinds:∀x k,sc.lookup x=some k->k=.free\/k=.local\/k=.cell\/k=.globalImplicit
 ps:∀x∈ps,sc.lookup x=some .local\/sc.lookup x=some .cell
theorem rs {id:Nat}{L:f0}{ps:List Nat}{sc:LK}{e:E}{caps args:List D}{r:Mine.R}{d:D}(F:LExp B id L ps sc e)(hK:24<=K)(P:bD B K Φ)(hb:e.ok B)
  (hl:ps.length=args.length) (hev:ev Φ (aH sc 0) (aq ps args (cN (av sc) caps)) e=some r) (hd:r.asD=some d):dz B (K+2) id caps args d:=by
 intro fa cv A s W vals g R tW wlt hlam rc ra;obtain⟨L',fo,fd,hls,hg,hfd,nw,l⟩:=hlam;rw[F.ls] at hls;obtain rfl:=A0 hls;obtain⟨c,oc,vs,t,hc1,hc2,J,hc4,hc5⟩:=l.code;have hcd:s.heap.CodeRec fd.code fd.qualname:=⟨c,oc,vs,t,hc1,hc2,hc4,by refine AZ l.qual ?_;exact hc5⟩;have hvl:vals.length=ps.length:=by refine AZ (ab.length ra) ?_;omega
 refine kla_callFunE R.lim hg hfd (by refine AZ l.scope ?_;exact F.co) (by refine AZ l.scope ?_;exact F.gen) (by refine AZ l.body ?_;exact F.body) hcd ?_;refine AZ (F.bind fd vals l.params l.dfl.1 l.dfl.2 hvl)<|AZ l.glob<|AZ l.blt ?_
 refine Bk ?_;refine mK O (sc:=sc) (f:=0) (ρc:=cN (av sc) caps) (by refine AZ l.scope ?_;exact F.names) (by refine AZ l.scope ?_;exact F.kind) (.inl rfl) (wY O l F.fr F.nd F.kinds rc) g tW wlt F.ps hl ra fun s1 env W' X1 hW' e1=>?_;refine⟨aK.lim O (g.move e1),kla_codeExpr ?_⟩;refine cX O (jN O hK P e hb) hev hd X1 R.deeper fun v s2 e2 X2 q2=>?_;exact⟨v,rfl,e1.trans e2,aw.less O q2 X2.cW⟩
end
end Mine
section
open PySem.Builtin PySem.Builtin.Str
namespace Mine
variable {B:Bs}
section
variable {A:BO}{s s₀:Be}
theorem ve:isSubtype (.type "KeyError") (.type "LookupError")=pure true:=by refine AZ (DY _ _) ?_;rfl
theorem tab_hit {d:Addr}{f:Int->Option Value}{c:Nat}{y:List Nat}{tk:Tok}(hm:s.heap.MapOf (DL B.prog B.w) d f)(hv:f c=some (.str ⟨y.toArray⟩ tk)){E:VS}{Q:Mapped->Be->Prop}
  (k:∀n,Q (.text ⟨y.toArray⟩) { s with toks:=n }):wpAny B.M A (tableLookup (.ref d) c) Q E s:=by
 unfold tableLookup;refine Bc (G6 (Bc (wpAny_mkInt ?_)));refine wpAny_getItem_of (knd:=DL B.prog B.w) (k:=(c:Int)) (by simp[DL,Value.isInt]) hm hv ?_;refine Bc (Fq (a:=none) rfl ?_);refine Bc (Fq (a:=some ⟨y.toArray⟩) rfl ?_);exact Bk (k _)
theorem yL {d:Addr}{f:Int->Option Value}{c:Nat}(hh:A.handled=none)(hd:(d==C9)=false)(hm:s.heap.MapOf (DL B.prog B.w) d f)(hv:f c=none){E:VS}{Q:Mapped->Be->Prop}
  (k:∀h' n e,Heap.NewExc s.heap h' e "KeyError" -> Q .keep { s with heap:=h',toks:=n }):wpAny B.M A (tableLookup (.ref d) c) Q E s:=by
 unfold tableLookup;refine Bc (G6 (Bc (wpAny_mkInt ?_)));refine wpAny_getItem_missing_of (knd:=DL B.prog B.w) (k:=(c:Int)) (by simp[DL,Value.isInt]) hd hh hm hv fun h' e x=>?_;refine Bc (wpAny_isInstance (T := "KeyError") (b:=true) ?_ ve ?_)
 ·refine kJ x.there fun o args h1 h2 h3=>?_
  exact⟨o,h1,h2⟩
 ·exact Bc (FT (Bk (k _ _ _ x)))
noncomputable def lO (g:Nat->Option (List Nat))(l:List Nat):List Nat:=l.flatMap fun c=>(g c).getD [c]
noncomputable def AR (f:Int->Option Value)(g:Nat->Option (List Nat)):Prop:=∀c:Nat,match g c with
 |none=>f c=none
 |some y=>y.length=2/\∃tk,f c=some (.str ⟨y.toArray⟩ tk)
noncomputable def zD (g:Nat->Option (List Nat)) (c:Nat):Mapped:=match g c with
 |none=>.keep
 |some y=>.text ⟨y.toArray⟩
theorem uJ {d:Addr}{f:Int->Option Value}{g:Nat->Option (List Nat)}{c:Nat}(hh:A.handled=none)(hd:(d==C9)=false)(hm:s.heap.MapOf (DL B.prog B.w) d f)(ht:AR f g){E:VS}{Q:Mapped->Be->Prop}
  (k:∀h' n,(∀b o,s.heap.get? b=some o->h'.get? b=some o)->Q (zD g c) { s with heap:=h',toks:=n }):wpAny B.M A (tableLookup (.ref d) c) Q E s:=by
 have h:=ht c;unfold zD at k
 cases hg:g c with
 |none=>
  rw[hg] at h k;exact yL hh hd hm h fun h' n e x=>k h' n x.keeps
 |some y=>
  rw[hg] at h k;refine uy h fun J tk h=>?_;exact tab_hit hm h fun n=>k s.heap n fun J J e=>e
theorem MapOf.keep {h h':Heap}{d:Addr}{f:Int->Option Value}(hm:h.MapOf (DL B.prog B.w) d f)(k:∀b o,h.get? b=some o->h'.get? b=some o):h'.MapOf (DL B.prog B.w) d f:=by
 refine x31 hm fun o es ep h1 h2=>?_;exact⟨o,es,ep,k _ _ h1,h2⟩
structure TrI (s:Be)(g:Nat->Option (List Nat))(l rest:List Nat)(b:List Str×Nat×Bool×List (Nat×Option Nat)×Bool)(s':Be):Prop where
 drop:b.2.2.2.2=false
 known:∀x a,b.2.2.2.1.lookup x=some a->a=some x/\g x=none
 text:(b.1.reverse.flatMap fun p=>p.cps.toList)++lO g rest=lO g l
 total:b.2.1+2 * rest.length<=2 * l.length
 heap:∃h' n,(∀b o,s.heap.get? b=some o->h'.get? b=some o)/\s'={ s with heap:=h',toks:=n }
theorem TrI.put {g:Nat->Option (List Nat)}{l rest:List Nat}{x:Nat}{b1:List Str}{b2:Nat}{b3 b3' b5:Bool}{b4 b4':List (Nat×Option Nat)}{s' s2:Be}(I:TrI s g l (x::rest) ⟨b1,b2,b3,b4,b5⟩ s')(h4:∀x a,b4'.lookup x=some a->a=some x/\g x=none)
  {t:Str}{m:Nat}(ht:t.cps.toList=(g x).getD [x]) (hm:m<=2) (h':Heap) (n:Nat) (hk:∀b o,s'.heap.get? b=some o->h'.get? b=some o) (hs:s2={ s' with heap:=h',toks:=n }):TrI s g l rest ⟨t::b1,b2+m,b3',b4',false⟩ s2:=by
 refine sI I.heap fun h1 n1 hk1 e91=>?_;subst e91;refine⟨rfl,h4,?_,?_,h',n,fun b o e=>hk b o (hk1 b o e),hs⟩
 ·have:=I.text
  simp only[lO,BJ,Hz,Eg,List.flatMap_nil,CE,BU] at this ⊢;refine AZ ht ?_;exact this
 ·have:=I.total
  simp only[BA] at this ⊢
  lia
end
end Mine
end
section
open PySem.Builtin PySem.Builtin.Str
namespace Mine
variable {B:Bs}
section
variable {A:BO}{s s₀:Be}
theorem vd {g:Nat->Option (List Nat)}{b4:List (Nat×Option Nat)}{x:Nat}(h4:∀x a,b4.lookup x=some a->a=some x/\g x=none)(hg:g x=none):∀y a,C4 y ((x,some x)::b4)=some a->a=some y/\g y=none:=by
 intro y a h;rw[Bu] at h
 split at h
 ·rename_i e
  have e:y=x:=by simpa using e
  obtain rfl:=A0 h;exact⟨by exact AZ e rfl,by refine AZ e ?_;exact hg⟩
 ·exact h4 y a h
theorem qx:∀(ps:List Str)(acc:Array Nat),ps.foldl (fun acc p=>acc++p.cps) acc=acc++(ps.flatMap fun p=>p.cps.toList).toArray
 |[],acc=>by simp
 |p::ps,acc=>by
  refine AZ F4<|AZ (qx ps _) ?_
  apply Array.ext';simp
theorem uG {g:Nat->Option (List Nat)}(h:∀c y,g c=some y->y.length=2):∀l:List Nat,(lO g l).length<=2 * l.length
 |[]=>by simp[lO]
 |c::l=>by
  have ih:=uG h l;simp only[lO,BJ,Bm,BA] at ih ⊢
  cases hg:g c with
  |none=>simp only[FD,BA,Da];lia
  |some y=>simp only[FC];refine AZ (h _ _ hg) ?_;lia
abbrev TrB:=List Str×Nat×Bool×List (Nat×Option Nat)×Bool
noncomputable def uF (d:Value) (x:Nat)(b1:List Str) (b2:Nat)(b3:Bool)(b4:List (Nat×Option Nat)):Sem (ForInStep TrB):=do
 match <-tableLookup d x with
 |.keep=>pure (.yield (⟨#[x]⟩::b1,b2+1,b3,b4,false))
 |.drop=>pure (.yield (b1,b2,b3,b4,true))
 |.char c=>pure (.yield (⟨#[c]⟩::b1,b2+1,b3,b4,false))
 |.text t=>pure (.yield (t::b1,b2+t.length,b3,b4,false))
noncomputable def yI (d:Value) (x:Nat)(b1:List Str) (b2:Nat)(b3:Bool)(b4:List (Nat×Option Nat)):Option (Option Nat)->Sem (ForInStep TrB)
 |some (some c)=>pure (.yield (⟨#[c]⟩::b1,b2+1,b3,b4,false))
 |some none=>pure (.yield (b1,b2,b3,b4,false))
 |none=>rule "str.translate.fast-road-left" >>= fun J=>uF d x b1 b2 false b4
noncomputable def nF (x:Nat):Mapped->Option (Option Nat)
 |.keep=>some (some x)
 |.drop=>some none
 |.char c=>if c < 128 then some (some c) else none
 |.text t=>if(t.length==1&&t.cps.all fun x=>decide (x < 128))=true then some t.cps[0]? else none
noncomputable def yF (d:Value) (x:Nat)(b1:List Str) (b2:Nat)(b3:Bool)(b4:List (Nat×Option Nat))(n:Option (Option Nat)):Sem (ForInStep TrB):=match n with
 |some a=>pure n >>= yI d x b1 b2 b3 ((x,a)::b4)
 |_=>pure n >>= yI d x b1 b2 b3 b4
noncomputable def yG (d:Value) (x:Nat)(b1:List Str) (b2:Nat)(b3:Bool)(b4:List (Nat×Option Nat)):Option (Option Nat)->Sem (ForInStep TrB)
 |some a=>pure (some a) >>= yI d x b1 b2 b3 b4
 |none=>tableLookup d x >>= fun m=>yF d x b1 b2 b3 b4 (nF x m)
noncomputable def yE (d:Value) (x:Nat)(b1:List Str) (b2:Nat)(b3:Bool)(b4:List (Nat×Option Nat)):Sem (ForInStep TrB):=
 if b3=true then yG d x b1 b2 b3 b4 (C4 x b4) else uF d x b1 b2 b3 b4
noncomputable def trStep (d:Value) (x:Nat)(b1:List Str) (b2:Nat)(b3:Bool)(b4:List (Nat×Option Nat)):Sem (ForInStep TrB):=
 if tooLong b2=true then(unsupported "str.translate:memory" : Sem PUnit) >>= fun J=>yE d x b1 b2 b3 b4 else yE d x b1 b2 b3 b4
theorem xr {M:Model}{A:BO}{α:Type}{E:VS}{s:Be}{c:Bool}{x y:Sem α}{Q:α->Be->Prop}(hc:c=true)(h:wpAny M A x Q E s):wpAny M A (if c=true then x else y) Q E s:=by subst hc;exact h
theorem pM {M:Model}{A:BO}{α:Type}{E:VS}{s:Be}{c:Bool}{x y:Sem α}{Q:α->Be->Prop}(hc:c=false)(h:wpAny M A y Q E s):wpAny M A (if c=true then x else y) Q E s:=by subst hc;exact h
theorem qQ {d:Addr}{f:Int->Option Value}{g:Nat->Option (List Nat)}{l:List Nat}{tk:Tok}(hh:A.handled=none)(hd:(d==C9)=false)(hm:s.heap.MapOf (DL B.prog B.w) d f)(ht:AR f g)(hl:l.length<=lim)
  {E:VS}{Q:Ci->Be->Prop}
  (k:∀h' n tk',(∀b o,s.heap.get? b=some o->h'.get? b=some o)->Q (.done (.ret (.str ⟨(lO g l).toArray⟩ tk'))) { s with heap:=h',toks:=n }):
  wpAny B.M A (Builtin.«str.translate» ⟨[.str ⟨l.toArray⟩ tk,.ref d],[]⟩) Q E s:=by
 have hline:sizeLine=16777216:=by decide
 have htl:∀{c:Nat}{y:List Nat},g c=some y->y.length=2:=fun{c y} e=>by
  have:=ht c;rw[e] at this;exact this.1
 unfold Builtin.«str.translate»;refine Bc (Fq (a:=(.str ⟨l.toArray⟩ tk,⟨l.toArray⟩,.ref d)) rfl ?_)
 by_cases h0:((⟨l.toArray⟩:Str).length==0)=true
 ·refine xr h0 ?_
  have hn:l=[]:=by simpa [Str.length] using h0
  subst hn;exact Bc (FT (Bc (Fq (a:=.str ⟨[].toArray⟩ tk) rfl (Bk (k s.heap s.toks tk fun J J e=>e)))))
 ·refine pM (Dp.mpr h0) ?_
  refine Bc ?_;refine wpAny_forIn_array' _ (fun rest b s'=>TrI s g l rest b s') _ ?_ ?_ _ _ ?_
  ·rintro x rest ⟨b1,b2,b3,b4,b5⟩ s' I
   have hb5:b5=false:=I.drop;subst hb5;have h4:∀x a,b4.lookup x=some a->a=some x/\g x=none:=I.known;refine sI I.heap fun h1 n1 hk1 hs1=>?_;have hm1:s'.heap.MapOf (DL B.prog B.w) d f:=by refine AZ hs1 ?_;exact MapOf.keep hm hk1
   have htot:b2+2 * (x::rest).length<=2 * l.length:=I.total;have hT:tooLong b2=false:=by
    unfold tooLong;unfold lim at hl;exact decide_eq_false (by lia)
   show wpAny B.M A (trStep (.ref d) x b1 b2 b3 b4) _ _ _;refine pM hT ?_
   cases b3 with
   |false=>
    show wpAny B.M A (uF (.ref d) x b1 b2 false b4) _ _ _;refine Bc (uJ hh hd hm1 ht fun h' n hk=>?_);unfold zD
    cases hg:g x with
    |none=>exact Bk (I.put h4 (m:=1) (by refine AZ hg ?_;rfl) (by lia) h' n hk rfl)
    |some y=>exact Bk (I.put h4 (m:=(⟨y.toArray⟩:Str).length) (by refine AZ hg ?_;rfl) (by have:=htl hg;simp[Str.length];lia) h' n hk rfl)
   |true=>
    show wpAny B.M A (yG (.ref d) x b1 b2 true b4 (C4 x b4)) _ _ _
    cases hlk:C4 x b4 with
    |some a=>
     refine aS (h4 x a hlk) fun e91=>?_;subst e91;intro hg;refine Bc (Bk ?_);exact Bk (I.put h4 (m:=1) (by refine AZ hg ?_;rfl) (by lia) s'.heap s'.toks (fun J J e=>e) rfl)
    |none=>
     refine Bc (uJ hh hd hm1 ht fun h' n hk=>?_);unfold zD
     cases hg:g x with
     |none=>
      refine Bc (Bk ?_);exact Bk (I.put (vd h4 hg) (m:=1) (by refine AZ hg ?_;rfl) (by lia) h' n hk rfl)
     |some y=>
      have h2:((⟨y.toArray⟩:Str).length==1)=false:=by
       have:=htl hg;simp[Str.length];lia
      have h3:nF x (.text ⟨y.toArray⟩)=none:=by
       show(if((⟨y.toArray⟩:Str).length==1&&_)=true then _ else _)=_;refine AZ h2 ?_;rfl
      show wpAny B.M A (yF (.ref d) x b1 b2 true b4 (nF x (.text ⟨y.toArray⟩))) _ _ _;refine AZ h3 ?_;refine Bc (Bk (Bc (FT ?_)));refine Bc (uJ hh hd (MapOf.keep hm1 hk) ht fun h'' n' hk'=>?_);unfold zD;refine AZ hg ?_;exact Bk (I.put h4 (m:=(⟨y.toArray⟩:Str).length) (by refine AZ hg ?_;rfl) (by have:=htl hg;simp[Str.length];lia) h'' n' (fun b o e=>hk' b o (hk b o e)) rfl)
  ·rintro⟨b1,b2,b3,b4,b5⟩ s' I
   refine sI I.heap fun h1 n1 hk1 e91=>?_;subst e91;have htot:b2+2 * 0<=2 * l.length:=I.total;have hT:tooLong b2=false:=by
    unfold tooLong;unfold lim at hl;exact decide_eq_false (by lia)
   have htx:=I.text;simp only[lO,List.flatMap_nil,CE] at htx;dsimp only;simp only[hT,BP,if_false];have he:(⟨b1.reverse.foldl (fun acc p=>acc++p.cps) #[]⟩:Str)=⟨(lO g l).toArray⟩:=by
    refine AZ (qx _ _)<|AZ htx ?_
    simp[lO]
   refine AZ he ?_;unfold retStr;refine Bc (wpAny_mkStr (Bk ?_) ?_)
   ·exact k h1 _ _ hk1
   ·have:=uG (g:=g) (fun c y e=>htl e) l
    unfold lim at hl;simp only[Str.length,B7]
    lia
  ·exact⟨rfl,fun x a h=>(by simp at h),by simp,by simp,s.heap,s.toks,fun J J e=>e,rfl⟩
end
end Mine
end
namespace Mine
variable {B:Bs}
section
variable (O:B.Ok)
include O
variable {Γ:aj}{ρ:ac}{Wc W:AP}{pe:Env}{A:BO}{s s₀:Be}{K N:Nat}{Φ:bU}
noncomputable def so (B:Bs) (K:Nat)(Γ:aj)(ρ:ac)(body:List Stmt)(d:D):Prop:=∀Wc W pe A s (Q:Flow->Be->Prop)(E:VS),Ctx B Γ Wc W pe ρ s->aD A K->
 (∀v s',ao B (fB W Wc) s s'->aw B s'.heap Wc d v->Q (.ret v) s')->wpAny B.M A (execs body pe) Q E s
theorem rS {f fid:Nat}{ps:List Nat}{sc:LK}{body:List Stmt}{fa:Addr}{fo:Obj}{fd:Cu}{args:List D}{d:D}(F:bp B f fid ps sc body fa fo fd)
  (hl:ps.length=args.length) (hb:so B K (aH sc fid) (aq ps args fun J=>none) body d):cu B (K+2) f args d:=by
 refine⟨fa,fo,fd,F.mg,F.nT,F.at',F.data,fun A s W vals g R tW wlt ra=>?_⟩;have ho:=g.base _ _ F.nT F.at';obtain⟨c,oc,vs,t,hc1,hc2,hc3,hc4,hc5⟩:=F.code;have hcd:s.heap.CodeRec fd.code fd.qualname:=⟨c,oc,vs,t,hc1,g.base _ _ hc2 hc3,hc4,hc5⟩;have hvl:vals.length=ps.length:=by refine AZ (ab.length ra) ?_;lia
 refine Du R.lim ho F.data F.co F.gen F.body hcd ?_;refine AZ (F.bind vals hvl)<|AZ F.glob<|AZ F.clos<|AZ F.blt ?_
 refine Bk ?_;refine mK O (sc:=sc) (f:=fid) (ρc:=fun J=>none) F.names F.kind F.fid ⟨F.nd,fun x k h=>.inr (F.kinds x k h),fun x h=>?_,fun x c h=>by simp at h,B3,fun z h=>(by exact bE h),fun x e h=>by exact ah h⟩ g tW wlt F.ps hl ra fun s1 env W' X1 hW' e1=>?_
 ·rcases F.kinds x _ h with h|h|h<;>cases h
 ·refine⟨aK.lim O (g.move e1),E9 ?_⟩
  refine hb _ _ _ _ _ _ _ X1 R.deeper ?_;intro v s2 e2 r2;exact⟨v,rfl,ao.toEff e1 e2 (fun b q=>(hW' b q.1).elim (fun z=>absurd z q.2) id) fun i q=>q.elim,r2⟩
end
end Mine
namespace Mine
variable {B:Bs}
section
variable (O:B.Ok)
include O
variable {Γ:aj}{ρ:ac}{Wc W:AP}{pe:Env}{A:BO}{s s₀:Be}{K N:Nat}{Φ:bU}
theorem qP {d:Addr}{f:Int->Option Value}{g:Nat->Option (List Nat)}{l:List Nat}{tk:Tok}{x:Nat}{q7 q9:Pos}(X:Ctx B Γ Wc W pe ρ s)(hk:Γ x=some .globalImplicit)(hmg:B.mg (B.nm x)=some (.ref d))
  (hh:A.handled=none) (hd:(d==C9)=false) (hm:s.heap.MapOf (DL B.prog B.w) d f) (ht:AR f g) (hl:l.length<=lim){E:VS}{Q:VS}
  (k:∀h' n tk',(∀b o,s.heap.get? b=some o->h'.get? b=some o)->s.heap.objs.size<=h'.objs.size->Q (.str ⟨(lO g l).toArray⟩ tk') { s with heap:=h',toks:=n }):
  MethodOnS B.prog B.w A E (Str.ofString "translate") (.str ⟨l.toArray⟩ tk) q9 [(false,eval (.Name (B.nm x) q7) pe)] Q s:=by
 refine⟨"str", _,EH,FV,PySem.F.type_str_translate,DF _ _ _,(fun J e=>nomatch e),?_⟩
 refine Dm rfl (Dc (B5 (ou O X hk hmg (Cj ?_))));refine uz ?_;refine Gm FV (DF _ _ _) PySem.F.entry_str_translate ?_ (PySem.F.args_str_translate_2 _ _);exact qQ (A:=A.in1) hh hd hm ht hl fun h' n tk' hk=>⟨_,rfl,fun hs=>k h' n tk' hk hs⟩
theorem tV {x:Nat}{l:List Nat}{d:Addr}{f:Int->Option Value}{g:Nat->Option (List Nat)}{a1 a2 a3 a4 a5 a6 a7 a8 a9 a10:Pos}{els rest:List Stmt}
  (hx:ρ x=some (.fz (.str l))) (k6:Γ 6=some .globalImplicit) (k7:Γ 7=some .globalImplicit) (k24:Γ 24=some .globalImplicit) (hmg:B.mg (B.nm 24)=some (.ref d)) (hT:¬B.T d)
  (hd:(d==C9)=false) (hm:B.h₀.MapOf (DL B.prog B.w) d f) (ht:AR f g) (hl2:(lO g l).length<=lim) (hline:(a6.endLine==a8.line)=true):
  so B K Γ ρ (.If (.Call (.Name (B.nm 6) a1) [.Name (B.nm x) a2,.Name (B.nm 7) a3] [] a4) [.Return (some (.Call (.Attribute (.Name (B.nm x) a5) (B.nm 14) a6) [.Name (B.nm 24) a7] [] a8)) a9] els a10::rest) (.str (lO g l)):=by
 intro Wc W pe A s Q E X R k;refine Br (GN (F7 (e:=.Call (.Name (B.nm 6) a1) [.Name (B.nm x) a2,.Name (B.nm 7) a3] [] a4) (B6 (iB O X k6 rfl ?_)) rfl));refine AZ (show EW a4 (C6 [.Name (B.nm x) a2,.Name (B.nm 7) a3] pe)=[(false,eval (.Name (B.nm x) a2) pe),(false,eval (.Name (B.nm 7) a3) pe)] from rfl) ?_;refine Dm rfl (Dc (B5 (j0 O hx X fun tk hl=>B5 (iB O X k7 rfl (Cj ?_)))));refine GE (isinstance_true (Tx := "str") (T := "str") (by rfl) (by refine AZ (DY _ _) ?_;rfl)) ⟨DF _ _ _,?_⟩
 refine B1 ?_;simp only[if_true];have hm1:s.heap.MapOf (DL B.prog B.w) d f:=by
  refine x31 hm fun o es ep h1 h2=>?_;exact⟨o,es,ep,X.good.base _ _ hT h1,h2⟩
 refine AZ (O.mnm 14 _ rfl) ?_;refine Br (Dw ?_);refine Gg rfl rfl hline (j0 O hx X fun tk hl=>qP O X k24 hmg R.handled hd hm1 ht hl fun h' n tk' hk hs=>?_);have e1:ay B s { s with heap:=h',toks:=n }:=ay.heap O n hk hs;refine k _ _ (e1.toP _) ?_;exact⟨⟨tk',rfl⟩,hl2⟩
end
end Mine
namespace Mine
variable {B:Bs}
structure l7 (B:Bs)(KF:Frag):Prop where
 in₀:KF.In B.h₀
 nT:∀a o,KF.lookup a=some o->¬B.T a
 makes:makesIn KF B.C=true
 init:∃fI,Ef KF (.ref B.C) "__init__" = some (some (.ref fI))/\typeIn KF (.ref fI)=some (.type "function")
 plain:plainOver KF B.C=true
section
variable {KF:Frag}{A:BO}{s:Be}
theorem l7.here (Z:l7 B KF)(g:aK B s):KF.In s.heap:=fun a o e=>g.base a o (Z.nT a o e) (Z.in₀ a o e)
theorem va (Z:l7 B KF)(g:aK B s){rest:List Value}{R:Dv->Be->Prop}
  (hq:∀fI,Ef KF (.ref B.C) "__init__" = some (some (.ref fI))->C3 B.M (A.under (.builtin "type.__call__" ⟨.ref B.C::rest,[]⟩)) (.call (.ref fI) ⟨.ref (s.heap.objs.size+1)::rest,[]⟩) (InitBack (s.heap.objs.size+1) R)
   { s with heap:=(s.heap.push emptyDict).push (Dd B.C s.heap.objs.size) }):
  C3 B.M A (.call (.ref B.C) ⟨rest,[]⟩) R s:=by
 have X:=Z.here g;refine ak Z.init fun fI h1 h2=>?_;obtain⟨hh,gg,d,t,os⟩:=s;exact make_core (makes_of X Z.makes) (looks_findIn X h1) (fun self=>bind_fn X self h2) (.inl rfl) (hq fI h1)
end
end Mine
namespace Mine
variable {B:Bs}
section
variable {KF:Frag}{A:BO}{s:Be}{R:Dv->Be->Prop}{C x:Addr}
set_option tactic.hygienic true in
theorem zw {ox od od':Obj}{dx:Addr}{name:Str}{tk:Tok}{v:Value}{es:List DictEntry}{n:Nat}(X:KF.In s.heap)
  (I:InstAt s.heap x ox C (some od)) (hd:ox.dict=some dx) (hp:plainOver KF C=true) (ht:takerIn KF C name=some none) (hh:(clsIn KF C).any (·.hasDict)=true)
  (hl:(Gr name od).isSome=true) (D:s.heap.get? dx=some od)
  (e:Obj.putName name (PyData.keyHash B.w.params name) (.str name s.toks) v od=od') (e':od'.data=.dict es.toArray n) (hz:es.length<=1000)
  (h:∀h',Dy dx s.heap h'->h'.get? dx=some od'->R (.ok (.ret .none)) { s with heap:=h',toks:=s.toks+1 }):
  C3 B.M A (.call (.builtin "object.__setattr__") ⟨[.ref x,.str name tk,v],[]⟩) R s:=by
 refine osa_open X I hp ht fun b=>?_;have hd':∃cd,clsIn KF C=some cd/\cd.hasDict=true:=by
  cases hc:clsIn KF C with
  |none=>rw[hc] at hh;exact ce hh
  |some cd=>rw[hc] at hh;exact⟨cd,rfl,hh⟩
 refine ak hd' fun cd hc hd'=>?_;have D':(s.heap.update dx (Obj.putName name (PyData.keyHash B.w.params name) (.str name s.toks) v)).get? dx=some od':=by
  exact AZ (GX _ D (by refine AZ e ?_;obtain⟨J,J,dd,J⟩:=od';cases e';rfl))<|AZ e rfl
 obtain⟨hx,hcl,hn,-⟩:=I;obtain⟨oc,odi,oda,osl⟩:=ox;dsimp only at hcl hd;subst hcl hd;refine Bc (Bk (Bc (Bc (wpAny_loadPart hx (Bc ((looks_clsIn X hc).here ?_))))));refine AZ hd' ?_;refine Bk (a:=some dx) (Bc (Bk (Bc ?_)));unfold nsSet;refine Bc (Bc (wpAny_askSetting (Bk (Bc (wpAny_mkText (Bc (wpAny_loadPart D ?_)))))));unfold Gr at hl
 split at hl
 ·rename_i es₀ n₀ q
  refine AZ q ?_;dsimp only;have c:(!es₀.any (·.key.isStr name)&&es₀.any (·.refKey))=false:=by
   refine AZ (BE HI)<|AZ (BE HI) ?_
   split at hl
   ·rename_i en he
    refine AZ (FR.mpr ⟨en,DB he,F5 he⟩) ?_;rfl
   ·split at hl
    ·exact ce hl
    ·rename_i z;rw[Bool.not_eq_true] at z;exact AZ z<|AZ (E8 _) rfl
  refine AZ (aRefKeyMayBeTheName_at _ _)<|AZ c ?_
  refine wpAny_updatePart D ?_;refine Bc (wpAny_lookBehind D' (by refine AZ e' ?_;exact pastItsLine_dict (by refine AZ B7<|AZ sizeLine_eq ?_;omega)) ?_);exact Bk (h _ (Gd ..) D')
 ·exact ce hl
end
end Mine
namespace Mine
variable {B:Bs}
section
variable {KF:Frag}{A:BO}{s:Be}{C x:Addr}
theorem jQ {ox od od':Obj}{dx:Addr}{name:Str}{v:Value}{es:List DictEntry}{n:Nat}{E:VS}{Q:Unit->Be->Prop}(X:KF.In s.heap)
  (I:InstAt s.heap x ox C (some od)) (hs:Ef KF (.ref C) "__setattr__" = some (some (.builtin "object.__setattr__"))) (hd:ox.dict=some dx) (hp:plainOver KF C=true) (ht:takerIn KF C name=some none) (hh:(clsIn KF C).any (·.hasDict)=true)
  (hl:(Gr name od).isSome=true) (D:s.heap.get? dx=some od)
  (e:Obj.putName name (PyData.keyHash B.w.params name) (.str name (s.toks+1)) v od=od') (e':od'.data=.dict es.toArray n) (hz:es.length<=1000)
  (h:∀h',Dy dx s.heap h'->h'.get? dx=some od'->Q () { s with heap:=h',toks:=s.toks+2 }):
  wpAny B.M A (setAttr (.ref x) name v) Q E s:=by
 refine Bc (wpAny_mkText (Bc (Bc (Bc (I.type.here (s:={ s with toks:=s.toks+1 }) ((looks_findIn X hs).here (s:={ s with toks:=s.toks+1 }) (Cv (Bc ?_))))))));refine AZ (PySem.F.store_object.slot.bind _) ?_;refine Bk (Bc (Ea ?_));refine zw (B:=B) (s:={ s with toks:=s.toks+1 }) X I hd hp ht hh hl D e e' hz fun h' s1 s2=>?_;exact Bk (Bk (h h' s1 s2))
end
end Mine
namespace Mine
variable {B:Bs}
structure l4 (B:Bs)(KF:Frag):Prop where
 z:l7 B KF
 set:Ef KF (.ref B.C) "__setattr__" = some (some (.builtin "object.__setattr__"))
 taker:∀f,(f=19\/f=20\/f=21)\/f=22->takerIn KF B.C (B.nm f)=some none
 hasDict:(clsIn KF B.C).any (·.hasDict)=true
 keep:keepIn KF (.ref B.C)=true
structure lA (B:Bs)(KF:Frag) (slf:Nat)(fI:Addr)(fo:Obj)(fd:Cu)(p1 p2 p3 p4:Pos):Prop where
 find:Ef KF (.ref B.C) "__init__" = some (some (.ref fI))
 nT:¬B.T fI
 at':B.h₀.get? fI=some fo
 data:fo.data=.func fd
 body:fd.body=.stmts [.Assign [.Attribute (.Name (B.nm slf) p1) (B.nm 19) p2] (.Name (B.nm 19) p3) p4]
 names:fd.scope.names=aR B.nm [(slf,.local),(19,.local)]
 kind:fd.scope.kind=.function
 gen:fd.scope.isGenerator=false
 co:fd.scope.isCoroutine=false
 glob:fd.globals=BQ
 blt:fd.builtins=Cc
 clos:fd.closure=[]
 code:AY B fd
 bind:∀a b:Value,Fu fd ⟨[a,b],[]⟩=pure [(B.nm slf,a),(B.nm 19,b)]
noncomputable abbrev eS (P:FW)(ks vs:List Value) (n:Nat):Obj:={ cls:=.type "dict", dict:=none,data:=.dict (gm P ks vs).toArray n,slots:=#[] }
theorem eL {h:Heap}{x dx C:Addr}{od:Obj}(hx:h.get? x=some (Dd C dx))(hd:h.get? dx=some od):InstAt h x (Dd C dx) C (some od):=⟨hx,rfl,rfl,hd⟩
theorem lW {P:FW}{t nm:Str}{tk:Tok}{v:Value}{n:Nat}(e:(t==nm)=false):Gr nm (eS P [.str t tk] [v] n)=some none:=by
 have h:(gm P [.str t tk] [v]).toArray.toList.find? (·.key.isStr nm)=none:=Fp.mpr fun x hx=>AZ (BK.mp hx) fun q=>ce (e.symm.trans q);unfold Gr;dsimp only[eS];refine AZ h ?_
 rfl
section
variable (O:B.Ok)
include O
variable {KF:Frag}{A:BO}{s:Be}{W:AP}
theorem xM {P:FW}{x:Nat}{tk:Tok}{v:Value}:Obj.putName (B.nm x) (PyData.keyHash P (B.nm x)) (.str (B.nm x) tk) v emptyDict=eS P [.str (B.nm x) tk] [v] 1:=rfl
theorem jr {P:FW}{x y:Nat}{tx ty:Tok}{v w:Value}{n:Nat}(h:x≠y):Obj.putName (B.nm y) (PyData.keyHash P (B.nm y)) (.str (B.nm y) ty) w (eS P [.str (B.nm x) tx] [v] n)=eS P [.str (B.nm x) tx,.str (B.nm y) ty] [v,w] (n+1):=by
 have e:(B.nm x==B.nm y)=false:=by
  rw[beq_eq_false_iff_ne];exact fun e=>h (O.inj _ _ e)
 refine AZ Obj.putName_eq ?_;have h:(gm P [.str (B.nm x) tx] [v]).toArray.findIdx? (·.key.isStr (B.nm y))=none:=Array.findIdx?_eq_none_iff.mpr fun z hz=>AZ (BK.mp (Array.mem_toList_iff.mpr hz)) e;unfold Obj.putNameByArray;dsimp only[eS];refine AZ h ?_
 rfl
theorem vb {x:Nat}:(Gr (B.nm x) emptyDict).isSome=true:=rfl
theorem iy {P:FW}{x y:Nat}{tx:Tok}{v:Value}{n:Nat}(h:x≠y):(Gr (B.nm y) (eS P [.str (B.nm x) tx] [v] n)).isSome=true:=by
 have e:(B.nm x==B.nm y)=false:=by
  rw[beq_eq_false_iff_ne];exact fun e=>h (O.inj _ _ e)
 exact AZ (lW e) rfl
theorem zU {slf:Nat}{fI:Addr}{fo:Obj}{fd:Cu}{p1 p2 p3 p4:Pos}(Z:l4 B KF)(F:lA B KF slf fI fo fd p1 p2 p3 p4)(hne:slf≠19)(g:aK B s)(R:aD A 4){x dx:Addr}{v:Value}{RR:Dv->Be->Prop}
  (hx:s.heap.get? x=some (Dd B.C dx)) (hd:s.heap.get? dx=some emptyDict) (hT:¬B.T dx) (hTx:¬B.T x)
  (k:∀s' tk,ao B ⟨fun b=>b=dx,fun _=>False⟩ s s'->s'.heap.get? dx=some (eS B.w.params [.str (B.nm 19) tk] [v] 1)->RR (.ok (.ret .none)) s'):
  C3 B.M A (.call (.ref fI) ⟨[.ref x,v],[]⟩) RR s:=by
 have ho:=g.base _ _ F.nT F.at';obtain⟨c,oc,vs,t,hc1,hc2,hc3,hc4,hc5⟩:=F.code;have hcd:s.heap.CodeRec fd.code fd.qualname:=⟨c,oc,vs,t,hc1,g.base _ _ hc2 hc3,hc4,hc5⟩;refine Du R.lim ho F.data F.co F.gen F.body hcd ?_;refine AZ (F.bind _ _)<|AZ F.glob<|AZ F.clos<|AZ F.blt ?_
 refine Bk ?_;have nn:B.nm slf≠B.nm 19:=fun e=>hne (O.inj _ _ e);have hk1:fd.scope.names.lookup (B.nm slf)=some .local:=by refine AZ F.names<|AZ (dt O _ _) ?_;simp
 have hk2:fd.scope.names.lookup (B.nm 19)=some .local:=by refine AZ F.names<|AZ (dt O _ _) ?_;simp[Bu,show(19==slf)=false by simpa using hne.symm]
 refine wpAny_newFunctionEnv (fun y hy=>?_) (fun y hy=>?_) (fun h1 n1 sb=>?_) F.kind
 ·rw[F.names] at hy
  simp only[aR,Bo,Dx,Bw,DR,or_false] at hy;rcases hy with rfl|rfl<;>simp
 ·simp only[Bw,DR,or_false] at hy
  rcases hy with rfl|rfl
  ·exact hk1
  ·exact hk2
 ·have e1:ay B s { s with heap:=h1,toks:=s.toks+2 }:=ay.heap O _ (fun b o e=>sb.extBut b o (fun q=>absurd (BG e) (by refine AZ q ?_;exact Bd _)) (By _ e)) (by refine AZ sb.1<|AZ (BM _ _) ?_;lia)
  refine⟨aK.lim O (g.move e1),E9 ?_⟩;have X1:=Z.z.here (g.move e1);have hx1:=e1.keep x _ hTx hx;have hd1:=e1.keep dx _ hT hd;refine Br (D5 (BX (BF F.kind hk2 n1 (v:=v) (by simp[Bu]) ?_) (O.dbg 19)));refine BX (BF F.kind hk1 n1 (v:=.ref x) (by simp[Bu,show(B.nm slf==B.nm 19)=false from beq_eq_false_iff_ne.mpr nn]) ?_) (O.dbg slf);refine jQ (B:=B) X1 (eL hx1 hd1) Z.set rfl Z.z.plain (Z.taker 19 (.inl (.inl rfl))) Z.hasDict (vb O) hd1 (xM O) rfl (by simp[gm]) fun h2 sb2 g2=>?_;refine Cw ?_;refine k _ _ ?_ g2;exact(e1.toP _).trans (cM O hT (fun o e n=>by obtain rfl:=A0 (hd1.symm.trans e);exact mF (es:=#[]) rfl (by simp) (fun x h=>nomatch (show x∈([]:List DictEntry) from h)) n) sb2) (fun b q=>.inl q) fun i q=>q.elim
theorem aD.make {k:Nat}{args:Args}(R:aD A (k+2)):aD (A.under (.builtin "type.__call__" args)) k:=by
 have hf:(Dz "type.__call__" args).frames<=1:=by
  have:(Dz "type.__call__" args).frames=if(Dz "type.__call__" args).isFrame then 1 else 0:=rfl
  refine AZ this ?_;split<;>lia
 have hw:(Dz "type.__call__" args).weight<=2:=by
  have h1:(Dz "type.__call__" args).isGuard=false:=by rfl
  have h2:(Dz "type.__call__" args).isCaller=false:=by rfl
  unfold Code.weight;refine AZ h1<|AZ h2 ?_
  simp only[BP,if_false]
  split<;>lia
 have hu:(Dz "type.__call__" args).cUnits<=6:=by
  show 1+3 * (Dz "type.__call__" args).frames<=6
  lia
 exact⟨R.handled,by have:=R.depth;show A.depth+_+k < 950;lia,by have:=R.units;show A.units+_+3 * k+300 < cLine;lia⟩
theorem kT {slf:Nat}{fI:Addr}{fo:Obj}{fd:Cu}{p1 p2 p3 p4:Pos}(Z:l4 B KF)(F:lA B KF slf fI fo fd p1 p2 p3 p4)(hne:slf≠19)(g:aK B s)(R:aD A 6){v:Value}{RR:Dv->Be->Prop}
  (k:∀s' x dx tk,ay B s s'->s.heap.objs.size<=x->s.heap.objs.size<=dx->s'.heap.get? x=some (Dd B.C dx)->s'.heap.get? dx=some (eS B.w.params [.str (B.nm 19) tk] [v] 1)->RR (.ok (.ret (.ref x))) s'):
  C3 B.M A (.call (.ref B.C) ⟨[v],[]⟩) RR s:=by
 refine va Z.z g fun f hf=>?_;replace hf:=F.find▸hf
 cases hf
 have hn:∀b,s.heap.objs.size<=b->¬B.T b:=fun b hb t=>(g.hi hb).2 t;have e1:ay B s { s with heap:=(s.heap.push emptyDict).push (Dd B.C s.heap.objs.size),toks:=s.toks }:=ay.heap O _ (fun b o e=>By _ (By _ e)) (by simp only[BM];lia);have hx:((s.heap.push emptyDict).push (Dd B.C s.heap.objs.size)).get? (s.heap.objs.size+1)=some (Dd B.C s.heap.objs.size):=by heap_get
 have hd:((s.heap.push emptyDict).push (Dd B.C s.heap.objs.size)).get? s.heap.objs.size=some emptyDict:=by heap_get
 refine zU O Z F hne (g.move e1) (aD.make O R) hx hd (hn _ (Bq _)) (hn _ (D6 _)) fun s2 tk e2 g2=>?_;refine⟨rfl,?_⟩;refine k s2 (s.heap.objs.size+1) s.heap.objs.size tk (ao.toEff e1 e2 (fun b q=>by refine AZ q ?_;exact Bq _) fun i q=>q.elim) (D6 _) (Bq _) ?_ g2;exact e2.keep _ _ (hn _ (D6 _)) (fun q=>by simp at q) hx
end
end Mine
namespace Mine
variable {B:Bs}
section
variable (O:B.Ok)
include O
variable {KF:Frag}{Γ:aj}{ρ:ac}{Wc W:AP}{pe:Env}{A:BO}{s:Be}{K:Nat}{Φ:bU}
theorem dA.ns {h:Heap}{x:Nat}{v:Value}(hk:pe.kindOf (B.nm x)=some .local)(l:dA B pe h x v):∃m,h.Ns pe.locals m/\m (B.nm x)=some v:=by
 rcases l with⟨k,m,n,q⟩|⟨k,J⟩
 ·exact⟨m,n,q⟩
 ·rw[hk] at k;rcases k with k|k<;>exact nomatch k
theorem uI {slf:Nat}{fI:Addr}{fo:Obj}{fd:Cu}{p1 p2 p3 p4:Pos}(Z:l4 B KF)(F:lA B KF slf fI fo fd p1 p2 p3 p4)(hne:slf≠19)(hK:20<=K){x t f:Nat}{e:E}{d1 d2:D}{q1 q2 q3 q4 q5 q6 q7 q8 q9 q10:Pos}
  (hC:B.mg (B.nm 23)=some (.ref B.C)) (k23:Γ 23=some .globalImplicit) (kx:Γ x=some .local) (kt:Γ t=some .local) (hxt:x≠t) (ht:ρ t=some (.fz d2)) (hf:f=20\/f=21) (he:bg B K Φ e) (hev:ev Φ Γ ρ e=some (.d d1)):
  so B K Γ ρ [.Assign [.Name (B.nm x) q1] (.Call (.Name (B.nm 23) q2) [e.py B.nm] [] q3) q4,.Assign [.Attribute (.Name (B.nm x) q5) (B.nm f) q6] (.Name (B.nm t) q7) q8,.Return (some (.Name (B.nm x) q9)) q10] (.thing [19,f] [d1,d2]):=by
 intro Wc W pe A s Q E X R k;have hf19:(19:Nat)≠f:=by rcases hf with rfl|rfl<;>decide
 have kx':=(X.kinds x _ kx).1;have kt':=(X.kinds t _ kt).1;have nxt:(B.nm t=B.nm x)=False:=by
  simp only[eq_iff_iff,iff_false];exact fun e=>hxt (O.inj _ _ e).symm
 refine Br (CC (B6 (ou O X k23 hC ?_)) rfl);refine callWith_K (Z.z.here X.good) Z.keep ?_ (aC _ _ _ _) rfl;refine AZ (show EW q3 (C6 [e.py B.nm] pe)=[(false,eval (e.py B.nm) pe)] from(bH O B.nm q3 pe [e]).trans (by refine AZ a0<|AZ (aC _ _ _ _) ?_;rfl)) ?_;refine B5 (cX O he hev rfl X R fun v s1 e1 X1 r1=>Cj ⟨Z.z.here X1.good,?_⟩);refine Ea (kT O Z F hne X1.good (R.less (by lia)) fun s2 xx dx tk e2 hx hdx gx gd=>?_);have X2:=X1.move O e2;refine ak (X1.vars t _ ht) fun w lw rw1=>?_;refine ak (dA.ns O kt' lw) fun m1 n1 hm1=>?_;have LT:¬B.T pe.locals:=fun q=>X.locW.2 (X.tW _ q);have n2:=CN.moved n1 fun o y=>e2.keep _ _ LT y;have hL:pe.locals < s1.heap.objs.size:=X1.wlt _ X1.locW.1;have nl:∀b,s1.heap.objs.size<=b->b≠pe.locals:=fun b hb q=>Bd _ (Ba hL (q▸hb));have new:∀b,s1.heap.objs.size<=b->¬B.T b:=fun b hb t=>(X1.good.hi hb).2 t;refine Ds kx' n2 (fun h3 n3 sb3=>?_) (by simp[X.fn]);have e3:ao B (fB W Wc) s2 { s2 with heap:=h3,toks:=s2.toks+1 }:=(cM O LT (let ⟨_,a,z⟩:=X2.loc;lV a z) sb3).mono (fun b q=>q▸X.locW) fun i q=>q;have gx3:h3.get? xx=some (Dd B.C dx):=sb3.extBut _ _ (nl _ hx) gx;have gd3:h3.get? dx=some (eS B.w.params [.str (B.nm 19) tk] [v] 1):=sb3.extBut _ _ (nl _ hdx) gd;refine Br (D5 (BX (BF X.fn kt' n3 (v:=w) (by simp only[nxt,if_false];exact hm1) ?_) (O.dbg t)) rfl);refine BX (BF X.fn kx' n3 (v:=.ref xx) (by simp) ?_) (O.dbg x);refine jQ (B:=B) (Z.z.here (aK.own O X2.good X2.ow e3)) (eL gx3 gd3) Z.set rfl Z.z.plain (Z.taker f (by rcases hf with rfl|rfl<;>simp)) Z.hasDict (iy O hf19) gd3 (jr O hf19) rfl (by simp[gm]) fun h4 sb4 g4=>?_;have n4:h4.Ns pe.locals _:=CN.moved n3 fun o y=>sb4.extBut _ _ (nl _ hdx).symm y;refine Br (Dw (BX (BF X.fn kx' n4 (v:=.ref xx) (by simp) ?_) (O.dbg x)))
 have e4:ao B ⟨fun b=>b=dx,fun _=>False⟩ { s2 with heap:=h3,toks:=s2.toks+1 } { s2 with heap:=h4,toks:=s2.toks+1+2 }:=cM (s:={ s2 with heap:=h3,toks:=s2.toks+1 }) O (new _ hdx) (fun o e=>by
  obtain rfl:=A0 (gd3.symm.trans e);exact mF (es:=(gm B.w.params [.str (B.nm 19) tk] [v]).toArray) rfl (fun(q:Value.type "dict" = Value.type "code")=>nomatch q) fun e he=>by
   obtain rfl:=BK.mp (show e∈[_] from he)
   exact beq_eq_false_iff_ne.mpr (O.nA 19)) sb4
 have e13:ao B (fB W Wc) s1 { s2 with heap:=h3,toks:=s2.toks+1 }:=(e2.toP _).trans e3 (fun b q=>.inl q) fun i q=>q.elim;have e14:ao B (fB W Wc) s1 { s2 with heap:=h4,toks:=s2.toks+1+2 }:=e13.trans e4 (fun b q=>.inr (by refine AZ q ?_;exact hdx)) fun i q=>q.elim;refine k _ _ ((e1.toP _).trans e14 (fun b q=>.inl q) fun i q=>q.elim) ?_;have mv:∀d v,aw B s1.heap W d v->aw B h4 Wc d v:=fun d v r=>aw.move O (e14.kW X.tW' fun b q=>q.1) (fun b q=>.inl (X.cW b q)) d v r;simp only[aw];have low:∀b,s1.heap.objs.size<=b->¬Wc b:=fun b hb q=>Bd _ (Ba (X1.wlt _ (X.cW _ q)) hb)
 exact⟨xx,dx,_,[tk,_],[v,w],rfl,low _ hx,sb4.extBut _ _ (by
  intro q;rw[q,gd3] at gx3
  exact nomatch gx3) gx3,low _ hdx,g4,rfl,rfl,ab.cons (mv _ _ r1) (ab.cons (mv _ _ rw1) ab.nil)⟩
end
end Mine
section
open PySem PySem.W PySem.W.X PySem.Calls PyProof.Rows
namespace Mine
variable {B:Bs}{K:Nat}
structure iN (B:Bs)(F:AP)(p:Pv)(s s':Be):Prop where
 keep:∀b o,¬B.T b->(F b\/p.a b)->s.heap.get? b=some o->s'.heap.get? b=some o
 ck:∀b o,B.KO o->s.heap.get? b=some o->s'.heap.get? b=some o
 size:s.heap.objs.size<=s'.heap.objs.size
 gens:∀(i:Nat) (x:En),p.g i->s.gens[i]?=some x->s'.gens[i]?=some x
structure oY (B:Bs)(F:AP)(p:Pv)(s:Be):Prop where
 a:∀b,p.a b->¬F b/\¬B.T b/\b < s.heap.objs.size
 g:∀i,p.g i->i < s.gens.size
 f:∀b,F b->¬B.T b
theorem iN.trans {F:AP}{p:Pv}{s s' s'':Be}(x:iN B F p s s')(y:iN B F p s' s''):iN B F p s s'':=
 ⟨fun b o t q e=>y.keep b o t q (x.keep b o t q e),fun b o c e=>y.ck b o c (x.ck b o c e),Bf x.size y.size,fun i z q e=>y.gens i z q (x.gens i z q e)⟩
inductive GMore (B:Bs) (K:Nat)(F:AP)(d:D)(P:Pv->Be->End->Be->Prop)(p:Pv)(s:Be)(e:End)(s':Be):Prop
 |mk (v:Value) (l':_) (k:_) (c:Code) (q:_) (fs:List Frame) (p':Pv) (ee:e=.susp v false l' k c q fs) (gd:fs.any DV=false) (ef:ao B p s s') (h1:∀b,p.a b->p'.a b) (h2:∀b,p'.a b->p.a b\/s.heap.objs.size<=b) (h3:p'.g=p.g)
   (r:aw B s'.heap (fun b=>¬F b) d v) (st:oY B F p' s') (sg:∀A s2,iN B F p' s' s2->aK B s2->aD A K->SegX B.M A c (k (.send .none)) fs s2 (P p' s2))
noncomputable def l5 (B:Bs) (K:Nat)(F:AP):List D->Pv->Be->End->Be->Prop
 |[],p,s,e,s'=>e=.ret (.ok (.ret .none))/\ao B p s s'
 |d::l,p,s,e,s'=>GMore B K F d (l5 B K F l) p s e s'
inductive GEx (B:Bs) (K:Nat)(F:AP)(it:Addr)(l:List D)(p:Pv)(s:Be):Prop
 |mk (p₀:Pv) (g:Nat) (gs:En) (c:Code) (t:Sem Ci) (fs:List Frame) (e:p=⟨fun b=>p₀.a b\/b=it,fun i=>p₀.g i\/i=g⟩) (ig:s.heap.IsGen it g) (hg:s.gens[g]?=some gs) (st:oY B F p₀ s) (na:¬p₀.a it) (ng:¬p₀.g g)
   (lv:(gs=.fresh c/\t=Ht table c/\fs=[])\/(∃k l₀ q cl,gs=.suspended k l₀ c q fs cl/\t=k (.send .none)))
   (sg:∀A s2,iN B F p₀ s s2->aK B s2->aD A K->SegX B.M A c t fs s2 (l5 B K F l p₀ s2))
structure GI (B:Bs) (K:Nat)(F:AP)(it:Addr)(l:List D)(p:Pv)(s:Be):Prop where
 ex:GEx B K F it l p s
 low:¬F it/\¬B.T it/\it < s.heap.objs.size
theorem oY.stay {F:AP}{p:Pv}{s s':Be}(x:oY B F p s)(y:s.heap.objs.size<=s'.heap.objs.size)(z:s.gens.size<=s'.gens.size):oY B F p s':=
 ⟨fun b q=>⟨(x.a b q).1,(x.a b q).2.1,Ba (x.a b q).2.2 y⟩,fun i q=>Ba (x.g i q) z,x.f⟩
section
variable (O:B.Ok)
include O
omit O in
theorem nS {s:Be}{n i:Nat}{g:En}{x:En}(hne:i≠n)(e:s.gens[i]?=some x):(s.setGen n g).gens[i]?=some x:=by
 show(s.gens.setIfInBounds n g)[i]?=some x;refine AZ (FG (Fj hne)) ?_;exact e
omit O in
theorem nU {p₀:Pv}{it:Addr}{n:Nat}(s:Be)(g:En)(hb:g.bare=true):ao B ⟨fun b=>p₀.a b\/b=it,fun i=>p₀.g i\/i=n⟩ s (s.setGen n g):=
 ⟨fun J J J J e=>e,fun J J J e=>e,Bq _,id,fun i x q e=>nS (fun z=>q (.inr z)) e,by show _<=(s.gens.setIfInBounds n g).size;simp,fun hb' x hx=>(Array.mem_or_eq_of_mem_setIfInBounds hx).elim (hb' x) fun h=>h▸hb,rfl⟩
omit O in
theorem st_room {b:GenStatus}(hb:b=.fresh\/b=.suspended){α:Type}{k:PUnit->Sem α}{A:BO}{E:VS}{Q:α->Be->Prop}{s:Be}(h:wpAny B.M A (roomToWake >>= k) Q E s):
  wpAny B.M A (match b with|.fresh=>roomToWake >>= k|.suspended=>roomToWake >>= k|_=>k ⟨⟩) Q E s:=by rcases hb with rfl|rfl<;>exact h
omit O in
theorem uS {it:Addr}{n:Nat}{gs:En}{s:Be}{A:BO}{E:VS}{Q:Option Value->Be->Prop}(hg:s.heap.IsGen it n)(hgs:s.gens[n]?=some gs)(hb:gs.status=.fresh\/gs.status=.suspended)(lim:s.heap.NoLimit)(hroom:A.depth < recursionLimit)(hh:A.handled=none)
  (h:∀(kk:GenResult->Sem Ci) (Q':Ci->Be->Prop) (E':VS),(∀v s',Q (some v) s'->wpAny B.M A.in1 (kk (.yielded v)) Q' E' s')->
   (∀s',(∀h' tk,(∀b o,s'.heap.get? b=some o->h'.get? b=some o)->s'.heap.objs.size<=h'.objs.size->Q none { s' with heap:=h',toks:=tk })->wpAny B.M A.in1 (kk (.returned .none)) Q' E' s')->wpAny B.M A.in1 (.resume n (.send .none) [] kk) Q' E' s):wpAny B.M A (Ec (.ref it)) Q E s:=by
 unfold Ec
 refine Bc (G6 (Hf (name:=Str.ofString "__next__") hg.typeIs slot_gen_next
  (Gm slot_gen_next hg.typeIs entry_gen_next ?_ (args_gen_next _))))
 show wpAny _ A.in1 (E7 (.ref it) (.send .none)) _ _ s;unfold E7;refine Bc (Cv (wpAny_genNumber hg (Bc (wpAny_genState hgs ?_))));refine st_room hb (Bc (wpAny_roomToWake lim hroom ?_));refine h _ _ _ (fun v s' q=>Bk ⟨v,rfl,Bk q⟩) fun s' q=>?_;show wpAny _ A.in1 (newExc (.type "StopIteration") [] >>= _) _ _ _
 refine Bc ?_;simp only[newExc,newTuple];refine Bc (CB ?_ (by size_fits));refine Bc (m:=firstArgMember _ _) (Fq (a:=Value.none) (by first|rfl|(simp only[firstArgMember];rfl)) ?_);refine CB ?_ (by size_fits);simp only[raiseNew];refine Bc (Bc (wpAny_handled ?_))
 first|refine AZ (show A.in1.handled=none from hh) ?_|rw[hh]
 refine wpAny_throw ?_;refine Bc (wpAny_isInstance (T := "StopIteration") (b:=true) ⟨_,BD _ rfl,rfl⟩ isSubtype_stop ?_)
 exact Bk (q _ _ (fun b o e=>By _ (By _ e)) (by simp only[BM];lia))
theorem tN {F:AP}{it:Addr}{l:List D}{p:Pv}{s:Be}{A:BO}{E:VS}{Q:Option Value->Be->Prop}(h:GI B K F it l p s)(g:aK B s)(R:aD A (K+1))
  (k:match l with
   |[]=>∀s',ao B p s s'->Q none s'
   |d::l=>∀v s' p',ao B p s s'->(∀b,p.a b->p'.a b)->(∀b,p'.a b->p.a b\/s.heap.objs.size<=b)->p'.g=p.g->aw B s'.heap (fun b=>¬F b) d v->GI B K F it l p' s'->Q (some v) s'):
  wpAny B.M A (Ec (.ref it)) Q E s:=by
 obtain⟨⟨p₀,n,gs,c,t,fs,rfl,hg,hgs,hst,hnit,hng,hlive,hseg⟩,hlow⟩:=h;have hnlt:n < s.gens.size:=(Cn.mp hgs).1;have lim:=aK.lim O g;have stay:iN B F p₀ s (s.setGen n .running):=⟨fun J J J J e=>e,fun J J J e=>e,Bq _,fun i x q e=>nS (fun z=>hng (z▸q)) e⟩;have run:=hseg A.in1 (s.setGen n .running) stay ⟨g.base,g.size,g.ti,g.tlt⟩ R.in1;have e0:ao B ⟨fun b=>p₀.a b\/b=it,fun i=>p₀.g i\/i=n⟩ s (s.setGen n .running):=nU s _ rfl;have setE:∀(s₁:Be) (gs':En),gs'.bare=true->ao B ⟨fun b=>p₀.a b\/b=it,fun i=>p₀.g i\/i=n⟩ s₁ (s₁.setGen n gs'):=nU;have up:∀{s₁:Be},ao B p₀ (s.setGen n .running) s₁->ao B ⟨fun b=>p₀.a b\/b=it,fun i=>p₀.g i\/i=n⟩ s s₁:=fun e=>e0.trans (e.mono (p':=⟨fun b=>p₀.a b\/b=it,fun i=>p₀.g i\/i=n⟩) (fun b q=>.inl q) fun i q=>.inl q) (fun b q=>.inl q) fun i q=>.inl q;have wake:∀{α:Type}{kk:GenResult->Sem α}{Q':α->Be->Prop}{E':VS},(∀e s₁,l5 B K F l p₀ (s.setGen n .running) e s₁->wpAny B.M A.in1 (kk e.result) Q' E' (s₁.setGen n e.genState))->wpAny B.M A.in1 (.resume n (.send .none) [] kk) Q' E' s:=by
  intro α kk Q' E' hk Γ p hΓ;refine wake_any α B.prog B.w hgs ?_ (fun Γ=>Γ.In A.in1) (fun J h=>h) (run.mono fun e s₁ he Γ p hΓ=>hk e s₁ he Γ p hΓ) Γ p hΓ;rcases hlive with⟨h1,h2,h3⟩|⟨k',l₀,q,cl,h1,h2⟩
  ·exact .inl ⟨h1,rfl,h2,h3⟩
  ·exact .inr ⟨k',l₀,q,cl,h1,h2⟩
 have hroom:A.depth < recursionLimit:=aD.lim (k:=K) ⟨R.handled,by have:=R.depth;lia,by have:=R.units;lia⟩;have hb:gs.status=.fresh\/gs.status=.suspended:=by
  rcases hlive with⟨h,J⟩|⟨J,J,J,J,h,J⟩<;>refine AZ h ?_
  ·exact .inl rfl
  ·exact .inr rfl
 refine uS hg hgs hb lim hroom R.handled fun kk Q' E' ky kr=>wake fun e s₁ he=>?_
 cases l with
 |nil=>
  refine aS he fun e91=>?_;subst e91;intro ee;exact kr _ fun h' tk hk hs=>k _ (((up ee).trans (setE s₁ _ rfl) (fun b q=>.inl q) fun i q=>.inl q).trans (ay.toP (ay.heap O _ hk hs) _) (fun b q=>.inl q) fun i q=>.inl q)
 |cons d l=>
  obtain⟨v,l',k',c',q,fs',p',rfl,hgd,ee,h1,h2,h3,h4,h5,h6⟩:=he;have hbare:(End.susp v false l' k' c' q fs').genState.bare=true:=by
   show(!(false||fs'.any DV))=true;refine AZ hgd ?_;rfl
  have hE:=(up ee).trans (setE s₁ _ hbare) (fun b q=>.inl q) fun i q=>.inl q;have hn1:n < s₁.gens.size:=Ba hnlt (up ee).gsize;refine ky v _ (k v _ ⟨fun b=>p'.a b\/b=it,fun i=>p'.g i\/i=n⟩ hE (fun b q=>q.imp (h1 b) id) (fun b q=>?_) ?_ h4 ?_)
  ·rcases q with q|q
   ·exact(h2 b q).imp .inl id
   ·exact .inl (.inr q)
  ·simp only[h3]
  ·have hit:s₁.heap.IsGen it n:=by
    refine x31 hg fun o nm qn ho r=>?_;exact⟨o,nm,qn,ee.keep _ _ hlow.2.1 hnit ho,r⟩
   refine⟨⟨p',n,(End.susp v false l' k' c' q fs').genState,c',_,fs',rfl,hit,?_,?_,fun w=>(h2 it w).elim hnit fun z=>Bd _ (Ba hlow.2.2 z),by refine AZ h3 ?_;exact hng,.inr ⟨k',l',q,(false||fs'.any DV),rfl,rfl⟩,fun A s2 hs hg2 R2=>h6 A s2 ⟨hs.keep,hs.ck,hs.size,fun i x q e=>hs.gens i x q ?_⟩ hg2 R2⟩,hlow.1,hlow.2.1,?_⟩
   ·show(s₁.gens.setIfInBounds n _)[n]?=_
    exact AZ (Array.getElem?_setIfInBounds_self_of_lt hn1) rfl
   ·exact h5.stay (Bq _) (by show _<=(s₁.gens.setIfInBounds n _).size;simp)
   ·have hne:i≠n:=fun z=>hng (by refine AZ (BE h3) ?_;exact z▸q)
    show(s₁.gens.setIfInBounds n _)[i]?=some x;refine AZ (FG (Fj hne)) ?_;exact e
   ·exact Ba hlow.2.2 (up ee).size
theorem vi {F:AP}{it:Addr}:bL B (K+5) F it (GI B K F it) where
 sub:=fun l p s h b hb=>by
  obtain⟨⟨p₀,n,gs,c,t,fs,rfl,hg,hgs,hst,J⟩,hlow⟩:=h;rcases hb with hb|rfl
  ·exact hst.a b hb
  ·exact hlow
 subg:=fun l p s h i hi=>by
  obtain⟨⟨p₀,n,gs,c,t,fs,rfl,hg,hgs,hst,J⟩,hlow⟩:=h;rcases hi with hi|rfl
  ·exact hst.g i hi
  ·exact(Cn.mp hgs).1
 ft:=fun l p s h=>by
  obtain⟨⟨p₀,n,gs,c,t,fs,rfl,hg,hgs,hst,J⟩,hlow⟩:=h;exact hst.f
 ty:=fun l p s h=>by
  obtain⟨⟨p₀,n,gs,c,t,fs,rfl,hg,J⟩,hlow⟩:=h;exact⟨_,hg.typeIs,by decide⟩
 stay:=fun l p s s' h k ck hs kg g=>by
  obtain⟨⟨p₀,n,gs,c,t,fs,rfl,hg,hgs,hst,h1,h2,h3,h4⟩,hlow⟩:=h;have hg':s'.heap.IsGen it n:=by
   refine x31 hg fun o nm qn ho r=>?_;exact⟨o,nm,qn,k _ _ hlow.2.1 (.inr (.inr rfl)) ho,r⟩
  refine⟨⟨p₀,n,gs,c,t,fs,rfl,hg',kg n _ (.inr rfl) hgs,⟨fun b q=>⟨(hst.a b q).1,(hst.a b q).2.1,Ba (hst.a b q).2.2 hs⟩,fun i q=>?_,hst.f⟩,h1,h2,h3,fun A s2 st g2 R2=>h4 A s2 ?_ g2 R2⟩,hlow.1,hlow.2.1,Ba hlow.2.2 hs⟩
  ·have:=hst.g i q
   have h5:=kg i s.gens[i] (.inl q) (by simp[this]);exact(Cn.mp h5).1
  ·exact iN.trans ⟨fun b o t q e=>k b o t (q.imp_right .inl) e,ck,hs,fun i x q e=>kg i x (.inl q) e⟩ st
 next:=fun d l p s A E Q h g R k=>tN O h g R k
 done:=fun p s A E Q h g R k=>tN O h g R k
 self:=fun l p s A E Q h g R k=>by
  obtain⟨⟨p₀,n,gs,c,t,fs,rfl,hg,J⟩,hlow⟩:=h;exact wpAny_pyIter_gen hg k
end
end Mine
end
section
open PySem PySem.W PySem.W.X PySem.Calls PyProof.Rows
namespace Mine
variable {B:Bs}{A:BO}{c:Code}{fs:List Frame}{s:Be}{env:Env}{P:End->Be->Prop}{K:Flow->Sem Ci}{H:Value->Sem Ci}{gd:Bool->Bool}{lv:List Value->List Value}
theorem qT {α:Type}{m:Sem α}{K:α->Sem Ci}{H:Value->Sem Ci}(h:wpAny B.M (A.over c fs) m (fun a s'=>SegX B.M A c (K a) fs s' P) (fun x s'=>SegX B.M A c (H x) fs s' P) s):SegX B.M A c (m.wrap K H gd lv) fs s P:=by
 rintro Γ p rfl hΓ;refine sI (runs_wrap_of_wp (Φ:=fun e s'=>e.quiet=true/\P e s') K H gd lv m (h (Γ.over fs) p (hΓ.over fs)) (fun a p' s' h'=>h' Γ p' rfl hΓ) (fun x p' s' h'=>h' Γ p' rfl hΓ)) fun e s' hr hq=>?_;exact⟨e,s',hr,hq⟩
theorem cG {α:Type}{m:Sem α}{K:α->Sem Ci}{H:Value->Sem Ci}(h:wpAny B.M (A.over c fs) m (fun a s'=>SegX B.M A c (K a) fs s' P) i6 s):SegX B.M A c (m.wrap K H gd lv) fs s P:=
 qT (BH h (fun J J x=>x) fun J J f=>f.elim)
theorem nI {p':Pos}{k:Unit->Sem Ci}(h:SegX B.M A c (k ()) fs s P):SegX B.M A c (.at p' k) fs s P:=
 qT (m:=EB p') (K:=k) (H:=.raise) (gd:=id) (lv:=id) (B8 h)
theorem yO {l:List Value}{k:Unit->Sem Ci}(h:SegX B.M A c (k ()) fs s P):SegX B.M A c (.point l k) fs s P:=
 qT (m:=point) (K:=k) (H:=.raise) (gd:=id) (lv:=fun J=>l) (wpAny_point h)
theorem sx_call {c':Code}{hd:Option Value}{g:Bool}{l:List Value}{k:Dv->Sem Ci}(x:∀p,SegX B.M A c' (Ht table c') (.ret k hd g l c p []::fs) s P):SegX B.M A c (.call c' hd g l k) fs s P:=
 s_call B.prog B.w A c fs P s c' hd g l k x
theorem gz (h:SegX B.M A c (K .next) fs s P):SegX B.M A c ((execs [] env).wrap K H gd lv) fs s P:=h
theorem i3 {st:Stmt}{rest:List Stmt}(h:SegX B.M A c ((exec st env).wrap (fun f=>match f with|.next=>(execs rest env).wrap K H gd lv|f=>K f) H gd lv) fs s P):
  SegX B.M A c ((execs (st::rest) env).wrap K H gd lv) fs s P:=by refine AZ (execs_cons_wrap _ _) ?_;exact h
theorem yN {e:Expr}{ypos pos:Pos}(hfs:splitAtGen fs=none)(hgd:gd false=false)(hfg:fs.any DV=false)
  (h:wpAny B.M (A.over c fs) (eval e env) (fun v s'=>∀l k q,k (.send .none)=K .next->P (.susp v false l k c q fs) s') i6 s) (hco:env.scope.isCoroutine=false) (hi:Ft env=false):
  SegX B.M A c ((exec (.Expr (.Yield (some e) ypos) pos) env).wrap K H gd lv) fs s P:=by
 rw[exec_Expr env _ pos hi rfl]
 show SegX B.M A c (.at pos fun J=>((eval e env >>= fun v=>(EB ypos >>= fun J=>yieldOut env v)) >>= fun x=>
  dropValue (.Yield (some e) ypos) pos x).wrap K H gd lv) fs s P
 have hy:∀v,yieldOut env v=yieldValue v:=fun v=>by simp only[yieldOut,hco,BP,if_false]
 simp only[hy];refine nI ?_;refine AZ (Ck _ _)<|AZ (Ck _ _)<|AZ (CO _ _ _ _ _ _ _ _ _)<|AZ (CO _ _ _ _ _ _ _ _ _) ?_
 refine cG (BH h (fun v s' h'=>?_) fun J J x=>x);refine nI ?_;show SegX B.M A c (.yield v (gd false) _ _) fs s' P;refine AZ hgd ?_;exact s_yield B.prog B.w A c fs P s' v _ _ hfs hfg fun p=>h' _ _ _ rfl
theorem sx_For {target iter:Expr}{body orelse:List Stmt}{pos:Pos}(h:wpAny B.M (A.over c fs) (eval iter env) (fun x s₁=>wpAny B.M (A.over c fs) (Gp x) (fun it s₂=>∀k l p,(∀f,k (.ok f)=K f)->
   SegX B.M A (.forLoop target it body orelse env) (Ht table (.forLoop target it body orelse env)) (.ret k none (gd false) l c p []::fs) s₂ P) i6 s₁) i6 s)
  (hs:∀x,ET iter env x=pure x):SegX B.M A c ((exec (.For target iter body orelse pos) env).wrap K H gd lv) fs s P:=by
 refine AZ (exec_For _ _ _ _ _) ?_;refine nI ?_;show SegX B.M A c (Gs K H gd lv (eval iter env >>= fun x=>ET iter env x >>= fun x=>EB iter.pos >>= fun J=>Hs [x] (Gp x) >>= fun it=>runOwn (.forLoop target it body orelse env) env)) fs s P;refine AZ (Ck _ _)<|AZ (CO _ _ _ _ _ _ _ _ _) ?_
 refine cG (BH h (fun x s₁ h₁=>?_) fun J J f=>f);refine AZ (hs x) ?_;refine nI ?_;show SegX B.M A c (Gs K H gd lv (Hs [x] (Gp x) >>= fun it=>runOwn (.forLoop target it body orelse env) env)) fs s₁ P;refine AZ (Ck _ _)<|AZ (CO _ _ _ _ _ _ _ _ _) ?_
 refine cG (Cv (BH h₁ (fun it s₂ h₂=>?_) fun J J f=>f));exact sx_call fun p=>h₂ _ _ p fun f=>rfl
theorem vU {target:Expr}{it:Value}{body:List Stmt}(h:wpAny B.M (A.over (.forLoop target it body [] env) fs) (Ec it) (fun r s₁=>match r with
   |none=>SegX B.M A (.block [] env) (leafOf (.ok .next)) fs s₁ P
   |some v=>wpAny B.M (A.over (.forLoop target it body [] env) fs) (CM target it v) (fun J s₂=>wpAny B.M (A.over (.forLoop target it body [] env) fs) (DG target env v) (fun J s₃=>
     ∀(KK:Flow->Sem Ci) (HH:Value->Sem Ci),KK .next=.pure (.again (.forLoop target it body [] env))->SegX B.M A (.forLoop target it body [] env) ((execs body env).wrap KK HH id id) fs s₃ P) i6 s₂) i6 s₁) i6 s):
  SegX B.M A (.forLoop target it body [] env) (Ht table (.forLoop target it body [] env)) fs s P:=by
 show SegX _ A _ ((ES target it body [] env).onRaise (fun x=>do Ee x env;Di x)) fs s P;unfold ES;refine AZ (Hj _ _) ?_;refine nI ?_
 show SegX B.M A _ (Gs Sem.pure (fun e=>(do Ee e env;Di e:Sem Unit).bind fun J=>Sem.raise e) id id ((Ec it).onRaise (fun J=>EB { target.pos with line:=0 }) >>= fun r=>match r with
  |none=>again (.block [] env)
  |some v=>CM target it v >>= fun J=>DG target env v >>= fun J=>execs body env >>= fun f=>match f with
   |.next=>again (.forLoop target it body [] env)
   |.cont=>again (.forLoop target it body [] env)
   |.brk=>pure (.done .next)
   |.ret v=>pure (.done (.ret v)))) fs s P
 refine AZ (Ck _ _)<|AZ (CO _ _ _ _ _ _ _ _ _) ?_
 refine cG (EV (BH h (fun r s₁ h₁=>?_) fun J J f=>f.elim))
 cases r with
 |none=>
  refine s_again B.prog B.w A _ fs P s₁ (.block [] env) rfl ?_;exact h₁
 |some v=>
  dsimp only;refine AZ (Ck _ _)<|AZ (CO _ _ _ _ _ _ _ _ _) ?_
  refine cG (BH h₁ (fun J s₂ h₂=>?_) fun J J f=>f);refine AZ (Ck _ _)<|AZ (CO _ _ _ _ _ _ _ _ _) ?_
  refine cG (BH h₂ (fun J s₃ h₃=>?_) fun J J f=>f);refine AZ (Ck _ _)<|AZ (CO _ _ _ _ _ _ _ _ _) ?_
  exact h₃ _ _ rfl
end Mine
end
section
open PySem PySem.W PySem.W.X PySem.Calls PyProof.Rows
namespace Mine
variable {B:Bs}
set_option genCtorIdx false in
inductive Sg where
 |asg (x:Nat) (e:E) (xp p:Pos)
 |pm (x f y:Nat) (xp fp yp cp p:Pos)
 |newD (x:Nat) (xp dp p:Pos)
 |forS (t:Nat) (tp:Pos) (y:Nat) (yp:Pos) (body:List Sg) (p:Pos)
 |ifS (c:E) (a:List Sg) (p:Pos)
 |ifNew (rm y:Nat) (a:List Sg) (q1 q2 q3 q4 q5 q6 q7 q8 p:Pos)
 |yld (x:Nat) (xp yp p:Pos)
section
variable (nm:Nat->Str)
mutual
noncomputable def Sg.py:Sg->Stmt
 |.asg x e xp p=>.Assign [.Name (nm x) xp] (e.py nm) p
 |.pm x f y xp fp yp cp p=>.Assign [.Name (nm x) xp] (.Call (.Name (nm f) fp) [.Name (nm y) yp] [] cp) p
 |.newD x xp dp p=>.Assign [.Name (nm x) xp] (.Dict [] [] dp) p
 |.forS t tp y yp body p=>.For (.Name (nm t) tp) (.Name (nm y) yp) (gf body) [] p
 |.ifS c a p=>.If (c.py nm) (gf a) [] p
 |.ifNew rm y a q1 q2 q3 q4 q5 q6 q7 q8 p=>.If (.Compare (.Name (nm y) q1) [.NotIn] [.Name (nm rm) q2] q3) (.Assign [.Subscript (.Name (nm rm) q4) (.Name (nm y) q5) q6] (.Constant .none 0 q7) q8::gf a) [] p
 |.yld x xp yp p=>.Expr (.Yield (some (.Name (nm x) xp)) yp) p
noncomputable def gf:List Sg->List Stmt
 |[]=>[]
 |s::r=>s.py::gf r
end
end
noncomputable def D.flat:D->Bool
 |.nil=>true
 |.bool _=>true
 |.int _=>true
 |.str _=>true
 |_=>false
noncomputable def E.isCp:E->Bool
 |.comp ..=>true
 |_=>false
noncomputable def ac.at (ρ:ac) (x:Nat):Option D:=match ρ x with
 |some (.fz d)=>some d
 |some (.sealed d)=>some d
 |_=>none
noncomputable def eh (Γ:aj) (t:Nat)(body:ac->Option (List D×ac)):ac->List D->Option (List D×ac)
 |ρ,[]=>some ([],ρ)
 |ρ,d::r=>if Γ.mine ρ t then do
  let (ys,ρ1) <-body (ρ.set t (.fz d))
  let (zs,ρ2) <-eh Γ t body ρ1 r
  some (ys++zs,ρ2)
  else none
theorem Ae {Γ:aj}{t:Nat}{body:ac->Option (List D×ac)}{ρ:ac}{d:D}{r:List D}:eh Γ t body ρ (d::r)=if Γ.mine ρ t then(do
  let (ys,ρ1) <-body (ρ.set t (.fz d))
  let (zs,ρ2) <-eh Γ t body ρ1 r
  some (ys++zs,ρ2))
  else none:=rfl
section
variable (Φ:bU)(Ψ:Nat->D->Option D) (rm:Nat)(Γ:aj)
mutual
noncomputable def sr (ρ:ac):Sg->Option (List D×ac)
 |.asg x e _ _=>do
  let d <-(<-ev Φ Γ ρ e).asD
  if Γ.mine ρ x&&d.flat&&!e.isCp then some ([],ρ.set x (.fz d)) else none
 |.pm x f y _ _ _ _ _=>do
  let d <-ρ.at y
  let r <-Ψ f d
  if Γ.mine ρ x/\Γ f=some .globalImplicit then some ([],ρ.set x (.fz r)) else none
 |.newD x _ _ _=>if Γ.mine ρ x&&x==rm then some ([],ρ.set x (.ownD [])) else none
 |.forS t _ y _ body _=>do
  let d <-ρ.at y
  let items <-(R.d d).asI
  eh Γ t (fun ρ=>eH ρ body) ρ items
 |.ifS c a _=>do
  let t <-cT Φ Γ ρ c
  if t then eH ρ a else some ([],ρ)
 |.ifNew m y a _ _ _ _ _ _ _ _ _=>match ρ m,ρ.at y with
  |some (.ownD ks),some (.str i)=>if m=rm/\ks.length < 64 then(if ks.contains i then some ([],ρ) else eH (ρ.set m (.ownD (ks++[i]))) a) else none
  |_,_=>none
 |.yld x _ _ _=>do
  let d <-ρ.at x
  some ([d],ρ)
noncomputable def eH (ρ:ac):List Sg->Option (List D×ac)
 |[]=>some ([],ρ)
 |s::r=>do
  let (ys,ρ1) <-sr ρ s
  let (zs,ρ2) <-eH ρ1 r
  some (ys++zs,ρ2)
end
end
section
variable {Φ:bU}{Ψ:Nat->D->Option D}{rm:Nat}{Γ:aj}{ρ:ac}
theorem mT  : eH Φ Ψ rm Γ ρ []=(some ([],ρ)):=rfl
theorem lC {s r}:eH Φ Ψ rm Γ ρ (s::r)=(do
  let (ys,ρ1) <-sr Φ Ψ rm Γ ρ s
  let (zs,ρ2) <-eH Φ Ψ rm Γ ρ1 r
  some (ys++zs,ρ2)):=rfl
theorem pC {x e u1 u2}:sr Φ Ψ rm Γ ρ (.asg x e u1 u2)=(do
  let d <-(<-ev Φ Γ ρ e).asD
  if Γ.mine ρ x&&d.flat&&!e.isCp then some ([],ρ.set x (.fz d)) else none):=rfl
theorem sH {x f y u1 u2 u3 u4 u5}:sr Φ Ψ rm Γ ρ (.pm x f y u1 u2 u3 u4 u5)=(do
  let d <-ρ.at y
  let r <-Ψ f d
  if Γ.mine ρ x/\Γ f=some .globalImplicit then some ([],ρ.set x (.fz r)) else none):=rfl
theorem mU {x u1 u2 u3}:sr Φ Ψ rm Γ ρ (.newD x u1 u2 u3)=(if Γ.mine ρ x&&x==rm then some ([],ρ.set x (.ownD [])) else none):=rfl
theorem mV {t u1 y u2 body u3}:sr Φ Ψ rm Γ ρ (.forS t u1 y u2 body u3)=(do
  let d <-ρ.at y
  let items <-(R.d d).asI
  eh Γ t (fun ρ=>eH Φ Ψ rm Γ ρ body) ρ items):=rfl
theorem kH {c a u1}:sr Φ Ψ rm Γ ρ (.ifS c a u1)=(do
  let t <-cT Φ Γ ρ c
  if t then eH Φ Ψ rm Γ ρ a else some ([],ρ)):=rfl
theorem hH {m y a u1 u2 u3 u4 u5 u6 u7 u8 u9}:sr Φ Ψ rm Γ ρ (.ifNew m y a u1 u2 u3 u4 u5 u6 u7 u8 u9)=(match ρ m,ρ.at y with
  |some (.ownD ks),some (.str i)=>if m=rm/\ks.length < 64 then(if ks.contains i then some ([],ρ) else eH Φ Ψ rm Γ (ρ.set m (.ownD (ks++[i]))) a) else none
  |_,_=>none):=rfl
theorem pB {x u1 u2 u3}:sr Φ Ψ rm Γ ρ (.yld x u1 u2 u3)=(do
  let d <-ρ.at x
  some ([d],ρ)):=rfl
end
structure sk (c:Code)(fs:List Frame):Prop where
 split:splitAtGen fs=none
 guard:fs.any DV=false
 room:∀A k,aD A (k+1)->aD (A.over c fs) k
theorem sk.func (body:List Stmt)(env:Env):sk (.func body env) [] where
 split:=rfl
 guard:=rfl
 room:=fun A k R=>by
  refine⟨R.handled,?_,?_⟩
  ·have:=R.depth
   show A.depth+0+1+k < 950
   lia
  ·have:=R.units
   show A.units+0+3+3 * k+300 < cLine
   lia
theorem sk.loop {c:Code}{fs:List Frame}(x:sk c fs)(t:Expr)(it:Value)(b o:List Stmt)(env:Env)(k:Dv->Sem Ci)(l:List Value)(p:Pos):sk (.forLoop t it b o env) (.ret k none false l c p []::fs) where
 split:=by simp[splitAtGen,x.split]
 guard:=by simp[DV,x.guard]
 room:=fun A n R=>by
  have h:=x.room A n R;refine⟨h.handled,?_,?_⟩
  ·have h1:=h.depth
   have e:(A.over (.forLoop t it b o env) (.ret k none false l c p []::fs)).depth=(A.over c fs).depth:=by
    show A.depth+(c.weight+frameCount (fs.map Fy))+0=A.depth+frameCount (fs.map Fy)+c.weight
    lia
   refine AZ e ?_;exact h1
  ·have h1:=h.units
   have e:(A.over (.forLoop t it b o env) (.ret k none false l c p []::fs)).units=(A.over c fs).units:=by
    show A.units+unitsOf ((c,p)::fs.map Fy)+0=A.units+unitsOf (fs.map Fy)+c.cUnits;refine AZ (unitsOf_cons _ _ _) ?_;lia
   refine AZ e ?_;exact h1
noncomputable abbrev gW (F:AP)(s:Be):Addr->Prop:=fun b=>¬F b/\b < s.heap.objs.size
noncomputable abbrev zY (F O:AP)(s:Be):Addr->Prop:=fun b=>¬F b/\¬O b/\b < s.heap.objs.size
noncomputable abbrev uY:Nat->Prop:=fun J=>False
structure yr (B:Bs)(F:AP)(J:(Addr->Prop)->Be->Prop):Prop where
 sub:∀z s,J z s->∀b,z b->¬F b/\¬B.T b/\b < s.heap.objs.size/\B.Hi b
 stay:∀z s s',J z s->iN B F ⟨z,uY⟩ s s'->aK B s'->J z s'
structure GR (B:Bs)(Γ:aj)(pe:Env) (rm:Nat)(ρ:ac)(F:AP)(J:(Addr->Prop)->Be->Prop)(p₀:Pv)(s₀:Be)(O z:AP)(p:Pv)(s:Be):Prop where
 x:Ctx B Γ (zY F O s) (gW F s) pe ρ s
 j:J z s
 oz:∀b,O b->¬z b
 op:∀b,O b->p.a b
 o0:∀b,O b->B.Hi b
 zp:∀b,z b->p.a b
 st:oY B F p s
 flt:∀b,F b->b < s.heap.objs.size
 e:ao B p₀ s₀ s
 up:∀b,p₀.a b->p.a b
 dn:∀b,p.a b->p₀.a b\/s₀.heap.objs.size<=b
 g:p.g=p₀.g
 dx:∀y ks,ρ y=some (.ownD ks)->y=rm
section
variable (O':B.Ok)
include O'
variable {Γ:aj}{pe:Env}{rm:Nat}{ρ ρ':ac}{F O z:AP}{J:(Addr->Prop)->Be->Prop}{p₀ p:Pv}{s₀ s s':Be}{A:BO}{K:Nat}
theorem Ctx.heapOnly {Wc W:AP}(X:Ctx B Γ Wc W pe ρ s)(h:s'.heap=s.heap):Ctx B Γ Wc W pe ρ s':=by
 obtain⟨hh,gg,d,t,os⟩:=s';dsimp only at h;subst h;exact⟨⟨X.good.base,X.good.size,X.good.ti,X.good.tlt⟩,X.fn,X.glob,X.blt,X.tW,X.cW,X.wlt,X.loc,X.locW,X.ow,X.code,X.kinds,X.cells,X.apart,X.cellW,X.vars,X.sealedW,X.owns⟩
theorem wN (flt:∀b,F b->b < s.heap.objs.size)(h:s.heap.objs.size<=s'.heap.objs.size):(cw (gW F s) fun b=>s.heap.objs.size<=b/\b < s'.heap.objs.size)=gW F s':=by
 funext b
 refine propext ⟨fun q=>?_,fun q=>?_⟩
 ·rcases q with⟨h1,h2⟩|⟨h1,h2⟩
  ·exact⟨h1,Ba h2 h⟩
  ·exact⟨fun f=>Bd _ (Ba (flt b f) h1),h2⟩
 ·rcases Ek b s.heap.objs.size with h3|h3
  ·exact .inl ⟨q.1,h3⟩
  ·exact .inr ⟨h3,q.2⟩
theorem tO (flt:∀b,F b->b < s.heap.objs.size)(ol:∀b,O b->b < s.heap.objs.size)(h:s.heap.objs.size<=s'.heap.objs.size):(cw (zY F O s) fun b=>s.heap.objs.size<=b/\b < s'.heap.objs.size)=zY F O s':=by
 funext b
 refine propext ⟨fun q=>?_,fun q=>?_⟩
 ·rcases q with⟨h1,h2,h3⟩|⟨h1,h2⟩
  ·exact⟨h1,h2,Ba h3 h⟩
  ·exact⟨fun f=>Bd _ (Ba (flt b f) h1),fun f=>Bd _ (Ba (ol b f) h1),h2⟩
 ·rcases Ek b s.heap.objs.size with h3|h3
  ·exact .inl ⟨q.1,q.2.1,h3⟩
  ·exact .inr ⟨h3,q.2.2⟩
theorem GR.iter {q:Pv}(R:GR B Γ pe rm ρ F J p₀ s₀ O z p s)(j:yr B F J)(e:ao B q s s')(hq:∀b,q.a b->p.a b/\¬O b/\¬z b/\B.Hi b)(hg:q.g=uY):GR B Γ pe rm ρ F J p₀ s₀ O z p s':=by
 have ol:∀b,O b->b < s.heap.objs.size:=fun b q=>(R.st.a b (R.op b q)).2.2;have X:=Ctx.grow O' R.x e (N:=fun b=>s.heap.objs.size<=b/\b < s'.heap.objs.size) (fun b w=>⟨(R.st.a b (hq b w).1).1,(hq b w).2.1,(R.st.a b (hq b w).1).2.2⟩) (fun b w=>(hq b w).2.2.2) fun b q=>q;rw[tO O' R.flt ol e.size,wN O' R.flt e.size] at X;refine⟨X,j.stay z s s' R.j ⟨fun b o t w x=>e.keep b o t (fun y=>?_) x,e.ck,e.size,fun i x w=>w.elim⟩ X.good,R.oz,R.op,R.o0,R.zp,⟨fun b w=>⟨(R.st.a b w).1,(R.st.a b w).2.1,Ba (R.st.a b w).2.2 e.size⟩,fun i w=>Ba (R.st.g i w) e.gsize,R.st.f⟩,fun b f=>Ba (R.flt b f) e.size,?_,R.up,R.dn,R.g,R.dx⟩
 ·rcases w with w|w
  ·exact(R.st.a b (hq b y).1).1 w
  ·exact(hq b y).2.2.1 w
 ·exact R.e.trans e (fun b w=>(R.dn b (hq b w).1)) fun i w=>by rw[hg] at w;exact w.elim
theorem GR.eff (R:GR B Γ pe rm ρ F J p₀ s₀ O z p s)(j:yr B F J)(e:ay B s s'):GR B Γ pe rm ρ F J p₀ s₀ O z p s':=
 R.iter O' j (e.toP ⟨fun J=>False,uY⟩) (fun b w=>w.elim) rfl
theorem GR.own (R:GR B Γ pe rm ρ F J p₀ s₀ O z p s)(j:yr B F J)(X:Ctx B Γ (zY F O s) (gW F s) pe ρ' s')(e:ao B ⟨O,uY⟩ s s')(hs:s'.heap.objs.size=s.heap.objs.size)(dx:∀y ks,ρ' y=some (.ownD ks)->y=rm):GR B Γ pe rm ρ' F J p₀ s₀ O z p s':=by
 have h1:zY F O s'=zY F O s:=by funext b;show(_/\_/\b < s'.heap.objs.size)=(_/\_/\b < s.heap.objs.size);exact AZ hs rfl
 have h2:gW F s'=gW F s:=by funext b;show(_/\b < s'.heap.objs.size)=(_/\b < s.heap.objs.size);exact AZ hs rfl
 refine⟨by refine AZ h1<|AZ h2 ?_;exact X,j.stay z s s' R.j ⟨fun b o t w x=>e.keep b o t (fun y=>?_) x,e.ck,e.size,fun i x w=>w.elim⟩ X.good,R.oz,R.op,R.o0,R.zp,⟨fun b w=>⟨(R.st.a b w).1,(R.st.a b w).2.1,Ba (R.st.a b w).2.2 e.size⟩,fun i w=>Ba (R.st.g i w) e.gsize,R.st.f⟩,fun b f=>Ba (R.flt b f) e.size,?_,R.up,R.dn,R.g,dx⟩
 ·rcases w with w|w
  ·exact(R.st.a b (R.op b y)).1 w
  ·exact R.oz b y w
 ·exact R.e.trans e (fun b w=>R.dn b (R.op b w)) fun i w=>w.elim
theorem GR.wake (R:GR B Γ pe rm ρ F J p₀ s₀ O z p s)(j:yr B F J)(h:iN B F p s s')(g:aK B s'):GR B Γ pe rm ρ F J p s' O z p s':=by
 have ol:∀b,O b->b < s.heap.objs.size:=fun b q=>(R.st.a b (R.op b q)).2.2
 have e:ao B ⟨zY F O s,uY⟩ s { s with heap:=s'.heap }:=⟨fun b o t n x=>h.keep b o t (by
   by_cases f:F b
   ·exact .inl f
   ·refine .inr ?_
    by_cases oo:O b
    ·exact R.op b oo
    ·exact absurd ⟨f,oo,BG x⟩ n) x,h.ck,h.size,fun J=>g.ti,fun J J J e=>e,Bq _,id,rfl⟩
 have X:=Ctx.grow' O' R.x e (N:=fun b=>s.heap.objs.size<=b/\b < s'.heap.objs.size) (fun b w=>w) ⟨g.base,g.size,g.ti,g.tlt⟩ fun b q=>q;replace X:=(wN O' R.flt h.size)▸(tO O' R.flt ol h.size)▸X;refine⟨Ctx.heapOnly O' X rfl,j.stay z s s' R.j ⟨fun b o t w x=>h.keep b o t (w.imp_right (R.zp b)) x,h.ck,h.size,fun i x w=>w.elim⟩ g,R.oz,R.op,R.o0,R.zp,⟨fun b w=>⟨(R.st.a b w).1,(R.st.a b w).2.1,Ba (R.st.a b w).2.2 h.size⟩,fun i w=>?_,R.st.f⟩,fun b f=>Ba (R.flt b f) h.size,ao.refl _ _,fun J w=>w,fun J w=>.inl w,rfl,R.dx⟩;have hi:=R.st.g i w;have h5:=h.gens i (s.gens[i]'hi) w (by simp[hi]);exact(Cn.mp h5).1
end
end Mine
end
section
open PySem PySem.W PySem.W.X PySem.Calls PyProof.Rows
namespace Mine
variable {B:Bs}
inductive OldAt (B:Bs) (K:Nat) (f:Nat)(d r:D):Prop
 |mk (fa:Addr) (fo:Obj) (fd:Cu) (m:B.mg (B.nm f)=some (.ref fa)) (nt:¬B.T fa) (g:B.h₀.get? fa=some fo) (e:fo.data=.func fd)
   (rr:∀A s W v,aK B s->aD A K->(∀b,B.T b->W b)->(∀b,W b->b < s.heap.objs.size)->aw B s.heap W d v->
    C3 B.M A (.call (.ref fa) ⟨[v],[]⟩) (fun r' s'=>∃u,r'=.ok (.ret u)/\ay B s s'/\∀W',aw B s'.heap W' r u) s)
noncomputable def pt (B:Bs) (K:Nat)(Ψ:Nat->D->Option D):Prop:=∀f d r,Ψ f d=some r->OldAt B K f d r
noncomputable abbrev AN (B:Bs) (K:Nat)(Γ:aj)(pe:Env) (rm:Nat)(ρ':ac)(F:AP)(J:(Addr->Prop)->Be->Prop)(l:List D)(c:Code)(fs:List Frame)(k:Sem Ci):Prop:=
 ∀A' p₁ s₁ O z p s',aD A' (K+1)->GR B Γ pe rm ρ' F J p₁ s₁ O z p s'->SegX B.M A' c k fs s' (l5 B (K+1) F l p₁ s₁)
noncomputable def sh (B:Bs) (K:Nat)(Φ:bU)(Ψ:Nat->D->Option D) (rm:Nat)(st:Sg):Prop:=∀Γ ρ ys ρ',sr Φ Ψ rm Γ ρ st=some (ys,ρ')->∀F J l pe A c fs (KK:Flow->Sem Ci)(HH:Value->Sem Ci) gd lv p₀ s₀ O z p s,yr B F J->sk c fs->gd false=false->pe.scope.isCoroutine=false->aD A (K+1)->
 GR B Γ pe rm ρ F J p₀ s₀ O z p s->AN B K Γ pe rm ρ' F J l c fs (KK .next)->SegX B.M A c ((exec (st.py B.nm) pe).wrap KK HH gd lv) fs s (l5 B (K+1) F (ys++l) p₀ s₀)
noncomputable def kq (B:Bs) (K:Nat)(Φ:bU)(Ψ:Nat->D->Option D) (rm:Nat)(ss:List Sg):Prop:=∀Γ ρ ys ρ',eH Φ Ψ rm Γ ρ ss=some (ys,ρ')->∀F J l pe A c fs (KK:Flow->Sem Ci)(HH:Value->Sem Ci) gd lv p₀ s₀ O z p s,yr B F J->sk c fs->gd false=false->pe.scope.isCoroutine=false->aD A (K+1)->
 GR B Γ pe rm ρ F J p₀ s₀ O z p s->AN B K Γ pe rm ρ' F J l c fs (KK .next)->SegX B.M A c ((execs (gf B.nm ss) pe).wrap KK HH gd lv) fs s (l5 B (K+1) F (ys++l) p₀ s₀)
section
variable (O':B.Ok)
include O'
variable {Γ:aj}{pe:Env}{rm:Nat}{ρ ρ':ac}{F O z:AP}{J:(Addr->Prop)->Be->Prop}{p₀ p:Pv}{s₀ s s':Be}{A:BO}{K:Nat}{Φ:bU}{Ψ:Nat->D->Option D}
theorem aw.flat {h h':Heap}{W W':AP}{d:D}{v:Value}(hf:d.flat=true)(r:aw B h W d v):aw B h' W' d v:=by
 cases d<;>first|exact r|(exact ce hf;done)
theorem gO {b:Addr}(h:gW F s b/\¬zY F O s b):O b:=by
 by_cases o:O b
 ·exact o
 ·exact absurd ⟨h.1.1,o,h.1.2⟩ h.2
theorem GR.inter (R:GR B Γ pe rm ρ F J p₀ s₀ O z p s):Ft pe=false:=by
 unfold Ft;refine AZ R.x.fn ?_;rfl
theorem GR.store {x:Nat}{d:D}{v:Value}{Q:Unit->Be->Prop}(R:GR B Γ pe rm ρ F J p₀ s₀ O z p s)(j:yr B F J)(hm:Γ.mine ρ x=true)(r:aw B s.heap (gW F s) d v)(k:∀s',GR B Γ pe rm (ρ.set x (.fz d)) F J p₀ s₀ O z p s'->ao B ⟨O,uY⟩ s s'->Q () s'):
  wpAny B.M A (Eb pe (B.nm x) v) Q i6 s:=by
 refine aS (cj O' hm) fun hk hns=>?_;refine Ctx.storeE' O' R.x hk hns (fun J e=>by exact nomatch e) (en:=.fz d) r (fun J o=>o.elim) fun s' X' e' hs J=>?_;have e2:ao B ⟨O,uY⟩ s s':=e'.mono (fun b q=>gO O' (fw O' R.x hns b q)) fun i q=>q;refine k s' (R.own O' j X' e2 hs fun y ks h=>?_) e2
 by_cases hy:y=x
 ·rw[hy,ac.set_self O'] at h;exact nomatch h
 ·rw[ac.set_ne O' _ _ hy] at h;exact R.dx y ks h
theorem at_some {x:Nat}{d:D}(h:ρ.at x=some d):ρ x=some (.fz d)\/ρ x=some (.sealed d):=by
 unfold ac.at at h
 split at h
 ·rename_i e;obtain rfl:=A0 h;exact .inl e
 ·rename_i e;obtain rfl:=A0 h;exact .inr e
 ·exact ah h
theorem GR.name {x:Nat}{d:D}{xp:Pos}{Q:VS}{E:VS}(R:GR B Γ pe rm ρ F J p₀ s₀ O z p s)(h:ρ.at x=some d)(k:∀v,aw B s.heap (gW F s) d v->Q v s):wpAny B.M A (eval (.Name (B.nm x) xp) pe) Q E s:=by
 refine BX ?_ (O'.dbg x);rcases at_some O' h with h|h<;>
 ·refine ak (R.x.vars x _ h) fun v l rv=>?_
  exact Ctx.name O' R.x l (k v rv) (O'.cld x)
theorem aw.inF {d:D}{v:Value}(r:aw B s.heap (gW F s) d v):aw B s.heap (fun b=>¬F b) d v:=
 aw.move O' (fun J J J x=>x) (fun b q=>by
  rcases Ek b s.heap.objs.size with h|h
  ·exact .inl ⟨q,h⟩
  ·exact .inr (BY h)) d v r
theorem y_nil:kq B K Φ Ψ rm []:=by
 intro Γ ρ ys ρ' h F J l pe A c fs KK HH gd lv p₀ s₀ O z p s j f hgd hco R G k;simp only[mT,Bl,CG] at h;refine aS h fun e91=>?_;subst e91;intro e92;subst e92;exact gz (k A p₀ s₀ O z p s R G)
theorem y_cons {st:Sg}{ss:List Sg}(h1:sh B K Φ Ψ rm st)(h2:kq B K Φ Ψ rm ss):kq B K Φ Ψ rm (st::ss):=by
 intro Γ ρ ys ρ' h F J l pe A c fs KK HH gd lv p₀ s₀ O z p s j f hgd hco R G k;simp only[lC,Bh,Bg,Bl,CG,Prod.exists] at h;obtain⟨y1,ρ1,e1,y2,ρ2,e2,rfl,rfl⟩:=h;refine AZ (BU _ _ _) ?_;refine i3 (h1 _ _ _ _ e1 F J (y2++l) pe A c fs _ HH gd lv p₀ s₀ O z p s j f hgd hco R G ?_);intro A' p₁ s₁ O1 z1 p1 s1 R1 G1;exact h2 _ _ _ _ e2 F J l pe A' c fs KK HH gd lv p₁ s₁ O1 z1 p1 s1 j f hgd hco R1 G1 k
theorem y_asg {x:Nat}{e:E}{xp q:Pos}(he:bg B K Φ e):sh B K Φ Ψ rm (.asg x e xp q):=by
 intro Γ ρ ys ρ' h F J l pe A c fs KK HH gd lv p₀ s₀ O z p s j f hgd hco R G k;simp only[pC,Bh,Bg] at h;obtain⟨r,h1,d,hd,h⟩:=h
 split at h
 case isFalse=>exact ah h
 rename_i hc
 simp only[Bz,FF] at hc;simp only[Bl,CG] at h;obtain⟨rfl,rfl⟩:=h;refine cG (CC (cX O' he h1 hd G.x (f.room A K R) fun v s1 e1 X1 r1=>?_) ?_)
 ·have G1:=G.eff O' j e1
  refine G1.store O' j hc.1.1 (aw.flat O' hc.1.2 r1) fun s2 G2 e2=>?_;exact k A p₀ s₀ O z p s2 R G2
 ·have:=hc.2
  cases e<;>first|rfl|(exact zy this;done)
theorem y_pm {x f' y:Nat}{xp fp yp cp q:Pos}(HΨ:pt B K Ψ):sh B K Φ Ψ rm (.pm x f' y xp fp yp cp q):=by
 intro Γ ρ ys ρ' h F J l pe A c fs KK HH gd lv p₀ s₀ O z p s j f hgd hco R G k;simp only[sH,Bh,Bg] at h;obtain⟨d,h1,r,h2,h⟩:=h
 split at h
 case isFalse=>exact ah h
 rename_i hc
 simp only[Bl,CG] at h;obtain⟨rfl,rfl⟩:=h;obtain⟨fa,fo,fd,hmg,hT,hg0,hfd,hcall⟩:=HΨ _ _ _ h2;refine cG (CC (B6 (ou O' G.x hc.2 hmg ?_)) rfl);refine AZ (show EW cp (C6 [Cd (B.nm y) yp] pe)=[(false,eval (.Name (B.nm y) yp) pe)] from rfl) ?_;refine Ga (o:=fo) (fd:=fd) (evalArgs_plain (B5 (G.name O' h1 fun v rv=>Cj ⟨⟨G.x.good.base _ _ hT hg0,hfd⟩,?_⟩)));refine Ea (DJ (hcall _ s (gW F s) v G.x.good (f.room A K R) G.x.tW' (fun b q=>q.2) rv) ?_);rintro r' s1 ⟨u,rfl,e1,ru⟩;have G1:=G.eff O' j e1;refine G1.store O' j hc.1 (ru _) fun s2 G2 e2=>?_;exact k A p₀ s₀ O z p s2 R G2
theorem y_yld {x:Nat}{xp yp q:Pos}:sh B K Φ Ψ rm (.yld x xp yp q):=by
 intro Γ ρ ys ρ' h F J l pe A c fs KK HH gd lv p₀ s₀ O z p s j f hgd hco R G k;simp only[pB,Bh,Bg,Bl,CG] at h;obtain⟨d,h1,rfl,rfl⟩:=h;refine yN f.split hgd f.guard (G.name O' h1 fun v rv=>?_) hco (G.inter O');intro l' k' q' hk';refine⟨v,l',k',c,q',fs,p,rfl,f.guard,G.e,G.up,G.dn,G.g,aw.inF O' rv,G.st,fun A2 s2 st g2 R2=>?_⟩;refine AZ hk' ?_;exact k A2 p s2 O z p s2 R2 (G.wake O' j st g2)
theorem y_if {cE:E}{a:List Sg}{q:Pos}(hc:eU B K Φ cE)(ha:kq B K Φ Ψ rm a):sh B K Φ Ψ rm (.ifS cE a q):=by
 intro Γ ρ ys ρ' h F J l pe A c fs KK HH gd lv p₀ s₀ O z p s j f hgd hco R G k;simp only[kH,Bh,Bg] at h;obtain⟨t,ht,h⟩:=h;show SegX B.M A c ((exec (.If (cE.py B.nm) (gf B.nm a) [] q) pe).wrap KK HH gd lv) fs s _;refine AZ (exec_If _ _ _ _ _) ?_;refine nI ?_;show SegX B.M A c (Gs KK HH gd lv (Fs (cE.py B.nm) pe (eval (cE.py B.nm) pe) >>= fun b=>if b then execs (gf B.nm a) pe else execs [] pe)) fs s _;refine AZ (Ck _ _)<|AZ (CO _ _ _ _ _ _ _ _ _) ?_
 refine cG (sM O' hc ht G.x (f.room A K R) fun s1 e1 X1=>?_);have G1:=G.eff O' j e1
 cases t with
 |true=>exact ha _ _ _ _ (h) F J l pe A c fs KK HH _ _ p₀ s₀ O z p s1 j f hgd hco R G1 k
 |false=>
  simp only[BP,if_false,Bl,CG] at h;obtain⟨rfl,rfl⟩:=h;exact gz (env:=pe) (k A p₀ s₀ O z p s1 R G1)
inductive JIn (B:Bs)(F:AP)(J:(Addr->Prop)->Be->Prop)(I:List D->Pv->Be->Prop)(items:List D)(z':AP)(s:Be):Prop
 |mk (z:AP) (pi:Pv) (j:J z s) (i:I items pi s) (g:pi.g=uY) (iff:∀b,z' b↔z b\/pi.a b) (dj:∀b,pi.a b->¬z b) (lo:∀b,pi.a b->B.Hi b)
theorem jin_ok {it:Addr}{I:List D->Pv->Be->Prop}{items:List D}(j:yr B F J)(ok:bL B K F it I):yr B F (JIn B F J I items) where
 sub:=fun z' s ⟨z,pi,h1,h2,h3,h4,h5,h6⟩ b hb=>by
  rcases(h4 b).mp hb with q|q
  ·exact j.sub z s h1 b q
  ·have:=ok.sub _ _ _ h2 b q
   exact⟨this.1,this.2.1,this.2.2,h6 b q⟩
 stay:=fun z' s s' ⟨z,pi,h1,h2,h3,h4,h5,h6⟩ st g=>
  ⟨z,pi,j.stay z s s' h1 ⟨fun b o t q e=>st.keep b o t (q.imp_right fun q=>(h4 b).mpr (.inl q)) e,st.ck,st.size,fun i x q=>q.elim⟩ g,
   ok.stay _ _ _ _ h2 (fun b o t q e=>st.keep b o t (q.imp_right fun q=>(h4 b).mpr (.inr q)) e) st.ck st.size (fun i x q=>by rw[h3] at q;exact q.elim) g,h3,h4,h5,h6⟩
theorem y_loop {t:Nat}{tp:Pos}{body:List Sg}(hb:kq B K Φ Ψ rm body){it:Addr}{I:List D->Pv->Be->Prop}(ok:bL B K F it I)(j:yr B F J){l:List D}{c:Code}{fs:List Frame}{kk:Dv->Sem Ci}{ll:List Value}{cp:Pos}{next:Sem Ci}(hk:kk (.ok .next)=next)(f:sk c fs)(hco:pe.scope.isCoroutine=false):
  ∀(items:List D) (ρ:ac) (ys:List D) (ρ':ac),eh Γ t (fun ρ=>eH Φ Ψ rm Γ ρ body) ρ items=some (ys,ρ')->∀A p₀ s₀ O z pi p s,aD A (K+1)->GR B Γ pe rm ρ F J p₀ s₀ O z p s->I items pi s->pi.g=uY->
   (∀b,pi.a b->p.a b/\¬O b/\¬z b/\B.Hi b)->AN B K Γ pe rm ρ' F J l c fs next->
   SegX B.M A (.forLoop (.Name (B.nm t) tp) (.ref it) (gf B.nm body) [] pe) (Ht table (.forLoop (.Name (B.nm t) tp) (.ref it) (gf B.nm body) [] pe)) (.ret kk none false ll c cp []::fs) s (l5 B (K+1) F (ys++l) p₀ s₀):=by
 intro items
 induction items with
 |nil=>
  intro ρ ys ρ' h A p₀ s₀ O z pi p s R G hI hg hp k;obtain⟨rfl,rfl⟩:=Prod.mk.inj (A0 (show some ([],ρ)=some (ys,ρ') from h));have f2:=f.loop (.Name (B.nm t) tp) (.ref it) (gf B.nm body) [] pe kk ll cp;refine vU (ok.done _ _ _ _ _ hI G.x.good ((f2.room A K R).less (by omega)) fun s1 e1=>?_);refine s_pop B.prog B.w A _ fs _ s1 (.ok .next) _ rfl kk none false ll c cp [] ?_;refine AZ hk ?_;exact k A p₀ s₀ O z p s1 R (G.iter O' j e1 hp hg)
 |cons d rest ih=>
  intro ρ ys ρ' h A p₀ s₀ O z pi p s R G hI hg hp k;rw[Ae] at h
  split at h
  case isFalse=>exact ah h
  rename_i hm
  simp only[Bh,Bg,Bl,CG,Prod.exists] at h;refine x2122 h fun y1 ρ1 e1 y2 ρ2 e2 e91=>?_;subst e91;intro e92;subst e92;have f2:=f.loop (.Name (B.nm t) tp) (.ref it) (gf B.nm body) [] pe kk ll cp;refine vU (ok.next _ _ _ _ _ _ _ hI G.x.good ((f2.room A K R).less (by omega)) fun v s1 p1 ee hsub hnew hg1 rv hI1=>?_);have G1':=G.iter O' j ee hp hg;have sub1:=ok.sub _ _ _ hI1;have hnb:∀b,s.heap.objs.size<=b->¬O b/\¬z b:=fun b hb=>⟨fun q=>Bd _ (Ba (G.st.a b (G.op b q)).2.2 hb),fun q=>Bd _ (Ba (G.st.a b (G.zp b q)).2.2 hb)⟩;have hp1:∀b,p1.a b->¬O b/\¬z b/\B.Hi b:=fun b q=>by
   rcases hnew b q with w|w
   ·exact(hp b w).2
   ·exact⟨(hnb b w).1,(hnb b w).2,G.x.good.hi w⟩
  have G1:GR B Γ pe rm ρ F J p₀ s₀ O z ⟨fun b=>p.a b\/p1.a b,p.g⟩ s1:=⟨G1'.x,G1'.j,G1'.oz,fun b q=>.inl (G1'.op b q),G1'.o0,fun b q=>.inl (G1'.zp b q),⟨fun b q=>q.elim (G1'.st.a b) (sub1 b),G1'.st.g,G1'.st.f⟩,G1'.flt,G1'.e,fun b q=>.inl (G1'.up b q),
   fun b q=>q.elim (G1'.dn b) fun q=>(hnew b q).elim (fun w=>G1'.dn b (hp b w).1) fun w=>.inr (Bf G.e.size w),G1'.g,G1'.dx⟩
  refine iA (Dj (G1.store O' j hm (aw.move O' (fun J J J x=>x) (fun b q=>.inl q.1) _ _ rv) fun s2 G2 eo=>?_))
  have hI2:I rest p1 s2:=ok.stay _ _ _ _ hI1 (fun b o nt q e=>eo.keep b o nt (fun w=>by
   rcases q with q|q
   ·exact(G1.st.a b (G1.op b w)).1 q
   ·exact(hp1 b q).1 w) e) eo.ck eo.size (fun i x q e=>eo.gens i x (fun w=>w.elim) e) G2.x.good
  intro KK2 HH2 hKK;have G3:GR B Γ pe rm (ρ.set t (.fz d)) F (JIn B F J I rest) p₀ s₀ O (fun b=>z b\/p1.a b) ⟨fun b=>p.a b\/p1.a b,p.g⟩ s2:=
   ⟨G2.x,⟨z,p1,G2.j,hI2,by refine AZ hg1 ?_;exact hg,fun b=>Iff.rfl,fun b q=>(hp1 b q).2.1,fun b q=>(hp1 b q).2.2⟩,fun b q w=>w.elim (G2.oz b q) fun w=>(hp1 b w).1 q,G2.op,G2.o0,fun b q=>q.elim (G2.zp b) .inr,G2.st,G2.flt,G2.e,G2.up,G2.dn,G2.g,G2.dx⟩
  refine AZ (BU _ _ _) ?_;refine hb _ _ _ _ e1 F (JIn B F J I rest) (y2++l) pe A _ _ KK2 HH2 id id p₀ s₀ O _ _ s2 (jin_ok O' j ok) f2 rfl hco R G3 ?_;intro A' p₃ s₃ O3 z3 p4 s4 R4 G4;refine AZ hKK ?_;obtain⟨z4,pi4,j4,hI4,hg4,hz4,hd4,h04⟩:=G4.j;refine s_again B.prog B.w A' _ _ _ s4 _ rfl ?_;exact ih ρ1 y2 ρ2 e2 A' p₃ s₃ O3 z4 pi4 p4 s4 R4 ⟨G4.x,j4,fun b q w=>G4.oz b q ((hz4 b).mpr (.inl w)),G4.op,G4.o0,fun b q=>G4.zp b ((hz4 b).mpr (.inl q)),G4.st,G4.flt,G4.e,G4.up,G4.dn,G4.g,G4.dx⟩ hI4 hg4
   (fun b q=>⟨G4.zp b ((hz4 b).mpr (.inr q)),fun w=>G4.oz b w ((hz4 b).mpr (.inr q)),hd4 b q,h04 b q⟩) k
theorem y_for {t y:Nat}{tp yp q:Pos}{body:List Sg}(hb:kq B K Φ Ψ rm body):sh B K Φ Ψ rm (.forS t tp y yp body q):=by
 intro Γ ρ ys ρ' h F J l pe A c fs KK HH gd lv p₀ s₀ O z p s j f hgd hco R G k;simp only[mV,Bh,Bg] at h;refine i2 h fun d h1 items hi h=>?_;refine sx_For (G.name O' h1 fun v rv=>?_) fun J=>rfl;have hF:Fz (gW F s) s.heap=F:=by
  funext b
  refine propext ⟨fun w=>?_,fun w=>⟨fun u=>u.1 w,G.flt b w⟩⟩
  by_cases u:F b
  ·exact u
  ·exact absurd ⟨u,w.2⟩ w.1
 refine j5 O' (K:=K) hi G.x.tW' (fun b w=>w.2) rv fun I s2 ok hI hl e2=>?_;replace ok:=hF▸ok;intro kk ll cp hk;have G2:=G.eff O' j e2;have hsub:=ok.sub _ _ _ hI;have hnew:∀b,b=s.heap.objs.size->¬O b/\¬z b:=fun b hb=>by
  subst hb;exact⟨fun q=>Bd _ (G.st.a _ (G.op _ q)).2.2,fun q=>Bd _ (G.st.a _ (G.zp _ q)).2.2⟩
 have G3:GR B Γ pe rm ρ F J p₀ s₀ O z ⟨fun b=>p.a b\/b=s.heap.objs.size,p.g⟩ s2:=⟨G2.x,G2.j,G2.oz,fun b q=>.inl (G2.op b q),G2.o0,fun b q=>.inl (G2.zp b q),⟨fun b q=>q.elim (G2.st.a b) (hsub b),G2.st.g,G2.st.f⟩,G2.flt,G2.e,fun b q=>.inl (G2.up b q),
  fun b q=>q.elim (G2.dn b) fun q=>.inr (by refine AZ q ?_;exact G.e.size),G2.g,G2.dx⟩
 refine AZ hgd ?_;exact y_loop O' hb ok j (hk .next) f hco items ρ ys ρ' h A p₀ s₀ O z _ _ s2 R G3 hI rfl (fun b q=>⟨.inr q,(hnew b q).1,(hnew b q).2,by refine AZ (show b=s.heap.objs.size from q) ?_;exact G.x.good.hi (Bq _)⟩) k
end
end Mine
end
section
open PySem PySem.W PySem.W.X PySem.Calls PyProof.Rows
namespace Mine
variable {B:Bs}
section
variable (O':B.Ok)
include O'
variable {Γ:aj}{pe:Env}{rm:Nat}{ρ ρ':ac}{F O z:AP}{J:(Addr->Prop)->Be->Prop}{p₀ p:Pv}{s₀ s s':Be}{A:BO}{K:Nat}{Φ:bU}{Ψ:Nat->D->Option D}
theorem Ctx.setOwnD {Wc W:AP}{x:Nat}{ks ks':List (List Nat)}{a:Addr}{h':Heap}{t:Nat}(X:Ctx B Γ Wc W pe ρ s)(hx:ρ x=some (.ownD ks))(lv:dA B pe s.heap x (.ref a))(hW:W a)(hWc:¬Wc a)(hnl:a≠pe.locals)(hsy:(a==C9)=false)
  (hs:Dy a s.heap h') (hd':h'.DictOf (B4 B.prog B.w) a (ks'.map fun k=>(cR k,Value.none))):
  Ctx B Γ Wc W pe (ρ.set x (.ownD ks')) { s with heap:=h',toks:=t }:=
 (Ctx.setAt O' (en':=.ownD ks') X hx lv rfl (fun J e=>nomatch e) (fun J e=>nomatch e) hs (fun J=>⟨a,rfl,hW,hWc,hnl,hsy,hd'⟩) fun b o=>o).1
theorem y_newD {x:Nat}{xp dp q:Pos}:sh B K Φ Ψ rm (.newD x xp dp q):=by
 intro Γ ρ ys ρ' h F J l pe A c fs KK HH gd lv p₀ s₀ O z p s j f hgd hco R G k;simp only[mU] at h
 split at h
 case isFalse=>exact ah h
 rename_i hc
 simp only[Bz,beq_iff_eq] at hc;simp only[Bl,CG] at h;obtain⟨rfl,rfl⟩:=h;obtain⟨hm,rfl⟩:=hc;obtain⟨hk,hns⟩:=cj O' hm;refine cG (CC (wpAny_Dict_empty ?_) rfl);have e1:ay B s { s with heap:=s.heap.push { cls:=.type "dict", data:=.dict #[] } }:=ay.push O' _ s.toks
 have hsz:({ s with heap:=s.heap.push { cls:=.type "dict", data:=.dict #[] } }:Be).heap.objs.size=s.heap.objs.size+1:=BM ..
 have G1:=G.eff O' j e1;have X1:=Ctx.growOwn O' G.x e1 (N:=fun b=>b=s.heap.objs.size) (fun b w=>by refine AZ hsz<|AZ w ?_;exact⟨Bq _,Ct _⟩);generalize hs1:({ s with heap:=s.heap.push { cls:=.type "dict", data:=.dict #[] } }:Be)=s1 at *
 have hnF:¬F s.heap.objs.size:=fun w=>Bd _ (G.flt _ w);have hnO:¬O s.heap.objs.size:=fun w=>Bd _ (G.st.a _ (G.op _ w)).2.2;have hnz:¬z s.heap.objs.size:=fun w=>Bd _ (G.st.a _ (G.zp _ w)).2.2;have hnT:¬B.T s.heap.objs.size:=(G.x.good.hi (Bq _)).2;have hW1:(cw (gW F s) fun b=>b=s.heap.objs.size)=gW F s1:=by
  funext b
  refine propext ⟨fun w=>?_,fun w=>?_⟩
  ·rcases w with w|rfl
   ·exact⟨w.1,by refine AZ hsz ?_;exact CV w.2⟩
   ·exact⟨hnF,by refine AZ hsz ?_;exact Ct _⟩
  ·have:=w.2
   rw[hsz] at this;rcases Hv (Cm this) with h|h
   ·exact .inl ⟨w.1,h⟩
   ·exact .inr h
 have hWc1:zY F O s=zY F (fun b=>O b\/b=s.heap.objs.size) s1:=by
  funext b
  refine propext ⟨fun w=>⟨w.1,fun u=>u.elim w.2.1 fun u=>Bd _ (u▸w.2.2),by refine AZ hsz ?_;exact CV w.2.2⟩,fun w=>⟨w.1,fun u=>w.2.1 (.inl u),?_⟩⟩;have:=w.2.2;rw[hsz] at this;exact Eu (Cm this) fun u=>w.2.1 (.inr u)
 rw[hW1,hWc1] at X1
 have G2:GR B Γ pe x ρ F J p₀ s₀ (fun b=>O b\/b=s.heap.objs.size) z ⟨fun b=>p.a b\/b=s.heap.objs.size,p.g⟩ s1:=⟨X1,G1.j,fun b w=>w.elim (G1.oz b) fun w=>w▸hnz,fun b w=>w.imp (G1.op b) id,fun b w=>w.elim (G1.o0 b) fun w=>w▸G.x.good.hi (Bq _),fun b w=>.inl (G1.zp b w),
  ⟨fun b w=>w.elim (G1.st.a b) fun w=>by subst w;exact⟨hnF,hnT,by refine AZ hsz ?_;exact Ct _⟩,G1.st.g,G1.st.f⟩,G1.flt,G1.e,fun b w=>.inl (G1.up b w),fun b w=>w.elim (G1.dn b) fun w=>.inr (by subst w;exact G.e.size),G1.g,G1.dx⟩
 have hdict:s1.heap.DictOf (B4 B.prog B.w) s.heap.objs.size []:=by refine AZ (BE hs1) ?_;exact GM _
 have hloc:s.heap.objs.size≠pe.locals:=fun w=>Bd _ (by
  have:=G.x.wlt _ G.x.locW.1
  rw[<-w] at this;exact this)
 refine Ctx.storeE' O' G2.x hk hns (fun J e=>by exact nomatch e) (en:=.ownD []) ⟨_,rfl,⟨hnF,by refine AZ hsz ?_;exact Ct _⟩,fun w=>w.2.1 (.inr rfl),hloc,?_,hdict⟩ (fun b ob y e' w hy hρ hloc hb=>?_) fun s2 X2 e2 hs2 J=>?_
 ·rw[beq_eq_false_iff_ne]
  intro w;have:=O'.sysm;rw[<-w] at this;exact Bd _ (Ba this G.x.good.size)
 ·obtain rfl:=Value.ref.inj ob
  exact tR O' G.x e1 (Bq _) y e' w hρ hloc hb
 ·refine k A p₀ s₀ _ z _ s2 R (G2.own O' j X2 (e2.mono (fun b w=>gO O' (fw O' G2.x hns b w)) fun i w=>w) hs2 fun y ks h=>?_)
  by_cases hy:y=x
  ·exact hy
  ·rw[ac.set_ne O' _ _ hy] at h;exact G2.dx y ks h
omit O' in
theorem v9 {a b:List Nat}(h:cR a=cR b):a=b:=congrArg (fun z:Str=>z.cps.toList) h
omit O' in
theorem xc (ks:List (List Nat))(i:List Nat):((ks.map fun k=>(cR k,Value.none)).any fun kv=>kv.1=cR i)=ks.contains i:=by
 induction ks with
 |nil=>rfl
 |cons a r ih=>
  simp only[Bo,D1,ih,Ep]
  congr 1
  by_cases h:a=i
  ·subst h;simp
  ·have h1:i≠a:=fun e=>h e.symm
   have h2:cR a≠cR i:=fun e=>h (v9 e);simp[h1,h2]
theorem sK (ks:List (List Nat))(i:List Nat):(DX (ks.map fun k=>(cR k,Value.none)) (cR i)).isSome=ks.contains i:=by
 refine AZ (BE (xc _ _)) ?_
 induction ks with
 |nil=>rfl
 |cons a r ih=>
  simp only[Bo,D1,DX,Cg] at ih ⊢
  by_cases h:cR a=cR i
  ·simp[h]
  ·simp only[h,decide_false,EF]
   exact ih
set_option tactic.hygienic true in
theorem y_ifNew {m y:Nat}{a:List Sg}{q1 q2 q3 q4 q5 q6 q7 q8 q:Pos}(ha:kq B K Φ Ψ rm a):sh B K Φ Ψ rm (.ifNew m y a q1 q2 q3 q4 q5 q6 q7 q8 q):=by
 intro Γ ρ ys ρ' h F J l pe A c fs KK HH gd lv p₀ s₀ O z p s j f hgd hco R G k;simp only[hH] at h
 split at h
 case h_2=>exact ah h
 rename_i ks i hm hy
 split at h
 case isFalse=>exact ah h
 rename_i hc
 obtain⟨rfl,hlen⟩:=hc;show SegX B.M A c ((exec (.If (.Compare (.Name (B.nm y) q1) [.NotIn] [.Name (B.nm m) q2] q3) (.Assign [.Subscript (.Name (B.nm m) q4) (.Name (B.nm y) q5) q6] (.Constant .none 0 q7) q8::gf B.nm a) [] q) pe).wrap KK HH gd lv) fs s _;refine AZ (exec_If _ _ _ _ _) ?_;refine nI ?_;show SegX B.M A c (Gs KK HH gd lv (Fs (.Compare (.Name (B.nm y) q1) [.NotIn] [.Name (B.nm m) q2] q3) pe (eval (.Compare (.Name (B.nm y) q1) [.NotIn] [.Name (B.nm m) q2] q3) pe) >>= fun b=>if b then execs (.Assign [.Subscript (.Name (B.nm m) q4) (.Name (B.nm y) q5) q6] (.Constant .none 0 q7) q8::gf B.nm a) pe else execs [] pe)) fs s _;refine AZ (Ck _ _)<|AZ (CO _ _ _ _ _ _ _ _ _) ?_
 obtain⟨w,lw,a',rfl,hW,hWc,hnl,hsy,hd⟩:=G.x.vars m _ hm;refine cG (Dt (G.name O' hy fun v rv=>?_) rfl);obtain⟨t,rfl,_⟩:=jo rv;refine BX (Ctx.name O' G.x lw ?_ (O'.cld m)) (O'.dbg m);refine wpAny_notIn_of (knd:=B4 B.prog B.w) (k:=cR i) (strKind_is _ _ _ _) hsy hd.mapOf ?_;refine AZ (sK O' _ _) ?_;refine B1 ?_;have G1:=G.eff O' j (ay.toks (s.toks+1))
 cases hin:ks.contains i with
 |true=>
  rw[hin] at h;simp only[if_true,Bl,CG] at h;obtain⟨rfl,rfl⟩:=h;exact gz (env:=pe) (k A p₀ s₀ O z p _ R G1)
 |false=>
  rw[hin] at h;simp only[BP,if_false] at h;simp only[Bool.not_false,if_true];refine i3 (cG (Hp ?_ rfl));show wpAny _ _ (pure Value.none) _ _ _;refine Bk (BX (Ctx.name O' G1.x lw ?_ (O'.cld m)) (O'.dbg m));refine G1.name O' hy fun v rv=>?_;obtain⟨t,rfl,_⟩:=jo rv;refine wpAny_setItem_pairs (s:={ s with toks:=s.toks+1 }) (knd:=B4 B.prog B.w) (k:=cR i) (strKind_is _ _ _ _) hd (fun h' hd' hs'=>?_) (by refine AZ (Bx _) ?_;exact aE (CK (CP hlen (by simp[lim]))));have hst:stored (ks.map fun k=>(cR k,Value.none)) (cR i) Value.none=(ks++[i]).map fun k=>(cR k,Value.none):=by
   unfold stored;refine AZ (xc _ _)<|AZ hin ?_
   simp
  rw[hst] at hd';have X2:=Ctx.setOwnD (s:={ s with toks:=s.toks+1 }) (t:=s.toks+1+1) O' G1.x hm lw hW hWc hnl hsy hs' hd';have hO:O a':=gO O' ⟨hW,hWc⟩;have e2:ao B ⟨O,uY⟩ { s with toks:=s.toks+1 } { s with heap:=h',toks:=s.toks+1+1 }:=
   (cM (s:={ s with toks:=s.toks+1 }) O' (G.st.a a' (G.op a' hO)).2.1 (ww hd fun q m=>by refine ak (BC.mp m) fun J J e91=>?_;subst e91;rfl) hs').mono (fun b w=>w▸hO) fun i w=>w
  have G2:=G1.own O' j X2 e2 hs'.1 fun y ks' h=>by
   by_cases hy:y=m
   ·exact hy
   ·rw[ac.set_ne O' _ _ hy] at h;exact G.dx y ks' h
  exact ha _ _ _ _ h F J l pe A c fs KK HH _ _ p₀ s₀ O z p _ j f hgd hco R G2 k
mutual
noncomputable def Sg.lms:Sg->List Lm
 |.asg _ e _ _=>e.lms
 |.forS _ _ _ _ body _=>oj body
 |.ifS c a _=>c.lms++oj a
 |.ifNew _ _ a _ _ _ _ _ _ _ _ _=>oj a
 |.pm ..=>[]
 |.newD ..=>[]
 |.yld ..=>[]
noncomputable def oj:List Sg->List Lm
 |[]=>[]
 |s::r=>s.lms++oj r
end
noncomputable abbrev xN (B:Bs)(ss:List Sg):Prop:=fZ B (oj ss)
theorem sndYs (hK:24<=K)(P:bD B K Φ)(HΨ:pt B K Ψ):∀ss:List Sg,xN B ss->kq B K Φ Ψ rm ss:=
 Sg.rec_1 (motive_1:=fun st=>fZ B st.lms->sh B K Φ Ψ rm st) (motive_2:=fun ss=>xN B ss->kq B K Φ Ψ rm ss)
  (fun J e J J h=>y_asg O' (snd O' hK P e h).1)
  (fun J J J J J J J J J=>y_pm O' HΨ)
  (fun J J J J J=>y_newD O')
  (fun J J J J J J ib h=>y_for O' (ib h))
  (fun c J J ia h=>y_if O' (snd O' hK P c (cS h)).2 (ia (bR h)))
  (fun J J J J J J J J J J J J ia h=>y_ifNew O' (ia h))
  (fun J J J J J=>y_yld O')
  (fun J=>y_nil O')
  (fun J J is ir h=>y_cons O' (is (cS h)) (ir (bR h)))
end
end Mine
end
section
open PySem PySem.W PySem.W.X PySem.Calls PyProof.Rows
namespace Mine
variable {B:Bs}
structure pu (B:Bs) (id:Nat)(L:f0)(ps:List Nat)(sc:LK)(ss:List Sg):Prop where
 ls:B.LS id=some L
 body:L.body=.stmts (gf B.nm ss)
 names:L.scope.names=aR B.nm sc
 kind:L.scope.kind=.function
 gen:L.scope.isGenerator=true
 co:L.scope.isCoroutine=false
 fr:L.fr=av sc
 bind:∀(fd:Cu) (vals:List Value),fd.params=L.params->fd.defaults=.none->fd.kwdefaults=.none->vals.length=ps.length->Fu fd ⟨vals,[]⟩=pure ((ps.map B.nm).zip vals)
 nd:(sc.map (·.1)).Nodup
 kinds:∀x k,sc.lookup x=some k->k=.free\/k=.local\/k=.cell\/k=.globalImplicit
 ps:∀x∈ps,sc.lookup x=some .local\/sc.lookup x=some .cell
section
variable (O':B.Ok)
include O'
variable {Γ:aj}{pe:Env}{rm:Nat}{ρ ρ':ac}{F O z:AP}{J:(Addr->Prop)->Be->Prop}{p₀ p:Pv}{s₀ s s':Be}{A:BO}{K:Nat}{Φ:bU}{Ψ:Nat->D->Option D}
theorem lR:∀(ps:List Nat)(args:List D)(ρ:ac),(∀y ks,ρ y≠some (.ownD ks))->∀y ks,aq ps args ρ y≠some (.ownD ks)
 |[],_,ρ,h=>by simpa [aq] using h
 |_::_,[],ρ,h=>by simpa [aq] using h
 |x::ps,d::args,ρ,h=>by
  have:=lR ps args (ρ.set x (.fz d)) fun y ks=>by
   by_cases hy:y=x
   ·refine AZ hy<|AZ (ac.set_self O' _ _ _) ?_;simp
   ·refine AZ (ac.set_ne O' _ _ hy) ?_;exact h y ks
  simpa [aq] using this
theorem xY {ss:List Sg}{l:List D}(hK:24<=K)(P:bD B K Φ)(HΨ:pt B K Ψ)(hb:xN B ss)(j:yr B F J)(hev:eH Φ Ψ rm Γ ρ ss=some (l,ρ'))(hco:pe.scope.isCoroutine=false)(R:aD A (K+1))(G:GR B Γ pe rm ρ F J p₀ s₀ O z p s):
  SegX B.M A (.func (gf B.nm ss) pe) (Ht table (.func (gf B.nm ss) pe)) [] s (l5 B (K+1) F l p₀ s₀):=by
 show SegX B.M A _ (.point [] fun J=>((execs (gf B.nm ss) pe).onRaise (leaving pe)) >>= fun f=>match f with|.ret v=>ret v|_=>ret .none) [] s _;refine yO ?_;refine AZ (Hj _ _)<|AZ (Ck _ _)<|AZ (CO _ _ _ _ _ _ _ _ _) ?_
 have h:=sndYs (rm:=rm) O' hK P HΨ ss hb _ _ _ _ hev F J [] pe A (.func (gf B.nm ss) pe) [];replace h:=(CE _)▸h;refine h _ _ _ _ p₀ s₀ O z p s j (sk.func _ _) rfl hco R G ?_;intro A' p₁ s₁ O1 z1 p1 s1 R1 G1;exact s_end B.prog B.w A' _ _ s1 (.ok (.ret .none)) _ rfl ⟨rfl,G1.e⟩
theorem rG {id:Nat}{L:f0}{ps:List Nat}{sc:LK}{ss:List Sg}{caps args l:List D}(Fx:pu B id L ps sc ss)(hK:24<=K)(P:bD B K Φ)(HΨ:pt B K Ψ)(hb:xN B ss)
  (hl:ps.length=args.length) (hev:eH Φ Ψ rm (aH sc 0) (aq ps args (cN (av sc) caps)) ss=some (l,ρ')) (hlim:l.length<=lim):fv B (K+6) id caps args l:=by
 intro fa cv A s W vals g R tW wlt hlam rc ra;obtain⟨L',fo,fd,hls,hg,hfd,nw,lam⟩:=hlam;rw[Fx.ls] at hls;obtain rfl:=A0 hls;obtain⟨c,oc,vs,t,hc1,hc2,J,hc4,hc5⟩:=lam.code;have hcd:s.heap.CodeRec fd.code fd.qualname:=⟨c,oc,vs,t,hc1,hc2,hc4,by refine AZ lam.qual ?_;exact hc5⟩;have hvl:vals.length=ps.length:=by refine AZ (ab.length ra) ?_;lia
 refine codeAny_call_generator R.lim hg hfd (by refine AZ lam.scope ?_;exact Fx.co) (by refine AZ lam.scope ?_;exact Fx.gen) (by refine AZ lam.body ?_;exact Fx.body) hcd ?_;refine AZ (Fx.bind fd vals lam.params lam.dfl.1 lam.dfl.2 hvl)<|AZ lam.glob<|AZ lam.blt ?_
 refine Bk ?_;refine tU O' (sc:=sc) (f:=0) (ρc:=cN (av sc) caps) (by refine AZ lam.scope ?_;exact Fx.names) (by refine AZ lam.scope ?_;exact Fx.kind) (.inl rfl) (wY O' lam Fx.fr Fx.nd Fx.kinds rc) g tW wlt Fx.ps hl ra fun s1 env W' X1 hW' e1 hall hsc=>?_;refine⟨aK.lim O' (g.move e1),?_⟩;have hco:env.scope.isCoroutine=false:=by refine AZ hsc<|AZ lam.scope ?_;exact Fx.co
 generalize hs2:({ s1 with gens:=s1.gens.push (.fresh (.func (gf B.nm ss) env)),toks:=s1.toks+1+1,heap:=s1.heap.push { cls:=.type "generator", data:=.fields #[.int s1.gens.size 0,.str fd.name s1.toks,.str fd.qualname (s1.toks+1)] } }:Be)=s2
 have hh2:s2.heap=s1.heap.push { cls:=.type "generator", data:=.fields #[.int s1.gens.size 0,.str fd.name s1.toks,.str fd.qualname (s1.toks+1)] }:=by exact AZ (BE hs2) rfl
 have hg2:s2.gens=s1.gens.push (.fresh (.func (gf B.nm ss) env)):=by exact AZ (BE hs2) rfl
 have ho2:s2.os=s1.os:=by exact AZ (BE hs2) rfl
 have hsz2:s2.heap.objs.size=s1.heap.objs.size+1:=by exact AZ hh2<|AZ (BM _ _) rfl
 have keep2:∀b o,s1.heap.get? b=some o->s2.heap.get? b=some o:=fun b o e=>by refine AZ hh2 ?_;exact By _ e
 have e2:ay B s1 s2:=⟨fun b o J e=>keep2 b o e,fun b o J e=>keep2 b o e,by lia,fun x=>O'.tikeep _ _ x fun b o J e=>keep2 b o e,fun i x e=>by
   refine AZ hg2<|AZ (Array.getElem?_push) ?_
   have:=(Cn.mp e).1
   refine AZ (if_neg (by lia)) ?_;exact e,fun hb=>by refine AZ hg2 ?_;exact AllBare.push hb rfl,ho2⟩
 refine⟨.ref s1.heap.objs.size,rfl,e1.trans e2,.inr ?_⟩
 let F:Addr->Prop:=Fz W s.heap
 let O:Addr->Prop:=fun b=>W' b/\¬W b
 have hw1:∀b,W' b->b < s1.heap.objs.size:=X1.wlt;have h1:gW F s1=W':=by
  funext b
  refine propext ⟨fun w=>?_,fun w=>⟨fun f=>(hW' b w).elim f.1 fun z=>Bd _ (Ba f.2 z),hw1 b w⟩⟩
  by_cases wb:W b
  ·exact X1.cW b wb
  ·exact hall b (FX fun z=>w.1 ⟨wb,z⟩) w.2
 have h2:zY F O s1=W:=by
  funext b
  refine propext ⟨fun w=>?_,fun w=>⟨fun f=>f.1 w,fun o=>o.2 w,hw1 b (X1.cW b w)⟩⟩
  by_cases wb:W b
  ·exact wb
  ·exact absurd ⟨hall b (FX fun z=>w.1 ⟨wb,z⟩) w.2.2,wb⟩ w.2.1
 have hOn:∀b,O b->s.heap.objs.size<=b:=fun b o=>(hW' b o.1).resolve_left o.2
 let J:(Addr->Prop)->Be->Prop:=fun z J=>∀b,¬z b
 have j:yr B F J:=⟨fun z s h b hb=>absurd hb (h b),fun z s s' h J J=>h⟩;have st1:oY B F ⟨O,uY⟩ s1:=⟨fun b o=>⟨fun f=>Bd _ (Ba f.2 (hOn b o)),fun t=>o.2 (tW b t),hw1 b o.1⟩,fun i h=>h.elim,fun b f t=>f.1 (tW b t)⟩
 have hdx:∀y ks,aq ps args (cN (av sc) caps) y=some (.ownD ks)->y=rm:=fun y ks h=>absurd h (lR O' _ _ _ (fun y ks h=>by
  unfold cN at h;rw[Bt] at h;refine ak h fun J J h=>?_
  cases h) y ks)
 have G1:GR B (aH sc 0) env rm (aq ps args (cN (av sc) caps)) F J ⟨O,uY⟩ s1 O (fun J=>False) ⟨O,uY⟩ s1:=⟨by refine AZ h1<|AZ h2 ?_;exact X1,fun b h=>h,fun b o h=>h,fun b o=>o,fun b o=>g.hi (hOn b o),fun b h=>h.elim,st1,fun b f=>Ba f.2 e1.size,ao.refl _ _,fun b o=>o,fun b o=>.inl o,rfl,hdx⟩;have hlow:¬F s1.heap.objs.size/\¬B.T s1.heap.objs.size/\s1.heap.objs.size < s2.heap.objs.size:=⟨fun f=>Bd _ (Ba f.2 e1.size),fun t=>((g.move e1).hi (Bq _)).2 t,by lia⟩;refine⟨s1.heap.objs.size,F,⟨fun b=>O b\/b=s1.heap.objs.size,fun i=>False\/i=s1.gens.size⟩,GI B (K+1) F s1.heap.objs.size,rfl,fun l p s h=>?_,vi O',⟨⟨⟨O,uY⟩,s1.gens.size,.fresh (.func (gf B.nm ss) env),.func (gf B.nm ss) env,_,[],rfl,?_,?_,?_,fun o=>Bd _ (hw1 _ o.1),fun h=>h,.inl ⟨rfl,rfl,rfl⟩,fun A2 s3 st g3 R3=>?_⟩,hlow⟩,fun b f=>⟨f.1,?_⟩,fun b o=>?_,fun i h=>?_,hlim⟩
 ·obtain⟨⟨p₀,n,gs,c,t,fs,J,hig,J⟩,J⟩:=h
  exact hig.typeIs
 ·exact⟨_,_,_,by refine AZ hh2 ?_;exact BD _ rfl,rfl,rfl,rfl⟩
 ·refine AZ hg2 ?_;simp
 ·exact st1.stay (by lia) (by refine AZ hg2 ?_;simp)
 ·have G3:=G1.wake O' j (iN.trans ⟨fun b o J J e=>keep2 b o e,fun b o J e=>keep2 b o e,by lia,fun i x h=>h.elim⟩ st) g3
  exact xY O' hK P HΨ hb j hev hco R3 G3
 ·exact Ba f.2 (Bf e1.size e2.size)
 ·rcases o with o|rfl
  ·exact hOn b o
  ·exact e1.size
 ·rcases h with h|rfl
  ·exact h.elim
  ·exact(e1.toP ⟨fun J=>False,uY⟩).gsize
end
end Mine
end
namespace Mine
variable {B:Bs}
noncomputable abbrev Bs.no (B:Bs):Bs:={ B with X:=none }
theorem uX {b:Addr}(t:B.no.T b):B.T b:=t.elim .inl fun⟨J,e,J2⟩=>ah e
theorem good_no (O:B.Ok){s:Be}(g:aK B s):aK B.no s:=
 ⟨fun b o t e=>g.base b o (fun t'=>t'.elim (fun z=>t (.inl z)) fun⟨x,hx,hd⟩=>absurd (BG e) (Gw.mpr (hd▸(O.xk x hx).1))) e,g.size,⟨fun J e=>(ah e),g.ti.2⟩,fun b t=>g.tlt b (uX t)⟩
theorem lam_no {L:f0}{cv:List Value}{h:Heap}{W:AP}{fd:Cu}(l:xg B L cv h W fd):xg B.no L cv h W fd:=⟨l.params,l.body,l.scope,l.glob,l.blt,l.dfl,l.qual,l.code,l.len,l.only,l.keys,l.nms,l.apart,l.cells⟩
theorem vV {B':Bs}{h h':Heap}{W W':AP}:∀{fs:List (List Nat)}{vs:List Value},ab B h W (fs.map .str) vs->ab B' h' W' (fs.map .str) vs
 |[],_,r=>r
 |f::fs,_,r=>by
  obtain⟨v,vs,rfl,rv,ra⟩:=r;exact⟨v,vs,rfl,rv,vV ra⟩
theorem wP {α:Type}{A:BO}{pe:Env}{x:Str}{xp:Pos}{body:List Stmt}{it:Addr}{P:List α->Be->Prop}{R:Dv->Be->Prop}
  (h0:∀s,P [] s->wpAny B.M A (Ec (.ref it)) (fun o s'=>o=none/\R (.ok .next) s') i6 s)
  (h1:∀d l s,P (d::l) s->wpAny B.M A (Ec (.ref it)) (fun o s'=>∃v,o=some v/\wpAny B.M A (Eb pe x v) (fun J s1=>wpAny B.M A (execs body pe) (fun f s2=>f=.next/\P l s2) i6 s1) i6 s') i6 s):
  ∀(l:List α) (s:Be),P l s->C3 B.M A (.forLoop (.Name x xp) (.ref it) body [] pe) R s:=by
 intro l
 induction l with
 |nil=>
  intro s hp;refine Dq ?_;show wpAny _ A ((ES (.Name x xp) (.ref it) body [] pe).onRaise (fun x=>do Ee x pe;Di x)) _ _ s;refine EP ?_;simp only[ES];refine Bc (B8 (Bc (EV (BH (h0 s hp) ?_ fun J J f=>f.elim))));rintro o s' ⟨rfl,hr⟩;exact Bk ⟨rfl,codeAny_block (Cw hr)⟩
 |cons d l ih=>
  intro s hp;refine Dq ?_;show wpAny _ A ((ES (.Name x xp) (.ref it) body [] pe).onRaise (fun x=>do Ee x pe;Di x)) _ _ s;refine EP ?_;simp only[ES];refine Bc (B8 (Bc (EV (BH (h1 d l s hp) ?_ fun J J f=>f.elim))));rintro o s' ⟨v,rfl,hs⟩;refine Bc (Bk (Bc (Dj (BH hs ?_ fun J J f=>f.elim))));intro J s1 hb;refine Bc (BH hb ?_ fun J J f=>f.elim);rintro f s2 ⟨rfl,hp2⟩;exact Bk ⟨rfl,ih s2 hp2⟩
structure yl (ks vs:List (List Nat))(kvs:List (Str×Value)):Prop where
 k:kvs.map (·.1)=ks.map cR
 v:∀(i:Nat) (y:List Nat),vs[i]?=some y->∃(q:Str×Value) (t:Tok),kvs[i]?=some q/\q.2=.str (cR y) t
 l:vs.length=ks.length
theorem yl.snoc {ks vs:List (List Nat)}{kvs:List (Str×Value)}(h:yl ks vs kvs)(c p:List Nat)(t:Tok):yl (ks++[c]) (vs++[p]) (kvs++[(cR c,.str (cR p) t)]) where
 k:=by simp[h.k]
 v:=fun i y e=>by
  have hl:kvs.length=vs.length:=by
   have:=congrArg EE h.k;simp only[Bx] at this;exact AZ this<|AZ h.l rfl
  by_cases hi:i < vs.length
  ·rw[C8 hi] at e
   refine sI (h.v i y e) fun q t' h1 h2=>?_;exact⟨q,t',by refine AZ (C8 (by lia)) ?_;exact h1,h2⟩
  ·rw[Gj (by lia)] at e
   have h0:i - vs.length=0:=by
    have:=(B0.mp e).1;simp only[BA,Da] at this;lia
   rw[h0] at e;obtain rfl:=A0 e;refine⟨_,t,by refine AZ (Gj (by lia))<|AZ (show i - kvs.length=0 by lia) ?_;rfl,rfl⟩
 l:=by simp[h.l]
theorem yl.new {ks vs:List (List Nat)}{kvs:List (Str×Value)}(h:yl ks vs kvs){c:List Nat}(hc:c ∉ ks)(v:Value):stored kvs (cR c) v=kvs++[(cR c,v)]:=by
 unfold stored;rw[if_neg];refine AZ (Bool.not_eq_true _)<|AZ (propext HE) ?_
 intro q hq e;have h1:q.1∈kvs.map (·.1):=BC.mpr ⟨q,hq,rfl⟩;rw[h.k] at h1;refine ak (BC.mp h1) fun y hy e2=>?_;have e3:cR c=cR y:=(of_decide_eq_true e).symm.trans e2.symm;exact hc (v9 e3▸hy)
noncomputable abbrev ml (l:List (List Nat)):List (List Nat):=l.flatMap fun p=>p.map fun c=>[c]
noncomputable abbrev ma (l:List (List Nat)):List (List Nat):=l.flatMap fun p=>p.map fun J=>p
noncomputable def uj (B:Bs):Prop:=∀(A:BO)(s:Be)(a dx r:Addr)(t:Tok) (n:Nat)(E:VS)(Q:VS),aK B s->s.heap.get? a=some (Dd B.C dx)->s.heap.get? dx=some (eS B.w.params [.str (B.nm 19) t] [.ref r] n)->(∀t,Q .none { s with toks:=t })->wpAny B.M A (getAttr (.ref a) (B.nm 21) true) Q E s
noncomputable def sj (B:Bs):Prop:=∀(A:BO)(s:Be)(a dx:Addr) (n:Nat)(ts:List Tok)(u v:Value)(pl:Sem Bool)(E:VS)(Q:Value×List Value->Be->Prop),aK B s->s.heap.get? a=some (Dd B.C dx)->s.heap.get? dx=some (eS B.w.params (([19,22].zip ts).map fun p=>Value.str (B.nm p.1) p.2) [u,v] n)->ts.length=2->F8 v=true->(∀t,Q (v,[]) { s with toks:=t })->wpAny B.M A (getMethod (.ref a) (B.nm 22) pl) Q E s
section
variable (O:B.Ok)(O0:B.no.Ok)
include O O0
variable {Wc W:AP}{pe:Env}{A:BO}{s:Be}{K:Nat}
noncomputable abbrev PVx (n:Nat):Pv:=⟨fun b=>n<=b,fun J=>False⟩
structure jE (B:Bs)(L q n x:Nat)(all allV:List (List Nat))(lk lv:List (List Nat))(s0 s:Be)(m:Str->Option Value):Prop where
 e:ao B.no (PVx n) s0 s
 ns:s.heap.Ns L m
 mx:m (B.nm x)=some (.ref q)
 d:∃ks vs kvs,s.heap.DictOf (B4 B.prog B.w) q kvs/\yl ks vs kvs/\ks++lk=all/\vs++lv=allV
theorem wj {L q n x:Nat}{all allV lk lv:List (List Nat)}{s0 s1:Be}{m:Str->Option Value}{it:Addr}{F:AP}{I:List D->Pv->Be->Prop}{d:D}{l:List D}{p:Pv}(P:jE B L q n x all allV lk lv s0 s1 m)(g0:aK B.no s0)(hHi:∀b,n<=b->B.no.Hi b)(ok:bL B.no K F it I)(hI:I (d::l) p s1)
  (hp:∀b,p.a b->n<=b/\b≠L/\b≠q) (hg:p.g=fun J=>False) (hL:L < s1.heap.objs.size) (hq:q < s1.heap.objs.size) (hLT:¬B.no.T L) (hqT:¬B.no.T q) (R:aD A (K - 4)){Q:Option Value->Be->Prop}
  (k:∀v s2 p2,jE B L q n x all allV lk lv s0 s2 m->aw B.no s2.heap (fun b=>¬F b) d v->I l p2 s2->(∀b,p2.a b->p.a b\/s1.heap.objs.size<=b)->p2.g=(fun J=>False)->ao B.no p s1 s2->Q (some v) s2):wpAny B.M A (Ec (.ref it)) Q i6 s1:=by
 have g1:aK B.no s1:=g0.moveP P.e fun b q=>hHi b q;refine ok.next _ _ _ _ _ _ _ hI g1 R fun v s2 p2 e2 hsub hnew hg2 rv hI2=>?_;refine k v s2 p2 ⟨P.e.trans e2 (fun b q=>.inl (hp b q).1) fun i q=>by rw[hg] at q;exact q.elim,CN.moved P.ns fun o e=>e2.keep L o hLT (fun z=>(hp L z).2.1 rfl) e,P.mx,?_⟩ rv hI2 hnew (hg2.trans hg) e2;refine x31 P.d fun ks vs kvs a b=>?_;exact⟨ks,vs,kvs,PySem.Heap.DictOf.at a fun o e=>e2.keep q o hqT (fun z=>(hp q z).2.2 rfl) e,b⟩
theorem wk {L q n x:Nat}{all allV lk lv:List (List Nat)}{s0 s1:Be}{m:Str->Option Value}{it:Addr}{F:AP}{I:List D->Pv->Be->Prop}{p:Pv}(P:jE B L q n x all allV lk lv s0 s1 m)(g0:aK B.no s0)(hHi:∀b,n<=b->B.no.Hi b)(ok:bL B.no K F it I)(hI:I [] p s1)
  (hp:∀b,p.a b->n<=b/\b≠L/\b≠q) (hg:p.g=fun J=>False) (hLT:¬B.no.T L) (hqT:¬B.no.T q) (R:aD A (K - 4)){Q:Option Value->Be->Prop}
  (k:∀s2,jE B L q n x all allV lk lv s0 s2 m->ao B.no p s1 s2->Q none s2):wpAny B.M A (Ec (.ref it)) Q i6 s1:=by
 have g1:aK B.no s1:=g0.moveP P.e fun b q=>hHi b q;refine ok.done _ _ _ _ _ hI g1 R fun s2 e2=>?_;refine k s2 ⟨P.e.trans e2 (fun b q=>.inl (hp b q).1) fun i q=>by rw[hg] at q;exact q.elim,CN.moved P.ns fun o e=>e2.keep L o hLT (fun z=>(hp L z).2.1 rfl) e,P.mx,?_⟩ e2;refine x31 P.d fun ks vs kvs a b=>?_;exact⟨ks,vs,kvs,PySem.Heap.DictOf.at a fun o e=>e2.keep q o hqT (fun z=>(hp q z).2.2 rfl) e,b⟩
end
end Mine
namespace Mine
variable {B:Bs}
theorem no_ko {o:Obj}(h:B.no.KO o):mH o:=h.elim id fun h=>by obtain⟨J,J,J,J,e,J⟩:=h;exact ah e
theorem zz {o:Obj}{es:Array DictEntry}{n:Nat}(d:o.data=.dict es n):¬B.no.KO o:=fun h=>by
 refine uy (no_ko h) fun J vs hv=>?_;rw[d] at hv;exact nomatch hv
structure AW (B:Bs)(pe:Env)(L q n x y z:Nat):Prop where
 fn:pe.scope.kind=.function
 loc:pe.locals=L
 kx:pe.kindOf (B.nm x)=some .local
 ky:pe.kindOf (B.nm y)=some .local
 kz:pe.kindOf (B.nm z)=some .local
 xy:x≠y
 xz:x≠z
 yz:y≠z
 nL:n<=L
 nq:n<=q
 Lq:L≠q
section
variable (O:B.Ok)(O0:B.no.Ok)
include O O0
variable {Wc W:AP}{pe:Env}{A:BO}{s:Be}{K:Nat}{L q n x y z:Nat}{all allV:List (List Nat)}{s0 s1:Be}{m:Str->Option Value}
theorem tm {lk lv:List (List Nat)}{u:Nat}{v:Value}(P:jE B L q n x all allV lk lv s0 s1 m)(hux:u≠x)(hk:pe.kindOf (B.nm u)=some .local)(Fr:AW B pe L q n x y z)(hLT:¬B.no.T L)(hqT:¬B.no.T q){Q:Unit->Be->Prop}
  (k:∀s2 m2,jE B L q n x all allV lk lv s0 s2 m2->m2 (B.nm u)=some v->(∀w,w≠u->m2 (B.nm w)=m (B.nm w))->ao B.no ⟨fun b=>b=L,fun J=>False⟩ s1 s2->Q () s2):wpAny B.M A (Eb pe (B.nm u) v) Q i6 s1:=by
 have hn:=P.ns;refine Ds hk (by refine AZ Fr.loc ?_;exact hn) (fun h2 n2 sb=>?_) (by refine AZ Fr.fn ?_;rfl);rw[Fr.loc] at n2 sb
 have e2:ao B.no ⟨fun b=>b=L,fun J=>False⟩ s1 { s1 with heap:=h2,toks:=s1.toks+1 }:=cM O0 hLT (fun o e=>by
  refine yn hn fun o' es ep e' hd J=>?_;obtain rfl:=A0 (e.symm.trans e')
  exact zz hd) sb
 refine k _ _ ⟨P.e.trans e2 (fun b q=>.inl (q▸Fr.nL)) fun i q=>q.elim,n2,?_,?_⟩ (by simp) (fun w hw=>?_) e2
 ·refine AZ (if_neg (fun e=>hux (O.inj _ _ e).symm)) ?_;exact P.mx
 ·refine x31 P.d fun ks vs kvs a b=>?_
  exact⟨ks,vs,kvs,PySem.Heap.DictOf.at a fun o e=>e2.keep q o hqT (fun z=>Fr.Lq z.symm) e,b⟩
 ·exact AZ (if_neg (fun e=>hw (O.inj _ _ e))) rfl
theorem pm_set {lk lv:List (List Nat)}{c fam:List Nat}{t1 t2:Tok}{p1 p2 p3 p4 p5:Pos}(P:jE B L q n x all allV (c::lk) (fam::lv) s0 s1 m)(Fr:AW B pe L q n x y z)(hqT:¬B.no.T q)(hLT:¬B.no.T L)(hnd:all.Nodup)(hlim:all.length<=lim)(hy:m (B.nm y)=some (.str (cR fam) t2))(hz:m (B.nm z)=some (.str (cR c) t1)){Q:Flow->Be->Prop}
  (k:∀s2,jE B L q n x all allV lk lv s0 s2 m->ao B.no ⟨fun b=>b=q,fun J=>False⟩ s1 s2->Q .next s2):
  wpAny B.M A (exec (.Assign [.Subscript (.Name (B.nm x) p1) (.Name (B.nm z) p2) p3] (.Name (B.nm y) p4) p5) pe) Q i6 s1:=by
 refine x33 P.d fun ks vs kvs hd hr h1 h2=>?_;have hn:s1.heap.Ns pe.locals m:=by refine AZ Fr.loc ?_;exact P.ns
 refine Hp (BX (BF Fr.fn Fr.ky hn (v:=.str (cR fam) t2) hy ?_) (O.dbg y)) rfl;refine BX (BF Fr.fn Fr.kx hn (v:=.ref q) P.mx ?_) (O.dbg x);refine BX (BF Fr.fn Fr.kz hn (v:=.str (cR c) t1) hz ?_) (O.dbg z);have hkl:kvs.length=ks.length:=by
  have:=congrArg EE hr.k
  simpa using this
 have hall:ks.length+(lk.length+1)=all.length:=by refine AZ (BE h1) ?_;simp
 have hc:c ∉ ks:=fun hm=>by
  rw[<-h1] at hnd;exact(List.nodup_append.mp hnd).2.2 c hm c Bj rfl
 refine wpAny_setItem_pairs (knd:=B4 B.prog B.w) (k:=cR c) (strKind_is _ _ _ _) hd (fun h' hd' hs'=>?_) (aE (by lia));rw[hr.new hc] at hd'
 have e2:ao B.no ⟨fun b=>b=q,fun J=>False⟩ s1 { s1 with heap:=h',toks:=s1.toks+1 }:=cM O0 hqT (fun o e=>by
  refine x33 hd fun o' es ep e' J hd J=>?_;obtain rfl:=A0 (e.symm.trans e')
  exact zz hd) hs'
 exact k _ ⟨P.e.trans e2 (fun b q=>.inl (q▸Fr.nq)) fun i q=>q.elim,CN.moved P.ns fun o e=>e2.keep L o hLT Fr.Lq e,P.mx,ks++[c],vs++[fam],_,hd',hr.snoc c fam t2,by simp[<-h1],by simp[<-h2]⟩ e2
theorem fU {it:Addr}{F:AP}{I:List D->Pv->Be->Prop}{l:List D}{p p':Pv}{s1 s2:Be}(ok:bL B.no K F it I)(hI:I l p s1)(hg:p.g=fun J=>False)(e:ao B.no p' s1 s2)(h:∀b,F b\/p.a b->¬p'.a b)(g2:aK B.no s2):I l p s2:=
 ok.stay _ _ _ _ hI (fun b o t q z=>e.keep b o t (h b q) z) e.ck e.size (fun i x q J=>by rw[hg] at q;exact q.elim) g2
theorem zr {rest:List (List Nat)}{fam:List Nat}{tf:Tok}{N:Nat}{it2:Addr}{F2:AP}{I2:List D->Pv->Be->Prop}{it1:Addr}{F1:AP}{I1:List D->Pv->Be->Prop}{p1v:Pv}{p1 p2 p3 p4 p5 pz:Pos}
  (Fr:AW B pe L q n x y z) (g0:aK B.no s0) (hHi:∀b,n<=b->B.no.Hi b) (hLT:¬B.no.T L) (hqT:¬B.no.T q) (hnd:all.Nodup) (hlim:all.length<=lim) (R:aD A (K - 4)) (mi:bL B.no K F2 it2 I2) (ok1:bL B.no K F1 it1 I1)
  (hF1:∀b,F1 b->b < N/\b≠L/\b≠q) (hp1:∀b,p1v.a b->b < N/\b≠L/\b≠q) (hg1:p1v.g=fun J=>False) (hF2:∀b,F2 b->b≠L/\b≠q){RR:Dv->Be->Prop}
  (hR:∀s m,jE B L q n x all allV (ml rest) (ma rest) s0 s m->I1 (rest.map .str) p1v s->N<=s.heap.objs.size->RR (.ok .next) s):
  ∀(cs:List Nat) (s:Be),(∃m pv,jE B L q n x all allV ((cs.map fun c=>[c])++ml rest) ((cs.map fun J=>fam)++ma rest) s0 s m/\m (B.nm y)=some (.str (cR fam) tf)/\I2 (cs.map fun c=>D.str [c]) pv s/\I1 (rest.map .str) p1v s/\(∀b,pv.a b->(n<=b/\b≠L/\b≠q)/\N<=b)/\pv.g=(fun J=>False)/\N<=s.heap.objs.size/\L < N/\q < N/\n<=N)->
   C3 B.M A (.forLoop (.Name (B.nm z) pz) (.ref it2) [.Assign [.Subscript (.Name (B.nm x) p1) (.Name (B.nm z) p2) p3] (.Name (B.nm y) p4) p5] [] pe) RR s:=by
 have gd:∀{s m lk lv},jE B L q n x all allV lk lv s0 s m->aK B.no s:=fun P=>g0.moveP P.e fun b q=>hHi b q;refine wP (fun s h=>?_) (fun c cs s h=>?_)
 ·refine x29 h fun m pv P hy h2 h1 hpv hg hN hLN hqN hnN=>?_
  refine wk O O0 P g0 hHi mi h2 (fun b w=>(hpv b w).1) hg hLT hqT R fun s2 P2 e2=>⟨rfl,hR s2 m P2 ?_ (Bf hN e2.size)⟩;exact fU O O0 ok1 h1 hg1 e2 (fun b w z=>Bd _ (Ba (w.elim (fun w=>(hF1 b w).1) fun w=>(hp1 b w).1) (hpv b z).2)) (gd P2)
 ·refine x29 h fun m pv P hy h2 h1 hpv hg hN hLN hqN hnN=>?_
  refine wj O O0 P g0 hHi mi h2 (fun b w=>(hpv b w).1) hg (Ba hLN hN) (Ba hqN hN) hLT hqT R fun v s2 pv2 P2 rv h2' hnew hg2 e2=>?_;refine ak (jo rv) fun t e91=>?_;subst e91;intro J;have h1':=fU O O0 ok1 h1 hg1 e2 (fun b w z=>Bd _ (Ba (w.elim (fun w=>(hF1 b w).1) fun w=>(hp1 b w).1) (hpv b z).2)) (gd P2);have hpv2:∀b,pv2.a b->(n<=b/\b≠L/\b≠q)/\N<=b:=fun b w=>(hnew b w).elim (hpv b) fun w=>⟨⟨Bf hnN (Bf hN w),fun e=>Bd _ (Ba (e▸hLN) (Bf hN w)),fun e=>Bd _ (Ba (e▸hqN) (Bf hN w))⟩,Bf hN w⟩;refine⟨_,rfl,tm O O0 P2 Fr.xz.symm Fr.kz Fr hLT hqT fun s3 m3 P3 hz hm3 e3=>?_⟩;have hy3:m3 (B.nm y)=some (.str (cR fam) tf):=(hm3 y Fr.yz).trans hy;have h1'':=fU O O0 ok1 h1' hg1 e3 (fun b w z=>w.elim (fun w=>(hF1 b w).2.1 z) fun w=>(hp1 b w).2.1 z) (gd P3);have h2'':=fU O O0 mi h2' hg2 e3 (fun b w z=>w.elim (fun w=>(hF2 b w).1 z) fun w=>(hpv2 b w).1.2.1 z) (gd P3);refine Br (pm_set O O0 (c:=[c]) P3 Fr hqT hLT hnd hlim hy3 hz fun s4 P4 e4=>Cw ⟨rfl,m3,pv2,P4,hy3,?_,?_,hpv2,hg2,Bf hN (Bf e2.size (Bf e3.size e4.size)),hLN,hqN,hnN⟩)
  ·exact fU O O0 mi h2'' hg2 e4 (fun b w z=>w.elim (fun w=>(hF2 b w).2 z) fun w=>(hpv2 b w).1.2.2 z) (gd P4)
  ·exact fU O O0 ok1 h1'' hg1 e4 (fun b w z=>w.elim (fun w=>(hF1 b w).2.2 z) fun w=>(hp1 b w).2.2 z) (gd P4)
end
end Mine
namespace Mine
variable {B:Bs}
theorem vD {M:Model}{A:BO}{E:VS}{s:Be}{env:Env}{o:Expr}{name:Str}{apos pos:Pos}{Q:VS}(hbase:FN o name env (eval o env)=eval o env)(hline:(apos.endLine==pos.line)=true)
  (h:wpAny M A (eval o env) (fun ov s₁=>wpAny M A (getMethod ov name (do return (<-importBound o env).getD true)) (fun fx s₂=>wpAny M A (callWith pos fx.1 fx.2 [] []) Q E s₂) E s₁) E s):wpAny M A (eval (.Call (.Attribute o name apos) [] [] pos) env) Q E s:=by
 show wpAny M A (do
  let ov <-FN o name env (eval o env)
  EB apos.atName
  methodCall o name apos pos env ov 0 [] []) Q E s
 refine AZ hbase ?_;refine Bc (BH h (fun ov s₁ h₁=>Bc (B8 ?_)) fun _ _ x=>x);unfold methodCall;refine Bc (Cv (show wpAny M A (getMethod ov name (do return (<-importBound o env).getD true)) _ _ _ from BH h₁ (fun fx s₂ h₂=>?_) fun _ _ x=>x));have e:methodCallPos (methodCallForm 0 ([]:List (Bool×Sem Value)) ([]:List (Option Str×Sem Value))) o env apos pos=pure pos:=by
  unfold methodCallPos;exact AZ hline<|AZ (Bool.or_true _)<|AZ (if_pos rfl) rfl
 dsimp only;refine AZ e ?_;exact Bc (Bk h₂)
theorem rI:∀fs:List (List Nat),(fs.map D.str).flatMap famD=fs
 |[]=>rfl
 |f::fs=>by refine AZ Bo<|AZ BJ<|AZ (rI fs) ?_;rfl
section
variable (O:B.Ok)(O0:B.no.Ok)
include O O0
variable {Wc W:AP}{pe:Env}{A:BO}{s:Be}{K:Nat}{L q n x y z:Nat}{all allV:List (List Nat)}{s0 s1:Be}{m:Str->Option Value}
theorem zq {it1:Addr}{F1:AP}{I1:List D->Pv->Be->Prop}{p1 p2 p3 p4 p5 pz py pn p6:Pos}
  (Fr:AW B pe L q n x y z) (g0:aK B.no s0) (hHi:∀b,n<=b->B.no.Hi b) (hLT:¬B.no.T L) (hqT:¬B.no.T q) (hnd:all.Nodup) (hlim:all.length<=lim) (R:aD A (K - 4)) (ok1:bL B.no K F1 it1 I1)
  (hF1:∀b,F1 b->b≠L/\b≠q){RR:Dv->Be->Prop}
  (hR:∀s m,jE B L q n x all allV [] [] s0 s m->RR (.ok .next) s):
  ∀(l:List (List Nat)) (s:Be),(∃m pv,jE B L q n x all allV (ml l) (ma l) s0 s m/\I1 (l.map .str) pv s/\(∀b,pv.a b->n<=b/\b≠L/\b≠q)/\pv.g=(fun _=>False)/\L < s.heap.objs.size/\q < s.heap.objs.size/\n<=s.heap.objs.size/\∀b,F1 b->b < s.heap.objs.size)->
   C3 B.M A (.forLoop (.Name (B.nm y) py) (.ref it1) [.For (.Name (B.nm z) pz) (.Name (B.nm y) pn) [.Assign [.Subscript (.Name (B.nm x) p1) (.Name (B.nm z) p2) p3] (.Name (B.nm y) p4) p5] [] p6] [] pe) RR s:=by
 have gd:∀{s m lk lv},jE B L q n x all allV lk lv s0 s m->aK B.no s:=fun P=>g0.moveP P.e fun b q=>hHi b q;refine wP (fun s h=>?_) (fun fam rest s h=>?_)
 ·obtain⟨m,pv,P,h1,hpv,hg,hLs,hqs,hns,hFs⟩:=h
  exact wk O O0 P g0 hHi ok1 h1 hpv hg hLT hqT R fun s2 P2 e2=>⟨rfl,hR s2 m P2⟩
 ·obtain⟨m,pv,P,h1,hpv,hg,hLs,hqs,hns,hFs⟩:=h
  refine wj O O0 P g0 hHi ok1 h1 hpv hg hLs hqs hLT hqT R fun v s2 pv2 P2 rv h1' hnew hg2 e2=>?_;obtain⟨t,rfl,hfl⟩:=jo rv;have hpv2:∀b,pv2.a b->n<=b/\b≠L/\b≠q:=fun b w=>(hnew b w).elim (hpv b) fun w=>⟨Bf hns w,fun e=>Bd _ (Ba (e▸hLs) w),fun e=>Bd _ (Ba (e▸hqs) w)⟩;refine⟨_,rfl,tm O O0 P2 Fr.xy.symm Fr.ky Fr hLT hqT fun s3 m3 P3 hy3 hm3 e3=>?_⟩;have h1'':=fU O O0 ok1 h1' hg2 e3 (fun b w z=>w.elim (fun w=>(hF1 b w).1 z) fun w=>(hpv2 b w).2.1 z) (gd P3);have hn3:s3.heap.Ns pe.locals m3:=by refine AZ Fr.loc ?_;exact P3.ns
  have h13:s.heap.objs.size<=s3.heap.objs.size:=Bf e2.size e3.size;refine Br (wpAny_For (BX (BF Fr.fn Fr.ky hn3 (v:=.str (cR fam) t) hy3 ?_) (O.dbg y)) fun _=>rfl);have g3:=gd P3;refine j5 O0 (K:=K) (x:=.str fam) (W:=fun b=>b < s3.heap.objs.size) rfl (fun b t=>g3.tlt b t) (fun b w=>w) ⟨⟨t,rfl⟩,hfl⟩ fun I2 s4 mi hI2 hl2 e4=>?_;have P4:jE B L q n x all allV (ml (fam::rest)) (ma (fam::rest)) s0 s4 m3:=⟨P3.e.trans (e4.toP ⟨fun _=>False,fun _=>False⟩) (fun b w=>w.elim) fun i w=>w.elim,CN.moved P3.ns fun o e=>e4.keep L o hLT e,P3.mx,let ⟨ks,vs,kvs,a,b⟩:=P3.d;⟨ks,vs,kvs,PySem.Heap.DictOf.at a fun o e=>e4.keep q o hqT e,b⟩⟩;have h14:=fU O O0 ok1 h1'' hg2 (e4.toP ⟨fun _=>False,fun _=>False⟩) (fun b w z=>z) (gd P4);have ek:ml (fam::rest)=(fam.map fun c=>[c])++ml rest:=BJ;have ev:ma (fam::rest)=(fam.map fun _=>fam)++ma rest:=BJ;rw[ek,ev] at P4;have sub1:=ok1.sub _ _ _ h1'';refine zr O O0 (rest:=rest) (fam:=fam) (tf:=t) (N:=s3.heap.objs.size) Fr g0 hHi hLT hqT hnd hlim R mi ok1 (fun b w=>⟨Ba (hFs b w) h13,(hF1 b w).1,(hF1 b w).2⟩) (fun b w=>⟨(sub1 b w).2.2,(hpv2 b w).2.1,(hpv2 b w).2.2⟩) hg2 (fun b w=>absurd w.2 w.1) (fun s5 m5 P5 h15 hN5=>?_) fam s4 ⟨m3,_,P4,hy3,hI2,h14,fun b w=>?_,rfl,e4.size,Ba hLs h13,Ba hqs h13,Bf hns h13⟩
  ·have h15s:s.heap.objs.size<=s5.heap.objs.size:=Bf h13 hN5
   exact Cw ⟨rfl,m5,pv2,P5,h15,hpv2,hg2,Ba hLs h15s,Ba hqs h15s,Bf hns h15s,fun b w=>Ba (hFs b w) h15s⟩
  ·have hb:b=s3.heap.objs.size:=w
   subst hb;exact⟨⟨Bf hns h13,fun e=>Bd _ (Ba (e▸hLs) h13),fun e=>Bd _ (Ba (e▸hqs) h13)⟩,Bq _⟩
theorem xP {ctx:Nat}{v:Value}:C4 (cR [65]) [(B.nm ctx,v)].reverse=none:=by
 simp only[Hz,List.reverse_nil,D8,Bu,List.lookup_nil,show(cR [65]==B.nm ctx)=false from beq_eq_false_iff_ne.mpr fun e=>O.nA ctx e.symm]
structure PmE (B:Bs)(pe:Env)(ctx x y z:Nat):Prop where
 fn:pe.scope.kind=.function
 kc:pe.kindOf (B.nm ctx)=some .local
 kx:pe.kindOf (B.nm x)=some .local
 ky:pe.kindOf (B.nm y)=some .local
 kz:pe.kindOf (B.nm z)=some .local
omit O O0 in
theorem PmE.kf {ctx x y z:Nat}(V:PmE B pe ctx x y z):(pe.scope.kind==.class||(pe.scope.kind==.module&&pe.locals != pe.globals))=false:=by refine AZ V.fn ?_;rfl
section
variable {ctx y z:Nat}{x0:Lz}{m:Str->Option Value}{s s1:Be}{Q:Flow->Be->Prop}{E:VS}{q1 q2 q3 q4 q5 q6 q7 q8 q9 q10:Pos}
omit O0 in
theorem pm_made {t t':Tok}{n:Nat}{q:Addr}{bd:List Stmt}(V:PmE B pe ctx x y z)(hL:pe.locals=s.heap.objs.size)(hLT:¬B.T pe.locals)(g1:aK B s1)(e1:ay B s s1)(n1:s1.heap.Ns pe.locals m)(mc:m (B.nm ctx)=some (.ref x0.a))(mz:m (cR [65])=none)
  (hga:s1.heap.get? x0.a=some (Dd B.C x0.dx)) (gx:s1.heap.get? x0.dx=some (eS B.w.params [.str (B.nm 19) t,.str (B.nm 21) t'] [.ref x0.r,.ref q] n)) (hQ:∀s',ay B s s'->Q (.ret (.ref q)) s'):
  wpAny B.M A (execs [.Assign [.Name (B.nm x) q1] (.Attribute (.Name (B.nm ctx) q2) (B.nm 21) q3) q4,.If (.Compare (.Name (B.nm x) q5) [.Is] [.Constant .none 0 q6] q7) bd [] q8,.Return (some (.Name (B.nm x) q9)) q10] pe) Q E s1:=by
 refine Br (CC (FA (BX (BF V.fn V.kc n1 mc ?_) (O.dbg ctx)) (by with_unfolding_all rfl)) rfl);refine O.attr _ _ x0.a x0.dx n [19,21] [t,t'] [.ref x0.r,.ref q] 21 (.ref q) _ _ g1 hga gx rfl rfl rfl (.inl (.inr (.inr rfl))) rfl fun tk=>?_;refine Ds V.kx n1 (fun h2 n2 sb2=>?_) V.kf;refine Br (GN (Dt (BX (BF V.fn V.kx n2 (v:=.ref q) (if_pos rfl) ?_) (O.dbg x)) rfl));refine FH ?_;show wpAny _ _ (GP (.ref q) .none >>= fun c=>pure (Value.bool c)) _ _ _;refine AZ (show GP (.ref q) .none=pure false from rfl) ?_;refine Bc (Bk (Bk (B1 (Cw ?_))));refine Br (Dw (BX (BF V.fn V.kx n2 (v:=.ref q) (if_pos rfl) ?_) (O.dbg x)));exact hQ _ (ao.toEff e1 (cM (s:=s1) O hLT (lV n1 mz) sb2) (fun b q=>by refine AZ q<|AZ hL ?_;exact Bq _) fun i q=>q.elim)
theorem yR {x:Nat}{v:Value}{Q:Unit->Be->Prop}(hk:pe.kindOf (B.nm x)=some .local)(kf:(pe.scope.kind==.class||(pe.scope.kind==.module&&pe.locals != pe.globals))=false)(hLT:¬B.no.T pe.locals)(n1:s.heap.Ns pe.locals m)(mz:m (cR [65])=none)
  (h:∀s',ao B.no ⟨fun b=>b=pe.locals,fun _=>False⟩ s s'->s'.heap.Ns pe.locals (fun y=>if y=B.nm x then some v else m y)->Q () s'):wpAny B.M A (Eb pe (B.nm x) v) Q E s:=
 Ds hk n1 (fun _ n2 sb2=>h _ (cM O0 hLT (lV n1 mz) sb2) n2) kf
theorem mk_dict {Q:VS}{p:Pos}(h:∀s',ay B.no s s'->s'.heap.DictOf (B4 B.prog B.w) s.heap.objs.size []->s'.heap.objs.size=s.heap.objs.size+1->Q (.ref s.heap.objs.size) s'):wpAny B.M A (eval (.Dict [] [] p) pe) Q E s:=
 wpAny_Dict_empty (h _ (ay.push O0 _ _) (GM _) (BM ..))
structure PmMid (B:Bs)(pe:Env)(ctx x:Nat)(x0:Lz)(t:Tok) (n:Nat)(s s5:Be)(q:Addr)(m:Str->Option Value):Prop where
 e:ao B.no ⟨fun b=>b=x0.dx\/pe.locals<=b,fun _=>False⟩ s s5
 ns:s5.heap.Ns pe.locals m
 mc:m (B.nm ctx)=some (.ref x0.a)
 mx:m (B.nm x)=some (.ref q)
 d:s5.heap.DictOf (B4 B.prog B.w) q []
 lq:pe.locals < q
 q5:q < s5.heap.objs.size
 g:∃t',s5.heap.get? x0.dx=some (eS B.w.params [.str (B.nm 19) t,.str (B.nm 21) t'] [.ref x0.r,.ref q] (n+1))
theorem pm_mid {KF:Frag}(Z0:l4 B.no KF)(hRaw:uj B.no){x:Nat}{t:Tok}{n:Nat}{bd rest:List Stmt}{r1 r2 r3 r4 r5:Pos}(V:PmE B pe ctx x y z)(hcx:x≠ctx)(g0:aK B.no s)(hL:pe.locals=s.heap.objs.size)(hdx0:¬B.no.T x0.dx)(nTa:¬B.no.T x0.a)
  (hga:s.heap.get? x0.a=some (Dd B.C x0.dx)) (gxs:s.heap.get? x0.dx=some (eS B.w.params [.str (B.nm 19) t] [.ref x0.r] n)) (e1:ay B.no s s1) (n1:s1.heap.Ns pe.locals m) (mc:m (B.nm ctx)=some (.ref x0.a)) (mz:m (cR [65])=none)
  (k:∀s5 q m5,PmMid B pe ctx x x0 t n s s5 q m5->wpAny B.M A (execs bd pe) (fun f s'=>match f with|.next=>wpAny B.M A (execs rest pe) Q E s'|f=>Q f s') E s5):
  wpAny B.M A (execs (.Assign [.Name (B.nm x) q1] (.Attribute (.Name (B.nm ctx) q2) (B.nm 21) q3) q4::.If (.Compare (.Name (B.nm x) q5) [.Is] [.Constant .none 0 q6] q7) (.Assign [.Attribute (.Name (B.nm ctx) r1) (B.nm 21) r2,.Name (B.nm x) r3] (.Dict [] [] r4) r5::bd) [] q8::rest) pe) Q E s1:=by
 have hLT:¬B.no.T pe.locals:=fun h=>Bd _ (hL▸g0.tlt _ h);have hlt:∀{b:Addr}{o:Obj},s.heap.get? b=some o->b < pe.locals:=fun e=>hL▸BG e;have ncx:¬(B.nm ctx=B.nm x):=fun e=>hcx (O.inj _ _ e).symm;have nd:=DA (hlt gxs);refine Br (CC (FA (BX (BF V.fn V.kc n1 mc ?_) (O.dbg ctx)) (by with_unfolding_all rfl)) rfl);refine hRaw _ _ x0.a x0.dx x0.r t n _ _ (g0.move e1) (e1.keep _ _ nTa hga) (e1.keep _ _ hdx0 gxs) fun tk=>?_;refine yR O O0 (s:={ s1 with toks:=tk }) V.kx V.kf hLT n1 mz fun s2 e2 n2=>?_;have e02:ao B.no ⟨fun b=>b=pe.locals,fun _=>False⟩ s s2:=((e1.trans (ay.toks _)).toP _).trans e2 (fun b q=>.inl q) fun i q=>q.elim;refine Br (GN (Dt (BX (BF V.fn V.kx n2 (v:=.none) (if_pos rfl) ?_) (O.dbg x)) rfl));refine FH ?_;show wpAny _ _ (GP .none .none >>= fun c=>pure (Value.bool c)) _ _ _;refine AZ (show GP .none .none=pure true from rfl) ?_;refine Bc (Bk (Bk (B1 (Br (wpAny_Assign_two (mk_dict O O0 fun s3 e23 hd3 hz3=>?_) rfl rfl)))));have e03:ao B.no ⟨fun b=>b=pe.locals,fun _=>False⟩ s s3:=e02.trans (e23.toP _) (fun b q=>.inl q) fun i q=>q.elim;have g3:aK B.no s3:=g0.moveP e03 fun b q=>g0.hi (by refine AZ q<|AZ hL ?_;exact Bq _);have n3:=CN.moved n2 fun o e=>e23.keep _ o hLT e;have gx3:=e03.keep x0.dx _ hdx0 nd gxs;have hLs2:pe.locals < s2.heap.objs.size:=n2.lt;refine AZ (assign_Attribute _ _ _ _) ?_;refine Bc (Cv (BX (BF V.fn V.kc n3 (v:=.ref x0.a) ((if_neg ncx).trans mc) ?_) (O.dbg ctx)));refine Bc (B8 (Bc (Cv (jQ (B:=B.no) (Z0.z.here g3) (eL (e03.keep x0.a _ nTa (DA (hlt hga)) hga) gx3) Z0.set rfl Z0.z.plain (Z0.taker 21 (.inl (.inr (.inr rfl)))) Z0.hasDict (iy O0 (x:=19) (y:=21) (by decide)) gx3 (jr O0 (x:=19) (y:=21) (by decide)) rfl (by simp[gm]) fun h4 sb4 g4=>wpAny_release ?_))))
 have e34:ao B.no ⟨fun b=>b=x0.dx,fun _=>False⟩ s3 { s3 with heap:=h4,toks:=s3.toks+2 }:=cM (s:=s3) O0 hdx0 (fun o e=>by
  obtain rfl:=A0 (gx3.symm.trans e)
  exact zz rfl) sb4
 have hq2:¬s2.heap.objs.size=x0.dx:=fun e=>Bd _ (CP (hlt gxs) (e▸hLs2));have hqT:¬B.no.T s2.heap.objs.size:=fun h=>Bd _ (CP (g0.tlt _ h) (hL▸hLs2))
 refine Dj (yR O O0 (s:={ s3 with heap:=h4,toks:=s3.toks+2 }) V.kx V.kf hLT (CN.moved n3 fun o e=>e34.keep _ o hLT nd.symm e) ((if_neg (O.nA x).symm).trans mz) fun s5 e45 n5=>k s5 s2.heap.objs.size _ ⟨((e03.mono (p':=⟨fun b=>b=x0.dx\/pe.locals<=b,fun _=>False⟩) (fun b q=>.inr (El q.symm)) fun i q=>q).trans e34 (fun b q=>.inl (.inl q)) fun i q=>q.elim).trans e45 (fun b q=>.inl (.inr (El q.symm))) fun i q=>q.elim,n5,
  (if_neg ncx).trans ((if_neg ncx).trans mc),if_pos rfl,PySem.Heap.DictOf.at (PySem.Heap.DictOf.at hd3 fun o e=>e34.keep _ o hqT hq2 e) fun o e=>e45.keep _ o hqT (GS hLs2) e,hLs2,
  Ba (by refine AZ hz3 ?_;exact Ct _) (Bf e34.size e45.size),_,e45.keep _ _ hdx0 nd g4⟩)
theorem pm_raw {KF:Frag}(Z0:l4 B.no KF)(hRaw:uj B.no)(hIter:sj B.no){x id:Nat}{t:Tok}{n:Nat}{fs:List (List Nat)}{r1 r2 r3 r4 r5 r6 r7 r8 r9 r10 r11 r12 r13 r14 r15 r16 r17 r18 r19:Pos}(hX:B.X=some x0)(hks:x0.ks=ml fs)(hvs:x0.vs=ma fs)
  (V:PmE B pe ctx x y z) (hcx:x≠ctx) (hcy:y≠ctx) (hcz:z≠ctx) (hxy:x≠y) (hxz:x≠z) (hyz:y≠z) (hline:(r9.endLine==r10.line)=true) (hK:8<=K) (hC:dz B.no K id [.list (fs.map .str)] [] (.list (fs.map .str))) (R:aD A (K+1))
  (g:aK B s) (tW:∀b,B.T b->W b) (wlt:∀b,W b->b < s.heap.objs.size) (hw:¬W x0.a) (hp:aw B s.heap W (.thing [19,22] [.nil,.lam id [.list (fs.map .str)]]) (.ref x0.r)) (hL:pe.locals=s.heap.objs.size) (hdx0:¬B.no.T x0.dx)
  (hga:s.heap.get? x0.a=some (Dd B.C x0.dx)) (gxs:s.heap.get? x0.dx=some (eS B.w.params [.str (B.nm 19) t] [.ref x0.r] n)) (e1:ay B.no s s1) (n1:s1.heap.Ns pe.locals m) (mc:m (B.nm ctx)=some (.ref x0.a)) (mz:m (cR [65])=none)
  (hQ:∀q s',ay B s s'->(∀W',aw B s'.heap W' (.dict ((ml fs).map .str) ((ma fs).map .str)) (.ref q))->Q (.ret (.ref q)) s'):
  wpAny B.M A (execs [.Assign [.Name (B.nm x) q1] (.Attribute (.Name (B.nm ctx) q2) (B.nm 21) q3) q4,.If (.Compare (.Name (B.nm x) q5) [.Is] [.Constant .none 0 q6] q7)
   [.Assign [.Attribute (.Name (B.nm ctx) r1) (B.nm 21) r2,.Name (B.nm x) r3] (.Dict [] [] r4) r5,
    .For (.Name (B.nm y) r6) (.Call (.Attribute (.Attribute (.Name (B.nm ctx) r7) (B.nm 19) r8) (B.nm 22) r9) [] [] r10)
     [.For (.Name (B.nm z) r11) (.Name (B.nm y) r12) [.Assign [.Subscript (.Name (B.nm x) r13) (.Name (B.nm z) r14) r15] (.Name (B.nm y) r16) r17] [] r18] [] r19] [] q8,.Return (some (.Name (B.nm x) q9)) q10] pe) Q E s1:=by
 have g0:aK B.no s:=good_no O g;have hTdx:B.T x0.dx:=.inr ⟨x0,hX,rfl⟩;refine pm_mid O O0 Z0 hRaw V hcx g0 hL hdx0 (fun h=>hw (tW _ (uX h))) hga gxs e1 n1 mc mz fun s5 q m5 M=>?_;have hLT:¬B.no.T pe.locals:=fun h=>Bd _ (hL▸g0.tlt _ h);have hqT:¬B.T q:=fun h=>Bd _ (CP (g.tlt _ h) (hL▸M.lq));have ghi:∀b,pe.locals<=b->B.no.Hi b:=fun b h=>g0.hi (hL▸h);have hlt:∀{b:Addr}{o:Obj},s.heap.get? b=some o->b < pe.locals:=fun e=>hL▸BG e;have g5:aK B.no s5:=g0.moveP M.e fun b q=>q.elim (fun q=>q▸⟨(O.xk x0 hX).1,hdx0⟩) (ghi b);have keep5:∀b o,¬W b->s.heap.get? b=some o->s5.heap.get? b=some o:=fun b o w e=>M.e.keep b o (fun t=>w (tW _ (uX t))) (fun q=>q.elim (fun q=>w (q▸tW _ hTdx)) fun q=>Bd _ (Ba (hlt e) q)) e;obtain⟨t5,gx5⟩:=M.g;obtain⟨ar,dr,nr,tsr,dvr,er,wr,gr,wdr,gdr,lr1,lr2,rr⟩:=hp;obtain rfl:=Value.ref.inj er;obtain⟨v1,dv1,rfl,rv1,rr⟩:=rr;obtain⟨v2,dv2,rfl,rv2,rr⟩:=rr;obtain rfl:dv2=[]:=rr;obtain rfl:v1=.none:=rv1;obtain⟨fl,cv,rfl,wfl,lam,rc⟩:=rv2;refine Br (wpAny_For (vD (by with_unfolding_all rfl) hline (FA (BX (BF V.fn V.kc M.ns M.mc ?_) (O.dbg ctx)) (by with_unfolding_all rfl))) fun _=>rfl);refine O0.attr _ _ x0.a x0.dx _ [19,21] [t,t5] [.ref x0.r,.ref q] 19 (.ref x0.r) _ _ g5 (keep5 _ _ hw hga) gx5 rfl rfl rfl (.inl (.inl rfl)) rfl fun tk2=>?_;refine hIter _ _ x0.r dr nr tsr .none (.ref fl) _ _ _ (g5.move (ay.toks _)) (keep5 _ _ wr gr) (keep5 _ _ wdr gdr) lr1 rfl fun tk3=>?_;obtain⟨L,fo',fd',ls,gfl,dfl,nwf,lamat⟩:=lam;refine Ga (o:=fo') (fd:=fd') (gI (fun _ h=>bE h) (Cj ⟨⟨keep5 _ _ wfl gfl,dfl⟩,?_⟩));have e56:ay B.no s5 { s5 with toks:=tk3 }:=ay.toks _;generalize({ s5 with toks:=tk3 }:Be)=s6 at e56 ⊢;have g6:=g5.move e56
 let W1:Addr->Prop:=fun b=>W b\/pe.locals<=b/\b < s6.heap.objs.size
 have sz56:=e56.size;have tW1:∀b,B.no.T b->W1 b:=fun b t=>.inl (tW b (uX t));have wlt1:∀b,W1 b->b < s6.heap.objs.size:=fun b w=>w.elim (fun w=>Ba (wlt b w) (Bf M.e.size sz56)) fun w=>w.2;have nT:∀b,¬W b->¬B.no.T b:=fun b w t=>w (tW b (uX t));have keep6:∀b o,¬W b->s.heap.get? b=some o->s6.heap.get? b=some o:=fun b o w e=>e56.keep b o (nT b w) (keep5 b o w e);have nW1:∀b o,¬W b->s.heap.get? b=some o->¬W1 b:=fun b o w e q=>q.elim w fun q=>Bd _ (Ba (hlt e) q.1);have lam6:B.no.Lam id cv s6.heap W1 fl:=O0.lamkeep id cv s.heap W fl s6.heap W1 ⟨L,fo',fd',ls,gfl,dfl,nwf,lam_no lamat⟩ (fun b o w e=>w.elim (fun w=>keep6 b o w e) fun w=>e56.ck b o w (M.e.ck b o w e)) fun b w=>w.imp_right fun w=>BY (hL▸w.1);obtain⟨cl,cr,rfl,rcl,rcr⟩:=rc;obtain rfl:cr=[]:=rcr;obtain⟨al,avs,an,rfl,wal,gal,lal,ral⟩:=rcl;refine Ea (DJ (hC fl [.ref al] _ s6 W1 [] g6 (R.less (D6 _)) tW1 wlt1 lam6 (ab.cons ⟨al,avs,an,rfl,nW1 _ _ wal gal,keep6 _ _ wal gal,lal,vV ral⟩ ab.nil) ab.nil) ?_);rintro r' s7 ⟨u,rfl,e67,ru⟩;show wpAny B.M _ (Gp u) _ _ s7;refine j5 O0 (K:=K) (x:=.list (fs.map .str)) (W:=W1) rfl tW1 (fun b w=>Ba (wlt1 b w) e67.size) ru fun I1 s8 ok1 hI1 hl1 e78=>?_;have e58:=(e56.trans e67).trans e78;have hL5:pe.locals < s5.heap.objs.size:=M.ns.lt;have h67:s5.heap.objs.size<=s7.heap.objs.size:=Bf sz56 e67.size;have L1:W1 pe.locals:=.inr ⟨Bq _,Ba hL5 sz56⟩;have Q1:W1 q:=.inr ⟨CK M.lq,Ba M.q5 sz56⟩;have Fr:AW B pe pe.locals q pe.locals x y z:=⟨V.fn,rfl,V.kx,V.ky,V.kz,hxy,hxz,hyz,Bq _,CK M.lq,DA M.lq⟩;have nq0:¬B.no.T q:=fun h=>hqT (uX h);obtain⟨_,xnd,x65,xl,xlim,xvl⟩:=O.xk x0 hX;refine zq O O0 (A:=A) (K:=K) (all:=ml fs) (allV:=ma fs) (s0:=s5) Fr g5 ghi hLT nq0 (hks▸xnd) (hks▸xlim) (R.less (Bf (C0 _ _) (D6 _))) ok1 (fun b w=>⟨fun e=>w.1 (e▸L1),fun e=>w.1 (e▸Q1)⟩) (fun s9 m9 P9=>?_) fs s8
  ⟨_,_,⟨e58.toP _,CN.moved M.ns fun o e=>e58.keep _ o hLT e,M.mx,[],[],[],PySem.Heap.DictOf.at M.d fun o e=>e58.keep _ o nq0 e,⟨rfl,fun _ _ h=>(ah h),rfl⟩,rfl,rfl⟩,hI1,fun b w=>?_,rfl,Ba hL5 e58.size,Ba M.q5 e58.size,CK (Ba hL5 e58.size),fun b w=>Ba w.2 e78.size⟩
 ·show wpAny B.M _ (execs [] _) _ _ s9
  refine Cw ?_;refine Br (Dw (BX (BF V.fn V.kx P9.ns (v:=.ref q) P9.mx ?_) (O.dbg x)));obtain⟨ks,vs,kvs,⟨o9,es,ep,ho9,hx9,hdt,hky,hpr,hnd9⟩,hr9,k1,k2⟩:=P9.d;rw[CE] at k1 k2;have tab:B.TabO o9:=⟨x0,es,ep,kvs,hX,hx9,hdt,hky,hpr,by exact AZ hr9.k<|AZ k1<|AZ hks rfl,hnd9,fun i y e=>hr9.v i y (by refine AZ k2<|AZ (BE hvs) ?_;exact e),xl,x65⟩;have e09:=M.e.trans P9.e (fun b q=>.inl (.inr q)) fun i q=>q.elim;have sy:(q==C9)=false:=beq_eq_false_iff_ne.mpr fun e=>Bd _ (CP (Ba (e.symm▸O.sysm) (hL▸g.size)) M.lq)
  have notT:∀b o,B.TabO o->s.heap.get? b=some o->¬B.no.T b:=fun b o tb h t=>t.elim (fun⟨f,c,e⟩=>by
   obtain⟨ps,hP,_⟩:=g.ti.2 f c _ e;obtain rfl:=A0 (hP.symm.trans h)
   exact(zK (.inr tb)).elim (fun z=>nomatch z) fun z=>nomatch z) fun⟨_,e,_⟩=>ah e
  refine hQ _ _ ⟨fun b o nt h=>e09.keep b o (fun t=>nt (uX t)) (fun q=>q.elim (fun q=>nt (q▸hTdx)) fun q=>Bd _ (Ba (hlt h) q)) h,
   fun b o ko h=>ko.elim (fun ic=>e09.ck b o (.inl ic) h) fun tb=>e09.keep b o (notT b o tb h) (fun q=>q.elim (fun q=>by
    subst q;obtain rfl:=A0 (gxs.symm.trans h)
    exact mF (es:=(gm B.w.params [.str (B.nm 19) t] [.ref x0.r]).toArray) rfl (fun(q:Value.type "dict" = Value.type "code")=>nomatch q) (fun e he=>by
     obtain rfl:=BK.mp (show e∈[_] from he)
     exact beq_eq_false_iff_ne.mpr (O.nA 19)) (.inr tb)) fun q=>Bd _ (Ba (hlt h) q)) h,
   e09.size,fun _=>⟨fun x1 h1=>?_,(e09.ti g0.ti).2⟩,fun i x h=>e09.gens i x (fun q=>q) h,e09.bare,e09.os⟩ fun W'=>⟨x0,_,o9,hX,rfl,hqT,ho9,tab,sy,by exact AZ hks rfl,by exact AZ hvs rfl,xvl⟩
  obtain rfl:=A0 (hX.symm.trans h1);exact .made t _ (n+1) _ o9 (P9.e.keep _ _ hdx0 (fun q=>Bd _ (Ba (hlt gxs) q)) gx5) hqT ho9 tab sy
 ·have hb:b=s7.heap.objs.size:=w
  subst hb;exact⟨CK (Ba hL5 h67),fun e=>Bd _ (Ba hL5 (e▸h67)),fun e=>Bd _ (Ba M.q5 (e▸h67))⟩
end
theorem pm_call {KF:Frag}(Z0:l4 B.no KF)(hRaw:uj B.no)(hIter:sj B.no){f ctx x y z id:Nat}{sc:LK}{fa:Addr}{fo:Obj}{fd:Cu}{x0:Lz}{fs:List (List Nat)}{q1 q2 q3 q4 q5 q6 q7 q8 q9 q10 r1 r2 r3 r4 r5 r6 r7 r8 r9 r10 r11 r12 r13 r14 r15 r16 r17 r18 r19:Pos}(hX:B.X=some x0)
  (Fx:bp B f 0 [ctx] sc [.Assign [.Name (B.nm x) q1] (.Attribute (.Name (B.nm ctx) q2) (B.nm 21) q3) q4,.If (.Compare (.Name (B.nm x) q5) [.Is] [.Constant .none 0 q6] q7)
   [.Assign [.Attribute (.Name (B.nm ctx) r1) (B.nm 21) r2,.Name (B.nm x) r3] (.Dict [] [] r4) r5,
    .For (.Name (B.nm y) r6) (.Call (.Attribute (.Attribute (.Name (B.nm ctx) r7) (B.nm 19) r8) (B.nm 22) r9) [] [] r10)
     [.For (.Name (B.nm z) r11) (.Name (B.nm y) r12) [.Assign [.Subscript (.Name (B.nm x) r13) (.Name (B.nm z) r14) r15] (.Name (B.nm y) r16) r17] [] r18] [] r19] [] q8,.Return (some (.Name (B.nm x) q9)) q10] fa fo fd)
  (hl:∀y∈sc,y.2≠.cell) (hc:sc.lookup ctx=some .local) (hx:sc.lookup x=some .local) (hy:sc.lookup y=some .local) (hz':sc.lookup z=some .local) (hcx:x≠ctx) (hcy:y≠ctx) (hcz:z≠ctx) (hxy:x≠y) (hxz:x≠z) (hyz:y≠z) (hline:(r9.endLine==r10.line)=true) (hK:8<=K)
  (hL':dz B.no K id [.list (fs.map .str)] [] (.list (fs.map .str))):
  OldAt B (K+4) f (.cx (.thing [19,22] [.nil,.lam id [.list (fs.map .str)]])) (.dict ((ml fs).map .str) ((ma fs).map .str)):=by
 refine⟨fa,fo,fd,Fx.mg,Fx.nT,Fx.at',Fx.data,fun A s W v g R tW wlt rv=>?_⟩;obtain⟨x',ex,rfl,hw,hga,hxk,hxv,hp⟩:=rv;obtain rfl:=A0 (hX.symm.trans ex);have hfs:(D.thing [19,22] [.nil,.lam id [.list (fs.map .str)]]).fams=fs:=rI fs;have hks:x0.ks=ml fs:=by refine AZ hxk ?_;unfold jL;exact AZ hfs rfl
 have hvs:x0.vs=ma fs:=by refine AZ hxv ?_;unfold nH;exact AZ hfs rfl
 have ho:=g.base _ _ Fx.nT Fx.at';obtain⟨c,oc,cvs,t,hc1,hc2,hc3,hc4,hc5⟩:=Fx.code;have hcd:s.heap.CodeRec fd.code fd.qualname:=⟨c,oc,cvs,t,hc1,g.base _ _ hc2 hc3,hc4,hc5⟩;refine Du R.lim ho Fx.data Fx.co Fx.gen Fx.body hcd ?_;refine AZ (Fx.bind [.ref x0.a] rfl)<|AZ Fx.glob<|AZ Fx.clos<|AZ Fx.blt ?_
 refine Bk ?_;have kd:∀u,sc.lookup u=some .local->fd.scope.names.lookup (B.nm u)=some .local:=fun u hu=>by refine AZ Fx.names<|AZ (dt O _ _) ?_;exact hu
 have hk1:=kd ctx hc;have hk2:=kd x hx;refine wpAny_newFunctionEnv (fun y hy=>?_) (fun y hy=>?_) (fun h1 n1 sb=>?_) Fx.kind
 ·rw[Fx.names] at hy
  simp only[aR,BC] at hy;obtain⟨q,hq,rfl⟩:=hy;exact hl q hq
 ·simp only[Bo,Dx,Ce,Hy,Bw,DR,or_false] at hy
  subst hy;exact hk1
 have n1:h1.Ns s.heap.objs.size (fun x_1=>C4 x_1 [(B.nm ctx,Value.ref x0.a)].reverse):=n1;have ex:∀b o,s.heap.get? b=some o->h1.get? b=some o:=fun b o e=>sb.extBut b o (fun q=>absurd (BG e) (by refine AZ q ?_;exact Bd _)) (By _ e);have hz:s.heap.objs.size<=h1.objs.size:=by refine AZ sb.1<|AZ (BM _ _) ?_;exact D6 _
 have e1:ay B s { s with heap:=h1,toks:=s.toks+1 }:=ay.heap O _ ex hz;refine⟨aK.lim O (g.move e1),E9 ?_⟩;have mz:C4 (cR [65]) [(B.nm ctx,Value.ref x0.a)].reverse=none:=xP O O0;have mc:C4 (B.nm ctx) [(B.nm ctx,Value.ref x0.a)].reverse=some (.ref x0.a):=DP;generalize hpe:newEnv fd.scope s.heap.objs.size BQ [] (fd.qualname++Str.ofString ".<locals>.") (some fa) fd.code none Cc=pe
 have hL:pe.locals=s.heap.objs.size:=by refine AZ (BE hpe) ?_;rfl
 have V:PmE B pe ctx x y z:=by
  refine AZ (BE hpe) ?_;exact⟨Fx.kind,hk1,hk2,kd y hy,kd z hz'⟩
 rw[<-hL] at n1;rcases g.ti.1 x0 hX with⟨t,n,gx⟩|⟨t,t',n,q,o,gx,nt,go,ko,sy⟩
 ·have hdx0:¬B.no.T x0.dx:=fun t=>t.elim (fun⟨f,c,e⟩=>by
   obtain⟨ps,hP,_⟩:=g.ti.2 f c _ e
   rw[hP] at gx;exact nomatch gx) fun⟨_,e,_⟩=>ah e
  exact pm_raw O O0 Z0 hRaw hIter hX hks hvs V hcx hcy hcz hxy hxz hyz hline hK hL' (R.deeper.less (D6 _)) g tW wlt hw hp hL hdx0 hga gx (ay.heap O0 _ ex hz) n1 mc mz fun q s' e r=>⟨_,rfl,e,r⟩
 ·have hdx0:¬B.no.T x0.dx:=fun t=>t.elim (fun⟨f,c,e⟩=>by
   obtain⟨ps,hP,_⟩:=g.ti.2 f c _ e
   rw[hP] at gx;exact nomatch gx) fun⟨_,e,_⟩=>ah e
  have hLT:¬B.T pe.locals:=fun h=>Bd _ (hL▸g.tlt _ h);exact pm_made O V hL hLT (g.move e1) e1 n1 mc mz (ex _ _ hga) (ex _ _ gx) fun s' e=>⟨_,rfl,e,fun W'=>⟨x0,q,o,hX,rfl,nt,e.ck _ _ (.inr ko) go,ko,sy,by exact AZ hks rfl,by exact AZ hvs rfl,(O.xk x0 hX).2.2.2.2.2⟩⟩
end
end Mine
section
open PySem PySem.W PySem.W.X PySem.Calls PyProof.Rows
namespace Mine
variable {B:Bs}
theorem qC (inj:∀x y,B.nm x=B.nm y->x=y){P:FW}{f:Nat}{v:Value}:∀(ns:List Nat)(ts:List Tok)(dv:List Value),ts.length=ns.length->dv.length=ns.length->((ns.zip dv).find? fun q=>q.1==f)=some (f,v)->
  ∃e,(gm P ((ns.zip ts).map fun p=>Value.str (B.nm p.1) p.2) dv).find? (·.key.isStr (B.nm f))=some e/\e.val=v
 |[],_,_,_,_,h=>by simp at h
 |_::_,[],_,h,_,_=>by simp at h
 |_::_,_::_,[],_,h,_=>by simp at h
 |n::ns,t::ts,d::dv,h1,h2,h=>by
  simp only[Ce,Cg] at h;simp only[gm,Ce,Bo,Cg,Value.isStr]
  by_cases hn:n=f
  ·subst hn
   simp only[beq_self_eq_true,Bl,CG,true_and] at h;exact⟨⟨keyOf P (.str (B.nm n) t),.str (B.nm n) t,d⟩,by simp only[beq_self_eq_true],h⟩
  ·have e1:(n==f)=false:=by simpa using hn
   have e2:(B.nm n==B.nm f)=false:=by
    rw[beq_eq_false_iff_ne];exact fun e=>hn (inj _ _ e)
   simp only[e1] at h;simp only[e2];exact qC inj ns ts dv (by simpa using h1) (by simpa using h2) h
theorem xb {KF:Frag}(inj:∀x y,B.nm x=B.nm y->x=y)(Z:l7 B KF)(hga:Ef KF (.ref B.C) "__getattribute__" = some (some (.builtin "object.__getattribute__")))
  {ex:Bool}(hat:∀f,(f=19\/f=20\/f=21)\/f=22->∃attr,Ef KF (.ref B.C) (B.nm f)=some attr/\(match attr with|some a=>Hg KF a "__get__" | none=>some none)=some none) (hh:(clsIn KF B.C).any (·.hasDict)=true)
  (A:BO) (s:Be) (a dx:Addr) (n:Nat) (ns:List Nat) (ts:List Tok) (dv:List Value) (f:Nat) (v:Value) (E:VS) (Q:VS) (g:aK B s) (hx:s.heap.get? a=some (Dd B.C dx))
  (hd:s.heap.get? dx=some { cls:=.type "dict", dict:=none,data:=.dict (gm B.w.params ((ns.zip ts).map fun p=>Value.str (B.nm p.1) p.2) dv).toArray n,slots:=#[] }) (l1:ts.length=ns.length) (l2:dv.length=ns.length)
  (hf:((ns.zip dv).find? fun q=>q.1==f)=some (f,v)) (hf3:(f=19\/f=20\/f=21)\/f=22) (hv:F8 v=true) (k:∀t,Q v { s with toks:=t }):wpAny B.M A (getAttr (.ref a) (B.nm f) ex) Q E s:=by
 have X:=Z.here g;refine ak (hat f hf3) fun attr h1 h2=>?_;refine ak (qC (P:=B.w.params) inj ns ts dv l1 l2 hf) fun e he e91=>?_;subst e91;obtain⟨cd,hc,hcd⟩:∃cd,clsIn KF B.C=some cd/\cd.hasDict=true:=by
  cases hc:clsIn KF B.C with
  |none=>rw[hc] at hh;exact ce hh
  |some cd=>rw[hc] at hh;exact⟨cd,rfl,hh⟩
 refine get_value (K:=KF) X (eL hx hd) hga ?_ hv (k _);have own:W.ownOf cd (some { cls:=.type "dict", dict:=none,data:=.dict (gm B.w.params ((ns.zip ts).map fun p=>Value.str (B.nm p.1) p.2) dv).toArray n,slots:=#[] }) (B.nm f)=some (some e.val):=by
  unfold W.ownOf;refine AZ hcd<|AZ (if_pos rfl) ?_
  unfold Gr;simp only[Cx];exact AZ he rfl
 unfold findObj;refine AZ hc<|AZ (BB _ _)<|AZ h1<|AZ (BB _ _) ?_
 cases attr with
 |none=>
  simp only[BB];refine AZ own ?_;rfl
 |some a'=>
  simp only at h2;simp only[h2,BB];refine AZ own ?_;rfl
theorem raw_of {KF:Frag}(inj:∀x y,B.nm x=B.nm y->x=y)(Z:l7 B KF)(hga:Ef KF (.ref B.C) "__getattribute__" = some (some (.builtin "object.__getattribute__"))) (h21:Ef KF (.ref B.C) (B.nm 21)=some (some .none)) (hget:Hg KF .none "__get__" = some none)
  (hh:(clsIn KF B.C).any (·.hasDict)=true) (hcop:copiedNames.contains (B.nm 21)=false):uj B:=by
 intro A s a dx r t n E Q g hx hd k;obtain⟨cd,hc,hcd⟩:∃cd,clsIn KF B.C=some cd/\cd.hasDict=true:=by
  cases hc:clsIn KF B.C with
  |none=>rw[hc] at hh;exact ce hh
  |some cd=>rw[hc] at hh;exact⟨cd,rfl,hh⟩
 refine get_value (K:=KF) (Z.here g) (eL hx hd) hga ?_ rfl (k _);have e:(B.nm 19==B.nm 21)=false:=by
  rw[beq_eq_false_iff_ne];exact fun e=>absurd (inj _ _ e) (by decide)
 have own:W.ownOf cd (some (eS B.w.params [.str (B.nm 19) t] [.ref r] n)) (B.nm 21)=some none:=by
  unfold W.ownOf;refine AZ hcd<|AZ (if_pos rfl) ?_
  exact lW e
 unfold findObj;refine AZ hc<|AZ (BB _ _)<|AZ h21<|AZ (BB _ _) ?_
 simp only[hget,BB];refine AZ own ?_;simp only[BB,hcop,Gk,BP,if_false]
 rfl
theorem iter_of {KF:Frag}(inj:∀x y,B.nm x=B.nm y->x=y)(Z:l7 B KF)(hga:Ef KF (.ref B.C) "__getattribute__" = some (some (.builtin "object.__getattribute__"))) (hgt:Ef KF (.ref B.C) "__getattr__" = some none)
  (hat:∀f,(f=19\/f=20\/f=21)\/f=22->∃attr,Ef KF (.ref B.C) (B.nm f)=some attr/\(match attr with|some a=>Hg KF a "__get__" | none=>some none)=some none) (h22:Ef KF (.ref B.C) (B.nm 22)=some none) (hh:(clsIn KF B.C).any (·.hasDict)=true):sj B:=by
 intro A s a dx n ts u v pl E Q g hx hd hl hv k;refine method_usual (K:=KF) (Z.here g) (eL hx hd) hga hgt h22 rfl ?_;refine xb (KF:=KF) inj Z hga hat hh A s a dx n [19,22] ts [u,v] 22 v _ _ g hx hd hl rfl rfl (.inr rfl) hv k
end Mine
end
section
open PySem PySem.W PySem.W.X PySem.Calls PyProof.Rows
namespace Mine
theorem uo:∀(ns:List Str)(vals:List Value),ns.Nodup->vals.length=ns.length->(ns.filterMap fun n=>((ns.zip vals).lookup n).map (n,·))=ns.zip vals:=by
 have key:∀(ns:List Str) (vals:List Value) (pre:List (Str×Value)),ns.Nodup->(∀n∈ns,∀q∈pre,q.1≠n)->vals.length=ns.length->(ns.filterMap fun n=>((pre++ns.zip vals).lookup n).map (n,·))=ns.zip vals:=by
  intro ns
  induction ns with
  |nil=>intro vals pre J J J;simp
  |cons n ns ih=>
   intro vals pre hn hp hl
   cases vals with
   |nil=>simp at hl
   |cons v vals=>
    simp only[CD] at hn;have h1:∀(l:List (Str×Value)) (pre:List (Str×Value)),(∀q∈pre,q.1≠n)->(pre++(n,v)::l).lookup n=some v:=by
     intro l pre hp
     induction pre with
     |nil=>simp
     |cons q r ihr=>
      obtain⟨a,b⟩:=q;have:(n==a)=false:=by
       rw[beq_eq_false_iff_ne];exact fun e=>hp (a,b) Bj e.symm
      (refine AZ Dl ?_;rw[Bu];refine AZ this ?_)
      exact ihr fun q hq=>hp q (Bi _ hq)
    refine AZ Ce<|AZ Fg<|AZ (h1 _ _ (hp n Bj)) ?_
    simp only[CJ,Fw,true_and]
    have:=ih vals (pre++[(n,v)]) hn.2 (fun m hm q hq=>by
     rcases CY.mp hq with h|h
     ·exact hp m (Bi _ hm) q h
     ·simp only[Bw,DR,or_false] at h
      subst h
      exact fun e=>hn.1 (by refine AZ (show n=m from e) ?_;exact hm)) (by simpa using hl)
    simpa using this
 intro ns vals hn hl;exact key ns vals [] hn (fun _ _ q hq=>by exact bE hq) hl
theorem vM:∀(ns:List Str)(vals:List Value),vals.length=ns.length->∀n∈ns,((ns.zip vals).lookup n).isNone=false
 |[],_,_,n,h=>by exact bE h
 |_::_,[],h,_,_=>by simp at h
 |m::ns,v::vals,hl,n,h=>by
  (refine AZ Ce ?_;rw[Bu])
  by_cases e:n=m
  ·subst e;simp
  ·refine AZ (show(n==m)=false by simpa using e) ?_
   exact vM ns vals (by simpa using hl) n ((Bw.mp h).resolve_left e)
noncomputable def dq (nm:Nat->Str)(ps:List (Nat×Pos)):List Str:=(aV nm ps).args.map fun a=>a.arg
noncomputable def dfOf (N:List Str):List Value:=((none:Option (Array Value)).getD #[]).toList.drop (((none:Option (Array Value)).getD #[]).toList.length - N.length)
theorem vF (nm:Nat->Str)(ps:List (Nat×Pos))(fd:Cu)(vals:List Value):∃(E1 E2:Sem (List (Str×Value)))(F:Str×Value->List (Str×Value)->Sem (ForInStep (List (Str×Value)))),
  Fu { fd with params:=aV nm ps,defaults:=.none,kwdefaults:=.none } ⟨vals,[]⟩=
   if(decide (vals.length > (dq nm ps).length)&&true)=true then E1 else
   if(!(((dq nm ps).take ((dq nm ps).length - (dfOf (dq nm ps)).length)).filter fun n=>(((dq nm ps).zip vals).lookup n).isNone).isEmpty)=true then E2 else
   (forIn (((dq nm ps).drop ((dq nm ps).length - (dfOf (dq nm ps)).length)).zip (dfOf (dq nm ps))) ((dq nm ps).zip vals) F >>= fun s=>
    pure (((dq nm ps)++[]).filterMap fun n=>(s.lookup n).map (n,·))):=by
 refine⟨?_,?_,?_,?_⟩
 rotate_left 3
 ·exact rfl
theorem fd_eq {fd:Cu}{p:Arguments}{d k:Value}(h1:fd.params=p)(h2:fd.defaults=d)(h3:fd.kwdefaults=k):fd={ fd with params:=p,defaults:=d,kwdefaults:=k }:=by exact AZ (BE h1)<|AZ (BE h2)<|AZ (BE h3) rfl
theorem jD (nm:Nat->Str){ps:List (Nat×Pos)}(hn:(ps.map fun q=>nm q.1).Nodup)(fd:Cu)(vals:List Value)(h1:fd.params=aV nm ps)(h2:fd.defaults=.none)(h3:fd.kwdefaults=.none)(hl:vals.length=ps.length):
  Fu fd ⟨vals,[]⟩=pure ((ps.map fun q=>nm q.1).zip vals):=by
 refine x3 (vF nm ps fd vals) fun E1 E2 F h=>?_;have hN:dq nm ps=ps.map fun q=>nm q.1:=BR;have hd:dfOf (dq nm ps)=[]:=List.drop_nil;rw[fd_eq h1 h2 h3,h,hd,hN,if_neg,if_neg]
 ·show(forIn (List.zip (List.drop ((ps.map fun q=>nm q.1).length - 0) (ps.map fun q=>nm q.1)) []) ((ps.map fun q=>nm q.1).zip vals) F >>= _)=_
  refine AZ Hk<|AZ (CE _) ?_
  exact congrArg (pure (f:=Sem)) (uo _ _ hn (by simpa using hl))
 ·refine AZ (List.filter_eq_nil_iff.mpr fun n hn'=>by refine AZ (vM _ _ (by simpa using hl) n (List.mem_of_mem_take hn')) ?_;exact DK) ?_
  exact DK
 ·refine AZ (decide_eq_false (by refine AZ hl<|AZ (Bx _) ?_;exact Bd _)) ?_
  exact DK
end Mine
end
section
open PySem PySem.W PySem.W.X PySem.Calls PyProof.Rows
set_option genInjectivity true
namespace Mine
variable {B:Bs}
structure FnV where
 params:Arguments
 body:Ge
 names:List (Str×NameKind)
 kind:ScopeKind
 gen:Bool
 co:Bool
 glob:Addr
 blt:Addr
 clos:List (Str×Addr)
 dfl:Value
 kw:Value
 code:Value
 qual:Str
noncomputable def oF (K:Frag)(a:Addr):Option FnV:=match K.lookup a with
 |some ⟨_,_,.func fd,_⟩=>some ⟨fd.params,fd.body,fd.scope.names,fd.scope.kind,fd.scope.isGenerator,fd.scope.isCoroutine,fd.globals,fd.builtins,fd.closure,fd.defaults,fd.kwdefaults,fd.code,fd.qualname⟩
 |_=>none
noncomputable def iJ (K:Frag)(a:Addr):Option Str:=match K.lookup a with
 |some ⟨_,_,.fields vs,_⟩=>(match(vs[1]?:Option Value) with
  |some (.str q _)=>some q
  |_=>none)
 |_=>none
set_option tactic.hygienic true in
theorem lZ {K:Frag}{a:Addr}{q:Str}(h:iJ K a=some q):∃o vs t,K.lookup a=some o/\o.data=.fields vs/\vs[1]?=some (.str q t):=by
 unfold iJ at h
 split at h
 case h_2=>exact ah h
 rename_i vs _ hk
 split at h
 case h_2=>exact ah h
 rename_i q' t hv
 obtain rfl:=A0 h;exact⟨_,vs,t,hk,rfl,hv⟩
set_option tactic.hygienic true in
theorem t7 {KF:Frag}(KX:KF.In B.h₀)(G:B.h₀.Ns BQ B.mg){f fid:Nat}{ps:List (Nat×Pos)}{sc:LK}{body:List Stmt}{fa c:Addr}{qual:Str}
  (e1:nsIn KF BQ (B.nm f)=some (some (.ref fa)))
  (e2:oF KF fa=some ⟨aV B.nm ps,.stmts body,aR B.nm sc,.function,false,false,BQ,Cc,[],.none,.none,.ref c,qual⟩)
  (e3:iJ KF c=some qual) (n1:¬B.T fa) (n2:¬B.T c) (hfid:fid=0\/(Value.ref c=B.cd fid/\qual++(".<locals>." : Str)=B.pq fid))
  (nd:(sc.map (·.1)).Nodup) (inj:∀x y,B.nm x=B.nm y->x=y) (np:(ps.map (·.1)).Nodup) (hk:∀q∈sc,q.2=.local\/q.2=.cell\/q.2=.globalImplicit) (hp:∀x∈ps.map (·.1),sc.lookup x=some .local\/sc.lookup x=some .cell):
  ∃fo fd,bp B f fid (ps.map (·.1)) sc body fa fo fd:=by
 unfold oF at e2
 split at e2
 case h_2=>exact ah e2
 rename_i cls dct fd sl hlk
 simp only[Bl,FnV.mk.injEq] at e2;refine x0c e2 fun p1 p2 p3 p4 p5 p6 p7 p8 p9 p10 p11 p12 p13=>?_;refine yn (lZ e3) fun oc vs t c1 c2 c3=>?_;have hmap:(ps.map (·.1)).map B.nm=ps.map fun q=>B.nm q.1:=by refine AZ BR ?_;rfl
 refine⟨_,fd,mg_of KX G e1,n1,KX _ _ hlk,rfl,p2,p3,p4,p5,p6,p7,p8,p9,⟨c,oc,vs,t,p12,n2,KX _ _ c1,c2,by refine AZ p13 ?_;exact c3⟩,fun vals hl=>?_,?_,nd,fun x k h=>hk (x,k) (mem_of_lookup' h),hp⟩
 ·refine AZ hmap ?_
  refine jD B.nm ?_ fd vals p1 p10 p11 (by simpa using hl);refine AZ (BE hmap) ?_;exact D4 B.nm (fun a b hab e=>hab (inj _ _ e)) np
 ·rcases hfid with h|⟨h1,h2⟩
  ·exact .inl h
  ·exact .inr ⟨by refine AZ p12 ?_;exact h1,by refine AZ p13 ?_;exact h2⟩
where
 mem_of_lookup' {sc:LK}{x:Nat}{k:NameKind}(h:sc.lookup x=some k):(x,k)∈sc:=by
  induction sc with
  |nil=>exact ah h
  |cons a r ih=>
   obtain⟨y,j⟩:=a;rw[Bu] at h
   split at h
   ·rename_i hxy
    have:x=y:=by simpa using hxy
    obtain rfl:=A0 h;subst this;exact Bj
   ·exact Bi _ (ih h)
set_option tactic.hygienic true in
theorem xW {KF:Frag}(KX:KF.In B.h₀){slf:Nat}{a1 a2:Pos}{fI c:Addr}{qual:Str}{p1 p2 p3 p4:Pos}(hfind:Ef KF (.ref B.C) "__init__" = some (some (.ref fI)))
  (e2:oF KF fI=some ⟨aV B.nm [(slf,a1),(19,a2)],.stmts [.Assign [.Attribute (.Name (B.nm slf) p1) (B.nm 19) p2] (.Name (B.nm 19) p3) p4],aR B.nm [(slf,.local),(19,.local)],.function,false,false,BQ,Cc,[],.none,.none,.ref c,qual⟩)
  (e3:iJ KF c=some qual) (n1:¬B.T fI) (n2:¬B.T c) (inj:∀x y,B.nm x=B.nm y->x=y) (hne:slf≠19):∃fo fd,lA B KF slf fI fo fd p1 p2 p3 p4:=by
 unfold oF at e2
 split at e2
 case h_2=>exact ah e2
 rename_i cls dct fd sl hlk
 simp only[Bl,FnV.mk.injEq] at e2;refine x0c e2 fun q1 q2 q3 q4 q5 q6 q7 q8 q9 q10 q11 q12 q13=>?_;refine yn (lZ e3) fun oc vs t c1 c2 c3=>?_;refine⟨_,fd,hfind,n1,KX _ _ hlk,rfl,q2,q3,q4,q5,q6,q7,q8,q9,⟨c,oc,vs,t,q12,n2,KX _ _ c1,c2,by refine AZ q13 ?_;exact c3⟩,fun a b=>?_⟩;refine jD B.nm (ps:=[(slf,a1),(19,a2)]) ?_ fd [a,b] q1 q10 q11 rfl;simp only[Bo,Dx,CD,Bw,DR,or_false,not_false_eq_true,List.nodup_nil,and_true];exact fun e=>hne (inj _ _ e)
end Mine
end
section
open PySem PySem.W PySem.W.X PySem.Calls PyProof.Rows
namespace Mine
variable {B:Bs}{K K':Nat}
theorem bL.mono {F:AP}{it:Addr}{I:List D->Pv->Be->Prop}(h:bL B K F it I)(hk:K<=K'):bL B K' F it I where
 sub:=h.sub
 subg:=h.subg
 ft:=h.ft
 ty:=h.ty
 stay:=h.stay
 next:=fun d l p s A E Q hI g R k=>h.next d l p s A E Q hI g (R.less (Fd hk _)) k
 done:=fun p s A E Q hI g R k=>h.done p s A E Q hI g (R.less (Fd hk _)) k
 self:=fun l p s A E Q hI g R k=>h.self l p s A E Q hI g (R.less (Fd hk _)) k
theorem uk.mono {s s':Be}{W:AP}{v:Value}{l:List D}(h:uk B K s W v l s')(hk:K<=K'):uk B K' s W v l s':=by
 rcases h with h|⟨a,F,p,I,h1,h2,h3,h4,h5,h6,h7,h8⟩
 ·exact .inl h
 ·exact .inr ⟨a,F,p,I,h1,h2,h3.mono hk,h4,h5,h6,h7,h8⟩
theorem cu.mono {f:Nat}{args:List D}{d:D}(h:cu B K f args d)(hk:K<=K'):cu B K' f args d:=by
 obtain⟨fa,fo,fd,h1,h2,h3,h4,h5⟩:=h;exact⟨fa,fo,fd,h1,h2,h3,h4,fun A s W vals g R=>h5 A s W vals g (R.less hk)⟩
theorem dz.mono {id:Nat}{caps args:List D}{d:D}(h:dz B K id caps args d)(hk:K<=K'):dz B K' id caps args d:=
 fun fa cv A s W vals g R=>h fa cv A s W vals g (R.less hk)
theorem fv.mono {id:Nat}{caps args l:List D}(h:fv B K id caps args l)(hk:K<=K'):fv B K' id caps args l:=by
 intro fa cv A s W vals g R tW wlt hl rc ra;refine DJ (h fa cv A s W vals g (R.less hk) tW wlt hl rc ra) ?_;rintro r s' ⟨v,h1,h2,h3⟩;exact⟨v,h1,h2,h3.mono hk⟩
theorem bD.mono {Φ:bU}(h:bD B K Φ)(hk:K<=K'):bD B K' Φ:=
 ⟨fun f args d e=>(h.call f args d e).mono hk,fun id caps args d e=>(h.lam id caps args d e).mono hk,fun id caps args l e1 e2=>(h.gen id caps args l e1 e2).mono hk⟩
theorem pt.mono {Ψ:Nat->D->Option D}(h:pt B K Ψ)(hk:K<=K'):pt B K' Ψ:=fun f d r e=>by
 obtain⟨fa,fo,fd,h1,h2,h3,h4,h5⟩:=h f d r e;exact⟨fa,fo,fd,h1,h2,h3,h4,fun A s W v g R=>h5 A s W v g (R.less hk)⟩
structure Tx where
 ps:List Nat
 sc:List (Nat×NameKind)
 fid:Nat
 ir:List St
noncomputable def iZ (Φ:bU) (N:Nat)(t:Tx)(args:List D):Option D:=if t.ps.length=args.length then(match aL Φ N (aH t.sc t.fid) (aq t.ps args fun J=>none) t.ir with
 |some (.rt d)=>some d
 |_=>none) else none
structure Lx where
 ps:List Nat
 sc:List (Nat×NameKind)
 e:E
noncomputable def runL (Φ:bU)(t:Lx)(all:List D):Option D:=if(av t.sc).length+t.ps.length=all.length then
  (match ev Φ (aH t.sc 0) (aq t.ps (all.drop (av t.sc).length) (cN (av t.sc) (all.take (av t.sc).length))) t.e with
  |some r=>r.asD
  |none=>none) else none
structure Gx where
 ps:List Nat
 sc:List (Nat×NameKind)
 rm:Nat
 ss:List Sg
noncomputable def xJ (Φ:bU)(Ψ:Nat->D->Option D)(t:Gx)(all:List D):Option (List D):=if(av t.sc).length+t.ps.length=all.length then
  (match eH Φ Ψ t.rm (aH t.sc 0) (aq t.ps (all.drop (av t.sc).length) (cN (av t.sc) (all.take (av t.sc).length))) t.ss with
  |some (l,_)=>if l.length<=lim then some l else none
  |none=>none) else none
section
variable (O:B.Ok)
include O
variable {Φ:bU}{Ψ:Nat->D->Option D}{N:Nat}
set_option tactic.hygienic true in
theorem we {f:Nat}{t:Tx}{args:List D}{d:D}{fa:Addr}{fo:Obj}{fd:Cu}(hd:bp B f t.fid t.ps t.sc (fm B.nm t.ir) fa fo fd)(hok:jF B t.ir)(hK:24<=K)(P:bD B K Φ)(h:iZ Φ N t args=some d):cu B (K+2) f args d:=by
 unfold iZ at h
 split at h
 case isFalse=>exact ah h
 rename_i hl
 split at h
 case h_2=>exact ah h
 rename_i d' hev
 obtain rfl:=A0 h;exact rT O hd hK P hok hl hev
theorem tH {id:Nat}{L:f0}{caps:List D}{cv:List Value}{h:Heap}{W:AP}{fa:Addr}(hL:B.LS id=some L)(hlam:B.Lam id cv h W fa)(rc:ab B h W caps cv):caps.length=L.fr.length:=by
 obtain⟨L',fo,fd,e,J,J,J,l⟩:=hlam;obtain rfl:=A0 (hL.symm.trans e);exact AZ (BE l.len)<|AZ (ab.length rc) rfl
set_option tactic.hygienic true in
theorem wd {id:Nat}{L:f0}{t:Lx}{caps args:List D}{d:D}(hx:LExp B id L t.ps t.sc t.e)(hok:t.e.ok B)(hK:24<=K)(P:bD B K Φ)(h:runL Φ t (caps++args)=some d):dz B (K+2) id caps args d:=by
 intro fa cv A s W vals g R tW wlt hlam rc ra;have hc:=tH O hx.ls hlam rc;replace hc:=hx.fr▸hc;unfold runL at h
 split at h
 case isFalse=>exact ah h
 rename_i hl
 rw[Bm,hc] at hl;rw[<-hc,E6,Eo] at h
 split at h
 case h_2=>exact ah h
 rename_i r hev
 exact rs O hx hK P hok (by lia) hev h fa cv A s W vals g R tW wlt hlam rc ra
set_option tactic.hygienic true in
theorem runG_ok {id:Nat}{L:f0}{t:Gx}{caps args l:List D}(hx:pu B id L t.ps t.sc t.ss)(hok:xN B t.ss)(hK:24<=K)(P:bD B K Φ)(HΨ:pt B K Ψ)(h:xJ Φ Ψ t (caps++args)=some l):fv B (K+6) id caps args l:=by
 intro fa cv A s W vals g R tW wlt hlam rc ra;have hc:=tH O hx.ls hlam rc;rw[hx.fr] at hc;unfold xJ at h
 split at h
 case isFalse=>exact ah h
 rename_i hl
 rw[Bm,hc] at hl;rw[<-hc,E6,Eo] at h
 split at h
 case h_2=>exact ah h
 rename_i l' ρ' hev
 split at h
 case isFalse=>exact ah h
 rename_i hlim
 obtain rfl:=A0 h;exact rG O hx hK P HΨ hok (by lia) hev hlim fa cv A s W vals g R tW wlt hlam rc ra
noncomputable def bU.up (Φ:bU) (N:Nat)(Ψ:Nat->D->Option D)(tF:Nat->Option Tx)(tL:Nat->Option Lx)(tG:Nat->Option Gx):bU where
 call:=fun f args=>match tF f with
  |some t=>iZ Φ N t args
  |none=>Φ.call f args
 lam:=fun id all=>match tL id with
  |some t=>runL Φ t all
  |none=>Φ.lam id all
 gen:=fun id all=>match tG id with
  |some t=>xJ Φ Ψ t all
  |none=>Φ.gen id all
set_option tactic.hygienic true in
theorem sO {tF:Nat->Option Tx}{tL:Nat->Option Lx}{tG:Nat->Option Gx}(hK:24<=K)(P:bD B K Φ)(HΨ:pt B K Ψ)(hF:∀f t,tF f=some t->jF B t.ir/\∃fa fo fd,bp B f t.fid t.ps t.sc (fm B.nm t.ir) fa fo fd)
  (hL:∀id t,tL id=some t->t.e.ok B/\∃L,LExp B id L t.ps t.sc t.e) (hG:∀id t,tG id=some t->xN B t.ss/\tL id=none/\(∀all,Φ.lam id all=none)/\∃L,pu B id L t.ps t.sc t.ss) (hgl:∀id t,tL id=some t->∀all,Φ.gen id all=none):
  bD B (K+6) (Φ.up N Ψ tF tL tG) where
 call:=fun f args d h=>by
  simp only[bU.up] at h
  split at h
  ·rename_i t ht
   refine x013 (hF f t ht) fun ok fa fo fd hd=>?_;exact(we O hd ok hK P h).mono (by lia)
  ·exact(P.call f args d h).mono (by lia)
 lam:=fun id caps args d h=>by
  simp only[bU.up] at h
  split at h
  ·rename_i t ht
   refine uy (hL id t ht) fun ok L hx=>?_;exact(wd O hx ok hK P h).mono (by lia)
  ·exact(P.lam id caps args d h).mono (by lia)
 gen:=fun id caps args l h1 h=>by
  simp only[bU.up] at h h1
  split at h
  ·rename_i t ht
   refine x031 (hG id t ht) fun ok J J L hx=>?_;exact runG_ok O hx ok hK P HΨ h
  ·rename_i hn
   split at h1
   ·rename_i t ht
    rw[hgl id t ht] at h;exact ah h
   ·exact(P.gen id caps args l h1 h).mono (by lia)
end
end Mine
end
namespace Mine
noncomputable def rk:List String:=["len", "chr", "ord", "slice", "list", "range", "isinstance", "str", "set", "min", "find", "split", "join", "replace", "translate", "endswith", "append", "extend", "pop", "root", "tag", "parent_map", "iter", "_SelectorContext", "_special_chars_map", "self", "?26", "?27", "?28", "?29", "get_parent_map", "_is_wildcard_tag", "_prepare_tag", "prepare_child", "prepare_parent", "escape", "_raise_serialization_error", "_escape_cdata", "_escape_attrib", "_escape_attrib_html", "_escape_cdata_c14n", "_escape_attrib_c14n", "_law_cells", "_law_written", "_law_spelled", "_law_tree", "_law_drawn", "_law_fits", "_law_lies", "_law_ends", "_law_tag", "_law_wish", "_law_thing", "_law_context", "_law_down", "_law_up", "_law_found", "law", "context", "_isinstance", "_str", "result", "elem", "select", "el_tag", "suffix", "no_ns", "ns", "ns_only", "RuntimeError", "token", "e", "next", "select_tag", "result_map", "parent", "pattern", "encode", "text", "TypeError", "type", "AttributeError", "cells", "k", "script", "kind", "word", "table", "out", "sign", "code", "at", "one", "other", "words", "tree", "line", "held", "space", "local", "here", "knot", "path", "twig", "named", "v", ".0", "way", "pick", "kids", "name", "wish", "step", "n", "w", "thing", "number", "row", "rows", "family", "places", "climb", "families", "place", "found", "depth", "due", "once", "p"]
noncomputable def aY (n:Nat):Str:=match rk[n]? with
 |some x=>Str.ofString x
 |none=>⟨(Gh n 63).toArray⟩
noncomputable def cF:List St:=[
  .ret (.bop .Or [(.cmp (.slc (.name 20 (qq 11 11 14)) none (some (.int 3 (qq 11 16 17))) (qq 11 15 17) (qq 11 11 18)) .Eq (.str [123,42,125] (qq 11 22 27)) (qq 11 11 27)),(.cmp (.slc (.name 20 (qq 11 31 34)) (some (.neg 2 (qq 11 36 37) (qq 11 35 37))) none (qq 11 35 38) (qq 11 31 39)) .Eq (.str [125,42] (qq 11 43 47)) (qq 11 31 47))] (qq 11 11 47)) (qq 11 4 47)]
noncomputable def cB:List (Nat×Pos):=[(20,qq 10 21 24)]
noncomputable def dL:List (Nat×NameKind):=[(20,.local)]
noncomputable def bb:List Sg:=[.forS 62 (qq 17 16 20) 61 (qq 17 24 30) [.ifS (.callv 59 [(.attr (.name 62 (qq 18 31 35)) 20 (qq 18 31 39)),(.name 60 (qq 18 41 45))] (qq 18 19 30) (qq 18 19 46)) [.yld 62 (qq 19 26 30) (qq 19 20 30) (qq 19 20 30)] ⟨18,16,19,30⟩] ⟨17,12,19,30⟩]
noncomputable def bY:List (Nat×Pos):=[(58,qq 16 19 26),(61,qq 16 28 34)]
noncomputable def bX:List (Nat×NameKind):=[(58,.local),(61,.local),(62,.local),(59,.free),(60,.free)]
noncomputable def aO:List Sg:=[.forS 62 (qq 23 16 20) 61 (qq 23 24 30) [.asg 64 (.attr (.name 62 (qq 24 25 29)) 20 (qq 24 25 33)) (qq 24 16 22) (qq 24 16 33),.ifS (.bop .And [(.callv 59 [(.name 64 (qq 25 31 37)),(.name 60 (qq 25 39 43))] (qq 25 19 30) (qq 25 19 44)),(.cmp (.idx (.name 64 (qq 25 49 55)) (.int 0 (qq 25 56 57)) (qq 25 49 58)) .NotEq (.str [123] (qq 25 62 65)) (qq 25 49 65))] (qq 25 19 65)) [.yld 62 (qq 26 26 30) (qq 26 20 30) (qq 26 20 30)] ⟨25,16,26,30⟩] ⟨23,12,26,30⟩]
noncomputable def bz:List (Nat×Pos):=[(58,qq 22 19 26),(61,qq 22 28 34)]
noncomputable def bu:List (Nat×NameKind):=[(58,.local),(61,.local),(62,.local),(64,.local),(59,.free),(60,.free)]
noncomputable def aN:List Sg:=[.forS 62 (qq 33 16 20) 61 (qq 33 24 30) [.asg 64 (.attr (.name 62 (qq 34 25 29)) 20 (qq 34 25 33)) (qq 34 16 22) (qq 34 16 33),.ifS (.bop .Or [(.cmp (.name 64 (qq 35 19 25)) .Eq (.name 20 (qq 35 29 32)) (qq 35 19 32)),(.bop .And [(.callv 59 [(.name 64 (qq 35 49 55)),(.name 60 (qq 35 57 61))] (qq 35 37 48) (qq 35 37 62)),(.cmp (.idx (.name 64 (qq 35 67 73)) (.name 66 (qq 35 74 79)) (qq 35 67 80)) .Eq (.name 65 (qq 35 84 90)) (qq 35 67 90))] (qq 35 37 90))] (qq 35 19 91)) [.yld 62 (qq 36 26 30) (qq 36 20 30) (qq 36 20 30)] ⟨35,16,36,30⟩] ⟨33,12,36,30⟩]
noncomputable def bx:List (Nat×Pos):=[(58,qq 32 19 26),(61,qq 32 28 34)]
noncomputable def bt:List (Nat×NameKind):=[(58,.local),(61,.local),(62,.local),(64,.local),(59,.free),(60,.free),(66,.free),(65,.free),(20,.free)]
noncomputable def aM:List Sg:=[.forS 62 (qq 42 16 20) 61 (qq 42 24 30) [.asg 64 (.attr (.name 62 (qq 43 25 29)) 20 (qq 43 25 33)) (qq 43 16 22) (qq 43 16 33),.ifS (.bop .And [(.callv 59 [(.name 64 (qq 44 31 37)),(.name 60 (qq 44 39 43))] (qq 44 19 30) (qq 44 19 44)),(.cmp (.idx (.name 64 (qq 44 49 55)) (.name 68 (qq 44 56 63)) (qq 44 49 64)) .Eq (.name 67 (qq 44 68 70)) (qq 44 49 70))] (qq 44 19 70)) [.yld 62 (qq 45 26 30) (qq 45 20 30) (qq 45 20 30)] ⟨44,16,45,30⟩] ⟨42,12,45,30⟩]
noncomputable def bw:List (Nat×Pos):=[(58,qq 41 19 26),(61,qq 41 28 34)]
noncomputable def br:List (Nat×NameKind):=[(58,.local),(61,.local),(62,.local),(64,.local),(59,.free),(60,.free),(67,.free),(68,.free)]
noncomputable def bI (w:List Stmt):List St:=[
  .asgT [(59,qq 13 4 15),(60,qq 13 17 21)] [0,0] 0 (.tup [(.bi 6 (qq 13 25 35)),(.bi 7 (qq 13 37 40))] 0 (qq 13 24 41)) (qq 13 4 21) (qq 13 4 41),
  .ifS (.cmp (.name 20 (qq 14 7 10)) .Eq (.str [123,42,125,42] (qq 14 14 20)) (qq 14 7 20)) [.seal 59,.seal 60,.defS 63 13 32 [(58,qq 16 19 26),(61,qq 16 28 34)] (gf aY bb) [(58,.local),(61,.local),(62,.local),(59,.free),(60,.free)] true ⟨16,8,19,30⟩] [.ifS (.cmp (.name 20 (qq 20 9 12)) .Eq (.str [123,125,42] (qq 20 16 21)) (qq 20 9 21)) [.seal 59,.seal 60,.defS 63 14 32 [(58,qq 22 19 26),(61,qq 22 28 34)] (gf aY aO) [(58,.local),(61,.local),(62,.local),(64,.local),(59,.free),(60,.free)] true ⟨22,8,26,30⟩] [.ifS (.cmp (.slc (.name 20 (qq 27 9 12)) none (some (.int 3 (qq 27 14 15))) (qq 27 13 15) (qq 27 9 16)) .Eq (.str [123,42,125] (qq 27 20 25)) (qq 27 9 25)) [.asg 65 (.slc (.name 20 (qq 28 17 20)) (some (.int 2 (qq 28 21 22))) none (qq 28 21 23) (qq 28 17 24)) (qq 28 8 14) (qq 28 8 24),.asg 66 (.blt2 3 (.usub (.blt 0 [(.name 65 (qq 29 27 33))] (qq 29 23 26) (qq 29 23 34)) (qq 29 22 34)) (.nil (qq 29 36 40)) (qq 29 16 21) (qq 29 16 41)) (qq 29 8 13) (qq 29 8 41),.asg 20 (.slc (.name 20 (qq 30 14 17)) (some (.int 3 (qq 30 18 19))) none (qq 30 18 20) (qq 30 14 21)) (qq 30 8 11) (qq 30 8 21),.seal 59,.seal 60,.seal 66,.seal 65,.seal 20,.defS 63 15 32 [(58,qq 32 19 26),(61,qq 32 28 34)] (gf aY aN) [(58,.local),(61,.local),(62,.local),(64,.local),(59,.free),(60,.free),(66,.free),(65,.free),(20,.free)] true ⟨32,8,36,30⟩] [.ifS (.cmp (.slc (.name 20 (qq 37 9 12)) (some (.neg 2 (qq 37 14 15) (qq 37 13 15))) none (qq 37 13 16) (qq 37 9 17)) .Eq (.str [125,42] (qq 37 21 25)) (qq 37 9 25)) [.asg 67 (.slc (.name 20 (qq 38 13 16)) none (some (.neg 1 (qq 38 19 20) (qq 38 18 20))) (qq 38 17 20) (qq 38 13 21)) (qq 38 8 10) (qq 38 8 21),.asg 68 (.blt2 3 (.nil (qq 39 24 28)) (.blt 0 [(.name 67 (qq 39 34 36))] (qq 39 30 33) (qq 39 30 37)) (qq 39 18 23) (qq 39 18 38)) (qq 39 8 15) (qq 39 8 38),.seal 59,.seal 60,.seal 67,.seal 68,.defS 63 16 32 [(58,qq 41 19 26),(61,qq 41 28 34)] (gf aY aM) [(58,.local),(61,.local),(62,.local),(64,.local),(59,.free),(60,.free),(67,.free),(68,.free)] true ⟨41,8,45,30⟩] [.raw w] ⟨37,4,47,63⟩] ⟨27,4,47,63⟩] ⟨20,4,47,63⟩] ⟨14,4,47,63⟩,
  .ret (.name 63 (qq 48 11 17)) (qq 48 4 17)]
noncomputable def c6:List (Nat×Pos):=[(20,qq 12 17 20)]
noncomputable def dX:List (Nat×NameKind):=[(20,.cell),(63,.local),(59,.cell),(60,.cell),(66,.cell),(67,.cell),(68,.cell),(65,.cell),(6,.globalImplicit),(7,.globalImplicit),(3,.globalImplicit),(0,.globalImplicit),(69,.globalImplicit)]
noncomputable def aP:List Sg:=[.forS 62 (qq 65 16 20) 61 (qq 65 24 30) [.forS 71 (qq 66 20 21) 62 (qq 66 25 29) [.ifS (.cmp (.attr (.name 71 (qq 67 23 24)) 20 (qq 67 23 28)) .Eq (.name 20 (qq 67 32 35)) (qq 67 23 35)) [.yld 71 (qq 68 30 31) (qq 68 24 31) (qq 68 24 31)] ⟨67,20,68,31⟩] ⟨66,16,68,31⟩] ⟨65,12,68,31⟩]
noncomputable def bA:List (Nat×Pos):=[(58,qq 64 19 26),(61,qq 64 28 34)]
noncomputable def bv:List (Nat×NameKind):=[(58,.local),(61,.local),(62,.local),(71,.local),(20,.free)]
noncomputable def bh (w:List Stmt):List St:=[
  .asg 20 (.idx (.name 70 (qq 50 10 15)) (.int 1 (qq 50 16 17)) (qq 50 10 18)) (qq 50 4 7) (qq 50 4 18),
  .ifS (.call 31 [(.name 20 (qq 51 24 27))] (qq 51 7 23) (qq 51 7 28)) [.raw w] [.ifS (.cmp (.slc (.name 20 (qq 61 11 14)) none (some (.int 2 (qq 61 16 17))) (qq 61 15 17) (qq 61 11 18)) .Eq (.str [123,125] (qq 61 22 26)) (qq 61 11 26)) [.asg 20 (.slc (.name 20 (qq 62 18 21)) (some (.int 2 (qq 62 22 23))) none (qq 62 22 24) (qq 62 18 25)) (qq 62 12 15) (qq 62 12 25)] [] ⟨61,8,62,25⟩,.seal 20,.defS 63 12 33 [(58,qq 64 19 26),(61,qq 64 28 34)] (gf aY aP) [(58,.local),(61,.local),(62,.local),(71,.local),(20,.free)] true ⟨64,8,68,31⟩] ⟨51,4,68,31⟩,
  .ret (.name 63 (qq 69 11 17)) (qq 69 4 17)]
noncomputable def di:List (Nat×Pos):=[(72,qq 49 18 22),(70,qq 49 24 29)]
noncomputable def de:List (Nat×NameKind):=[(72,.local),(70,.local),(63,.local),(73,.cell),(20,.cell),(31,.globalImplicit),(32,.globalImplicit)]
noncomputable def aF:List Sg:=[.pm 21 30 58 (qq 73 8 18) (qq 73 21 35) (qq 73 36 43) (qq 73 21 44) (qq 73 8 44),.newD 74 (qq 74 8 18) (qq 74 21 23) (qq 74 8 23),.forS 62 (qq 75 12 16) 61 (qq 75 20 26) [.ifS (.cmp (.name 62 (qq 76 15 19)) .In (.name 21 (qq 76 23 33)) (qq 76 15 33)) [.asg 75 (.idx (.name 21 (qq 77 25 35)) (.name 62 (qq 77 36 40)) (qq 77 25 41)) (qq 77 16 22) (qq 77 16 41),.ifNew 74 75 [.yld 75 (qq 80 26 32) (qq 80 20 32) (qq 80 20 32)] (qq 78 19 25) (qq 78 33 43) (qq 78 19 43) (qq 79 20 30) (qq 79 31 37) (qq 79 20 38) (qq 79 41 45) (qq 79 20 45) ⟨78,16,80,32⟩] ⟨76,12,80,32⟩] ⟨75,8,80,32⟩]
noncomputable def bj:List (Nat×Pos):=[(58,qq 72 15 22),(61,qq 72 24 30)]
noncomputable def aW:List (Nat×NameKind):=[(58,.local),(61,.local),(21,.local),(74,.local),(62,.local),(75,.local),(30,.globalImplicit)]
noncomputable def b7:List St:=[
  .defS 63 11 34 [(58,qq 72 15 22),(61,qq 72 24 30)] (gf aY aF) [(58,.local),(61,.local),(21,.local),(74,.local),(62,.local),(75,.local),(30,.globalImplicit)] true ⟨72,4,80,32⟩,
  .ret (.name 63 (qq 81 11 17)) (qq 81 4 17)]
noncomputable def dZ:List (Nat×Pos):=[(72,qq 70 19 23),(70,qq 70 25 30)]
noncomputable def fK:List (Nat×NameKind):=[(72,.local),(70,.local),(63,.local)]
noncomputable def xV:List St:=[
  .ifS (.blt2 6 (.name 76 (qq 90 18 25)) (.bi 7 (qq 90 27 30)) (qq 90 7 17) (qq 90 7 31)) [.ret (.meth (.name 76 (qq 91 15 22)) 14 [(.name 24 (qq 91 33 51))] (qq 91 15 32) (qq 91 15 52)) (qq 91 8 52)] [.asg 76 (.blt2 7 (.name 76 (qq 93 22 29)) (.str [108,97,116,105,110,49] (qq 93 31 39)) (qq 93 18 21) (qq 93 18 40)) (qq 93 8 15) (qq 93 8 40),.ret (.meth (.meth (.name 76 (qq 94 15 22)) 14 [(.name 24 (qq 94 33 51))] (qq 94 15 32) (qq 94 15 52)) 77 [(.str [108,97,116,105,110,49] (qq 94 60 68))] (qq 94 15 59) (qq 94 15 69)) (qq 94 8 69)] ⟨90,4,94,69⟩]
noncomputable def qb:List (Nat×Pos):=[(76,qq 89 11 18)]
noncomputable def xI:List (Nat×NameKind):=[(76,.local),(6,.globalImplicit),(7,.globalImplicit),(24,.globalImplicit)]
noncomputable def mm (w:List Stmt):List St:=[
  .raw w]
noncomputable def mh:List (Nat×Pos):=[(78,qq 96 31 35)]
noncomputable def me:List (Nat×NameKind):=[(78,.local),(79,.globalImplicit),(80,.globalImplicit)]
noncomputable def dH (hs:List ExceptHandler):List St:=[
  .tryS [.sub 78 [38] [38,97,109,112,59] (qq 100 11 14) (qq 100 18 22) (qq 100 11 22) (qq 101 12 16) (qq 101 19 23) (qq 101 19 31) (qq 101 32 35) (qq 101 37 44) (qq 101 19 45) (qq 101 12 45) ⟨100,8,101,45⟩,.sub 78 [60] [38,108,116,59] (qq 102 11 14) (qq 102 18 22) (qq 102 11 22) (qq 103 12 16) (qq 103 19 23) (qq 103 19 31) (qq 103 32 35) (qq 103 37 43) (qq 103 19 44) (qq 103 12 44) ⟨102,8,103,44⟩,.sub 78 [62] [38,103,116,59] (qq 104 11 14) (qq 104 18 22) (qq 104 11 22) (qq 105 12 16) (qq 105 19 23) (qq 105 19 31) (qq 105 32 35) (qq 105 37 43) (qq 105 19 44) (qq 105 12 44) ⟨104,8,105,44⟩,.ret (.name 78 (qq 106 15 19)) (qq 106 8 19)] hs ⟨99,4,108,40⟩]
noncomputable def dG:List (Nat×Pos):=[(78,qq 98 18 22)]
noncomputable def eW:List (Nat×NameKind):=[(78,.local),(79,.globalImplicit),(81,.globalImplicit),(36,.globalImplicit)]
noncomputable def du (hs:List ExceptHandler):List St:=[
  .tryS [.sub 78 [38] [38,97,109,112,59] (qq 111 11 14) (qq 111 18 22) (qq 111 11 22) (qq 112 12 16) (qq 112 19 23) (qq 112 19 31) (qq 112 32 35) (qq 112 37 44) (qq 112 19 45) (qq 112 12 45) ⟨111,8,112,45⟩,.sub 78 [60] [38,108,116,59] (qq 113 11 14) (qq 113 18 22) (qq 113 11 22) (qq 114 12 16) (qq 114 19 23) (qq 114 19 31) (qq 114 32 35) (qq 114 37 43) (qq 114 19 44) (qq 114 12 44) ⟨113,8,114,44⟩,.sub 78 [62] [38,103,116,59] (qq 115 11 14) (qq 115 18 22) (qq 115 11 22) (qq 116 12 16) (qq 116 19 23) (qq 116 19 31) (qq 116 32 35) (qq 116 37 43) (qq 116 19 44) (qq 116 12 44) ⟨115,8,116,44⟩,.sub 78 [34] [38,113,117,111,116,59] (qq 117 11 14) (qq 117 18 22) (qq 117 11 22) (qq 118 12 16) (qq 118 19 23) (qq 118 19 31) (qq 118 32 35) (qq 118 37 45) (qq 118 19 46) (qq 118 12 46) ⟨117,8,118,46⟩,.sub 78 [13] [38,35,49,51,59] (qq 119 11 15) (qq 119 19 23) (qq 119 11 23) (qq 120 12 16) (qq 120 19 23) (qq 120 19 31) (qq 120 32 36) (qq 120 38 45) (qq 120 19 46) (qq 120 12 46) ⟨119,8,120,46⟩,.sub 78 [10] [38,35,49,48,59] (qq 121 11 15) (qq 121 19 23) (qq 121 11 23) (qq 122 12 16) (qq 122 19 23) (qq 122 19 31) (qq 122 32 36) (qq 122 38 45) (qq 122 19 46) (qq 122 12 46) ⟨121,8,122,46⟩,.sub 78 [9] [38,35,48,57,59] (qq 123 11 15) (qq 123 19 23) (qq 123 11 23) (qq 124 12 16) (qq 124 19 23) (qq 124 19 31) (qq 124 32 36) (qq 124 38 45) (qq 124 19 46) (qq 124 12 46) ⟨123,8,124,46⟩,.ret (.name 78 (qq 125 15 19)) (qq 125 8 19)] hs ⟨110,4,127,40⟩]
noncomputable def dk:List (Nat×Pos):=[(78,qq 109 19 23)]
noncomputable def eJ:List (Nat×NameKind):=[(78,.local),(79,.globalImplicit),(81,.globalImplicit),(36,.globalImplicit)]
noncomputable def bO (hs:List ExceptHandler):List St:=[
  .tryS [.sub 78 [38] [38,97,109,112,59] (qq 130 11 14) (qq 130 18 22) (qq 130 11 22) (qq 131 12 16) (qq 131 19 23) (qq 131 19 31) (qq 131 32 35) (qq 131 37 44) (qq 131 19 45) (qq 131 12 45) ⟨130,8,131,45⟩,.sub 78 [62] [38,103,116,59] (qq 132 11 14) (qq 132 18 22) (qq 132 11 22) (qq 133 12 16) (qq 133 19 23) (qq 133 19 31) (qq 133 32 35) (qq 133 37 43) (qq 133 19 44) (qq 133 12 44) ⟨132,8,133,44⟩,.sub 78 [34] [38,113,117,111,116,59] (qq 134 11 14) (qq 134 18 22) (qq 134 11 22) (qq 135 12 16) (qq 135 19 23) (qq 135 19 31) (qq 135 32 35) (qq 135 37 45) (qq 135 19 46) (qq 135 12 46) ⟨134,8,135,46⟩,.ret (.name 78 (qq 136 15 19)) (qq 136 8 19)] hs ⟨129,4,138,40⟩]
noncomputable def bM:List (Nat×Pos):=[(78,qq 128 24 28)]
noncomputable def cJ:List (Nat×NameKind):=[(78,.local),(79,.globalImplicit),(81,.globalImplicit),(36,.globalImplicit)]
noncomputable def b9 (hs:List ExceptHandler):List St:=[
  .tryS [.sub 78 [38] [38,97,109,112,59] (qq 141 11 14) (qq 141 18 22) (qq 141 11 22) (qq 142 12 16) (qq 142 19 23) (qq 142 19 31) (qq 142 32 35) (qq 142 37 44) (qq 142 19 45) (qq 142 12 45) ⟨141,8,142,45⟩,.sub 78 [60] [38,108,116,59] (qq 143 11 14) (qq 143 18 22) (qq 143 11 22) (qq 144 12 16) (qq 144 19 23) (qq 144 19 31) (qq 144 32 35) (qq 144 37 43) (qq 144 19 44) (qq 144 12 44) ⟨143,8,144,44⟩,.sub 78 [62] [38,103,116,59] (qq 145 11 14) (qq 145 18 22) (qq 145 11 22) (qq 146 12 16) (qq 146 19 23) (qq 146 19 31) (qq 146 32 35) (qq 146 37 43) (qq 146 19 44) (qq 146 12 44) ⟨145,8,146,44⟩,.sub 78 [13] [38,35,120,68,59] (qq 147 11 15) (qq 147 19 23) (qq 147 11 23) (qq 148 12 16) (qq 148 19 23) (qq 148 19 31) (qq 148 32 36) (qq 148 38 45) (qq 148 19 46) (qq 148 12 46) ⟨147,8,148,46⟩,.ret (.name 78 (qq 149 15 19)) (qq 149 8 19)] hs ⟨140,4,151,40⟩]
noncomputable def b6:List (Nat×Pos):=[(78,qq 139 23 27)]
noncomputable def cZ:List (Nat×NameKind):=[(78,.local),(79,.globalImplicit),(81,.globalImplicit),(36,.globalImplicit)]
noncomputable def bP (hs:List ExceptHandler):List St:=[
  .tryS [.sub 78 [38] [38,97,109,112,59] (qq 154 11 14) (qq 154 18 22) (qq 154 11 22) (qq 155 12 16) (qq 155 19 23) (qq 155 19 31) (qq 155 32 35) (qq 155 37 44) (qq 155 19 45) (qq 155 12 45) ⟨154,8,155,45⟩,.sub 78 [60] [38,108,116,59] (qq 156 11 14) (qq 156 18 22) (qq 156 11 22) (qq 157 12 16) (qq 157 19 23) (qq 157 19 31) (qq 157 32 35) (qq 157 37 43) (qq 157 19 44) (qq 157 12 44) ⟨156,8,157,44⟩,.sub 78 [34] [38,113,117,111,116,59] (qq 158 11 14) (qq 158 18 22) (qq 158 11 22) (qq 159 12 16) (qq 159 19 23) (qq 159 19 31) (qq 159 32 35) (qq 159 37 45) (qq 159 19 46) (qq 159 12 46) ⟨158,8,159,46⟩,.sub 78 [9] [38,35,120,57,59] (qq 160 11 15) (qq 160 19 23) (qq 160 11 23) (qq 161 12 16) (qq 161 19 23) (qq 161 19 31) (qq 161 32 36) (qq 161 38 45) (qq 161 19 46) (qq 161 12 46) ⟨160,8,161,46⟩,.sub 78 [10] [38,35,120,65,59] (qq 162 11 15) (qq 162 19 23) (qq 162 11 23) (qq 163 12 16) (qq 163 19 23) (qq 163 19 31) (qq 163 32 36) (qq 163 38 45) (qq 163 19 46) (qq 163 12 46) ⟨162,8,163,46⟩,.sub 78 [13] [38,35,120,68,59] (qq 164 11 15) (qq 164 19 23) (qq 164 11 23) (qq 165 12 16) (qq 165 19 23) (qq 165 19 31) (qq 165 32 36) (qq 165 38 45) (qq 165 19 46) (qq 165 12 46) ⟨164,8,165,46⟩,.ret (.name 78 (qq 166 15 19)) (qq 166 8 19)] hs ⟨153,4,168,40⟩]
noncomputable def bN:List (Nat×Pos):=[(78,qq 152 24 28)]
noncomputable def cK:List (Nat×NameKind):=[(78,.local),(79,.globalImplicit),(81,.globalImplicit),(36,.globalImplicit)]
noncomputable def d9:List St:=[
  .own 82 (.list [(.int 42 (qq 171 13 15)),(.int 60 (qq 171 17 19)),(.int 306 (qq 171 21 24)),(.int 2356 (qq 171 26 30)),(.int 288 (qq 171 32 35)),(.int 3394 (qq 171 37 41)),(.int 1728 (qq 171 43 47)),(.int 1 (qq 171 49 50))] (qq 171 12 51)) (qq 171 4 9) (qq 171 4 51),
  .forS (.name 83 (qq 172 8 9)) (.blt 5 [(.blt 0 [(.name 84 (qq 172 23 29))] (qq 172 19 22) (qq 172 19 30))] (qq 172 13 18) (qq 172 13 31)) [.augI 82 (.bin (.name 83 (qq 173 14 15)) .Mod (.int 8 (qq 173 18 19)) (qq 173 14 19)) .Add (.idx (.name 84 (qq 173 24 30)) (.name 83 (qq 173 31 32)) (qq 173 24 33)) (qq 173 8 13) (qq 173 8 20) (qq 173 8 33)] ⟨172,4,173,33⟩,
  .frz 82,
  .ret (.name 82 (qq 174 11 16)) (qq 174 4 16)]
noncomputable def ff:List (Nat×Pos):=[(84,qq 170 15 21)]
noncomputable def fc:List (Nat×NameKind):=[(84,.local),(82,.local),(83,.local),(5,.globalImplicit),(0,.globalImplicit)]
noncomputable def d8:List St:=[
  .ifS (.cmp (.name 85 (qq 176 7 11)) .Eq (.int 0 (qq 176 15 16)) (qq 176 7 16)) [.ret (.call 37 [(.call 35 [(.name 86 (qq 177 36 40))] (qq 177 29 35) (qq 177 29 41))] (qq 177 15 28) (qq 177 15 42)) (qq 177 8 42)] [] ⟨176,4,177,42⟩,
  .ifS (.cmp (.name 85 (qq 178 7 11)) .Eq (.int 1 (qq 178 15 16)) (qq 178 7 16)) [.ret (.call 38 [(.call 35 [(.name 86 (qq 179 37 41))] (qq 179 30 36) (qq 179 30 42))] (qq 179 15 29) (qq 179 15 43)) (qq 179 8 43)] [] ⟨178,4,179,43⟩,
  .ifS (.cmp (.name 85 (qq 180 7 11)) .Eq (.int 2 (qq 180 15 16)) (qq 180 7 16)) [.ret (.call 39 [(.call 35 [(.name 86 (qq 181 42 46))] (qq 181 35 41) (qq 181 35 47))] (qq 181 15 34) (qq 181 15 48)) (qq 181 8 48)] [] ⟨180,4,181,48⟩,
  .ifS (.cmp (.name 85 (qq 182 7 11)) .Eq (.int 3 (qq 182 15 16)) (qq 182 7 16)) [.ret (.call 40 [(.call 35 [(.name 86 (qq 183 41 45))] (qq 183 34 40) (qq 183 34 46))] (qq 183 15 33) (qq 183 15 47)) (qq 183 8 47)] [] ⟨182,4,183,47⟩,
  .ret (.call 41 [(.call 35 [(.name 86 (qq 184 38 42))] (qq 184 31 37) (qq 184 31 43))] (qq 184 11 30) (qq 184 11 44)) (qq 184 4 44)]
noncomputable def d0:List (Nat×Pos):=[(86,qq 175 17 21),(85,qq 175 23 27)]
noncomputable def ba:List (Nat×NameKind):=[(86,.local),(85,.local),(37,.globalImplicit),(35,.globalImplicit),(38,.globalImplicit),(39,.globalImplicit),(40,.globalImplicit),(41,.globalImplicit)]
noncomputable def cn:List St:=[
  .asg 87 (.meth (.idx (.list [(.str [97,109,112,32,108,116,32,103,116,32,45,32,45,32,45,32,45] (qq 186 13 32)),(.str [97,109,112,32,108,116,32,103,116,32,113,117,111,116,32,35,49,51,32,35,49,48,32,35,48,57] (qq 186 34 62)),(.str [97,109,112,32,45,32,103,116,32,113,117,111,116,32,45,32,45,32,45] (qq 186 64 85)),(.str [97,109,112,32,108,116,32,103,116,32,45,32,35,120,68,32,45,32,45] (qq 186 87 108)),(.str [97,109,112,32,108,116,32,45,32,113,117,111,116,32,35,120,68,32,35,120,65,32,35,120,57] (qq 186 110 137))] (qq 186 12 138)) (.name 85 (qq 186 139 143)) (qq 186 12 144)) 11 [(.str [32] (qq 186 151 154))] (qq 186 12 150) (qq 186 12 155)) (qq 186 4 9) (qq 186 4 155),
  .asg 88 (.str [] (qq 187 10 12)) (qq 187 4 7) (qq 187 4 12),
  .forS (.name 89 (qq 188 8 12)) (.name 86 (qq 188 16 20)) [.asgT [(90,qq 189 8 12),(91,qq 189 14 16)] [0,0] 0 (.tup [(.blt 2 [(.name 89 (qq 189 24 28))] (qq 189 20 23) (qq 189 20 29)),(.meth (.str [38,60,62,34,13,10,9] (qq 189 31 43)) 10 [(.name 89 (qq 189 49 53))] (qq 189 31 48) (qq 189 31 54))] 0 (qq 189 19 55)) (qq 189 8 16) (qq 189 8 55),.ifS (.bop .Or [(.cmp (.name 90 (qq 190 11 15)) .In (.tup [(.int 32 (qq 190 20 22)),(.int 35 (qq 190 24 26)),(.int 36 (qq 190 28 30)),(.int 38 (qq 190 32 34)),(.int 45 (qq 190 36 38)),(.int 46 (qq 190 40 42)),(.int 63 (qq 190 44 46))] 0 (qq 190 19 47)) (qq 190 11 47)),(.cmp2 (.int 9 (qq 190 51 52)) .LtE (.name 90 (qq 190 56 60)) .LtE (.int 13 (qq 190 64 66)) (qq 190 51 66)),(.cmp2 (.int 40 (qq 190 70 72)) .LtE (.name 90 (qq 190 76 80)) .LtE (.int 43 (qq 190 84 86)) (qq 190 70 86)),(.cmp2 (.int 91 (qq 190 91 93)) .LtE (.name 90 (qq 190 97 101)) .LtE (.int 94 (qq 190 105 107)) (qq 190 91 107)),(.cmp2 (.int 123 (qq 190 113 116)) .LtE (.name 90 (qq 190 120 124)) .LtE (.int 126 (qq 190 128 131)) (qq 190 113 131))] (qq 190 11 132)) [.augN 88 .Add (.str [92] (qq 191 19 23)) (qq 191 12 15) (qq 191 12 23)] [] ⟨190,8,191,23⟩,.ifS (.bop .Or [(.cmp (.name 91 (qq 192 11 13)) .Lt (.int 0 (qq 192 16 17)) (qq 192 11 17)),(.cmp (.idx (.name 87 (qq 192 21 26)) (.name 91 (qq 192 27 29)) (qq 192 21 30)) .Eq (.str [45] (qq 192 34 37)) (qq 192 21 37))] (qq 192 11 37)) [.augN 88 .Add (.name 89 (qq 193 19 23)) (qq 193 12 15) (qq 193 12 23)] [.augN 88 .Add (.bin (.bin (.str [38] (qq 195 19 22)) .Add (.idx (.name 87 (qq 195 25 30)) (.name 91 (qq 195 31 33)) (qq 195 25 34)) (qq 195 19 34)) .Add (.str [59] (qq 195 37 40)) (qq 195 19 40)) (qq 195 12 15) (qq 195 12 40)] ⟨192,8,195,40⟩] ⟨188,4,195,40⟩,
  .ret (.name 88 (qq 196 11 14)) (qq 196 4 14)]
noncomputable def d6:List (Nat×Pos):=[(86,qq 185 17 21),(85,qq 185 23 27)]
noncomputable def dY:List (Nat×NameKind):=[(86,.local),(85,.local),(87,.local),(88,.local),(89,.local),(90,.local),(91,.local),(2,.globalImplicit)]
noncomputable def dR:List St:=[
  .asgT [(92,qq 198 4 7),(93,qq 198 9 14)] [0,0] 0 (.tup [(.blt 1 [(.bin (.idx (.name 82 (qq 198 22 27)) (.int 0 (qq 198 28 29)) (qq 198 22 30)) .Mod (.int 55296 (qq 198 33 38)) (qq 198 22 38))] (qq 198 18 21) (qq 198 18 39)),(.blt 1 [(.bin (.idx (.name 82 (qq 198 45 50)) (.int 1 (qq 198 51 52)) (qq 198 45 53)) .Mod (.int 55296 (qq 198 56 61)) (qq 198 45 61))] (qq 198 41 44) (qq 198 41 62))] 0 (qq 198 17 63)) (qq 198 4 14) (qq 198 4 63),
  .asg 94 (.list [(.name 92 (qq 199 13 16)),(.name 93 (qq 199 18 23)),(.bin (.bin (.name 93 (qq 199 25 30)) .Add (.str [125] (qq 199 33 36)) (qq 199 25 36)) .Add (.name 92 (qq 199 39 42)) (qq 199 25 42)),(.nil (qq 199 44 48))] (qq 199 12 49)) (qq 199 4 9) (qq 199 4 49),
  .own 95 (.list [(.tup [(.neg 1 (qq 200 14 15) (qq 200 13 15)),(.nil (qq 200 17 21))] 0 (qq 200 12 22))] (qq 200 11 23)) (qq 200 4 8) (qq 200 4 23),
  .forS (.name 83 (qq 201 8 9)) (.blt 5 [(.int 6 (qq 201 19 20))] (qq 201 13 18) (qq 201 13 21)) [.own 96 (.list [(.name 83 (qq 202 16 17))] (qq 202 15 18)) (qq 202 8 12) (qq 202 8 18),.whl (.cmp (.idx (.name 96 (qq 203 14 18)) (.neg 1 (qq 203 20 21) (qq 203 19 21)) (qq 203 14 22)) .Gt (.int 0 (qq 203 25 26)) (qq 203 14 26)) [.app 96 (.idx (.idx (.name 95 (qq 204 24 28)) (.idx (.name 96 (qq 204 29 33)) (.neg 1 (qq 204 35 36) (qq 204 34 36)) (qq 204 29 37)) (qq 204 24 38)) (.int 0 (qq 204 39 40)) (qq 204 24 41)) (qq 204 12 16) (qq 204 12 23) (qq 204 12 42) (qq 204 12 42)] ⟨203,8,204,42⟩,.asg 97 (.idx (.name 96 (qq 205 15 19)) (.blt2 9 (.bin (.bin (.idx (.name 82 (qq 205 24 29)) (.int 2 (qq 205 30 31)) (qq 205 24 32)) .FloorDiv (.bin (.int 3 (qq 205 36 37)) .Pow (.name 83 (qq 205 41 42)) (qq 205 36 42)) (qq 205 24 42)) .Mod (.int 3 (qq 205 45 46)) (qq 205 24 46)) (.bin (.blt 0 [(.name 96 (qq 205 52 56))] (qq 205 48 51) (qq 205 48 57)) .Sub (.int 1 (qq 205 60 61)) (qq 205 48 61)) (qq 205 20 23) (qq 205 20 62)) (qq 205 15 63)) (qq 205 8 12) (qq 205 8 63),.asgT [(98,qq 206 8 13),(99,qq 206 15 20)] [0,0] 0 (.tup [(.idx (.name 94 (qq 206 24 29)) (.bin (.bin (.idx (.name 82 (qq 206 30 35)) (.int 3 (qq 206 36 37)) (qq 206 30 38)) .FloorDiv (.bin (.int 4 (qq 206 42 43)) .Pow (.name 83 (qq 206 47 48)) (qq 206 42 48)) (qq 206 30 48)) .Mod (.int 4 (qq 206 51 52)) (qq 206 30 52)) (qq 206 24 53)),(.idx (.name 94 (qq 206 55 60)) (.bin (.bin (.idx (.name 82 (qq 206 61 66)) (.int 4 (qq 206 67 68)) (qq 206 61 69)) .FloorDiv (.bin (.int 4 (qq 206 73 74)) .Pow (.name 83 (qq 206 78 79)) (qq 206 73 79)) (qq 206 61 79)) .Mod (.int 4 (qq 206 82 83)) (qq 206 61 83)) (qq 206 55 84))] 0 (qq 206 23 85)) (qq 206 8 20) (qq 206 8 85),.app 95 (.tup [(.name 97 (qq 207 21 25)),(.ife (.cmp (.name 99 (qq 207 35 40)) .Is (.nil (qq 207 44 48)) (qq 207 35 48)) (.nil (qq 207 27 31)) (.tup [(.name 98 (qq 207 55 60)),(.name 99 (qq 207 62 67))] 0 (qq 207 54 68)) (qq 207 27 68))] 0 (qq 207 20 69)) (qq 207 8 12) (qq 207 8 19) (qq 207 8 70) (qq 207 8 70)] ⟨201,4,207,70⟩,
  .frz 95,
  .ret (.name 95 (qq 208 11 15)) (qq 208 4 15)]
noncomputable def fP:List (Nat×Pos):=[(82,qq 197 14 19)]
noncomputable def fM:List (Nat×NameKind):=[(82,.local),(92,.local),(93,.local),(94,.local),(95,.local),(83,.local),(96,.local),(97,.local),(98,.local),(99,.local),(1,.globalImplicit),(5,.globalImplicit),(9,.globalImplicit),(0,.globalImplicit)]
noncomputable def cC:List St:=[
  .asgT [(100,qq 210 4 8),(101,qq 210 10 14),(102,qq 210 16 20),(103,qq 210 22 26)] [0,0,1,1] 0 (.tup [(.int 0 (qq 210 30 31)),(.int 0 (qq 210 33 34)),(.list [] (qq 210 36 38)),(.list [(.tup [(.neg 1 (qq 210 43 44) (qq 210 42 44)),(.nil (qq 210 46 50))] 0 (qq 210 41 51))] (qq 210 40 52))] 0 (qq 210 29 53)) (qq 210 4 26) (qq 210 4 53),
  .asg 104 (.comp (.name 105 (qq 211 13 14)) [(.mk (.name 105 (qq 211 19 20)) (.blt 5 [(.int 7 (qq 211 30 31))] (qq 211 24 29) (qq 211 24 32)) [(.cmp (.idx (.idx (.name 95 (qq 211 36 40)) (.name 105 (qq 211 41 42)) (qq 211 36 43)) (.int 1 (qq 211 44 45)) (qq 211 36 46)) .IsNot (.nil (qq 211 54 58)) (qq 211 36 58))])] [(106,.local),(105,.local),(95,.free)] (qq 211 12 59)) (qq 211 4 9) (qq 211 4 59),
  .forS (.name 83 (qq 212 8 9)) (.blt 5 [(.bin (.int 6 (qq 212 19 20)) .Sub (.bin (.bin (.idx (.name 82 (qq 212 23 28)) (.int 7 (qq 212 29 30)) (qq 212 23 31)) .FloorDiv (.int 5 (qq 212 35 36)) (qq 212 23 36)) .Mod (.int 6 (qq 212 39 40)) (qq 212 23 40)) (qq 212 19 40))] (qq 212 13 18) (qq 212 13 41)) [.asgT [(107,qq 213 8 11),(108,qq 213 13 17)] [0,0] 0 (.tup [(.bin (.bin (.idx (.name 82 (qq 213 21 26)) (.int 5 (qq 213 27 28)) (qq 213 21 29)) .FloorDiv (.bin (.int 5 (qq 213 33 34)) .Pow (.name 83 (qq 213 38 39)) (qq 213 33 39)) (qq 213 21 39)) .Mod (.int 5 (qq 213 42 43)) (qq 213 21 43)),(.bin (.bin (.idx (.name 82 (qq 213 45 50)) (.int 6 (qq 213 51 52)) (qq 213 45 53)) .FloorDiv (.bin (.int 12 (qq 213 57 59)) .Pow (.name 83 (qq 213 63 64)) (qq 213 57 64)) (qq 213 45 64)) .Mod (.int 12 (qq 213 67 69)) (qq 213 45 69))] 0 (qq 213 20 70)) (qq 213 8 17) (qq 213 8 70),.asg 109 (.comp (.name 105 (qq 214 16 17)) [(.mk (.name 105 (qq 214 22 23)) (.name 104 (qq 214 27 32)) [(.cmp (.idx (.idx (.name 95 (qq 214 36 40)) (.name 105 (qq 214 41 42)) (qq 214 36 43)) (.int 0 (qq 214 44 45)) (qq 214 36 46)) .Eq (.name 100 (qq 214 50 54)) (qq 214 36 54))])] [(106,.local),(105,.local),(100,.free),(95,.free)] (qq 214 15 55)) (qq 214 8 12) (qq 214 8 55),.ifS (.bop .And [(.cmp (.name 100 (qq 215 11 15)) .Gt (.int 0 (qq 215 18 19)) (qq 215 11 19)),(.bop .Or [(.cmp (.name 109 (qq 215 25 29)) .Eq (.list [] (qq 215 33 35)) (qq 215 25 35)),(.cmp (.name 107 (qq 215 39 42)) .Eq (.int 0 (qq 215 46 47)) (qq 215 39 47))] (qq 215 25 47))] (qq 215 11 48)) [.app 102 (.nil (qq 216 24 28)) (qq 216 12 16) (qq 216 12 23) (qq 216 12 29) (qq 216 12 29),.asgT [(100,qq 217 12 16),(101,qq 217 18 22)] [0,0] 0 (.tup [(.idx (.idx (.name 95 (qq 217 26 30)) (.name 100 (qq 217 31 35)) (qq 217 26 36)) (.int 0 (qq 217 37 38)) (qq 217 26 39)),(.idx (.idx (.name 103 (qq 217 41 45)) (.name 101 (qq 217 46 50)) (qq 217 41 51)) (.int 0 (qq 217 52 53)) (qq 217 41 54))] 0 (qq 217 25 55)) (qq 217 12 22) (qq 217 12 55)] [.ifS (.cmp (.name 109 (qq 218 13 17)) .NotEq (.list [] (qq 218 21 23)) (qq 218 13 23)) [.asg 100 (.idx (.name 109 (qq 219 19 23)) (.bin (.bin (.name 108 (qq 219 24 28)) .Mod (.int 3 (qq 219 31 32)) (qq 219 24 32)) .Mod (.blt 0 [(.name 109 (qq 219 39 43))] (qq 219 35 38) (qq 219 35 44)) (qq 219 24 44)) (qq 219 19 45)) (qq 219 12 16) (qq 219 12 45),.app 102 (.tup [(.name 107 (qq 220 25 28)),(.idx (.idx (.name 95 (qq 220 30 34)) (.ife (.cmp (.name 108 (qq 220 43 47)) .Lt (.int 9 (qq 220 50 51)) (qq 220 43 51)) (.name 100 (qq 220 35 39)) (.idx (.name 104 (qq 220 57 62)) (.neg 1 (qq 220 64 65) (qq 220 63 65)) (qq 220 57 66)) (qq 220 35 66)) (qq 220 30 67)) (.int 1 (qq 220 68 69)) (qq 220 30 70))] 0 (qq 220 24 71)) (qq 220 12 16) (qq 220 12 23) (qq 220 12 72) (qq 220 12 72),.app 103 (.tup [(.name 101 (qq 221 25 29)),(.idx (.name 102 (qq 221 31 35)) (.neg 1 (qq 221 37 38) (qq 221 36 38)) (qq 221 31 39))] 0 (qq 221 24 40)) (qq 221 12 16) (qq 221 12 23) (qq 221 12 41) (qq 221 12 41),.asg 101 (.bin (.blt 0 [(.name 103 (qq 222 23 27))] (qq 222 19 22) (qq 222 19 28)) .Sub (.int 1 (qq 222 31 32)) (qq 222 19 32)) (qq 222 12 16) (qq 222 12 32)] [] ⟨218,8,222,32⟩] ⟨215,8,222,32⟩] ⟨212,4,222,32⟩,
  .frz 102,
  .frz 103,
  .ret (.tup [(.name 102 (qq 223 12 16)),(.name 103 (qq 223 18 22)),(.name 101 (qq 223 24 28))] 0 (qq 223 11 29)) (qq 223 4 29)]
noncomputable def fe:List (Nat×Pos):=[(95,qq 209 15 19),(82,qq 209 21 26)]
noncomputable def fb:List (Nat×NameKind):=[(95,.cell),(82,.local),(100,.cell),(101,.local),(102,.local),(103,.local),(104,.local),(83,.local),(107,.local),(108,.local),(109,.local),(5,.globalImplicit),(0,.globalImplicit)]
noncomputable def fV:List St:=[
  .ifS (.cmp (.name 110 (qq 225 7 11)) .Is (.nil (qq 225 15 19)) (qq 225 7 19)) [.ret (.bool false (qq 226 15 20)) (qq 226 8 20)] [] ⟨225,4,226,20⟩,
  .asgU [(107,qq 227 4 7),(111,qq 227 9 13)] 0 (.name 112 (qq 227 16 20)) (qq 227 4 13) (qq 227 4 20),
  .ifS (.bop .And [(.cmp (.name 107 (qq 228 7 10)) .In (.tup [(.int 2 (qq 228 15 16)),(.int 4 (qq 228 18 19))] 0 (qq 228 14 20)) (qq 228 7 20)),(.cmp (.idx (.name 110 (qq 228 25 29)) (.int 0 (qq 228 30 31)) (qq 228 25 32)) .NotEq (.idx (.name 111 (qq 228 36 40)) (.int 0 (qq 228 41 42)) (qq 228 36 43)) (qq 228 25 43))] (qq 228 7 43)) [.ret (.bool false (qq 229 15 20)) (qq 229 8 20)] [] ⟨228,4,229,20⟩,
  .ifS (.cmp (.name 107 (qq 230 7 10)) .Eq (.int 4 (qq 230 14 15)) (qq 230 7 15)) [.ret (.cmp (.idx (.name 110 (qq 231 15 19)) (.int 1 (qq 231 20 21)) (qq 231 15 22)) .Eq (.idx (.name 111 (qq 231 26 30)) (.int 1 (qq 231 31 32)) (qq 231 26 33)) (qq 231 15 33)) (qq 231 8 33)] [] ⟨230,4,231,33⟩,
  .ret (.bop .Or [(.cmp (.name 107 (qq 232 11 14)) .NotEq (.int 3 (qq 232 18 19)) (qq 232 11 19)),(.meth (.bin (.str [125] (qq 232 24 27)) .Add (.idx (.name 110 (qq 232 30 34)) (.int 1 (qq 232 35 36)) (qq 232 30 37)) (qq 232 24 37)) 15 [(.bin (.str [125] (qq 232 48 51)) .Add (.idx (.name 111 (qq 232 54 58)) (.int 1 (qq 232 59 60)) (qq 232 54 61)) (qq 232 48 61))] (qq 232 23 47) (qq 232 23 62))] (qq 232 11 62)) (qq 232 4 62)]
noncomputable def fQ:List (Nat×Pos):=[(112,qq 224 14 18),(110,qq 224 20 24)]
noncomputable def ij:List (Nat×NameKind):=[(112,.local),(110,.local),(107,.local),(111,.local)]
noncomputable def b8:List St:=[
  .ifS (.bop .And [(.cmp (.name 101 (qq 234 7 11)) .Gt (.int 0 (qq 234 14 15)) (qq 234 7 15)),(.not (.call 47 [(.idx (.idx (.name 103 (qq 234 35 39)) (.name 101 (qq 234 40 44)) (qq 234 35 45)) (.int 1 (qq 234 46 47)) (qq 234 35 48)),(.idx (.idx (.name 95 (qq 234 50 54)) (.name 105 (qq 234 55 56)) (qq 234 50 57)) (.int 1 (qq 234 58 59)) (qq 234 50 60))] (qq 234 25 34) (qq 234 25 61)) (qq 234 21 61))] (qq 234 7 62)) [.ret (.bool false (qq 235 15 20)) (qq 235 8 20)] [] ⟨234,4,235,20⟩,
  .forS (.name 113 (qq 236 8 9)) (.blt2 5 (.bin (.name 101 (qq 236 19 23)) .Add (.int 1 (qq 236 26 27)) (qq 236 19 27)) (.blt 0 [(.name 103 (qq 236 33 37))] (qq 236 29 32) (qq 236 29 38)) (qq 236 13 18) (qq 236 13 39)) [.ifS (.bop .And [(.cmp (.idx (.idx (.name 103 (qq 237 11 15)) (.name 113 (qq 237 16 17)) (qq 237 11 18)) (.int 0 (qq 237 19 20)) (qq 237 11 21)) .Eq (.name 101 (qq 237 25 29)) (qq 237 11 29)),(.cmp (.comp (.name 114 (qq 237 35 36)) [(.mk (.name 114 (qq 237 41 42)) (.blt 5 [(.int 7 (qq 237 52 53))] (qq 237 46 51) (qq 237 46 54)) [(.bop .And [(.cmp (.idx (.idx (.name 95 (qq 237 58 62)) (.name 114 (qq 237 63 64)) (qq 237 58 65)) (.int 0 (qq 237 66 67)) (qq 237 58 68)) .Eq (.name 105 (qq 237 72 73)) (qq 237 58 73)),(.call 48 [(.name 103 (qq 237 88 92)),(.name 113 (qq 237 94 95)),(.name 95 (qq 237 97 101)),(.name 114 (qq 237 103 104))] (qq 237 78 87) (qq 237 78 105))] (qq 237 58 105))])] [(106,.local),(114,.local),(48,.globalImplicit),(113,.free),(95,.free),(103,.free),(105,.free)] (qq 237 34 106)) .Eq (.list [] (qq 237 110 112)) (qq 237 34 112))] (qq 237 11 112)) [.ret (.bool false (qq 238 19 24)) (qq 238 12 24)] [] ⟨237,8,238,24⟩] ⟨236,4,238,24⟩,
  .ret (.bool true (qq 239 11 15)) (qq 239 4 15)]
noncomputable def dO:List (Nat×Pos):=[(103,qq 233 14 18),(101,qq 233 20 24),(95,qq 233 26 30),(105,qq 233 32 33)]
noncomputable def dN:List (Nat×NameKind):=[(103,.cell),(101,.local),(95,.cell),(105,.cell),(113,.cell),(47,.globalImplicit),(5,.globalImplicit),(0,.globalImplicit)]
noncomputable def dS:List St:=[
  .whl (.bop .And [(.cmp (.name 101 (qq 241 10 14)) .Gt (.int 0 (qq 241 17 18)) (qq 241 10 18)),(.call 48 [(.name 103 (qq 241 33 37)),(.name 101 (qq 241 39 43)),(.name 95 (qq 241 45 49)),(.name 105 (qq 241 51 52))] (qq 241 23 32) (qq 241 23 53))] (qq 241 10 53)) [.asgT [(101,qq 242 8 12),(105,qq 242 14 15)] [0,0] 0 (.tup [(.idx (.idx (.name 103 (qq 242 19 23)) (.name 101 (qq 242 24 28)) (qq 242 19 29)) (.int 0 (qq 242 30 31)) (qq 242 19 32)),(.idx (.idx (.name 95 (qq 242 34 38)) (.name 105 (qq 242 39 40)) (qq 242 34 41)) (.int 0 (qq 242 42 43)) (qq 242 34 44))] 0 (qq 242 18 45)) (qq 242 8 15) (qq 242 8 45)] ⟨241,4,242,45⟩,
  .ret (.bop .And [(.cmp (.name 101 (qq 243 11 15)) .Eq (.int 0 (qq 243 19 20)) (qq 243 11 20)),(.cmp (.name 105 (qq 243 25 26)) .Eq (.int 0 (qq 243 30 31)) (qq 243 25 31)),(.call 48 [(.name 103 (qq 243 46 50)),(.int 0 (qq 243 52 53)),(.name 95 (qq 243 55 59)),(.int 0 (qq 243 61 62))] (qq 243 36 45) (qq 243 36 63))] (qq 243 11 63)) (qq 243 4 63)]
noncomputable def fR:List (Nat×Pos):=[(103,qq 240 14 18),(101,qq 240 20 24),(95,qq 240 26 30),(105,qq 240 32 33)]
noncomputable def fN:List (Nat×NameKind):=[(103,.local),(101,.local),(95,.local),(105,.local),(48,.globalImplicit)]
noncomputable def gH:List St:=[
  .ifS (.cmp (.name 110 (qq 245 7 11)) .Is (.nil (qq 245 15 19)) (qq 245 7 19)) [.ret (.nil (qq 246 15 19)) (qq 246 8 19)] [] ⟨245,4,246,19⟩,
  .asg 20 (.call 44 [(.idx (.name 110 (qq 247 23 27)) (.int 1 (qq 247 28 29)) (qq 247 23 30)),(.name 85 (qq 247 32 36))] (qq 247 10 22) (qq 247 10 37)) (qq 247 4 7) (qq 247 4 37),
  .ret (.ife (.cmp (.idx (.name 110 (qq 248 18 22)) (.int 0 (qq 248 23 24)) (qq 248 18 25)) .Is (.nil (qq 248 29 33)) (qq 248 18 33)) (.name 20 (qq 248 11 14)) (.bin (.bin (.bin (.str [123] (qq 248 39 42)) .Add (.call 44 [(.idx (.name 110 (qq 248 58 62)) (.int 0 (qq 248 63 64)) (qq 248 58 65)),(.name 85 (qq 248 67 71))] (qq 248 45 57) (qq 248 45 72)) (qq 248 39 72)) .Add (.str [125] (qq 248 75 78)) (qq 248 39 78)) .Add (.name 20 (qq 248 81 84)) (qq 248 39 84)) (qq 248 11 84)) (qq 248 4 84)]
noncomputable def gC:List (Nat×Pos):=[(110,qq 244 13 17),(85,qq 244 19 23)]
noncomputable def jq:List (Nat×NameKind):=[(110,.local),(85,.local),(20,.local),(44,.globalImplicit)]
noncomputable def dQ:List St:=[
  .asgU [(107,qq 250 4 7),(110,qq 250 9 13)] 0 (.name 112 (qq 250 16 20)) (qq 250 4 13) (qq 250 4 20),
  .asgT [(98,qq 251 4 9),(99,qq 251 11 16)] [0,0] 0 (.tup [(.str [42] (qq 251 20 23)),(.str [42] (qq 251 25 28))] 0 (qq 251 19 29)) (qq 251 4 16) (qq 251 4 29),
  .ifS (.cmp (.name 107 (qq 252 7 10)) .In (.tup [(.int 2 (qq 252 15 16)),(.int 4 (qq 252 18 19))] 0 (qq 252 14 20)) (qq 252 7 20)) [.asg 98 (.ife (.cmp (.idx (.name 110 (qq 253 22 26)) (.int 0 (qq 253 27 28)) (qq 253 22 29)) .Is (.nil (qq 253 33 37)) (qq 253 22 37)) (.str [] (qq 253 16 18)) (.call 43 [(.idx (.name 110 (qq 253 56 60)) (.int 0 (qq 253 61 62)) (qq 253 56 63)),(.name 85 (qq 253 65 69))] (qq 253 43 55) (qq 253 43 70)) (qq 253 16 70)) (qq 253 8 13) (qq 253 8 70)] [] ⟨252,4,253,70⟩,
  .ifS (.cmp (.name 107 (qq 254 7 10)) .Gt (.int 2 (qq 254 13 14)) (qq 254 7 14)) [.asg 99 (.call 43 [(.idx (.name 110 (qq 255 29 33)) (.int 1 (qq 255 34 35)) (qq 255 29 36)),(.name 85 (qq 255 38 42))] (qq 255 16 28) (qq 255 16 43)) (qq 255 8 13) (qq 255 8 43)] [] ⟨254,4,255,43⟩,
  .ret (.bin (.bin (.bin (.str [123] (qq 256 11 14)) .Add (.name 98 (qq 256 17 22)) (qq 256 11 22)) .Add (.str [125] (qq 256 25 28)) (qq 256 11 28)) .Add (.name 99 (qq 256 31 36)) (qq 256 11 36)) (qq 256 4 36)]
noncomputable def fO:List (Nat×Pos):=[(112,qq 249 14 18),(85,qq 249 20 24)]
noncomputable def fL:List (Nat×NameKind):=[(112,.local),(85,.local),(107,.local),(110,.local),(98,.local),(99,.local),(43,.globalImplicit)]
noncomputable def fW:List St:=[
  .ifS (.call 31 [(.name 111 (qq 266 24 28))] (qq 266 7 23) (qq 266 7 29)) [.ret (.comp (.attr (.name 115 (qq 267 16 21)) 19 (qq 267 16 26)) [(.mk (.name 115 (qq 267 31 36)) (.calle (.call 32 [(.name 111 (qq 267 53 57))] (qq 267 40 52) (qq 267 40 58)) [(.nil (qq 267 59 63)),(.comp (.name 115 (qq 267 66 71)) [(.mk (.name 117 (qq 267 76 79)) (.name 118 (qq 267 83 87)) []),(.mk (.name 115 (qq 267 92 97)) (.name 117 (qq 267 101 104)) [])] [(106,.local),(117,.local),(115,.local)] (qq 267 65 105))] (qq 267 40 106)) [])] [(106,.local),(115,.local)] (qq 267 15 107)) (qq 267 8 107)] [] ⟨266,4,267,107⟩,
  .ret (.comp (.attr (.name 115 (qq 268 12 17)) 19 (qq 268 12 22)) [(.mk (.name 115 (qq 268 27 32)) (.calle (.call 33 [(.nil (qq 268 50 54)),(.tup [(.str [] (qq 268 57 59)),(.name 111 (qq 268 61 65))] 0 (qq 268 56 66))] (qq 268 36 49) (qq 268 36 67)) [(.nil (qq 268 68 72)),(.name 118 (qq 268 74 78))] (qq 268 36 79)) [])] [(106,.local),(115,.local)] (qq 268 11 80)) (qq 268 4 80)]
noncomputable def fS:List (Nat×Pos):=[(111,qq 265 14 18),(118,qq 265 20 24)]
noncomputable def ik:List (Nat×NameKind):=[(111,.local),(118,.local),(31,.globalImplicit),(32,.globalImplicit),(33,.globalImplicit)]
noncomputable def iY:List St:=[
  .ret (.comp (.bin (.blt 2 [(.idx (.name 119 (qq 270 16 22)) (.int 0 (qq 270 23 24)) (qq 270 16 25))] (qq 270 12 15) (qq 270 12 26)) .Sub (.int 65 (qq 270 29 31)) (qq 270 12 31)) [(.mk (.name 119 (qq 270 36 42)) (.callv 121 [(.name 58 (qq 270 52 59)),(.comp (.blt 1 [(.bin (.int 97 (qq 270 66 68)) .Add (.name 105 (qq 270 71 72)) (qq 270 66 72))] (qq 270 62 65) (qq 270 62 73)) [(.mk (.name 105 (qq 270 78 79)) (.name 120 (qq 270 83 89)) [])] [(106,.local),(105,.local),(1,.globalImplicit)] (qq 270 61 90))] (qq 270 46 51) (qq 270 46 91)) [])] [(106,.local),(119,.local),(2,.globalImplicit)] (qq 270 11 92)) (qq 270 4 92)]
noncomputable def iT:List (Nat×Pos):=[(121,qq 269 12 17),(58,qq 269 19 26),(120,qq 269 28 34)]
noncomputable def kQ:List (Nat×NameKind):=[(121,.local),(58,.local),(120,.local)]
noncomputable def fh:List St:=[
  .asgT [(118,qq 272 4 8),(122,qq 272 10 18)] [2,1] 0 (.tup [(.comp (.list [] (qq 272 23 25)) [(.mk (.name 123 (qq 272 30 35)) (.name 95 (qq 272 39 43)) [])] [(106,.local),(123,.local)] (qq 272 22 44)),(.comp (.blt 1 [(.bin (.int 65 (qq 272 51 53)) .Add (.name 105 (qq 272 56 57)) (qq 272 51 57))] (qq 272 47 50) (qq 272 47 58)) [(.mk (.name 105 (qq 272 63 64)) (.blt 5 [(.int 7 (qq 272 74 75))] (qq 272 68 73) (qq 272 68 76)) [])] [(106,.local),(105,.local),(1,.globalImplicit)] (qq 272 46 77))] 0 (qq 272 21 78)) (qq 272 4 18) (qq 272 4 78),
  .forS (.name 105 (qq 273 8 9)) (.blt2 5 (.int 1 (qq 273 19 20)) (.int 7 (qq 273 22 23)) (qq 273 13 18) (qq 273 13 24)) [.app2 118 (.idx (.idx (.name 95 (qq 274 13 17)) (.name 105 (qq 274 18 19)) (qq 274 13 20)) (.int 0 (qq 274 21 22)) (qq 274 13 23)) (.call 52 [(.name 105 (qq 274 43 44)),(.call 50 [(.idx (.idx (.name 95 (qq 274 55 59)) (.name 105 (qq 274 60 61)) (qq 274 55 62)) (.int 1 (qq 274 63 64)) (qq 274 55 65)),(.name 85 (qq 274 67 71))] (qq 274 46 54) (qq 274 46 72))] (qq 274 32 42) (qq 274 32 73)) (qq 274 8 12) (qq 274 8 24) (qq 274 8 31) (qq 274 8 74) (qq 274 8 74),.augI 122 (.idx (.idx (.name 95 (qq 275 17 21)) (.name 105 (qq 275 22 23)) (qq 275 17 24)) (.int 0 (qq 275 25 26)) (qq 275 17 27)) .Add (.blt 1 [(.bin (.int 97 (qq 275 36 38)) .Add (.name 105 (qq 275 41 42)) (qq 275 36 42))] (qq 275 32 35) (qq 275 32 43)) (qq 275 8 16) (qq 275 8 28) (qq 275 8 43)] ⟨273,4,275,43⟩,
  .frz 118,
  .frz 122,
  .asgT [(58,qq 276 4 11),(121,qq 276 13 18),(120,qq 276 20 26)] [0,0,0] 0 (.tup [(.call 53 [(.name 122 (qq 276 43 51))] (qq 276 30 42) (qq 276 30 52)),(.call 34 [(.nil (qq 276 69 73)),(.tup [(.str [46,46] (qq 276 76 80)),(.str [] (qq 276 82 84))] 0 (qq 276 75 85))] (qq 276 54 68) (qq 276 54 86)),(.list [(.int 0 (qq 276 89 90)),(.int 0 (qq 276 92 93))] (qq 276 88 94))] 0 (qq 276 29 95)) (qq 276 4 26) (qq 276 4 95),
  .forS (.name 112 (qq 277 8 12)) (.name 102 (qq 277 16 20)) [.ifS (.cmp (.name 112 (qq 278 11 15)) .Is (.nil (qq 278 19 23)) (qq 278 11 23)) [.asg 120 (.call 55 [(.name 121 (qq 279 29 34)),(.name 58 (qq 279 36 43)),(.name 120 (qq 279 45 51))] (qq 279 21 28) (qq 279 21 52)) (qq 279 12 18) (qq 279 12 52)] [.asg 120 (.call 54 [(.call 51 [(.name 112 (qq 281 41 45)),(.name 85 (qq 281 47 51))] (qq 281 31 40) (qq 281 31 52)),(.comp (.idx (.name 118 (qq 281 55 59)) (.name 105 (qq 281 60 61)) (qq 281 55 62)) [(.mk (.name 105 (qq 281 67 68)) (.name 120 (qq 281 72 78)) [])] [(106,.local),(105,.local),(118,.free)] (qq 281 54 79))] (qq 281 21 30) (qq 281 21 80)) (qq 281 12 18) (qq 281 12 80)] ⟨278,8,281,80⟩] ⟨277,4,281,80⟩,
  .own 124 (.list [(.name 120 (qq 282 13 19))] (qq 282 12 20)) (qq 282 4 9) (qq 282 4 20),
  .forS (.name 83 (qq 283 8 9)) (.blt 5 [(.name 125 (qq 283 19 24))] (qq 283 13 18) (qq 283 13 25)) [.app 124 (.call 55 [(.name 121 (qq 284 29 34)),(.name 58 (qq 284 36 43)),(.idx (.name 124 (qq 284 45 50)) (.neg 1 (qq 284 52 53) (qq 284 51 53)) (qq 284 45 54))] (qq 284 21 28) (qq 284 21 55)) (qq 284 8 13) (qq 284 8 20) (qq 284 8 56) (qq 284 8 56)] ⟨283,4,284,56⟩,
  .frz 124,
  .ret (.name 124 (qq 285 11 16)) (qq 285 4 16)]
noncomputable def cA:List (Nat×Pos):=[(95,qq 271 15 19),(102,qq 271 21 25),(125,qq 271 27 32),(85,qq 271 34 38)]
noncomputable def gA:List (Nat×NameKind):=[(95,.local),(102,.local),(125,.local),(85,.local),(105,.local),(118,.cell),(122,.local),(58,.local),(121,.local),(120,.local),(112,.local),(124,.local),(83,.local),(5,.globalImplicit),(52,.globalImplicit),(50,.globalImplicit),(1,.globalImplicit),(53,.globalImplicit),(34,.globalImplicit),(55,.globalImplicit),(54,.globalImplicit),(51,.globalImplicit)]
noncomputable def kZ:List St:=[
  .asg 82 (.call 42 [(.name 84 (qq 287 23 29))] (qq 287 12 22) (qq 287 12 30)) (qq 287 4 9) (qq 287 4 30),
  .asg 95 (.call 45 [(.name 82 (qq 288 21 26))] (qq 288 11 20) (qq 288 11 27)) (qq 288 4 8) (qq 288 4 27),
  .asgU [(102,qq 289 4 8),(103,qq 289 10 14),(101,qq 289 16 20)] 0 (.call 46 [(.name 95 (qq 289 34 38)),(.name 82 (qq 289 40 45))] (qq 289 23 33) (qq 289 23 46)) (qq 289 4 20) (qq 289 4 46),
  .own 126 (.list [] (qq 290 10 12)) (qq 290 4 7) (qq 290 4 12),
  .whl (.cmp (.name 101 (qq 291 10 14)) .GtE (.int 0 (qq 291 18 19)) (qq 291 10 19)) [.app 126 (.comp (.name 105 (qq 292 20 21)) [(.mk (.name 105 (qq 292 26 27)) (.blt 5 [(.int 7 (qq 292 37 38))] (qq 292 31 36) (qq 292 31 39)) [(.call 49 [(.name 103 (qq 292 53 57)),(.name 101 (qq 292 59 63)),(.name 95 (qq 292 65 69)),(.name 105 (qq 292 71 72))] (qq 292 43 52) (qq 292 43 73))])] [(106,.local),(105,.local),(49,.globalImplicit),(101,.free),(95,.free),(103,.free)] (qq 292 19 74)) (qq 292 8 11) (qq 292 8 18) (qq 292 8 75) (qq 292 8 75),.asg 101 (.idx (.idx (.name 103 (qq 293 15 19)) (.name 101 (qq 293 20 24)) (qq 293 15 25)) (.int 0 (qq 293 26 27)) (qq 293 15 28)) (qq 293 8 12) (qq 293 8 28)] ⟨291,4,293,28⟩,
  .asg 127 (.ife (.cmp (.nil (qq 294 21 25)) .In (.name 102 (qq 294 29 33)) (qq 294 21 33)) (.idx (.name 126 (qq 294 11 14)) (.int 0 (qq 294 15 16)) (qq 294 11 17)) (.bin (.idx (.name 126 (qq 294 39 42)) (.int 0 (qq 294 43 44)) (qq 294 39 45)) .Add (.idx (.name 126 (qq 294 48 51)) (.int 0 (qq 294 52 53)) (qq 294 48 54)) (qq 294 39 54)) (qq 294 11 54)) (qq 294 4 8) (qq 294 4 54),
  .ret (.cmp (.call 56 [(.name 95 (qq 295 22 26)),(.name 102 (qq 295 28 32)),(.blt 0 [(.name 126 (qq 295 38 41))] (qq 295 34 37) (qq 295 34 42)),(.bin (.idx (.name 82 (qq 295 44 49)) (.int 7 (qq 295 50 51)) (qq 295 44 52)) .Mod (.int 5 (qq 295 55 56)) (qq 295 44 56))] (qq 295 11 21) (qq 295 11 57)) .Eq (.bin (.bin (.list [(.name 127 (qq 295 62 66))] (qq 295 61 67)) .Add (.slc (.name 126 (qq 295 70 73)) (some (.int 1 (qq 295 74 75))) none (qq 295 74 76) (qq 295 70 77)) (qq 295 61 77)) .Add (.list [(.list [] (qq 295 81 83))] (qq 295 80 84)) (qq 295 61 84)) (qq 295 11 84)) (qq 295 4 84)]
noncomputable def uT:List (Nat×Pos):=[(84,qq 286 8 14)]
noncomputable def uN:List (Nat×NameKind):=[(84,.local),(82,.local),(95,.cell),(102,.local),(103,.cell),(101,.cell),(126,.local),(127,.local),(42,.globalImplicit),(45,.globalImplicit),(46,.globalImplicit),(5,.globalImplicit),(56,.globalImplicit),(0,.globalImplicit)]
noncomputable def jX:List (Nat×Pos):=[(116,qq 257 15 21),(20,qq 257 23 26)]
noncomputable def qW:List (Nat×NameKind):=[(116,.local),(20,.local),(115,.local),(23,.globalImplicit)]
noncomputable def fT:List (Nat×Pos):=[(58,qq 2 19 26)]
noncomputable def jR:List (Nat×NameKind):=[(58,.local),(21,.local),(128,.local),(71,.local)]
noncomputable def og:List (Nat×Pos):=[]
noncomputable def gG:E:=(.name 122 (qq 263 24 32))
noncomputable def j1:List (Nat×NameKind):=[(122,.free)]
noncomputable def iw:List (Nat×Pos):=[(122,qq 261 17 25)]
noncomputable def nX:List (Nat×NameKind):=[(122,.cell),(19,.local),(23,.globalImplicit)]
noncomputable def eD (n:String):Option (List Stmt):=PySem.Challenge.pw_wb0058_02.main.body.findSome? fun s=>match s with
 |.FunctionDef x _ b _ _ _ _ _ _ _=>if x=Str.ofString n then some b else none
 |_=>none
noncomputable def eM:Option (List Stmt)->List ExceptHandler
 |some (.Try _ hs _ _ _::_)=>hs
 |_=>[]
noncomputable def qR:Option (List Stmt)->List Stmt
 |some (_::.If _ a _ _::_)=>a
 |_=>[]
noncomputable def qZ:Option (List Stmt)->List Stmt
 |some (_::.If _ _ [.If _ _ [.If _ _ [.If _ _ r _] _] _] _::_)=>r
 |_=>[]
noncomputable abbrev oX:List Stmt:=[.Assign [.Name (aY 115) (qq 258 4 9)] (.Call (.Name (aY 23) (qq 258 12 28)) [E.py aY (.name 116 (qq 258 29 35))] [] (qq 258 12 36)) (qq 258 4 36),.Assign [.Attribute (.Name (aY 115) (qq 259 4 9)) (aY 20) (qq 259 4 13)] (.Name (aY 20) (qq 259 16 19)) (qq 259 4 19),.Return (some (.Name (aY 115) (qq 260 11 16))) (qq 260 4 16)]
noncomputable abbrev i1:List Stmt:=[.Assign [(.Name (aY 21) (qq 3 4 14))] (.Attribute (.Name (aY 58) (qq 3 17 24)) (aY 21) (qq 3 17 35)) (qq 3 4 35),.If (.Compare (.Name (aY 21) (qq 4 7 17)) [.Is] [.Constant .none 0 (qq 4 21 25)] (qq 4 7 25)) [.Assign [(.Attribute (.Name (aY 58) (qq 5 8 15)) (aY 21) (qq 5 8 26)),(.Name (aY 21) (qq 5 29 39))] (.Dict [] [] (qq 5 42 44)) (qq 5 8 44),.For (.Name (aY 128) (qq 6 12 13)) (.Call (.Attribute (.Attribute (.Name (aY 58) (qq 6 17 24)) (aY 19) (qq 6 17 29)) (aY 22) (qq 6 17 34)) [] [] (qq 6 17 36)) [.For (.Name (aY 71) (qq 7 16 17)) (.Name (aY 128) (qq 7 21 22)) [.Assign [.Subscript (.Name (aY 21) (qq 8 16 26)) (.Name (aY 71) (qq 8 27 28)) (qq 8 16 29)] (.Name (aY 128) (qq 8 32 33)) (qq 8 16 33)] [] ⟨7,12,8,33⟩] [] ⟨6,8,8,33⟩] [] ⟨4,4,8,33⟩,.Return (some (.Name (aY 21) (qq 9 11 21))) (qq 9 4 21)]
noncomputable abbrev lm:List Stmt:=[.Assign [(.Name (aY 19) (qq 262 4 8))] (.Call (.Name (aY 23) (qq 262 11 27)) [.Constant .none 0 (qq 262 28 32)] [] (qq 262 11 33)) (qq 262 4 33),.Assign [.Attribute (.Name (aY 19) (qq 263 4 8)) (aY 22) (qq 263 4 13)] (.Lambda (aV aY og) (gG.py aY) (cy aY j1) (qq 263 16 32)) (qq 263 4 32),.Return (some (.Call (.Name (aY 23) (qq 264 11 27)) [(.Name (aY 19) (qq 264 28 32))] [] (qq 264 11 33))) (qq 264 4 33)]
end Mine
namespace Mine
noncomputable abbrev K2 (w:World):Frag:=k2 w.params
noncomputable def ctF:Nat->Option (Addr×Addr):=gw [(32,(34,30)),(33,(41,37)),(34,(48,44)),(53,(203,199))]
theorem oS {P:Nat->Addr×Addr->Prop}(h1:P 32 (34,30))(h2:P 33 (41,37))(h3:P 34 (48,44))(h4:P 53 (203,199)):∀f q,ctF f=some q->P f q:=
 bf (Bb.mpr ⟨h1,Bb.mpr ⟨h2,Bb.mpr ⟨h3,Bb.mpr ⟨h4,C1 _⟩⟩⟩⟩)
noncomputable def pqF (f:Nat):Str:=if f=32 then "_prepare_tag.<locals>." else if f=33 then "prepare_child.<locals>." else if f=34 then "prepare_parent.<locals>." else if f=53 then "_law_context.<locals>." else ""
noncomputable def zl (f:Nat):Str:=if f=32 then "_prepare_tag.<locals>.select" else if f=33 then "prepare_child.<locals>.select" else if f=34 then "prepare_parent.<locals>.select" else if f=53 then "_law_context.<locals>.<lambda>" else ""
noncomputable def yo (f:Nat)(ps:List (Nat×Pos))(ss:List Sg)(sc:LK):f0:=⟨aV aY ps,.stmts (gf aY ss),{ cy aY sc with isGenerator:=true },zl f,av sc⟩
noncomputable def lsF:Nat->Option f0:=gw [(0,⟨aV aY og,.expr (gG.py aY),cy aY j1,zl 53,av j1⟩),
 (11,yo 34 bj aF aW),(12,yo 33 bA aP bv),
 (13,yo 32 bY bb bX),(14,yo 32 bz aO bu),
 (15,yo 32 bx aN bt),(16,yo 32 bw aM br)]
noncomputable def B2 (w:World)(h₀:Heap)(mg mb:Str->Option Value)(X:Option Lz):Bs:={ prog:=PySem.Challenge.pw_wb0058_02,w:=w,h₀:=h₀,mg:=mg,mb:=mb,C:=66,nm:=aY,CT:=ctF,qf:=zl,pq:=pqF,LS:=lsF,X:=X }
structure aZ (w:World)(h₀:Heap)(mg mb:Str->Option Value):Prop where
 k:(K2 w).In h₀
 g:h₀.Ns BQ mg
 b:h₀.Ns Cc mb
 nolimit:h₀.NoLimit
 builtins:∀x:Str,x ≠ "__name__" -> mb x=bootBuiltins x
 bmain:∃bm ob,mg "__builtins__" = some (.ref bm)/\bm≠Cc/\h₀.get? bm=some ob/\ob.cls=.type "module" /\ ob.dict=some Cc/\ob.data=.plain
 tabs:∀P,P=30\/P=37\/P=44\/P=199->h₀.get? P=some (tabObj #[])
 low:C9 < h₀.objs.size
noncomputable def e9 (h₀:Heap)(X:Option Lz):Prop:=∀x,X=some x->h₀.objs.size<=x.dx/\x.ks.Nodup/\x.ks[0]?=some [65]/\x.vs.length=x.ks.length/\x.ks.length<=lim/\∀y∈x.vs,y.length<=lim
theorem xR:(rk.map Str.ofString).Nodup:=by decide +kernel
theorem xQ:(rk.map fun x=>(Str.ofString x).cps.size).all (· < rk.length)=true:=by decide +kernel
theorem rn {n:Nat}{s:String}(h:rk[n]?=some s):aY n=Str.ofString s:=by unfold aY;exact AZ h rfl
theorem zB {n:Nat}(h:rk[n]?=none):aY n=⟨(Gh n 63).toArray⟩:=by unfold aY;exact AZ h rfl
theorem gE:∀x y,aY x=aY y->x=y:=by
 intro x y h;have short:∀{n:Nat}{s:String},rk[n]?=some s->(aY n).cps.size < rk.length:=fun{n s} e=>by
  refine AZ (rn e) ?_;have:=Bp.mp xQ ((Str.ofString s).cps.size) (BC.mpr ⟨s,Co e,rfl⟩)
  simpa using this
 have long:∀{n:Nat},rk[n]?=none->(aY n).cps.size=n/\rk.length<=n:=fun{n} e=>by
  refine AZ (zB e) ?_;exact⟨by simp,by simpa using e⟩
 cases hx:rk[x]? with
 |some s=>
  cases hy:rk[y]? with
  |some t=>
   rw[rn hx,rn hy] at h;have h1:(rk.map Str.ofString)[x]?=some (Str.ofString s):=by refine AZ (CU)<|AZ hx ?_;rfl
   have h2:(rk.map Str.ofString)[y]?=some (Str.ofString t):=by refine AZ (CU)<|AZ hy ?_;rfl
   have hlx:=(B0.mp h1).1;exact(HC hlx xR).mp (by exact AZ h1<|AZ h2<|AZ h rfl)
  |none=>
   have:=short hx;have:=long hy;rw[h] at *
   lia
 |none=>
  cases hy:rk[y]? with
  |some t=>
   have:=short hy;have:=long hx;rw[h] at *
   lia
  |none=>
   have h1:=long hx;have h2:=long hy;rw[h] at h1
   lia
section
variable {w:World}{h₀:Heap}{mg mb:Str->Option Value}{X:Option Lz}
theorem T2 {P:Addr}(Y:e9 h₀ X)(t:(B2 w h₀ mg mb X).T P):(P=30\/P=37\/P=44\/P=199)\/h₀.objs.size<=P:=by
 rcases t with⟨f,c,h⟩|⟨x,e,rfl⟩
 ·exact .inl (oS (P:=fun J q=>q.2=30\/q.2=37\/q.2=44\/q.2=199) (.inl rfl) (.inr (.inl rfl)) (.inr (.inr (.inl rfl))) (.inr (.inr (.inr rfl))) f (c,P) h)
 ·exact .inr (Y x e).1
theorem nT2 {a:Addr}(Y:e9 h₀ X)(h:(a==30||a==37||a==44||a==199)=false)(l:a < h₀.objs.size):¬(B2 w h₀ mg mb X).T a:=by
 intro t;rcases T2 Y t with(rfl|rfl|rfl|rfl)|q
 iterate 4 exact DW (show true=false from h)
 exact Bd _ (BI q l)
theorem aZ.lt (T:aZ w h₀ mg mb){a:Addr}(h:((K2 w).lookup a).isSome=true):a < h₀.objs.size:=by
 obtain⟨o,e⟩:=DE.mp h;exact BG (T.k a o e)
theorem nTk (T:aZ w h₀ mg mb)(Y:e9 h₀ X){a:Addr}(h:(((K2 w).lookup a).isSome&&!(a==30||a==37||a==44||a==199))=true):¬(B2 w h₀ mg mb X).T a:=by
 rw[Bz,FF] at h;exact nT2 Y h.2 (T.lt h.1)
theorem cls2 (T:aZ w h₀ mg mb)(Y:e9 h₀ X):l7 (B2 w h₀ mg mb X) (K2 w) where
 in₀:=T.k
 nT:=fun a o e t=>by
  have key:∀P,(K2 w).lookup P=none->(K2 w).lookup P=some o->False:=fun P h1 h2=>by replace h2:=h1▸h2;cases h2
  rcases T2 Y t with(rfl|rfl|rfl|rfl)|q
  ·exact key 30 (by rfl) e
  ·exact key 37 (by rfl) e
  ·exact key 44 (by rfl) e
  ·exact key 199 (by rfl) e
  ·exact Bd _ (BI q (BG (T.k a o e)))
 makes:=by rfl
 init:=⟨63,by rfl,by rfl⟩
 plain:=by rfl
theorem set2 (T:aZ w h₀ mg mb)(Y:e9 h₀ X):l4 (B2 w h₀ mg mb X) (K2 w) where
 z:=cls2 T Y
 set:=by rfl
 taker:=fun f h=>by rcases h with(rfl|rfl|rfl)|rfl<;>kernel_rfl
 hasDict:=by rfl
 keep:=by rfl
end
end Mine
namespace Mine
section
variable {w:World}{h₀:Heap}{mg mb:Str->Option Value}{X:Option Lz}
theorem wC (s:String)(h:(rk.map Str.ofString).all (· != Str.ofString s)=true)(h2:(Str.ofString s).cps.size < rk.length) (n:Nat):aY n≠Str.ofString s:=by
 intro e
 cases hn:rk[n]? with
 |some t=>
  rw[rn hn] at e;have:=Bp.mp h (Str.ofString t) (BC.mpr ⟨t,Co hn,rfl⟩);rw[e] at this;simp at this
 |none=>
  rw[zB hn] at e;have h3:rk.length<=n:=by simpa using hn
  have h4:(⟨(Gh n 63).toArray⟩:Str).cps.size=n:=by simp
  rw[e] at h4
  lia
theorem vE (T:aZ w h₀ mg mb):mg "__builtins__" = some (.ref 4):=mg_of T.k T.g (by rfl)
theorem fi (T:aZ w h₀ mg mb){f:Nat}{v:Value}(h1:nsIn (K2 w) BQ (aY f)=some none)(h2:bootBuiltins (aY f)=some v):mg (aY f)=none/\mb (aY f)=some v:=
 ⟨mg_none_of T.k T.g h1,by exact AZ (T.builtins _ (wC "__name__" (by decide +kernel) (by decide +kernel) f))<|AZ h2 rfl⟩
theorem blts2 (T:aZ w h₀ mg mb):∀f v,eE f=some v->mg (aY f)=none/\mb (aY f)=some v:=
 bf (Bb.mpr ⟨fi T (by rfl) (by rfl),Bb.mpr ⟨fi T (by rfl) (by rfl),Bb.mpr ⟨fi T (by rfl) (by rfl),Bb.mpr ⟨fi T (by rfl) (by rfl),Bb.mpr ⟨fi T (by rfl) (by rfl),Bb.mpr ⟨fi T (by rfl) (by rfl),Bb.mpr ⟨fi T (by rfl) (by rfl),Bb.mpr ⟨fi T (by rfl) (by rfl),Bb.mpr ⟨fi T (by rfl) (by rfl),C1 _⟩⟩⟩⟩⟩⟩⟩⟩⟩)
theorem AK:∀f,(f=19\/f=20\/f=21)\/f=22->∃attr,Ef (K2 w) (.ref 66) (aY f)=some attr/\(match attr with|some a=>Hg (K2 w) a "__get__" | none=>some none)=some none:=by
 intro f hf;rcases hf with(rfl|rfl|rfl)|rfl
 ·exact⟨none,by rfl,rfl⟩
 ·exact⟨none,by rfl,rfl⟩
 ·exact⟨some .none,by rfl,by rfl⟩
 ·exact⟨none,by rfl,rfl⟩
theorem wX (T:aZ w h₀ mg mb){f:Nat}{c P:Addr}(h:ctF f=some (c,P)):CodeHd h₀ c P:=
 oS (P:=fun J q=>CodeHd h₀ q.1 q.2) (GA T.k (by rfl)) (GA T.k (by rfl)) (GA T.k (by rfl)) (GA T.k (by rfl)) f (c,P) h
theorem bat2 (T:aZ w h₀ mg mb){P:Addr}(hP:(4:Addr)≠P):h₀.BuiltinsAt mg P:=by
 refine x25 T.bmain fun bm ob h1 h2 h3 h4 h5 h6=>?_;have h7:some (Value.ref bm)=some (.ref 4):=h1.symm.trans (vE T)
 cases h7
 exact⟨4,ob,h1,h2,by decide,hP,h3,h4,h5,h6⟩
theorem hd2 (T:aZ w h₀ mg mb)(Y:e9 h₀ X){f:Nat}{c P:Addr}(h:ctF f=some (c,P)):¬(B2 w h₀ mg mb X).T c/\BQ≠P/\h₀.BuiltinsAt mg P:=
 oS (P:=fun J q=>¬(B2 w h₀ mg mb X).T q.1/\BQ≠q.2/\h₀.BuiltinsAt mg q.2) ⟨nTk T Y (by rfl),by decide,bat2 T (by decide)⟩ ⟨nTk T Y (by rfl),by decide,bat2 T (by decide)⟩ ⟨nTk T Y (by rfl),by decide,bat2 T (by decide)⟩ ⟨nTk T Y (by rfl),by decide,bat2 T (by decide)⟩ f (c,P) h
noncomputable def ctR:Nat->Option (Nat×Addr):=gw [(30,(32,34)),(37,(33,41)),(44,(34,48)),(199,(53,203))]
theorem AC {f:Nat}{c P:Addr}(h:ctF f=some (c,P)):ctR P=some (f,c):=oS (P:=fun f q=>ctR q.2=some (f,q.1)) rfl rfl rfl rfl f (c,P) h
theorem mi (T:aZ w h₀ mg mb)(Y:e9 h₀ X):(B2 w h₀ mg mb X).Ok where
 inj:=gE
 nA:=wC "A" (by decide +kernel) (by decide +kernel)
 xk:=Y
 hd:=fun f c P h=>by
  refine pL (hd2 T Y h) fun h1 h2 h3=>?_;exact⟨wX T h,h1,h2,h3,fun bm h4=>by cases h4.symm.trans (vE T);exact nT2 Y rfl (let ⟨_,_,h5,_,h6,_⟩:=T.bmain;by cases h5.symm.trans (vE T);exact BG h6)⟩
 ctinj:=fun f f' c c' P h h'=>by
  cases(AC h).symm.trans (AC h')
  exact⟨rfl,rfl⟩
 g:=T.g
 b:=T.b
 gT:=nT2 Y rfl T.g.lt
 bT:=nT2 Y rfl T.b.lt
 nolimit:=T.nolimit
 csT:=nT2 Y rfl (let ⟨_,h,_⟩:=T.nolimit;h.lt)
 sysm:=T.low
 blts:=blts2 T
 mnm:=bf (Bb.mpr ⟨rfl,Bb.mpr ⟨rfl,Bb.mpr ⟨rfl,Bb.mpr ⟨rfl,Bb.mpr ⟨rfl,Bb.mpr ⟨rfl,Bb.mpr ⟨rfl,Bb.mpr ⟨rfl,Bb.mpr ⟨rfl,C1 _⟩⟩⟩⟩⟩⟩⟩⟩⟩)
 dbg:=fun x=>by
  rw[beq_eq_false_iff_ne];exact wC "__debug__" (by decide +kernel) (by decide +kernel) x
 cld:=fun x=>by
  rw[beq_eq_false_iff_ne];exact wC "__classdict__" (by decide +kernel) (by decide +kernel) x
 attr:=xb (B:=B2 w h₀ mg mb X) gE (cls2 T Y) (by rfl) AK (by rfl)
end
end Mine
namespace Mine
section
variable {w:World}{h₀:Heap}{mg mb:Str->Option Value}{X:Option Lz}
theorem df (T:aZ w h₀ mg mb)(Y:e9 h₀ X){f fid:Nat}{ps:List (Nat×Pos)}{sc:LK}{body:List Stmt}{fa c:Addr}{qual:Str}
  (e1:nsIn (K2 w) BQ (aY f)=some (some (.ref fa)))
  (e2:oF (K2 w) fa=some ⟨aV aY ps,.stmts body,aR aY sc,.function,false,false,BQ,Cc,[],.none,.none,.ref c,qual⟩)
  (e3:iJ (K2 w) c=some qual) (hn:(((K2 w).lookup fa).isSome&&!(fa==30||fa==37||fa==44||fa==199)&&(((K2 w).lookup c).isSome&&!(c==30||c==37||c==44||c==199)))=true)
  (hfid:fid=0\/(Value.ref c=(B2 w h₀ mg mb X).cd fid/\qual++(".<locals>." : Str)=(B2 w h₀ mg mb X).pq fid))
  (hd:decide ((sc.map (·.1)).Nodup/\(ps.map (·.1)).Nodup/\(∀q∈sc,q.2=.local\/q.2=.cell\/q.2=.globalImplicit)/\∀x∈ps.map (·.1),sc.lookup x=some .local\/sc.lookup x=some .cell)=true):
  ∃fo fd,bp (B2 w h₀ mg mb X) f fid (ps.map (·.1)) sc body fa fo fd:=
 have d:=of_decide_eq_true hd;have z:=Dh.mp hn
 t7 (B:=B2 w h₀ mg mb X) (KF:=K2 w) T.k T.g e1 e2 e3 (nTk T Y z.1) (nTk T Y z.2) hfid d.1 gE d.2.1 d.2.2.1 d.2.2.2
theorem lg (T:aZ w h₀ mg mb)(Y:e9 h₀ X):∃fo fd,bp (B2 w h₀ mg mb X) 30 0 (fT.map (·.1)) jR i1 21 fo fd:=
 df T Y (ps:=fT) (c:=20) (qual := "get_parent_map") (by rfl) (by rfl) (by rfl) (BN true) (.inl rfl) (BN true)
theorem kb (T:aZ w h₀ mg mb)(Y:e9 h₀ X):∃fo fd,bp (B2 w h₀ mg mb X) 31 0 (cB.map (·.1)) dL (fm aY cF) 28 fo fd:=
 df T Y (ps:=cB) (c:=27) (qual := "_is_wildcard_tag") (by rfl) (by rfl) (by rfl) (BN true) (.inl rfl) (BN true)
theorem pf (T:aZ w h₀ mg mb)(Y:e9 h₀ X):∃fo fd,bp (B2 w h₀ mg mb X) 32 32 (c6.map (·.1)) dX (fm aY (bI (qZ (eD "_prepare_tag")))) 35 fo fd:=
 df T Y (ps:=c6) (c:=34) (qual := "_prepare_tag") (by rfl) (by rfl) (by rfl) (BN true) (.inr ⟨by rfl,by rfl⟩) (BN true)
theorem mr (T:aZ w h₀ mg mb)(Y:e9 h₀ X):∃fo fd,bp (B2 w h₀ mg mb X) 33 33 (di.map (·.1)) de (fm aY (bh (qR (eD "prepare_child")))) 42 fo fd:=
 df T Y (ps:=di) (c:=41) (qual := "prepare_child") (by rfl) (by rfl) (by rfl) (BN true) (.inr ⟨by rfl,by rfl⟩) (BN true)
theorem lf (T:aZ w h₀ mg mb)(Y:e9 h₀ X):∃fo fd,bp (B2 w h₀ mg mb X) 34 34 (dZ.map (·.1)) fK (fm aY b7) 49 fo fd:=
 df T Y (ps:=dZ) (c:=48) (qual := "prepare_parent") (by rfl) (by rfl) (by rfl) (BN true) (.inr ⟨by rfl,by rfl⟩) (BN true)
theorem AA (T:aZ w h₀ mg mb)(Y:e9 h₀ X):∃fo fd,bp (B2 w h₀ mg mb X) 35 0 (qb.map (·.1)) xI (fm aY xV) 82 fo fd:=
 df T Y (ps:=qb) (c:=81) (qual := "escape") (by rfl) (by rfl) (by rfl) (BN true) (.inl rfl) (BN true)
theorem oR (T:aZ w h₀ mg mb)(Y:e9 h₀ X):∃fo fd,bp (B2 w h₀ mg mb X) 37 0 (dG.map (·.1)) eW (fm aY (dH (eM (eD "_escape_cdata")))) 96 fo fd:=
 df T Y (ps:=dG) (c:=95) (qual := "_escape_cdata") (by rfl) (by rfl) (by rfl) (BN true) (.inl rfl) (BN true)
theorem mt (T:aZ w h₀ mg mb)(Y:e9 h₀ X):∃fo fd,bp (B2 w h₀ mg mb X) 38 0 (dk.map (·.1)) eJ (fm aY (du (eM (eD "_escape_attrib")))) 103 fo fd:=
 df T Y (ps:=dk) (c:=102) (qual := "_escape_attrib") (by rfl) (by rfl) (by rfl) (BN true) (.inl rfl) (BN true)
theorem iH (T:aZ w h₀ mg mb)(Y:e9 h₀ X):∃fo fd,bp (B2 w h₀ mg mb X) 39 0 (bM.map (·.1)) cJ (fm aY (bO (eM (eD "_escape_attrib_html")))) 110 fo fd:=
 df T Y (ps:=bM) (c:=109) (qual := "_escape_attrib_html") (by rfl) (by rfl) (by rfl) (BN true) (.inl rfl) (BN true)
theorem i0 (T:aZ w h₀ mg mb)(Y:e9 h₀ X):∃fo fd,bp (B2 w h₀ mg mb X) 40 0 (b6.map (·.1)) cZ (fm aY (b9 (eM (eD "_escape_cdata_c14n")))) 117 fo fd:=
 df T Y (ps:=b6) (c:=116) (qual := "_escape_cdata_c14n") (by rfl) (by rfl) (by rfl) (BN true) (.inl rfl) (BN true)
theorem iI (T:aZ w h₀ mg mb)(Y:e9 h₀ X):∃fo fd,bp (B2 w h₀ mg mb X) 41 0 (bN.map (·.1)) cK (fm aY (bP (eM (eD "_escape_attrib_c14n")))) 124 fo fd:=
 df T Y (ps:=bN) (c:=123) (qual := "_escape_attrib_c14n") (by rfl) (by rfl) (by rfl) (BN true) (.inl rfl) (BN true)
theorem ub (T:aZ w h₀ mg mb)(Y:e9 h₀ X):∃fo fd,bp (B2 w h₀ mg mb X) 42 0 (ff.map (·.1)) fc (fm aY d9) 131 fo fd:=
 df T Y (ps:=ff) (c:=130) (qual := "_law_cells") (by rfl) (by rfl) (by rfl) (BN true) (.inl rfl) (BN true)
theorem ph (T:aZ w h₀ mg mb)(Y:e9 h₀ X):∃fo fd,bp (B2 w h₀ mg mb X) 43 0 (d0.map (·.1)) ba (fm aY d8) 138 fo fd:=
 df T Y (ps:=d0) (c:=137) (qual := "_law_written") (by rfl) (by rfl) (by rfl) (BN true) (.inl rfl) (BN true)
theorem pj (T:aZ w h₀ mg mb)(Y:e9 h₀ X):∃fo fd,bp (B2 w h₀ mg mb X) 44 0 (d6.map (·.1)) dY (fm aY cn) 145 fo fd:=
 df T Y (ps:=d6) (c:=144) (qual := "_law_spelled") (by rfl) (by rfl) (by rfl) (BN true) (.inl rfl) (BN true)
theorem vx (T:aZ w h₀ mg mb)(Y:e9 h₀ X):∃fo fd,bp (B2 w h₀ mg mb X) 45 0 (fP.map (·.1)) fM (fm aY dR) 152 fo fd:=
 df T Y (ps:=fP) (c:=151) (qual := "_law_tree") (by rfl) (by rfl) (by rfl) (BN true) (.inl rfl) (BN true)
theorem ua (T:aZ w h₀ mg mb)(Y:e9 h₀ X):∃fo fd,bp (B2 w h₀ mg mb X) 46 0 (fe.map (·.1)) fb (fm aY cC) 157 fo fd:=
 df T Y (ps:=fe) (c:=156) (qual := "_law_drawn") (by rfl) (by rfl) (by rfl) (BN true) (.inl rfl) (BN true)
theorem vy (T:aZ w h₀ mg mb)(Y:e9 h₀ X):∃fo fd,bp (B2 w h₀ mg mb X) 47 0 (fQ.map (·.1)) ij (fm aY fV) 164 fo fd:=
 df T Y (ps:=fQ) (c:=163) (qual := "_law_fits") (by rfl) (by rfl) (by rfl) (BN true) (.inl rfl) (BN true)
theorem jB (T:aZ w h₀ mg mb)(Y:e9 h₀ X):∃fo fd,bp (B2 w h₀ mg mb X) 48 0 (dO.map (·.1)) dN (fm aY b8) 169 fo fd:=
 df T Y (ps:=dO) (c:=168) (qual := "_law_lies") (by rfl) (by rfl) (by rfl) (BN true) (.inl rfl) (BN true)
theorem vz (T:aZ w h₀ mg mb)(Y:e9 h₀ X):∃fo fd,bp (B2 w h₀ mg mb X) 49 0 (fR.map (·.1)) fN (fm aY dS) 176 fo fd:=
 df T Y (ps:=fR) (c:=175) (qual := "_law_ends") (by rfl) (by rfl) (by rfl) (BN true) (.inl rfl) (BN true)
theorem yc (T:aZ w h₀ mg mb)(Y:e9 h₀ X):∃fo fd,bp (B2 w h₀ mg mb X) 50 0 (gC.map (·.1)) jq (fm aY gH) 183 fo fd:=
 df T Y (ps:=gC) (c:=182) (qual := "_law_tag") (by rfl) (by rfl) (by rfl) (BN true) (.inl rfl) (BN true)
theorem vw (T:aZ w h₀ mg mb)(Y:e9 h₀ X):∃fo fd,bp (B2 w h₀ mg mb X) 51 0 (fO.map (·.1)) fL (fm aY dQ) 190 fo fd:=
 df T Y (ps:=fO) (c:=189) (qual := "_law_wish") (by rfl) (by rfl) (by rfl) (BN true) (.inl rfl) (BN true)
theorem t8 (T:aZ w h₀ mg mb)(Y:e9 h₀ X):∃fo fd,bp (B2 w h₀ mg mb X) 52 0 (jX.map (·.1)) qW oX 197 fo fd:=
 df T Y (ps:=jX) (c:=196) (qual := "_law_thing") (by rfl) (by rfl) (by rfl) (BN true) (.inl rfl) (BN true)
theorem pk (T:aZ w h₀ mg mb)(Y:e9 h₀ X):∃fo fd,bp (B2 w h₀ mg mb X) 53 53 (iw.map (·.1)) nX lm 204 fo fd:=
 df T Y (ps:=iw) (c:=203) (qual := "_law_context") (by rfl) (by rfl) (by rfl) (BN true) (.inr ⟨by rfl,by rfl⟩) (BN true)
theorem vA (T:aZ w h₀ mg mb)(Y:e9 h₀ X):∃fo fd,bp (B2 w h₀ mg mb X) 54 0 (fS.map (·.1)) ik (fm aY fW) 209 fo fd:=
 df T Y (ps:=fS) (c:=208) (qual := "_law_down") (by rfl) (by rfl) (by rfl) (BN true) (.inl rfl) (BN true)
theorem Ay (T:aZ w h₀ mg mb)(Y:e9 h₀ X):∃fo fd,bp (B2 w h₀ mg mb X) 55 0 (iT.map (·.1)) kQ (fm aY iY) 214 fo fd:=
 df T Y (ps:=iT) (c:=213) (qual := "_law_up") (by rfl) (by rfl) (by rfl) (BN true) (.inl rfl) (BN true)
theorem t9 (T:aZ w h₀ mg mb)(Y:e9 h₀ X):∃fo fd,bp (B2 w h₀ mg mb X) 56 0 (cA.map (·.1)) gA (fm aY fh) 219 fo fd:=
 df T Y (ps:=cA) (c:=218) (qual := "_law_found") (by rfl) (by rfl) (by rfl) (BN true) (.inl rfl) (BN true)
theorem d_law (T:aZ w h₀ mg mb)(Y:e9 h₀ X):∃fo fd,bp (B2 w h₀ mg mb X) 57 0 (uT.map (·.1)) uN (fm aY kZ) 224 fo fd:=
 df T Y (ps:=uT) (c:=223) (qual := "law") (by rfl) (by rfl) (by rfl) (BN true) (.inl rfl) (BN true)
theorem Az (T:aZ w h₀ mg mb)(Y:e9 h₀ X):∃fo fd,lA (B2 w h₀ mg mb X) (K2 w) 25 63 fo fd (qq 86 8 12) (qq 86 8 17) (qq 86 20 24) (qq 86 8 24):=
 xW (B:=B2 w h₀ mg mb X) (KF:=K2 w) T.k (slf:=25) (a1:=(qq 85 17 21)) (a2:=(qq 85 23 27)) (fI:=63) (c:=62) (qual := "_SelectorContext.__init__") (by rfl) (by rfl) (by rfl) (nTk T Y (by rfl)) (nTk T Y (by rfl)) gE (by decide)
end
end Mine
namespace Mine
mutual
noncomputable def D.pl:D->Bool
 |.dict ..=>false
 |.cx _=>false
 |.thing ns vs=>ns.length != 1&&qc vs
 |.list l=>qc l
 |.tup l=>qc l
 |.lam _ l=>qc l
 |_=>true
noncomputable def qc:List D->Bool
 |[]=>true
 |d::r=>d.pl&&qc r
end
inductive lu (h:Heap)(b:Addr):Prop
 |mk (o:Obj) (es:Array DictEntry) (n:Nat) (g:h.get? b=some o) (d:o.data=.dict es n) (s:es.size=1)
 |dead (g:h.get? b=none)
theorem lu.no {h:Heap}{b:Addr}{o:Obj}(l:lu h b)(g:h.get? b=some o)(d:∀es n,o.data=.dict es n->es.size≠1):False:=by
 obtain⟨o',es,n,g',d',s⟩|g':=l
 rotate_left
 ·rw[g] at g';exact kS g'
 obtain rfl:=A0 (g.symm.trans g');exact d es n d' s
section
variable {B:Bs}{X:Option Lz}{h:Heap}{W W':AP}
theorem lam_sw (hW:∀b,W' b->W b\/lu h b){id:Nat}{cv:List Value}{a:Addr}(l:B.Lam id cv h W a):Bs.Lam { B with X:=X } id cv h W' a:=by
 obtain⟨L,fo,fd,e,g,d,nw,l⟩:=l;refine⟨L,fo,fd,e,g,d,fun q=>(hW a q).elim nw fun z=>z.no g fun es n e=>(by rw[d] at e;exact nomatch e),l.params,l.body,l.scope,l.glob,l.blt,l.dfl,l.qual,l.code,l.len,l.only,l.keys,l.nms,l.apart,fun i x v h1 h2=>?_⟩;refine x1211 (l.cells i x v h1 h2) fun c h3 h4 o h5 h6=>?_;exact⟨c,h3,fun q=>(hW c q).elim h4 fun z=>z.no h5 fun es n e=>(by rw[h6] at e;exact nomatch e),o,h5,h6⟩
mutual
theorem aw.sw (hW:∀b,W' b->W b\/lu h b):∀(d:D)(v:Value),d.pl=true->aw B h W d v->aw { B with X:=X } h W' d v
 |.nil,_,_,r=>r
 |.bool _,_,_,r=>r
 |.int _,_,_,r=>r
 |.str _,_,_,r=>r
 |.list ds,v,p,r=>by
  simp only[aw] at r ⊢;obtain⟨a,vs,n,e,w,g,l,r⟩:=r;exact⟨a,vs,n,e,fun q=>(hW a q).elim w fun z=>z.no g fun es n e=>(nomatch e),g,l,ab.sw hW ds _ p r⟩
 |.tup ds,v,p,r=>by
  simp only[aw] at r ⊢;obtain⟨a,vs,n,e,w,g,l,r⟩:=r;exact⟨a,vs,n,e,fun q=>(hW a q).elim w fun z=>z.no g fun es n e=>(nomatch e),g,l,ab.sw hW ds _ p r⟩
 |.dict _ _,_,p,_=>ce p
 |.cx _,_,p,_=>ce p
 |.thing ns ds,v,p,r=>by
  simp only[aw] at r ⊢;obtain⟨a,dx,n,ts,dv,e,w,g,wx,gx,l1,l2,r⟩:=r;refine aS (Dh.mp (show(ns.length != 1&&qc ds)=true from p)) fun p1 p2=>?_;have hn:ns.length≠1:=by simpa using p1
  refine⟨a,dx,n,ts,dv,e,fun q=>(hW a q).elim w fun z=>z.no g fun es n e=>(nomatch e),g,fun q=>(hW dx q).elim wx fun z=>z.no gx fun es n e=>?_,gx,l1,l2,ab.sw hW ds _ p2 r⟩
  cases e
  have h3:=ab.length r;refine AZ B7 ?_;unfold gm;simp only[Bx,List.length_zip]
  lia
 |.lam id caps,v,p,r=>by
  simp only[aw] at r ⊢;obtain⟨a,cv,e,w,l,r⟩:=r;refine⟨a,cv,e,fun q=>(hW a q).elim w fun z=>?_,lam_sw hW l,ab.sw hW caps _ p r⟩;obtain⟨L,fo,fd,J,g,d,J⟩:=l;exact z.no g fun es n e=>(by rw[d] at e;exact nomatch e)
 |.bi _,_,_,r=>r
 |.slo lo hi,v,_,r=>by
  simp only[aw] at r ⊢;obtain⟨a,l,u,e,w,g,h1,h2⟩:=r;exact⟨a,l,u,e,fun q=>(hW a q).elim w fun z=>z.no g fun es n e=>(nomatch e),g,h1,h2⟩
theorem ab.sw (hW:∀b,W' b->W b\/lu h b):∀(d:List D)(v:List Value),qc d=true->ab B h W d v->ab { B with X:=X } h W' d v
 |[],_,_,r=>r
 |d::ds,vs,p,r=>by
  simp only[ab] at r ⊢;obtain⟨v,r',e,h1,h2⟩:=r;refine aS (Dh.mp (show(d.pl&&qc ds)=true from p)) fun p1 p2=>?_;exact⟨v,r',e,aw.sw hW d v p1 h1,ab.sw hW ds r' p2 h2⟩
end
end
section
variable {B:Bs}(O:B.Ok)
include O
variable {KF:Frag}{Γ:aj}{ρ:ac}{K:Nat}
noncomputable def phiN:bU:=⟨fun J J=>none,fun J J=>none,fun J J=>none⟩
theorem AB {slf:Nat}{fI:Addr}{fo:Obj}{fd:Cu}{p1 p2 p3 p4:Pos}(Z:l4 B KF)(F:lA B KF slf fI fo fd p1 p2 p3 p4)(hne:slf≠19)(hK:24<=K){y id fl:Nat}{lps:List (Nat×Pos)}{lb:E}{lsc:LK}{fams:D}{q1 q2 q3 q4 q5 q6 q7 q8 q9 q10 q11 q12 q13:Pos}
  (hC:B.mg (B.nm 23)=some (.ref B.C)) (k23:Γ 23=some .globalImplicit) (kr:Γ 19=some .local) (ky:Γ y=some .cell) (hy:y≠19) (hl:xf B id fl lps lb lsc) (hfr:av lsc=[y]) (hsc:jS Γ lsc=true) (hf0:fl≠0) (hff:Γ.f=fl) (hρ:ρ y=some (.fz fams)) (hr:ρ 19=none) (hpl:fams.pl=true):
  so B K Γ ρ [.Assign [.Name (B.nm 19) q1] (.Call (.Name (B.nm 23) q2) [.Constant .none 0 q3] [] q4) q5,.Assign [.Attribute (.Name (B.nm 19) q6) (B.nm 22) q7] (.Lambda (aV B.nm lps) (lb.py B.nm) (cy B.nm lsc) q8) q9,.Return (some (.Call (.Name (B.nm 23) q10) [.Name (B.nm 19) q11] [] q12)) q13]
   (.thing [19] [.thing [19,22] [.nil,.lam id [fams]]]):=by
 intro Wc W0 pe A s Q E X0 R k
 have hseal:=vY O (K:=K) (Φ:=phiN) (N:=0) (x:=y) Γ ρ (.nx (ρ.set y (.sealed fams))) (by
  simp only[hJ];refine AZ hρ ?_
  simp only[ky,if_true]) Wc W0 pe A s Q E [.Assign [.Name (B.nm 19) q1] (.Call (.Name (B.nm 23) q2) [.Constant .none 0 q3] [] q4) q5,.Assign [.Attribute (.Name (B.nm 19) q6) (B.nm 22) q7] (.Lambda (aV B.nm lps) (lb.py B.nm) (cy B.nm lsc) q8) q9,.Return (some (.Call (.Name (B.nm 23) q10) [.Name (B.nm 19) q11] [] q12)) q13] X0 R
 refine hseal ?_;intro s0 Wc' W g0 X e0;have kr':=(X.kinds 19 _ kr).1;refine Br (CC (B6 (ou O X k23 hC ?_)) rfl);refine callWith_K (Z.z.here X.good) Z.keep ?_ (aC B.nm (Mine.E.nil q3) _ _) rfl;refine AZ (show EW q4 (C6 [.Constant .none 0 q3] pe)=[(false,eval (.Constant .none 0 q3) pe)] from(bH O B.nm q4 pe [Mine.E.nil q3]).trans (by refine AZ a0<|AZ (aC _ _ _ _) ?_;rfl)) ?_;refine B5 (FH (Cj ⟨Z.z.here X.good,?_⟩));refine Ea (kT O Z F hne X.good (R.less (by lia)) fun s1 xx dx tk e1 hx hdx gx gd=>?_);have X1:=X.move O e1;have nlow:∀b,s0.heap.objs.size<=b->¬W b:=fun b hb q=>Bd _ (Ba (X.wlt _ q) hb);have new:∀b,s0.heap.objs.size<=b->¬B.T b:=fun b hb t=>(X.good.hi hb).2 t;have hns:¬am (ρ.set y (.sealed fams)) 19:=fun⟨d,e⟩=>by
  have e':(if 19=y then some (fu.sealed fams) else ρ 19)=some (.sealed d):=e;rw[if_neg hy.symm,hr] at e';exact ah e'
 refine Ctx.storeE' O X1 (.inl kr) hns (en:=.fz (.thing [19] [.nil])) (fun J e=>nomatch e) ?_ (fun J e=>e.elim) fun s2 X2 e2 hs2 hl2=>?_
 ·show aw B s1.heap W (.thing [19] [.nil]) (.ref xx)
  simp only[aw];exact⟨xx,dx,1,[tk],[.none],rfl,nlow _ hx,gx,nlow _ hdx,gd,rfl,rfl,ab.cons rfl ab.nil⟩
 have LT:¬B.T pe.locals:=fun q=>X.locW.2 (X.tW _ q);have zo:=fw O X1 hns;have gx2:=e2.keep _ _ (new _ hx) (fun q=>nlow _ hx (zo _ q).1) gx;have gd2:=e2.keep _ _ (new _ hdx) (fun q=>nlow _ hdx (zo _ q).1) gd;refine ak (dA.ns O kr' hl2.1) fun m2 n2 hm2=>?_;refine Br (D5 ?_)
 refine cX O (v6 O hl (K:=K) (Φ:=phiN) (p:=q8)) (x:=.lam id [fams]) (r:=.d (.lam id [fams])) (by
  refine AZ sB<|AZ (if_pos ⟨hsc,hf0,hff⟩)<|AZ hfr ?_
  simp[ac.set,hy]) rfl X2 R fun vl s3 e3 X3 rl=>?_
 have gx3:=e3.keep _ _ (new _ hx) gx2;have gd3:=e3.keep _ _ (new _ hdx) gd2;have n3:=CN.moved n2 fun o z=>e3.keep _ o LT z;have hLd:pe.locals≠dx:=fun q=>nlow _ hdx (q▸X.locW.1);refine BX (BF X.fn kr' n3 (v:=.ref xx) hm2 ?_) (O.dbg 19);refine jQ (B:=B) (Z.z.here X3.good) (eL gx3 gd3) Z.set rfl Z.z.plain (Z.taker 22 (.inr rfl)) Z.hasDict (iy O (x:=19) (y:=22) (by decide)) gd3 (jr O (x:=19) (y:=22) (by decide)) rfl (by simp[gm]) fun h4 sb4 gd4=>?_;have nko:∀o,s3.heap.get? dx=some o->¬B.KO o:=fun o e=>by
  obtain rfl:=A0 (gd3.symm.trans e);exact mF (es:=(gm B.w.params [.str (B.nm 19) tk] [.none]).toArray) rfl (fun(q:Value.type "dict" = Value.type "code")=>nomatch q) fun e he=>by
   obtain rfl:=BK.mp (show e∈[_] from he);exact beq_eq_false_iff_ne.mpr (O.nA 19)
 have e4:ao B ⟨fun b=>b=dx,fun J=>False⟩ s3 { s3 with heap:=h4,toks:=s3.toks+2 }:=cM O (new _ hdx) nko sb4;have g4:aK B { s3 with heap:=h4,toks:=s3.toks+2 }:=X3.good.moveP e4 fun b q=>q▸X.good.hi hdx;have n4:h4.Ns pe.locals m2:=CN.moved n3 fun o z=>sb4.extBut _ _ hLd z
 have gx4:h4.get? xx=some (Dd B.C dx):=sb4.extBut _ _ (by
  intro q;rw[q,gd3] at gx3
  exact nomatch gx3) gx3
 have gm4:h4.Ns pe.globals B.mg:=by
  refine AZ X.glob ?_;exact CN.moved O.g fun o e=>g4.base _ _ O.gT e
 refine Br (Dw (B6 (Fv X.fn (X.kinds _ _ k23).1 (loadGlobal_global gm4 hC ?_) (O.dbg 23))));refine callWith_K (Z.z.here g4) Z.keep ?_ (aC B.nm (.name 19 q11) _ _) rfl;refine AZ (show EW q12 (C6 [.Name (B.nm 19) q11] pe)=[(false,eval (.Name (B.nm 19) q11) pe)] from(bH O B.nm q12 pe [.name 19 q11]).trans (by refine AZ a0<|AZ (aC _ _ _ _) ?_;rfl)) ?_;refine B5 (BX (BF X.fn kr' n4 (v:=.ref xx) hm2 (Cj ⟨Z.z.here g4,?_⟩)) (O.dbg 19));refine Ea (kT O Z F hne g4 (R.less (by lia)) fun s5 x5 d5 tk5 e5 hx5 hd5 gx5 gd5=>?_);have sz04:s0.heap.objs.size<=h4.objs.size:=Bf e1.size (Bf e2.size (Bf e3.size e4.size));have low:∀b,s0.heap.objs.size<=b->¬Wc b:=fun b hb q=>nlow b hb (X.cW _ (g0.c b q));have eA:ao B (fB W0 Wc) s s1:=e0.trans (e1.toP ⟨fun J=>False,fun J=>False⟩) (fun b q=>q.elim) fun i q=>q.elim;have eB:ao B (fB W0 Wc) s s3:=(eA.trans e2 (fun b q=>g0.own b (zo b q).1 (zo b q).2) fun i q=>q.elim).trans (e3.toP ⟨fun J=>False,fun J=>False⟩) (fun b q=>q.elim) fun i q=>q.elim
 ·have eC:ao B (fB W0 Wc) s s5:=(eB.trans e4 (fun b q=>.inr (by refine AZ q ?_;exact Bf e0.size hdx)) fun i q=>q.elim).trans (e5.toP ⟨fun J=>False,fun J=>False⟩) (fun b q=>q.elim) fun i q=>q.elim
  refine k _ _ eC ?_;have hsw:∀b,cw W (fun b=>b=dx) b->W b\/lu s3.heap b:=fun b q=>q.imp_right fun q=>by
   subst q;exact .mk _ _ _ gd3 rfl rfl
  have pl:(D.lam id [fams]).pl=true:=by
   show(fams.pl&&true)=true;refine AZ hpl ?_;rfl
  have r3:aw B s3.heap (cw W fun b=>b=dx) (.lam id [fams]) vl:=aw.sw (X:=B.X) hsw _ _ pl rl;have r4:aw B h4 (cw W fun b=>b=dx) (.lam id [fams]) vl:=aw.move O (fun b o q z=>sb4.extBut b o (fun w=>q.elim (fun q=>q (.inr w)) fun q=>nko o (w▸z) q) z) (fun b q=>.inl q) _ _ r3;have r5:aw B s5.heap Wc (.lam id [fams]) vl:=aw.move O (fun b o q z=>q.elim (fun q=>e5.keep b o (fun t=>q (.inl (X.tW' b t))) z) fun q=>e5.ck b o q z) (fun b q=>.inl (.inl (X.cW b (g0.c b q)))) _ _ r4;simp only[aw] at r5 ⊢;have hx54:∀b,s0.heap.objs.size<=b->¬B.T b:=new;refine⟨x5,d5,1,[tk5],[.ref xx],rfl,low _ (Bf sz04 hx5),gx5,low _ (Bf sz04 hd5),gd5,rfl,rfl,ab.cons ?_ ab.nil⟩;simp only[aw];exact⟨xx,dx,_,[tk,_],[.none,vl],rfl,low _ hx,e5.keep _ _ (new _ hx) gx4,low _ hdx,e5.keep _ _ (new _ hdx) gd4,rfl,rfl,ab.cons rfl (ab.cons r5 ab.nil)⟩
end
end Mine
namespace Mine
noncomputable def sY:List Nat:=[40,41,91,93,123,125,63,42,43,45,124,94,36,92,46,38,126,35,32,9,10,13,11,12]
noncomputable def tP (c:Nat):Option (List Nat):=if sY.contains c then some [92,c] else none
noncomputable def x8 (w:World):Array DictEntry:=match(K2 w).lookup 72 with
 |some ⟨_,_,.dict es _,_⟩=>es
 |_=>#[]
noncomputable def Al (e:DictEntry):Bool:=match e.key with
 |.int k _=>e.hash==hashInt k&&(match k with|.ofNat n=>sY.contains n|_=>false)
 |_=>false
noncomputable def hit72 (es:List DictEntry) (c:Nat):Bool:=match((es.find? fun e=>Value.isInt (c:Int) e.key).map (·.val):Option Value) with
 |some (.str y _)=>y==⟨#[92,c]⟩
 |_=>false
theorem qA (w:World):(x8 w).toList.all Al=true:=by rfl
theorem x7 (w:World):sY.all (hit72 (x8 w).toList)=true:=by rfl
noncomputable def n72 (w:World):Nat:=match(K2 w).lookup 72 with
 |some ⟨_,_,.dict _ n,_⟩=>n
 |_=>0
theorem Ah (w:World):(K2 w).lookup 72=some ⟨.type "dict", none,.dict (x8 w) (n72 w), #[]⟩:=by rfl
noncomputable def f72 (w:World) (k:Int):Option Value:=findBy Value.isInt (x8 w) k
set_option tactic.hygienic true in
theorem tab72 (w:World):AR (f72 w) tP:=by
 intro c;unfold tP
 by_cases hc:sY.contains c=true
 ·refine AZ (if_pos hc) ?_
  refine⟨rfl,?_⟩;have:=Bp.mp (x7 w) c (by simpa using hc);unfold hit72 at this
  split at this
  ·rename_i y t he
   have hy:y=⟨#[92,c]⟩:=by simpa using this
   refine⟨t,?_⟩;unfold f72 findBy;exact AZ (BE (Fn))<|AZ he<|AZ hy rfl
  ·exact ce this
 ·refine AZ (if_neg hc) ?_
  show f72 w c=none;unfold f72 findBy;refine AZ (BE (Fn)) ?_;have:(x8 w).toList.find? (fun e=>Value.isInt (c:Int) e.key)=none:=by
   refine AZ (propext (Fp)) ?_;intro e he;have h:=Bp.mp (qA w) e he;unfold Al at h
   split at h
   ·rename_i k t hk
    refine AZ hk ?_;replace h:=Dh.mp h;intro hi;have hk':k=(c:Int):=by
     simp only[Value.isInt] at hi
     first
      |exact(by simpa using hi)
      |exact(by simpa using hi:(c:Int)=k).symm
    subst hk';exact hc (by simpa using h.2)
   ·exact ce h
  refine AZ this ?_;rfl
section
variable {w:World}{h₀:Heap}{mg mb:Str->Option Value}{X:Option Lz}
set_option tactic.hygienic true in
theorem map72 (T:aZ w h₀ mg mb):h₀.MapOf (PySem.intKind PySem.Challenge.pw_wb0058_02 w) 72 (f72 w):=by
 refine⟨_,x8 w,n72 w,T.k _ _ (Ah w),⟨rfl,rfl,rfl⟩,rfl,fun e he=>?_,fun k=>rfl⟩;have h:=Bp.mp (qA w) e (by simpa using he);unfold Al at h
 split at h
 ·rename_i k t hk
  simp only[Bz,beq_iff_eq] at h;exact⟨k,by refine AZ hk ?_;simp[PySem.intKind,Value.isInt],h.1⟩
 ·exact ce h
noncomputable def c35 (args:List D):Option D:=(lst1 args).bind fun a=>a.str?.bind fun l=>if l.length<=lim/\(lO tP l).length<=lim then some (.str (lO tP l)) else none
noncomputable def c52 (args:List D):Option D:=(lst2 args).map fun q=>.thing [19,20] [q.1,q.2]
noncomputable abbrev cc (l:List D):D:=.thing [19,22] [.nil,.lam 0 [.list l]]
noncomputable def c53 (args:List D):Option D:=(lst1 args).bind fun a=>a.list?.bind fun l=>if qc l then some (.thing [19] [cc l]) else none
noncomputable def aG:bU where
 call:=fun f args=>(gw [(35,c35),(52,c52),(53,c53)] f).bind fun g=>g args
 lam:=fun _ _=>none
 gen:=fun _ _=>none
noncomputable def inn:D->D
 |.cx d=>d
 |d=>d
open Classical in
noncomputable def iu (f:Nat)(d:D):Option D:=if f=30/\d=.cx (cc ((inn d).fams.map .str)) then some (.dict ((ml (inn d).fams).map .str) ((ma (inn d).fams).map .str)) else none
open Classical in
theorem psi_inv {f:Nat}{d r:D}(h:iu f d=some r):f=30/\∃fs:List (List Nat),d=.cx (.thing [19,22] [.nil,.lam 0 [.list (fs.map .str)]])/\r=.dict ((ml fs).map .str) ((ma fs).map .str):=
 ⟨(aJ h).1.1,(inn d).fams,(aJ h).1.2,(aJ h).2.symm⟩
open Classical in
theorem psi_eq (fs:List (List Nat)):iu 30 (.cx (cc (fs.map .str)))=some (.dict ((ml fs).map .str) ((ma fs).map .str)):=by
 have e:(inn (.cx (cc (fs.map .str)))).fams=fs:=rI fs;unfold iu;exact AZ e<|AZ (if_pos ⟨rfl,rfl⟩) rfl
theorem xi:e9 h₀ none:=fun _ e=>ah e
noncomputable def lxT:Lx:=⟨og.map (·.1),j1,gG⟩
theorem call35 (T:aZ w h₀ mg mb)(Y:e9 h₀ X){args:List D}{d:D}(h:c35 args=some d):cu (B2 w h₀ mg mb X) 26 35 args d:=by
 obtain⟨a,ha,h0⟩:=ai h;obtain rfl:=wG ha;obtain⟨l,hl',h1⟩:=ai h0;obtain⟨hl,rfl⟩:=aJ h1;have:=str?_eq hl';subst this;obtain⟨fo,fd,F⟩:=AA T Y;refine rS (mi T Y) (K:=24) F rfl ?_;exact tV (mi T Y) (x:=76) (l:=l) (d:=72) (f:=f72 w) (g:=tP) (by rfl) (by rfl) (by rfl) (by rfl) (show mg (aY 24)=some (.ref 72) from mg_of T.k T.g (by rfl)) (nTk T Y (by rfl)) (by decide) (map72 T) (tab72 w) hl.2 (by decide)
theorem call52 (T:aZ w h₀ mg mb)(Y:e9 h₀ X){args:List D}{d:D}(h:c52 args=some d):cu (B2 w h₀ mg mb X) 26 52 args d:=by
 obtain⟨q,ha,rfl⟩:=aI h;obtain rfl:=wF ha;obtain⟨fo,fd,F⟩:=t8 T Y;obtain⟨fo',fd',FI⟩:=Az T Y;refine rS (mi T Y) (K:=24) F rfl ?_;exact uI (mi T Y) (set2 T Y) FI (by decide) (by lia) (x:=115) (t:=20) (f:=20) (e:=.name 116 (qq 258 29 35)) (Φ:=aG) (show mg (aY 23)=some (.ref 66) from mg_of T.k T.g (by rfl)) (by rfl) (by rfl) (by rfl) (by decide) (by rfl) (.inl rfl) (nP (mi T Y)) (by rfl)
theorem lo0:xf (B2 w h₀ mg mb X) 0 53 og gG j1:=⟨rfl,by show zl 53=pqF 53++_;rfl,203,199,rfl⟩
theorem call53 (T:aZ w h₀ mg mb)(Y:e9 h₀ X){args:List D}{d:D}(h:c53 args=some d):cu (B2 w h₀ mg mb X) 26 53 args d:=by
 obtain⟨a,ha,h0⟩:=ai h;obtain rfl:=wG ha;obtain⟨l,hl,h1⟩:=ai h0;obtain rfl:=list?_eq hl;obtain⟨hp,rfl⟩:=aJ h1;obtain⟨fo,fd,F⟩:=pk T Y;obtain⟨fo',fd',FI⟩:=Az T Y;refine rS (mi T Y) (K:=24) F rfl ?_;exact AB (mi T Y) (set2 T Y) FI (by decide) (by decide) (y:=122) (id:=0) (fl:=53) (lps:=og) (lb:=gG) (lsc:=j1) (show mg (aY 23)=some (.ref 66) from mg_of T.k T.g (by rfl)) (by rfl) (by rfl) (by rfl) (by decide) lo0 (by rfl) (by rfl) (by decide) (by rfl) (by rfl) (by rfl) hp
theorem base2 (T:aZ w h₀ mg mb)(Y:e9 h₀ X):bD (B2 w h₀ mg mb X) 26 aG where
 lam:=fun id caps args d h=>by exact ah h
 gen:=fun id caps args l _ h=>by exact ah h
 call:=fun f args d h=>by
  obtain⟨g,hg,h1⟩:=ai h;exact bf (P:=fun f g=>g args=some d->cu (B2 w h₀ mg mb X) 26 f args d) (Bb.mpr ⟨call35 T Y,Bb.mpr ⟨call52 T Y,Bb.mpr ⟨call53 T Y,C1 _⟩⟩⟩) f g hg h1
end
end Mine
namespace Mine
noncomputable abbrev NN:Nat:=100
noncomputable def jy (n:String):List ExceptHandler:=eM (eD n)
noncomputable def tx (ps:List (Nat×Pos))(sc:LK) (fid:Nat)(ir:List St):Tx:=⟨ps.map (·.1),sc,fid,ir⟩
noncomputable def tF1:Nat->Option Tx:=gw [(31,tx cB dL 0 cF),
 (37,tx dG eW 0 (dH (jy "_escape_cdata"))),
 (38,tx dk eJ 0 (du (jy "_escape_attrib"))),
 (39,tx bM cJ 0 (bO (jy "_escape_attrib_html"))),
 (40,tx b6 cZ 0 (b9 (jy "_escape_cdata_c14n"))),
 (41,tx bN cK 0 (bP (jy "_escape_attrib_c14n"))),
 (42,tx ff fc 0 d9),
 (44,tx d6 dY 0 cn),
 (45,tx fP fM 0 dR),
 (46,tx fe fb 0 cC),
 (47,tx fQ ij 0 fV),
 (34,tx dZ fK 34 b7),
 (32,tx c6 dX 32 (bI (qZ (eD "_prepare_tag"))))]
noncomputable def tG1:Nat->Option Gx:=gw [(11,⟨bj.map (·.1),aW,74,aF⟩),(12,⟨bA.map (·.1),bv,74,aP⟩),(13,⟨bY.map (·.1),bX,74,bb⟩),(14,⟨bz.map (·.1),bu,74,aO⟩),(15,⟨bx.map (·.1),bt,74,aN⟩),(16,⟨bw.map (·.1),br,74,aM⟩)]
noncomputable def tF2:Nat->Option Tx:=gw [(43,tx d0 ba 0 d8),
 (33,tx di de 33 (bh (qR (eD "prepare_child")))),
 (50,tx gC jq 0 gH),
 (55,tx iT kQ 0 iY),
 (48,tx dO dN 0 b8)]
noncomputable def tF3:Nat->Option Tx:=gw [(51,tx fO fL 0 dQ),
 (54,tx fS ik 0 fW),
 (48,tx dO dN 0 b8)]
noncomputable def tF4:Nat->Option Tx:=gw [(48,tx dO dN 0 b8)]
noncomputable def tF9:Nat->Option Tx:=gw [(49,tx fR fN 0 dS)]
noncomputable def no {α:Type}(_:Nat):Option α:=none
noncomputable def aT:bU:=aG.up NN iu tF1 no tG1
noncomputable def dm:bU:=aT.up NN iu tF2 no no
noncomputable def dC:bU:=dm.up NN iu tF3 no no
noncomputable def gh:Nat->bU
 |0=>dC
 |n+1=>(gh n).up NN iu tF4 no no
noncomputable def uV:bU:=(gh 6).up NN iu tF9 no no
noncomputable def zI:Tx:=tx uT uN 0 kZ
section
variable {w:World}{h₀:Heap}{mg mb:Str->Option Value}{X:Option Lz}
theorem fC {sc:LK}(h:sc.all (fun q=>q.2==.free||q.2==.local||q.2==.cell||q.2==.globalImplicit)=true):∀x k,sc.lookup x=some k->k=.free\/k=.local\/k=.cell\/k=.globalImplicit:=by
 intro x k hk;have:=Bp.mp h (x,k) (t7.mem_of_lookup' hk);simp only[BZ,beq_iff_eq] at this;rcases this with((h|h)|h)|h
 ·exact .inl h
 ·exact .inr (.inl h)
 ·exact .inr (.inr (.inl h))
 ·exact .inr (.inr (.inr h))
theorem zA {ps:List (Nat×Pos)}(h:(ps.map (·.1)).Nodup):(ps.map fun q=>aY q.1).Nodup:=by
 have:(ps.map fun q=>aY q.1)=(ps.map (·.1)).map aY:=by refine AZ BR ?_;rfl
 refine AZ this ?_;exact D4 aY (fun a b hab e=>hab (gE _ _ e)) h
theorem gP {ps:List (Nat×Pos)}(h:(ps.map (·.1)).Nodup):∀(fd:Cu)(vals:List Value),fd.params=aV aY ps->fd.defaults=.none->fd.kwdefaults=.none->vals.length=(ps.map (·.1)).length->Fu fd ⟨vals,[]⟩=pure (((ps.map (·.1)).map aY).zip vals):=by
 intro fd vals h1 h2 h3 hl;have:=jD aY (zA h) fd vals h1 h2 h3 (by simpa using hl);refine AZ this<|AZ BR ?_;rfl
theorem gx11:pu (B2 w h₀ mg mb X) 11 (yo 34 bj aF aW) (bj.map (·.1)) aW aF:=
 ⟨rfl,rfl,rfl,rfl,rfl,rfl,rfl,gP (by decide),by decide,fC (by decide),by decide⟩
theorem gx12:pu (B2 w h₀ mg mb X) 12 (yo 33 bA aP bv) (bA.map (·.1)) bv aP:=
 ⟨rfl,rfl,rfl,rfl,rfl,rfl,rfl,gP (by decide),by decide,fC (by decide),by decide⟩
theorem gx13:pu (B2 w h₀ mg mb X) 13 (yo 32 bY bb bX) (bY.map (·.1)) bX bb:=
 ⟨rfl,rfl,rfl,rfl,rfl,rfl,rfl,gP (by decide),by decide,fC (by decide),by decide⟩
theorem gx14:pu (B2 w h₀ mg mb X) 14 (yo 32 bz aO bu) (bz.map (·.1)) bu aO:=
 ⟨rfl,rfl,rfl,rfl,rfl,rfl,rfl,gP (by decide),by decide,fC (by decide),by decide⟩
theorem gx15:pu (B2 w h₀ mg mb X) 15 (yo 32 bx aN bt) (bx.map (·.1)) bt aN:=
 ⟨rfl,rfl,rfl,rfl,rfl,rfl,rfl,gP (by decide),by decide,fC (by decide),by decide⟩
theorem gx16:pu (B2 w h₀ mg mb X) 16 (yo 32 bw aM br) (bw.map (·.1)) br aM:=
 ⟨rfl,rfl,rfl,rfl,rfl,rfl,rfl,gP (by decide),by decide,fC (by decide),by decide⟩
theorem lx0:LExp (B2 w h₀ mg mb X) 0 ⟨aV aY og,.expr (gG.py aY),cy aY j1,zl 53,av j1⟩ (og.map (·.1)) j1 gG:=
 ⟨rfl,rfl,rfl,rfl,rfl,rfl,rfl,gP (by decide),by decide,fC (by decide),by decide⟩
theorem do11 {p:List (Nat×Pos)}(h:p=bj):iP (B2 w h₀ mg mb X) 63 11 34 p (gf aY aF) aW true:=by
 subst h;exact⟨rfl,by show zl 34=pqF 34++aY 63;rfl,⟨48,44,rfl⟩,rfl⟩
theorem do12 {p:List (Nat×Pos)}(h:p=bA):iP (B2 w h₀ mg mb X) 63 12 33 p (gf aY aP) bv true:=by
 subst h;exact⟨rfl,by show zl 33=pqF 33++aY 63;rfl,⟨41,37,rfl⟩,rfl⟩
theorem do13 {p:List (Nat×Pos)}(h:p=bY):iP (B2 w h₀ mg mb X) 63 13 32 p (gf aY bb) bX true:=by
 subst h;exact⟨rfl,by show zl 32=pqF 32++aY 63;rfl,⟨34,30,rfl⟩,rfl⟩
theorem do14 {p:List (Nat×Pos)}(h:p=bz):iP (B2 w h₀ mg mb X) 63 14 32 p (gf aY aO) bu true:=by
 subst h;exact⟨rfl,by show zl 32=pqF 32++aY 63;rfl,⟨34,30,rfl⟩,rfl⟩
theorem do15 {p:List (Nat×Pos)}(h:p=bx):iP (B2 w h₀ mg mb X) 63 15 32 p (gf aY aN) bt true:=by
 subst h;exact⟨rfl,by show zl 32=pqF 32++aY 63;rfl,⟨34,30,rfl⟩,rfl⟩
theorem do16 {p:List (Nat×Pos)}(h:p=bw):iP (B2 w h₀ mg mb X) 63 16 32 p (gf aY aM) br true:=by
 subst h;exact⟨rfl,by show zl 32=pqF 32++aY 63;rfl,⟨34,30,rfl⟩,rfl⟩
end
end Mine
namespace Mine
section
variable {w:World}{h₀:Heap}{mg mb:Str->Option Value}{X:Option Lz}
theorem jv {B:Bs}{l:List Lm}(h:l=[]):fZ B l:=by subst h;exact xT
theorem k31:jF (B2 w h₀ mg mb X) cF:=ci (by rfl) (by rfl)
theorem k42:jF (B2 w h₀ mg mb X) d9:=ci (by rfl) (by rfl)
theorem k43:jF (B2 w h₀ mg mb X) d8:=ci (by rfl) (by rfl)
theorem k44:jF (B2 w h₀ mg mb X) cn:=ci (by rfl) (by rfl)
theorem k45:jF (B2 w h₀ mg mb X) dR:=ci (by rfl) (by rfl)
theorem k46:jF (B2 w h₀ mg mb X) cC:=ci (by rfl) (by rfl)
theorem k47:jF (B2 w h₀ mg mb X) fV:=ci (by rfl) (by rfl)
theorem k48:jF (B2 w h₀ mg mb X) b8:=ci (by rfl) (by rfl)
theorem k49:jF (B2 w h₀ mg mb X) dS:=ci (by rfl) (by rfl)
theorem k50:jF (B2 w h₀ mg mb X) gH:=ci (by rfl) (by rfl)
theorem k51:jF (B2 w h₀ mg mb X) dQ:=ci (by rfl) (by rfl)
theorem k54:jF (B2 w h₀ mg mb X) fW:=ci (by rfl) (by rfl)
theorem k55:jF (B2 w h₀ mg mb X) iY:=ci (by rfl) (by rfl)
theorem k57:jF (B2 w h₀ mg mb X) kZ:=ci (by rfl) (by rfl)
theorem k37:jF (B2 w h₀ mg mb X) (dH (jy "_escape_cdata")):=ci (by rfl) (by rfl)
theorem k38:jF (B2 w h₀ mg mb X) (du (jy "_escape_attrib")):=ci (by rfl) (by rfl)
theorem k39:jF (B2 w h₀ mg mb X) (bO (jy "_escape_attrib_html")):=ci (by rfl) (by rfl)
theorem k40:jF (B2 w h₀ mg mb X) (b9 (jy "_escape_cdata_c14n")):=ci (by rfl) (by rfl)
theorem k41:jF (B2 w h₀ mg mb X) (bP (jy "_escape_attrib_c14n")):=ci (by rfl) (by rfl)
theorem k34:jF (B2 w h₀ mg mb X) b7:=⟨(show om b7=[] by rfl)▸xT,(show oQ b7=[⟨63,11,34,bj,gf aY aF,aW,true⟩] by rfl)▸Bb.mpr ⟨do11 rfl,Ax⟩⟩
theorem k33 (v:List Stmt):jF (B2 w h₀ mg mb X) (bh v):=⟨(show om (bh v)=[] by rfl)▸xT,(show oQ (bh v)=[⟨63,12,33,bA,gf aY aP,bv,true⟩] by rfl)▸Bb.mpr ⟨do12 rfl,Ax⟩⟩
theorem k32 (v:List Stmt):jF (B2 w h₀ mg mb X) (bI v):=⟨(show om (bI v)=[] by rfl)▸xT,(show oQ (bI v)=[⟨63,13,32,bY,gf aY bb,bX,true⟩,⟨63,14,32,bz,gf aY aO,bu,true⟩,⟨63,15,32,bx,gf aY aN,bt,true⟩,⟨63,16,32,bw,gf aY aM,br,true⟩] by rfl)▸Bb.mpr ⟨do13 rfl,Bb.mpr ⟨do14 rfl,Bb.mpr ⟨do15 rfl,Bb.mpr ⟨do16 rfl,Ax⟩⟩⟩⟩⟩
theorem kl0:gG.ok (B2 w h₀ mg mb X):=jv (l:=gG.lms) (by rfl)
theorem kg11:xN (B2 w h₀ mg mb X) aF:=jv (l:=oj aF) (by rfl)
theorem kg12:xN (B2 w h₀ mg mb X) aP:=jv (l:=oj aP) (by rfl)
theorem kg13:xN (B2 w h₀ mg mb X) bb:=jv (l:=oj bb) (by rfl)
theorem kg14:xN (B2 w h₀ mg mb X) aO:=jv (l:=oj aO) (by rfl)
theorem kg15:xN (B2 w h₀ mg mb X) aN:=jv (l:=oj aN) (by rfl)
theorem kg16:xN (B2 w h₀ mg mb X) aM:=jv (l:=oj aM) (by rfl)
noncomputable def FOk (B:Bs) (f:Nat)(t:Tx):Prop:=jF B t.ir/\∃fa fo fd,bp B f t.fid t.ps t.sc (fm B.nm t.ir) fa fo fd
noncomputable def GOk (B:Bs)(tL:Nat->Option Lx)(Φ:bU) (id:Nat)(t:Gx):Prop:=xN B t.ss/\tL id=none/\(∀all,Φ.lam id all=none)/\∃L,pu B id L t.ps t.sc t.ss
theorem lam0_ok (T:aZ w h₀ mg mb)(Y:e9 h₀ X)(l:List D):dz (B2 w h₀ mg mb X) 28 0 [.list l] [] (.list l):=
 wd (mi T Y) (K:=26) (t:=lxT) lx0 kl0 (by decide) (base2 T Y) (by rfl)
theorem raw2 (T:aZ w h₀ mg mb)(Y:e9 h₀ X):uj (B2 w h₀ mg mb X):=raw_of (KF:=K2 w) gE (cls2 T Y) (by rfl) (by rfl) (by rfl) (by rfl) (by rfl)
theorem iter2 (T:aZ w h₀ mg mb)(Y:e9 h₀ X):sj (B2 w h₀ mg mb X):=iter_of (KF:=K2 w) gE (cls2 T Y) (by rfl) (by rfl) AK (by rfl) (by rfl)
theorem zx (T:aZ w h₀ mg mb)(Y:e9 h₀ X):pt (B2 w h₀ mg mb X) 32 iu:=by
 intro f d r h;refine x0111 (psi_inv h) fun e91=>?_;subst e91;intro fs e92;subst e92;intro e93;subst e93;refine x2 (lg T Y) fun fo fd F=>?_
 cases X with
 |none=>exact⟨21,fo,fd,F.mg,F.nT,F.at',F.data,fun A s W v g R tW wlt rv=>by obtain⟨x,e,J⟩:=rv;exact ah e⟩
 |some x0=>exact pm_call (B:=B2 w h₀ mg mb (some x0)) (mi T Y) (mi T xi) (set2 T xi) (raw2 T xi) (iter2 T xi) (K:=28) (ctx:=58) (x:=21) (y:=128) (z:=71) (x0:=x0) rfl F (by decide) (by rfl) (by rfl) (by rfl) (by rfl) (by decide) (by decide) (by decide) (by decide) (by decide) (by decide) (by decide) (by decide) (lam0_ok T xi _)
theorem ph1 (T:aZ w h₀ mg mb)(Y:e9 h₀ X):bD (B2 w h₀ mg mb X) 38 aT:=
 sO (mi T Y) (K:=32) (by decide) ((base2 T Y).mono (by decide)) (zx T Y) (bf (P:=FOk _) (Bb.mpr ⟨⟨k31,_,kb T Y⟩,Bb.mpr ⟨⟨k37,_,oR T Y⟩,Bb.mpr ⟨⟨k38,_,mt T Y⟩,Bb.mpr ⟨⟨k39,_,iH T Y⟩,Bb.mpr ⟨⟨k40,_,i0 T Y⟩,Bb.mpr ⟨⟨k41,_,iI T Y⟩,Bb.mpr ⟨⟨k42,_,ub T Y⟩,Bb.mpr ⟨⟨k44,_,pj T Y⟩,Bb.mpr ⟨⟨k45,_,vx T Y⟩,Bb.mpr ⟨⟨k46,_,ua T Y⟩,Bb.mpr ⟨⟨k47,_,vy T Y⟩,Bb.mpr ⟨⟨k34,_,lf T Y⟩,Bb.mpr ⟨⟨k32 _,_,pf T Y⟩,fun J hq=>bE hq⟩⟩⟩⟩⟩⟩⟩⟩⟩⟩⟩⟩⟩)) (fun i t h=>ah h)
  (bf (P:=GOk _ no aG) (Bb.mpr ⟨⟨kg11,rfl,fun J=>rfl,_,gx11⟩,Bb.mpr ⟨⟨kg12,rfl,fun J=>rfl,_,gx12⟩,Bb.mpr ⟨⟨kg13,rfl,fun J=>rfl,_,gx13⟩,Bb.mpr ⟨⟨kg14,rfl,fun J=>rfl,_,gx14⟩,Bb.mpr ⟨⟨kg15,rfl,fun J=>rfl,_,gx15⟩,Bb.mpr ⟨⟨kg16,rfl,fun J=>rfl,_,gx16⟩,fun J hq=>bE hq⟩⟩⟩⟩⟩⟩)) (fun i t h=>ah h)
theorem ph2 (T:aZ w h₀ mg mb)(Y:e9 h₀ X):bD (B2 w h₀ mg mb X) 44 dm:=
 sO (mi T Y) (K:=38) (by decide) (ph1 T Y) ((zx T Y).mono (by decide)) (bf (P:=FOk _) (Bb.mpr ⟨⟨k43,_,ph T Y⟩,Bb.mpr ⟨⟨k33 _,_,mr T Y⟩,Bb.mpr ⟨⟨k50,_,yc T Y⟩,Bb.mpr ⟨⟨k55,_,Ay T Y⟩,Bb.mpr ⟨⟨k48,_,jB T Y⟩,fun J hq=>bE hq⟩⟩⟩⟩⟩)) (fun i t h=>ah h) (fun i t h=>ah h) (fun i t h=>ah h)
theorem ph3 (T:aZ w h₀ mg mb)(Y:e9 h₀ X):bD (B2 w h₀ mg mb X) 50 dC:=
 sO (mi T Y) (K:=44) (by decide) (ph2 T Y) ((zx T Y).mono (by decide)) (bf (P:=FOk _) (Bb.mpr ⟨⟨k51,_,vw T Y⟩,Bb.mpr ⟨⟨k54,_,vA T Y⟩,Bb.mpr ⟨⟨k48,_,jB T Y⟩,fun J hq=>bE hq⟩⟩⟩)) (fun i t h=>ah h) (fun i t h=>ah h) (fun i t h=>ah h)
theorem phL (T:aZ w h₀ mg mb)(Y:e9 h₀ X):∀n:Nat,bD (B2 w h₀ mg mb X) (50+6 * n) (gh n)
 |0=>ph3 T Y
 |n+1=>sO (mi T Y) (K:=50+6 * n) (by lia) (phL T Y n) ((zx T Y).mono (by lia)) (bf (P:=FOk _) (Bb.mpr ⟨⟨k48,_,jB T Y⟩,fun J hq=>bE hq⟩)) (fun i t h=>ah h) (fun i t h=>ah h) (fun i t h=>ah h)
theorem ph9 (T:aZ w h₀ mg mb)(Y:e9 h₀ X):bD (B2 w h₀ mg mb X) 92 uV:=
 sO (mi T Y) (K:=86) (by decide) (phL T Y 6) ((zx T Y).mono (by decide)) (bf (P:=FOk _) (Bb.mpr ⟨⟨k49,_,vz T Y⟩,fun J hq=>bE hq⟩)) (fun i t h=>ah h) (fun i t h=>ah h) (fun i t h=>ah h)
end
end Mine
namespace Mine
section
variable {B:Bs}(O:B.Ok)
include O
variable {Γ:aj}{K N:Nat}{Φ:bU}{pe:Env}{A:BO}
theorem vZ:∀(ss:List St),(∀st∈ss,cQ B K Φ N st)->∀(ρ ρ':ac),aL Φ N Γ ρ ss=some (.nx ρ')->∀(Wc W:AP)(s:Be)(Q:Flow->Be->Prop)(E:VS)(rest:List Stmt),Ctx B Γ Wc W pe ρ s->aD A K->
  (∀s' Wc' W',SG Wc W s Wc' W'->Ctx B Γ Wc' W' pe ρ' s'->ao B (fB W Wc) s s'->wpAny B.M A (execs rest pe) Q E s')->wpAny B.M A (execs (fm B.nm ss++rest) pe) Q E s
 |[],_,ρ,ρ',h,Wc,W,s,Q,E,rest,X,R,k=>by
  cases h
  exact k s Wc W (SG.refl O _ _ _) X (ao.refl _ _)
 |st::ss,hs,ρ,ρ',h,Wc,W,s,Q,E,rest,X,R,k=>by
  simp only[fH,Bh,Bg] at h;refine ak h fun o1 ho1 h=>?_;refine AZ (show fm B.nm (st::ss)++rest=St.py B.nm st++(fm B.nm ss++rest) from BU _ _ _) ?_;refine hs st Bj Γ ρ o1 ho1 Wc W pe A s Q E (fm B.nm ss++rest) X R ?_
  cases o1 with
  |nx ρ1=>
   intro s1 Wc1 W1 g1 X1 e1;refine vZ ss (fun x hx=>hs x (Bi _ hx)) ρ1 ρ' h Wc1 W1 s1 Q E rest X1 R fun s2 Wc2 W2 g2 X2 e2=>?_;exact k s2 Wc2 W2 (SG.trans O g1 e1.size g2) X2 (SG.eff O g1 e1 e2)
  |rt d=>exact nomatch h
end
noncomputable def nmK:List Nat:=[95,102,125,85,118,122,121,120]
noncomputable def i5 (ρ:ac)(root:D):ac:=fun x=>if x=58 then some (.fz (.cx root)) else if nmK.contains x then ρ x else none
noncomputable def cg (ρ:ac):Prop:=∀y d,ρ y≠some (.sealed d)
structure SwOk (ρ:ac)(root:D):Prop where
 ns:cg ρ
 at':ρ 58=some (.fz (.thing [19] [root]))
 pl:∀x,nmK.contains x=true->∀e,ρ x=some e->∃d,e=.fz d/\d.pl=true
 rt:∃l,root=cc l/\qc l=true
 nd:(jL root).Nodup
 k65:(jL root)[0]?=some [65]
 len:(nH root).length=(jL root).length
 kl:(jL root).length<=lim
 vl:∀y∈nH root,y.length<=lim
section
variable {B:Bs}{Γ:aj}{Wc W:AP}{pe:Env}{ρ:ac}{s:Be}
theorem dA.sw {X:Option Lz}{h:Heap}{x:Nat}{v:Value}(l:dA B pe h x v):dA { B with X:=X } pe h x v:=
 l.elim (fun⟨k,m,n,e⟩=>.inl ⟨k,m,n,e⟩) fun⟨k,c,e,hc⟩=>.inr ⟨k,c,e,hc⟩
theorem Ctx.switch (X:Ctx B Γ Wc W pe ρ s)(hB:B.X=none){root:D}(S:SwOk ρ root):∃x:Lz,x.ks=jL root/\x.vs=nH root/\¬W x.dx/\lu s.heap x.dx/\Ctx { B with X:=some x } Γ (cw Wc fun b=>b=x.dx) (cw W fun b=>b=x.dx) pe (i5 ρ root) s:=by
 refine ak (X.vars 58 _ S.at') fun v lv rv=>?_;refine ak S.rt fun l e91=>?_;subst e91;intro hpl;simp only[aX,aw] at rv;obtain⟨a,dx,n,ts,dv,rfl,wa,ga,wdx,gdx,l1,l2,rr⟩:=rv;obtain⟨vr,rest,rfl,r1,r2⟩:=rr;obtain rfl:rest=[]:=r2;obtain⟨t,rfl⟩:∃t,ts=[t]:=by
  match ts,l1 with
  |[t],_=>exact⟨t,rfl⟩
 have gdx:s.heap.get? dx=some { cls:=.type "dict", dict:=none,data:=.dict (gm B.w.params [.str (B.nm 19) t] [vr]).toArray n,slots:=#[] }:=gdx
 have lone:lu s.heap dx:=.mk _ _ _ gdx rfl rfl;have hvr:∃r,vr=.ref r:=by
  simp only[aw] at r1;obtain⟨a',J,J,J,J,e,J⟩:=r1;exact⟨a',e⟩
 refine x1 hvr fun r e91=>?_;subst e91;have hsw:∀b,cw W (fun b=>b=dx) b->W b\/lu s.heap b:=fun b q=>q.imp_right fun q=>by cases(show b=dx from q);exact lone
 have nT:∀b,b≠dx->¬B.T b->¬Bs.T { B with X:=some ⟨a,dx,r,jL (cc l),nH (cc l)⟩ } b:=fun b h1 h2 t=>t.elim (fun⟨f,c,e⟩=>h2 (.inl ⟨f,c,e⟩)) fun⟨x,e,q⟩=>by
  obtain rfl:=A0 e;exact h1 q.symm
 have hLd:pe.locals≠dx:=fun q=>wdx (q▸X.locW.1);have cne:∀c v,s.heap.IsCell c v->c≠dx:=fun c v hc q=>by
  subst q;refine ak hc fun o g d=>?_;obtain rfl:=A0 (gdx.symm.trans g);exact nomatch d
 have noseal:∀y,¬am (i5 ρ (cc l)) y:=fun y ⟨d,e⟩=>by
  unfold i5 at e
  split at e
  ·exact nomatch e
  ·split at e
   ·exact S.ns y d e
   ·exact ah e
 have nosealρ:∀y,¬am ρ y:=fun y ⟨d,e⟩=>S.ns y d e;have val:∀x e,i5 ρ (cc l) x=some e->(x=58/\e=.fz (.cx (cc l)))\/(ρ x=some e/\∃d,e=.fz d/\d.pl=true):=fun x e h=>by
  unfold i5 at h
  split at h
  ·rename_i hx;exact .inl ⟨hx,(A0 h).symm⟩
  ·split at h
   ·rename_i hc;exact .inr ⟨h,S.pl x hc e h⟩
   ·exact ah h
 refine⟨⟨a,dx,r,jL (cc l),nH (cc l)⟩,rfl,rfl,wdx,lone,?_⟩
 exact{
  good:=⟨fun b o t h=>X.good.base b o (fun q=>t (q.elim .inl fun⟨x,e,J⟩=>(by rw[hB] at e;exact ah e))) h,X.good.size,⟨fun x e=>by obtain rfl:=A0 e;exact .raw t n gdx,X.good.ti.2⟩,fun b t=>t.elim (fun t=>X.good.tlt b (.inl t)) fun⟨x,e,q⟩=>by obtain rfl:=A0 e;exact q▸BG gdx⟩
  fn:=X.fn
  glob:=X.glob
  blt:=X.blt
  tW:=fun b t=>t.elim (fun t=>.inl (X.tW b (.inl t))) fun⟨x,e,q⟩=>by obtain rfl:=A0 e;exact .inr q.symm
  cW:=fun b q=>q.imp_left (X.cW b)
  wlt:=fun b q=>q.elim (X.wlt b) fun q=>q▸BG gdx
  loc:=X.loc
  locW:=⟨.inl X.locW.1,fun q=>q.elim X.locW.2 hLd⟩
  ow:=fun b q n=>q.elim (fun w=>let h:=X.ow b w fun z=>n (.inl z);⟨h.1,nT b (fun z=>n (.inr z)) h.2⟩) fun z=>absurd (.inr z) n
  code:=X.code
  kinds:=X.kinds
  cells:=fun x c h=>let ⟨⟨v,hv⟩,h2⟩:=X.cells x c h;⟨⟨v,hv⟩,nT c (cne c _ hv) h2⟩
  apart:=X.apart
  cellW:=fun x c h=>.inr (let ⟨⟨v,hv⟩,_⟩:=X.cells x c h;let z:=(X.cellW x c h).resolve_left (nosealρ x);⟨.inl z.1,fun q=>q.elim z.2 (cne c _ hv)⟩)
  vars:=fun x e h=>by
   rcases val x e h with⟨rfl,rfl⟩|⟨h1,d,rfl,hp⟩
   ·refine⟨.ref a,lv.sw,?_⟩
    simp only[aX,aw];have wa':¬cw W (fun b=>b=dx) a:=fun q=>q.elim wa fun q=>by
     subst q;exact nomatch (A0 (ga.symm.trans gdx))
    have r3:aw { B with X:=some ⟨a,dx,r,jL (cc l),nH (cc l)⟩ } s.heap (cw W fun b=>b=dx) (cc l) (.ref r):=aw.sw hsw _ _ (by
     show((([19,22]:List Nat).length != 1)&&(true&&((qc l&&true)&&true)))=true
     refine AZ hpl ?_;rfl) r1
    simp only[aw] at r3;exact⟨⟨a,dx,r,jL (cc l),nH (cc l)⟩,rfl,rfl,wa',ga,rfl,rfl,r3⟩
   ·refine ak (X.vars x _ h1) fun v lv rv=>?_
    exact⟨v,lv.sw,aw.sw hsw d v hp rv⟩
  sealedW:=fun x q=>absurd q (noseal x)
  owns:=fun x y e e' v v' b h1 h2 l1 l2 o1 o2=>by
   rcases val x e h1 with⟨rfl,rfl⟩|⟨h1,d,rfl,hp⟩<;>exact o1.elim }
end
end Mine
namespace Mine
noncomputable def fdA:List St:=fh.take 5
noncomputable def fdB:List St:=fh.drop 5
noncomputable abbrev ΓD:aj:=aH gA 0
structure Found (args:List D)(ρ1:ac)(root d:D):Prop where
 al:args.length=4
 ap:qc args=true
 a:aL dC NN ΓD (aq (cA.map (·.1)) args fun J=>none) fdA=some (.nx ρ1)
 sw:SwOk ρ1 root
 b:aL dC NN ΓD (i5 ρ1 root) fdB=some (.rt d)
 pl:d.pl=true
noncomputable def iO (args:List D)(d:D):Prop:=∃ρ1 root,Found args ρ1 root d
theorem iO.uniq {args:List D}{d d':D}(h:iO args d)(h':iO args d'):d=d':=by
 refine x2 h fun ρ1 root h=>?_;refine x2 h' fun ρ2 root' h'=>?_
 cases h.a.symm.trans h'.a
 cases h.sw.at'.symm.trans h'.sw.at'
 cases h.b.symm.trans h'.b
 rfl
open Classical in
noncomputable def c56 (args:List D):Option D:=if h:∃d,iO args d then some h.choose else none
theorem c56_of {args:List D}{d:D}(h:iO args d):c56 args=some d:=by
 have h':∃d,iO args d:=⟨d,h⟩;unfold c56;exact AZ (dif_pos h')<|AZ (iO.uniq h'.choose_spec h) rfl
theorem of_c56 {args:List D}{d:D}(h:c56 args=some d):iO args d:=by
 unfold c56 at h
 split at h
 case isFalse=>exact ah h
 rename_i h'
 obtain rfl:=A0 h;exact h'.choose_spec
noncomputable def eR:bU:={ uV with call:=fun f args=>if f=56 then c56 args else uV.call f args }
section
variable {w:World}{h₀:Heap}{mg mb:Str->Option Value}
theorem call56 (T:aZ w h₀ mg mb){args:List D}{d:D}(hc:c56 args=some d):cu (B2 w h₀ mg mb none) 52 56 args d:=by
 refine x2 (of_c56 hc) fun ρ1 root F0=>?_;have O:=mi T (X:=none) xi;refine x2 (t9 T (X:=none) xi) fun fo fd F=>?_;refine⟨219,fo,fd,F.mg,F.nT,F.at',F.data,fun A s W vals g R tW wlt ra=>?_⟩;have ho:=g.base _ _ F.nT F.at';obtain⟨c,oc,vs,t,hc1,hc2,hc3,hc4,hc5⟩:=F.code;have hcd:s.heap.CodeRec fd.code fd.qualname:=⟨c,oc,vs,t,hc1,g.base _ _ hc2 hc3,hc4,hc5⟩;have hl:(cA.map (·.1)).length=args.length:=by refine AZ F0.al ?_;rfl
 have hvl:vals.length=(cA.map (·.1)).length:=by exact AZ (ab.length ra)<|AZ hl rfl
 refine Du R.lim ho F.data F.co F.gen F.body hcd ?_;refine AZ (F.bind vals hvl)<|AZ F.glob<|AZ F.clos<|AZ F.blt ?_
 refine Bk ?_;have wp:∀b,(cw W fun b=>lu s.heap b/\b < s.heap.objs.size) b->b < s.heap.objs.size:=fun b q=>q.elim (wlt b) (·.2);have ra':ab (B2 w h₀ mg mb none) s.heap (cw W fun b=>lu s.heap b/\b < s.heap.objs.size) args vals:=ab.sw (X:=none) (fun b q=>q.imp_right (·.1)) args vals F0.ap ra;refine mK O (sc:=gA) (f:=0) (ρc:=fun J=>none) F.names F.kind F.fid ⟨F.nd,fun x k h=>.inr (F.kinds x k h),fun x h=>?_,fun x c h=>by simp at h,B3,fun z h=>(by exact bE h),fun x e h=>by exact ah h⟩ g (fun b t=>.inl (tW b t)) wp F.ps hl ra' fun s1 env W' X1 hW' e1=>?_
 ·rcases F.kinds x _ h with h|h|h<;>exact nomatch h
 refine⟨aK.lim O (g.move e1),E9 ?_⟩;refine AZ (show fm aY fh=fm aY fdA++fm aY fdB by rfl) ?_;refine vZ O (K:=50) (N:=NN) (Φ:=dC) fdA (fun st hst=>sndSt O (by decide) (ph3 T xi) st ?_) _ ρ1 F0.a _ _ s1 _ _ _ X1 R.deeper fun s2 Wc2 W2 g2 X2 e2=>?_
 ·exact(show ∀st∈fdA,st.ok _ from fun st hs=>⟨(show fdA.all (fun st=>st.lms.isEmpty)=true by rfl)|>fun q=>by
   have:=Bp.mp q st hs;refine AZ (List.isEmpty_iff.mp this) ?_;exact xT,(show fdA.all (fun st=>st.dfs.isEmpty)=true by rfl)|>fun q=>by
   have:=Bp.mp q st hs
   refine AZ (List.isEmpty_iff.mp this) ?_;exact Ax⟩) st hst
 refine x14 (Ctx.switch X2 rfl F0.sw) fun x hk hv hdx hlone Xx=>?_;have dxs:s.heap.objs.size<=x.dx:=by
  refine FX fun hlt=>?_;have nT:¬(B2 w h₀ mg mb none).T x.dx:=fun t=>hdx (X2.tW' _ t);have nW:¬(cw W fun b=>lu s.heap b/\b < s.heap.objs.size) x.dx:=fun q=>hdx (X2.cW _ (g2.c _ q))
  cases ho:s.heap.get? x.dx with
  |none=>exact nW (.inr ⟨.dead ho,hlt⟩)
  |some o=>
   have k1:=e1.keep _ _ nT ho;have k2:=e2.keep _ _ nT (fun q=>(hW' _ q.1).elim nW fun z=>Bd _ (Ba hlt z)) k1;obtain⟨o',es,n,g',d',sz⟩|g':=hlone
   ·obtain rfl:=A0 (k2.symm.trans g')
    exact nW (.inr ⟨.mk _ es n ho d' sz,hlt⟩)
   ·rw[k2] at g';exact kS g'
 have Y:e9 h₀ (some x):=fun x' e=>by
  obtain rfl:=A0 e;exact⟨Bf g.size dxs,hk▸F0.sw.nd,hk▸F0.sw.k65,hk▸hv▸F0.sw.len,hk▸F0.sw.kl,hv▸F0.sw.vl⟩
 have Ox:=mi T Y;have Xx:Ctx (B2 w h₀ mg mb (some x)) ΓD (cw Wc2 fun b=>b=x.dx) (cw W2 fun b=>b=x.dx) env (i5 ρ1 root) s2:=Xx;refine y8 Ox (K:=50) (N:=NN) (Φ:=dC) (by decide) (ph3 T Y) fdB (ci (by rfl) (by rfl)) _ _ _ F0.b _ _ _ _ _ _ _ Xx R.deeper ?_;intro v s3 e3 r3;have rv:aw (B2 w h₀ mg mb none) s3.heap W d v:=aw.sw (B:=B2 w h₀ mg mb (some x)) (X:=none) (fun b q=>.inl (.inl (g2.c _ (.inl q)))) d v F0.pl r3;have ne:∀b o,s.heap.get? b=some o->b≠x.dx:=fun b o h q=>Bd _ (Ba (BG h) (q▸dxs));have own:∀b,b < s.heap.objs.size->¬((cw W2 fun b=>b=x.dx) b/\¬(cw Wc2 fun b=>b=x.dx) b):=fun b hb q=>by
  rcases q.1 with q1|q1
  ·rcases g2.own b q1 (fun z=>q.2 (.inl z)) with z|z
   ·exact(hW' b z.1).elim z.2 fun z=>Bd _ (Ba hb z)
   ·exact Bd _ (Ba hb (Bf e1.size z))
  ·exact q.2 (.inr q1)
 have own1:∀b,b < s.heap.objs.size->¬(W' b/\¬(cw W fun b=>lu s.heap b/\b < s.heap.objs.size) b):=fun b hb q=>(hW' b q.1).elim q.2 fun z=>Bd _ (Ba hb z);have nTx:∀b,b≠x.dx->¬(B2 w h₀ mg mb none).T b->¬(B2 w h₀ mg mb (some x)).T b:=fun b h1 h2 t=>t.elim (fun t=>h2 (.inl t)) fun⟨x',e,q⟩=>by obtain rfl:=A0 e;exact h1 q.symm
 refine⟨v,rfl,⟨fun b o nt h=>?_,fun b o ko h=>?_,Bf e1.size (Bf e2.size e3.size),fun J=>⟨fun J e=>(ah e),(e3.ti Xx.good.ti).2⟩,fun i x h=>?_,fun h=>e3.bare (e2.bare (e1.bare h)),e3.os.trans (e2.os.trans e1.os)⟩,rv⟩
 ·exact e3.keep b o (nTx b (ne b o h) nt) (own b (BG h)) (e2.keep b o nt (own1 b (BG h)) (e1.keep b o nt h))
 ·have ic:mH o:=no_ko (B:=B2 w h₀ mg mb none) ko
  exact e3.ck b o (.inl ic) (e2.ck b o (.inl ic) (e1.ck b o (.inl ic) h))
 ·exact e3.gens i x (fun q=>q) (e2.gens i x (fun q=>q) (e1.gens i x h))
theorem ph10 (T:aZ w h₀ mg mb):bD (B2 w h₀ mg mb none) 92 eR where
 lam:=(ph9 T xi).lam
 gen:=(ph9 T xi).gen
 call:=fun f args d h=>by
  by_cases hf:f=56
  ·subst hf
   exact(call56 T h).mono (by decide)
  ·exact(ph9 T xi).call f args d ((if_neg hf).symm.trans h)
theorem rq (T:aZ w h₀ mg mb){args:List D}{d:D}(h:iZ eR NN zI args=some d):cu (B2 w h₀ mg mb none) 94 57 args d:=by
 refine x2 (d_law T (X:=none) xi) fun fo fd F=>?_;exact we (mi T xi) (t:=zI) F k57 (by decide) (ph10 T) h
end
end Mine
namespace Mine
theorem top2 {w:World}{s₀ s₁:Be}{mg mb:Str->Option Value}{R:WRecords}{loose:List Str}{XP:(Str->Option Value)->Heap->Prop}{p:Hu}(G:Ground p loose R XP w s₀ mg mb s₁.heap)(K:(K2 w).In s₁.heap)(H:∀P∈[30,37,44,199],s₁.heap.get? P=some (tabObj #[])):aZ w s₁.heap mg mb where
 k:=K
 g:=G.T.g
 b:=G.T.b
 nolimit:=G.T.nolimit
 builtins:=G.T.builtins
 bmain:=G.T.bmain
 tabs:=fun P h=>H P (by rcases h with rfl|rfl|rfl|rfl<;>simp)
 low:=G.low
section
variable {w:World}{h₀:Heap}{mg mb:Str->Option Value}
theorem T2n {P:Addr}(t:(B2 w h₀ mg mb none).T P):P=30\/P=37\/P=44\/P=199:=by
 rcases t with⟨f,c,h⟩|⟨J,e,J⟩
 ·exact oS (P:=fun J q=>q.2=30\/q.2=37\/q.2=44\/q.2=199) (.inl rfl) (.inr (.inl rfl)) (.inr (.inr (.inl rfl))) (.inr (.inr (.inr rfl))) f (c,P) h
 ·exact ah e
theorem zW {s:Be}(T:aZ w s.heap mg mb):aK (B2 w s.heap mg mb none) s where
 base:=fun b o J e=>e
 size:=Bq _
 ti:=⟨fun J e=>(ah e),fun f c P h=>⟨#[],T.tabs P (T2n (.inl ⟨f,c,h⟩)),trivial,fun pos v hv=>by exact ah hv⟩⟩
 tlt:=fun b t=>BG (T.tabs b (T2n t))
theorem room2:aD callerA 94:=⟨rfl,by decide +kernel,by decide +kernel⟩
theorem old_of {s s':Be}(T:aZ w s.heap mg mb)(e:ay (B2 w s.heap mg mb none) s s'):OldK s.heap s'.heap:=by
 have tab:∀P,(B2 w s.heap mg mb none).T P->isCodeTable s.heap P/\∃ps,s'.heap.get? P=some (tabObj ps):=fun P t=>by
  obtain⟨f,c,h⟩:∃f c,ctF f=some (c,P):=t.elim id fun⟨J,e,J2⟩=>ah e;refine x94 (wX T h) fun o vs J J J J J J J h1 h2 h3 h4 J=>?_;refine ak ((e.ti (zW T).ti).2 f c P h) fun ps h5 J=>?_;exact⟨⟨c,o,vs,h1,h2,h3,h4⟩,ps,h5⟩
 refine⟨fun b o ho=>?_,fun b o ho=>?_⟩
 ·by_cases t:(B2 w s.heap mg mb none).T b
  ·refine uy (tab b t) fun h1 ps h2=>?_
   have h3:=T.tabs b (T2n t);obtain rfl:=A0 (ho.symm.trans h3);exact .inr (.inl ⟨h1,rfl, #[],ps,rfl,by refine AZ h2 ?_;simp⟩)
  ·exact .inl (e.keep b o t ho)
 ·by_cases t:(B2 w s.heap mg mb none).T b
  ·refine uy (tab b t) fun h1 ps h2=>?_
   exact⟨_,h2⟩
  ·exact⟨o,e.keep b o t ho⟩
theorem pZ {B:Bs}{P:FW}{h:Heap}{W:AP}:∀(l:List Int)(vs:List Value),WellAll P h vs (ofPys (l.map PyData.int))->ab B h W (l.map D.int) vs
 |[],vs,r=>by
  cases r
  exact ab.nil
 |i::l,vs,r=>by
  rw[Bo,ofPys] at r
  cases r with
  |cons h1 h2=>
   rw[ofPy] at h1
   cases h1
   refine ab.cons ?_ (pZ l _ h2);exact⟨_,rfl⟩
end
theorem post2 (a:List WData):PySem.Challenge.rw_wb0058_02.row.claim.post a (WData.bool true) a=true:=by kernel_rfl
set_option tactic.hygienic true in
set_option maxHeartbeats 4000000 in
theorem fin2 (plain:∀l:List Int,l.length<=63->iZ eR NN zI [.list (l.map .int)]=some (.bool true)):PySem.Challenge.rw_wb0058_02.Holds:=by
 refine hd ?_;intro w s₀ s₁ mg mb G Y a hmg hg args vals as hpre hlay hrd hwl hlo;have T:=top2 G (km_in_of Y) (km_tabs_of Y);clear Y;refine cps ?_;intro PP kk
 wrow_args hpre hlay hrd hwl hlo
 rename_i l _ _ _ _ _ _ _ la _ _ _ _ w1 _ _ _ hlen _
 have hlen':l.length<=63:=by lia
 obtain⟨fa,fo,fd,h1,h2,h3,h4,h5⟩:=rq T (plain l hlen');have e1:mg (GF "law")=some (.ref fa):=h1
 have e2:mg (GF "law")=some (.ref a):=hmg
 replace e1:=e2▸e1
 cases e1
 have nTl:¬(B2 w s₁.heap mg mb none).T la:=fun t=>by
  have h6:=T.tabs la (T2n t);rw[ofPy] at w1
  cases w1 with
  |list h7 h8=>rw[h7] at h6;exact nomatch h6
 have rl:aw (B2 w s₁.heap mg mb none) s₁.heap (B2 w s₁.heap mg mb none).T (.list (l.map .int)) (.ref la):=by
  rw[ofPy] at w1
  cases w1 with
  |list h7 h8=>
   exact⟨la,_,_,rfl,nTl,h7,by simp only[Bx];unfold lim;lia,by refine AZ Cx ?_;exact pZ l _ h8⟩
 refine kk ?_;clear kk PP;refine Ea (DJ (h5 callerA s₁ (B2 w s₁.heap mg mb none).T [.ref la] (zW T) room2 (fun b t=>t) (fun b t=>(zW T).tlt b t) (ab.cons rl ab.nil)) ?_);rintro r s' ⟨v,rfl,e,rv⟩;simp only[aw] at rv;subst rv;refine⟨.inl ⟨.bool true,.bool true,[],rfl,fun J=>rfl,.bool true,?_,fun J=>⟨List.nodup_nil,fun b hb=>by exact bE hb⟩⟩,old_of T e,e.os,e.bare (by refine AZ hg ?_;exact AllBare.empty)⟩;exact post2 _
end Mine
namespace Mine
section
variable {Φ:bU}{Γ:aj}{ρ:ac}{N:Nat}{d x y z:D}{p q r:Pos}
theorem aa {n:Nat}(h:ρ n=some (.fz d)):ev Φ Γ ρ (.name n p)=some (.d d):=by exact AZ fj<|AZ h rfl
theorem gJ {n:Nat}(h:ρ n=some (.sealed d)):ev Φ Γ ρ (.name n p)=some (.d d):=by exact AZ fj<|AZ h rfl
theorem eu {n:Nat}{l:List D}(h:ρ n=some (.own l)):ev Φ Γ ρ (.name n p)=some (.own l):=by exact AZ fj<|AZ h rfl
theorem af {i:Int}:ev Φ Γ ρ (.int i p)=some (.d (.int i)):=by exact AZ sC rfl
theorem c9:ev Φ Γ ρ (.nil p)=some (.d .nil):=by exact AZ sx rfl
theorem rO {b:Bool}:ev Φ Γ ρ (.bool b p)=some (.d (.bool b)):=by exact AZ pw rfl
theorem bc {l:List Nat}(h:l.length<=lim):ev Φ Γ ρ (.str l p)=some (.d (.str l)):=by(refine AZ sv ?_;rw[mkS];refine AZ (if_pos h) ?_);rfl
theorem j9 {i:Int}:ev Φ Γ ρ (.neg i p q)=some (.d (.int (-i))):=by exact AZ sA rfl
theorem bB {a b:E}{op:EI}(h1:ev Φ Γ ρ a=some (.d x))(h2:ev Φ Γ ρ b=some (.d y))(h3:D.bin op x y=some z):ev Φ Γ ρ (.bin a op b p)=some (.d z):=by
 refine AZ sG<|AZ h1<|AZ h2 ?_;simp[R.asB,h3]
theorem oL {a b:E}{op:CmpOp}{c:Bool}(h1:ev Φ Γ ρ a=some (.d x))(h2:ev Φ Γ ρ b=some (.d y))(h3:D.cmp op x y=some c):ev Φ Γ ρ (.cmp a op b p)=some (.d (.bool c)):=by
 refine AZ sE<|AZ h1<|AZ h2 ?_;simp[R.asB,h3]
theorem aA {a b:E}{op:CmpOp}{c:Bool}(h1:ev Φ Γ ρ a=some (.d x))(h2:ev Φ Γ ρ b=some (.d y))(h3:D.cmp op x y=some c):cT Φ Γ ρ (.cmp a op b p)=some c:=by
 refine AZ pF<|AZ h1<|AZ h2 ?_;simp[R.asB,h3]
theorem t_cmp2 {a b e:E}{o1 o2:CmpOp}{c1 c2:Bool}(h1:ev Φ Γ ρ a=some (.d x))(h2:ev Φ Γ ρ b=some (.d y))(h3:ev Φ Γ ρ e=some (.d z))(k1:D.cmp o1 x y=some c1)(k2:D.cmp o2 y z=some c2):cT Φ Γ ρ (.cmp2 a o1 b o2 e p)=some (c1&&c2):=by
 refine AZ mW<|AZ h1<|AZ h2<|AZ h3 ?_;cases c1<;>simp[R.asB,k1,k2]
theorem au {a i:E}(h1:ev Φ Γ ρ a=some (.d x))(h2:ev Φ Γ ρ i=some (.d y))(h3:D.item x y=some z):ev Φ Γ ρ (.idx a i p)=some (.d z):=by
 refine AZ mP<|AZ h1<|AZ h2 ?_;simp[R.asB,R.asD,h3]
theorem iG {a:E}{lo hi:Option E}{l h:Option D}(h1:ev Φ Γ ρ a=some (.d x))(h2:xZ Φ Γ ρ lo=some l)(h3:xZ Φ Γ ρ hi=some h)(h4:D.slice x l h=some z):ev Φ Γ ρ (.slc a lo hi p q)=some (.d z):=by
 refine AZ mO<|AZ h1<|AZ h2<|AZ h3 ?_;simp[R.asB,h4]
theorem eZ:xZ Φ Γ ρ none=some none:=by exact AZ nk rfl
theorem eY {e:E}(h:ev Φ Γ ρ e=some (.d x)):xZ Φ Γ ρ (some e)=some (some x):=by refine AZ nj<|AZ h ?_;rfl
theorem eO {es:List E}{l:List D}(h1:g8 Φ Γ ρ es=some l)(h2:l.length<=lim):ev Φ Γ ρ (.list es p)=some (.d (.list l)):=by
 refine AZ kD<|AZ h1 ?_;simp[xS,h2]
theorem fX {es:List E}{l:List D}{k:Nat}(h1:g8 Φ Γ ρ es=some l)(h2:l.length<=lim):ev Φ Γ ρ (.tup es k p)=some (.d (.tup l)):=by
 refine AZ su<|AZ h1 ?_;exact if_pos h2
theorem az:g8 Φ Γ ρ []=some []:=by exact AZ pH rfl
theorem ad {e:E}{r:List E}{l:List D}(h1:ev Φ Γ ρ e=some (.d x))(h2:g8 Φ Γ ρ r=some l):g8 Φ Γ ρ (e::r)=some (x::l):=by
 refine AZ nu<|AZ h1<|AZ h2 ?_;rfl
theorem oM {a:E}{f:Nat}(hn:a.isName=true)(h1:ev Φ Γ ρ a=some (.d x))(h2:D.fld f x=some z):ev Φ Γ ρ (.attr a f p)=some (.d z):=by
 refine AZ pA<|AZ (if_pos hn)<|AZ h1 ?_;simp[R.asD,h2]
theorem ca {f:Nat}{es:List E}{l:List D}(h1:g8 Φ Γ ρ es=some l)(hg:Γ f=some .globalImplicit)(h2:Φ.call f l=some d):ev Φ Γ ρ (.call f es p q)=some (.d d):=by
 refine AZ kE<|AZ h1 ?_;simp[hg,h2]
theorem gy {f:Nat}{es:List E}{l:List D}{b:Bool}(h1:g8 Φ Γ ρ es=some l)(hg:Γ f=some .globalImplicit)(h2:Φ.call f l=some (.bool b)):cT Φ Γ ρ (.call f es p q)=some b:=by
 refine AZ mX<|AZ h1 ?_;simp[hg,h2]
theorem fY {e:E}{n:Nat}(h1:ev Φ Γ ρ e=some (.d (.int (n:Int))))(hg:Γ 5=some .globalImplicit)(hn:n<=lim):ev Φ Γ ρ (.blt 5 [e] p q)=some (.it ((Bn n).map fun(i:Nat)=>.int (i:Int))):=by
 refine AZ px<|AZ (if_pos hg)<|AZ h1 ?_
 have:(0:Int)<=(n:Int)/\(n:Int)<=(lim:Int):=⟨by lia,by lia⟩;simp only[R.asD,Bh,BB];refine AZ (if_pos this) ?_;rfl
theorem gn {f:Nat}{e:E}(h1:ev Φ Γ ρ e=some (.d x))(hg:Γ f=some .globalImplicit)(hf:f≠4/\f≠5)(h2:D.builtin f [x]=some z):ev Φ Γ ρ (.blt f [e] p q)=some (.d z):=by
 refine AZ (kF hf.1 hf.2)<|AZ (if_pos hg)<|AZ h1 ?_
 simp[R.asB,h2]
theorem rL {a e:E}{m:Nat}(hb:(a.isBase&&p.endLine==q.line)=true)(h1:ev Φ Γ ρ a=some (.d x))(h2:ev Φ Γ ρ e=some (.d y))(h3:D.method x m [y]=some z):ev Φ Γ ρ (.meth a m [e] p q)=some (.d z):=by
 refine AZ uw<|AZ (if_pos hb)<|AZ h1<|AZ h2 ?_;simp[R.asD,h3]
theorem Aq {t a b:E}{c:Bool}{r:R}(h1:cT Φ Γ ρ t=some c)(h2:(if c then ev Φ Γ ρ a else ev Φ Γ ρ b)=some r):ev Φ Γ ρ (.ife t a b p)=some r:=by
 refine AZ sD<|AZ h1 ?_;exact h2
theorem se {es:List E}{e:E}{a b:Bool}(h1:cT Φ Γ ρ e=some a)(h2:qz Φ Γ ρ .Or es=some b):qz Φ Γ ρ .Or (e::es)=some (a||b):=by
 refine AZ dK<|AZ h1 ?_;cases a<;>simp[h2]
theorem jf {es:List E}{e:E}{a b:Bool}(h1:cT Φ Γ ρ e=some a)(h2:qz Φ Γ ρ .And es=some b):qz Φ Γ ρ .And (e::es)=some (a&&b):=by
 refine AZ dK<|AZ h1 ?_;cases a<;>simp[h2]
theorem uf:qz Φ Γ ρ .Or []=some false:=by refine AZ kI ?_;rfl
theorem cb {op:EJ}{es:List E}{c:Bool}(h:qz Φ Γ ρ op es=some c):cT Φ Γ ρ (.bop op es p)=some c:=by exact AZ pG<|AZ h rfl
theorem gl {α β:Type}{sc:LK}{n:Nat}{tp:Pos}{body:ac->Option (List β)}{g:α->List β}{c:α->D}(hf:(Tg.name n tp).fit sc ρ=true):∀l:List α,(∀a∈l,body (ρ.set n (.fz (c a)))=some (g a))->eN sc (.name n tp) body ρ (l.map c)=some (l.flatMap g)
 |[],_=>rfl
 |a::l,h=>by
  refine AZ Bo<|AZ f6<|AZ (if_pos hf) ?_
  show((body (ρ.set n (.fz (c a)))).bind fun x=>(eN sc (.name n tp) body ρ (l.map c)).bind fun y=>some (x++y))=_;refine AZ (h a (Bj ..))<|AZ (gl hf l fun b hb=>h b (Bi _ hb)) ?_
  rfl
theorem tS {α β:Type}(k:α->β)(l:List α):(l.flatMap fun a=>[k a])=l.map k:=by
 induction l with
 |nil=>rfl
 |cons a l ih=>refine AZ BJ<|AZ ih ?_;rfl
theorem flat_if {α β:Type}(b:α->Bool)(k:α->β)(l:List α):(l.flatMap fun a=>if b a then[k a] else[])=(l.filter b).map k:=by
 induction l with
 |nil=>rfl
 |cons a l ih=>
  refine AZ BJ<|AZ ih<|AZ DU ?_
  cases b a<;>rfl
theorem jA {α:Type}{elt it:E}{n:Nat}{tp:Pos}{sc:LK}{r:R}{l:List α}{c k:α->D}(ho:jS Γ sc=true)(h1:ev Φ Γ ρ it=some r)(h2:r.asI=some (l.map c))(hf:(Tg.name n tp).fit sc (ρ.cut sc)=true)
  (h:∀a∈l,ev Φ (aB Γ sc) ((ρ.cut sc).set n (.fz (c a))) elt=some (.d (k a))) (hl:l.length<=lim):ev Φ Γ ρ (.comp elt [.mk (.name n tp) it []] sc p)=some (.d (.list (l.map k))):=by
 refine AZ jh<|AZ (if_pos ho)<|AZ h1 ?_
 simp only[Bh,BB,h2];rw[gl (g:=fun a=>[k a]) hf l fun a ha=>?_]
 ·refine AZ (tS _ _) ?_;simp[xS,hl]
 ·simp[f9,iR,h a ha,R.asD]
theorem ka {α:Type}{elt it t:E}{n:Nat}{tp:Pos}{sc:LK}{r:R}{l:List α}{c k:α->D}{b:α->Bool}(ho:jS Γ sc=true)(h1:ev Φ Γ ρ it=some r)(h2:r.asI=some (l.map c))(hf:(Tg.name n tp).fit sc (ρ.cut sc)=true)
  (ht:∀a∈l,cT Φ (aB Γ sc) ((ρ.cut sc).set n (.fz (c a))) t=some (b a)) (h:∀a∈l,b a=true->ev Φ (aB Γ sc) ((ρ.cut sc).set n (.fz (c a))) elt=some (.d (k a))) (hl:l.length<=lim):
  ev Φ Γ ρ (.comp elt [.mk (.name n tp) it [t]] sc p)=some (.d (.list ((l.filter b).map k))):=by
 refine AZ jh<|AZ (if_pos ho)<|AZ h1 ?_
 simp only[Bh,BB,h2];rw[gl (g:=fun a=>if b a then[k a] else[]) hf l fun a ha=>?_]
 ·have:=Cz b l
  refine AZ (flat_if _ _ _) ?_;simp[xS];lia
 ·simp only[ny,f9,ht a ha,Bh,BB]
  cases hb:b a
  ·simp
  ·simp[iR,h a ha hb,R.asD]
theorem cI {n:Nat}{e:E}(h:ev Φ Γ ρ e=some (.d d))(hm:Γ.mine ρ n=true):bJ Φ N Γ ρ (.asg n e p q)=some (.nx (ρ.set n (.fz d))):=by
 refine AZ m8<|AZ h ?_;exact if_pos hm
theorem td {n:Nat}{es:List E}{l:List D}(h:g8 Φ Γ ρ es=some l)(hm:Γ.mine ρ n=true)(hl:l.length<=lim):bJ Φ N Γ ρ (.own n (.list es r) p q)=some (.nx (ρ.set n (.own l))):=by
 refine AZ m6 ?_;simp[h,hm,hl]
theorem lT {n:Nat}{e:E}{l:List D}{q1 q2 q3 q4:Pos}(hn:ρ n=some (.own l))(h:ev Φ Γ ρ e=some (.d d))(hq:(q2.endLine==q3.line)=true)(hl:l.length < lim):bJ Φ N Γ ρ (.app n e q1 q2 q3 q4)=some (.nx (ρ.set n (.own (l++[d])))):=by
 refine AZ nh<|AZ hn ?_;simp only;refine AZ (if_pos hq)<|AZ h ?_;exact if_pos hl
theorem fy {n:Nat}(h:ρ n=some (.fz d))(hc:Γ n=some .cell):bJ Φ N Γ ρ (.seal n)=some (.nx (ρ.set n (.sealed d))):=by
 refine AZ hJ<|AZ h ?_;exact if_pos hc
theorem pV {n:Nat}{l:List D}(h:ρ n=some (.own l)):bJ Φ N Γ ρ (.frz n)=some (.nx (ρ.set n (.fz (.list l)))):=by
 exact AZ jk<|AZ h rfl
theorem s_if {e:E}{a b:List St}{c:Bool}{o:g7}(h:cT Φ Γ ρ e=some c)(h2:(if c then aL Φ N Γ ρ a else aL Φ N Γ ρ b)=some o):bJ Φ N Γ ρ (.ifS e a b p)=some o:=by
 refine AZ m7<|AZ h ?_;exact h2
theorem eQ {e:E}{a b:List St}{o:g7}(h:cT Φ Γ ρ e=some true)(h2:aL Φ N Γ ρ a=some o):bJ Φ N Γ ρ (.ifS e a b p)=some o:=s_if h h2
theorem cH {e:E}{a b:List St}{o:g7}(h:cT Φ Γ ρ e=some false)(h2:aL Φ N Γ ρ b=some o):bJ Φ N Γ ρ (.ifS e a b p)=some o:=s_if h h2
theorem c0 {e:E}(h:ev Φ Γ ρ e=some (.d d)):bJ Φ N Γ ρ (.ret e p)=some (.rt d):=by
 refine AZ jj<|AZ h ?_;rfl
theorem jT {t:Tg}{it:E}{body:List St}{r:R}{l:List D}{o:g7}(h1:ev Φ Γ ρ it=some r)(h2:r.asI=some l)(h3:dF Γ t (fun ρ=>aL Φ N Γ ρ body) ρ l=some o):bJ Φ N Γ ρ (.forS t it body p)=some o:=by
 refine AZ lF<|AZ h1 ?_;simp[h2,h3]
theorem ax:aL Φ N Γ ρ []=some (.nx ρ):=by exact AZ ni rfl
theorem ag {ρ':ac}{s:St}{r:List St}{o:Option g7}(h:bJ Φ N Γ ρ s=some (.nx ρ'))(h2:aL Φ N Γ ρ' r=o):aL Φ N Γ ρ (s::r)=o:=by
 refine AZ fH<|AZ h ?_;exact h2
theorem bF {s:St}{r:List St}(h:bJ Φ N Γ ρ s=some (.rt d)):aL Φ N Γ ρ (s::r)=some (.rt d):=by
 refine AZ fH<|AZ h ?_;rfl
theorem oH {t:Tg}{body:ac->Option g7}:dF Γ t body ρ []=some (.nx ρ):=by exact AZ hU rfl
theorem k9 {n:Nat}{tp:Pos}{body:ac->Option g7}{ρ':ac}{l:List D}{o:Option g7}(hm:Γ.mine ρ n=true)(h1:body (ρ.set n (.fz d))=some (.nx ρ'))(h2:dF Γ (.name n tp) body ρ' l=o):dF Γ (.name n tp) body ρ (d::l)=o:=by
 (refine AZ dU ?_;rw[qH];refine AZ (if_pos hm) ?_);simp only[Bh,BB,h1];exact h2
theorem f_ret {n:Nat}{tp:Pos}{body:ac->Option g7}{l:List D}(hm:Γ.mine ρ n=true)(h1:body (ρ.set n (.fz d))=some (.rt x)):dF Γ (.name n tp) body ρ (d::l)=some (.rt x):=by
 (refine AZ dU ?_;rw[qH];refine AZ (if_pos hm) ?_);simp[h1]
theorem je {a b:Int}:D.cmp .Eq (.int a) (.int b)=some (a==b):=by
 show some (PyData.eqv (.int a) (.int b))=_;simp only[PyData.eqv]
theorem fF {a b:List Nat}:D.cmp .Eq (.str a) (.str b)=some (a==b):=rfl
end
section
variable {Φ:bU}{Γ:aj}{ρ:ac}{N:Nat}{d x y z:D}{p q r:Pos}
theorem v_end {op:EJ}{e:E}{b:Bool}(h:ev Φ Γ ρ e=some (.d (.bool b))):Af Φ Γ ρ op [e]=some (.d (.bool b)):=by
 refine AZ ji<|AZ h ?_;simp[R.asD,D.truth]
theorem uB {op:EJ}{es:List E}{e:E}{b:Bool}(h:ev Φ Γ ρ e=some (.d (.bool b)))(hb:(b==(op==.Or))=true):Af Φ Γ ρ op (e::es)=some (.d (.bool b)):=by
 refine AZ ji<|AZ h ?_;simp only[R.asD,D.truth,Bh,BB,hb,Bool.or_true,if_true]
theorem uC {op:EJ}{es:List E}{e:E}{b:Bool}{r:Option R}(h:ev Φ Γ ρ e=some (.d (.bool b)))(hb:(es.isEmpty||b==(op==.Or))=false)(h2:Af Φ Γ ρ op es=r):Af Φ Γ ρ op (e::es)=r:=by
 refine AZ ji<|AZ h ?_;simp only[R.asD,D.truth,Bh,BB,hb,BP,if_false];exact h2
theorem v_or {a b:E}{c1 c2:Bool}(h1:ev Φ Γ ρ a=some (.d (.bool c1)))(h2:ev Φ Γ ρ b=some (.d (.bool c2))):ev Φ Γ ρ (.bop .Or [a,b] p)=some (.d (.bool (c1||c2))):=by
 refine AZ g9 ?_
 cases c1
 ·exact uC h1 rfl (v_end h2)
 ·exact uB h1 rfl
theorem b_orT {es:List E}{e:E}(h1:cT Φ Γ ρ e=some true):qz Φ Γ ρ .Or (e::es)=some true:=by refine AZ dK<|AZ h1 ?_;rfl
theorem ue {es:List E}{e:E}{r:Option Bool}(h1:cT Φ Γ ρ e=some false)(h2:qz Φ Γ ρ .Or es=r):qz Φ Γ ρ .Or (e::es)=r:=by refine AZ dK<|AZ h1 ?_;exact h2
theorem e8 {es:List E}{e:E}(h1:cT Φ Γ ρ e=some false):qz Φ Γ ρ .And (e::es)=some false:=by refine AZ dK<|AZ h1 ?_;rfl
theorem eF {es:List E}{e:E}{r:Option Bool}(h1:cT Φ Γ ρ e=some true)(h2:qz Φ Γ ρ .And es=r):qz Φ Γ ρ .And (e::es)=r:=by refine AZ dK<|AZ h1 ?_;exact h2
theorem f7:qz Φ Γ ρ .And []=some true:=by refine AZ kI ?_;rfl
theorem t_not {e:E}{b:Bool}(h:cT Φ Γ ρ e=some b):cT Φ Γ ρ (.not e p)=some (!b):=by refine AZ pE<|AZ h ?_;rfl
theorem t_isi {f:Nat}{es:List E}{l:List D}{b:Bool}(hf:ρ f=some (.sealed (.bi 6)))(h1:g8 Φ Γ ρ es=some l)(h2:zT l=some b):cT Φ Γ ρ (.callv f es p q)=some b:=by
 refine AZ lD<|AZ hf ?_;simp[h1,h2]
theorem jz {a i:E}{r:R}(h1:ev Φ Γ ρ a=some r)(k1:r.asB=some x)(h2:ev Φ Γ ρ i=some (.d y))(h3:D.item x y=some z):ev Φ Γ ρ (.idx a i p)=some (.d z):=by
 refine AZ mP<|AZ h1<|AZ h2 ?_;simp[k1,R.asD,h3]
theorem e_slcB {a:E}{lo hi:Option E}{l h:Option D}{r:R}(h1:ev Φ Γ ρ a=some r)(k1:r.asB=some x)(h2:xZ Φ Γ ρ lo=some l)(h3:xZ Φ Γ ρ hi=some h)(h4:D.slice x l h=some z):ev Φ Γ ρ (.slc a lo hi p q)=some (.d z):=by
 refine AZ mO<|AZ h1<|AZ h2<|AZ h3 ?_;simp[k1,h4]
theorem vq {f:Nat}{e:E}{r:R}(h1:ev Φ Γ ρ e=some r)(k1:r.asB=some x)(hg:Γ f=some .globalImplicit)(hf:f≠4/\f≠5)(h2:D.builtin f [x]=some z):ev Φ Γ ρ (.blt f [e] p q)=some (.d z):=by
 refine AZ (kF hf.1 hf.2)<|AZ (if_pos hg)<|AZ h1 ?_;simp[k1,h2]
theorem vt {f:Nat}{a b:E}(h1:ev Φ Γ ρ a=some (.d x))(h2:ev Φ Γ ρ b=some (.d y))(hg:Γ f=some .globalImplicit)(hf:f≠5)(h3:D.builtin2 f x y=some z):ev Φ Γ ρ (.blt2 f a b p q)=some (.d z):=by
 refine AZ kG<|AZ (if_pos hg)<|AZ h1<|AZ h2 ?_;simp[R.asD,hf,h3]
theorem vp {a b:E}{l:List D}(h1:ev Φ Γ ρ a=some (.d x))(h2:ev Φ Γ ρ b=some (.d y))(hg:Γ 5=some .globalImplicit)(h3:D.rng x y=some l):ev Φ Γ ρ (.blt2 5 a b p q)=some (.it l):=by
 refine AZ kG<|AZ (if_pos hg)<|AZ h1<|AZ h2 ?_;simp[R.asD,h3]
theorem e_usub {a:E}{i:Int}(h1:ev Φ Γ ρ a=some (.d (.int i))):ev Φ Γ ρ (.usub a p)=some (.d (.int (-i))):=by
 refine AZ xj<|AZ h1 ?_;rfl
theorem e_bi {n:Nat}(h:Γ n=some .globalImplicit/\(n=6\/n=7)):ev Φ Γ ρ (.bi n p)=some (.d (.bi n)):=by exact AZ vP<|AZ (if_pos h) rfl
theorem rM {t a b:E}{r:R}(h1:cT Φ Γ ρ t=some true)(h2:ev Φ Γ ρ a=some r):ev Φ Γ ρ (.ife t a b p)=some r:=Aq h1 h2
theorem rN {t a b:E}{r:R}(h1:cT Φ Γ ρ t=some false)(h2:ev Φ Γ ρ b=some r):ev Φ Γ ρ (.ife t a b p)=some r:=Aq h1 h2
theorem gj:Ag Φ Γ ρ [] []=some []:=rfl
theorem oe {m:Nat}{ms:List Nat}{e:E}{es:List E}{en:fu}{l:List fu}(h1:ev Φ Γ ρ e=some (.d d))(h2:qD m e d=some en)(h3:Ag Φ Γ ρ ms es=some l):Ag Φ Γ ρ (m::ms) (e::es)=some (en::l):=by
 show(do let d <-(<-ev Φ Γ ρ e).asD;let en <-qD m e d;let r <-Ag Φ Γ ρ ms es;some (en::r))=_;refine AZ h1 ?_;simp[R.asD,h2,h3]
theorem e7 {ms:List Nat}{e:E}{es:List E}{l:List fu}(h1:ev Φ Γ ρ e=some (.d d))(h3:Ag Φ Γ ρ ms es=some l):Ag Φ Γ ρ (0::ms) (e::es)=some (.fz d::l):=oe h1 rfl h3
theorem eK {xs:List (Nat×Pos)}{ms:List Nat}{k k':Nat}{es:List E}{l:List fu}{p q r:Pos}(h:Ag Φ Γ ρ ms es=some l)(h1:xs.length=l.length)(h2:(es.any E.notConst||es.all E.isConst)=true)(h3:(xs.map (·.1)).Nodup)(h4:xs.all (fun q=>Γ.mine ρ q.1)=true)(hl:l.length<=lim):bJ Φ N Γ ρ (.asgT xs ms k (.tup es k' r) p q)=some (.nx (fJ (xs.zip l) ρ)):=by
 refine AZ lK ?_;simp only[h,Bh,BB];exact AZ (if_pos ⟨h1,h2,h3,h4,hl⟩) rfl
theorem uP {xs:List (Nat×Pos)}{k:Nat}{e:E}{ds:List D}(h:ev Φ Γ ρ e=some (.d (.tup ds)))(he:(e.isName||e.isCall)=true)(h1:xs.length=ds.length)(h4:xs.all (fun q=>Γ.mine ρ q.1)=true):bJ Φ N Γ ρ (.asgU xs k e p q)=some (.nx (qV xs ds ρ)):=by
 refine AZ lJ<|AZ (if_pos (he))<|AZ h ?_;simp only[Bh,BB,R.asD];exact AZ (if_pos ⟨h1,h4⟩) rfl
theorem s_app2 {n:Nat}{i e:E}{ll ll':List (List D)}{q1 q2 q3 q4 q5:Pos}(hn:ρ n=some (.own2 ll))(h1:ev Φ Γ ρ i=some (.d x))(h2:ev Φ Γ ρ e=some (.d y))(hq:(q3.endLine==q4.line)=true)(h3:uh ll x y=some ll'):bJ Φ N Γ ρ (.app2 n i e q1 q2 q3 q4 q5)=some (.nx (ρ.set n (.own2 ll'))):=by
 refine AZ lM<|AZ hn ?_;simp only;refine AZ (if_pos hq)<|AZ h1<|AZ h2 ?_;simp[R.asD,h3]
theorem zg {n:Nat}{i e:E}{l l':List D}(hx:ρ n=some (.own l))(h1:ev Φ Γ ρ i=some (.d x))(h2:ev Φ Γ ρ e=some (.d y))(h3:qK l x y=some l'):bJ Φ N Γ ρ (.augI n i .Add e p q r)=some (.nx (ρ.set n (.own l'))):=by
 refine AZ lI<|AZ hx ?_;simp[h1,h2,R.asD,h3]
theorem uO {n:Nat}{e:E}{t u:List Nat}(h:ρ n=some (.fz (.str t)))(h2:ev Φ Γ ρ e=some (.d (.str u)))(hl:(t++u).length<=lim)(hm:Γ.mine ρ n=true):bJ Φ N Γ ρ (.augN n .Add e p q)=some (.nx (ρ.set n (.fz (.str (t++u))))):=by
 refine AZ lH<|AZ h ?_
 simp only[h2,Bh,BB,R.asD];refine AZ (show D.bin .Add (.str t) (.str u)=some (.str (t++u)) from if_pos hl) ?_;simp only[BB];exact AZ (if_pos hm) rfl
theorem s_frz2 {n:Nat}{ll:List (List D)}(h:ρ n=some (.own2 ll))(hl:ll.all (fun r=>decide (r.length<=lim))=true):bJ Φ N Γ ρ (.frz n)=some (.nx (ρ.set n (.fz (.list (ll.map .list))))):=by
 refine AZ jk<|AZ h ?_;simp only;exact AZ (if_pos hl) rfl
theorem zf {c:E}{b:List St}{o:g7}(h:lc (fun ρ=>cT Φ Γ ρ c) (fun ρ=>aL Φ N Γ ρ b) N ρ=some o):bJ Φ N Γ ρ (.whl c b p)=some o:=by exact AZ mY<|AZ h rfl
theorem uA {c:ac->Option Bool}{b:ac->Option g7}{n:Nat}(h:c ρ=some false):lc c b (n+1) ρ=some (.nx ρ):=by
 show(do let t <-c ρ;if t then _ else some (g7.nx ρ))=_;refine AZ h ?_;rfl
theorem qN {c:ac->Option Bool}{b:ac->Option g7}{n:Nat}{ρ':ac}{o:Option g7}(h:c ρ=some true)(h2:b ρ=some (.nx ρ'))(h3:lc c b n ρ'=o):lc c b (n+1) ρ=o:=by
 show(do let t <-c ρ;if t then(do match <-b ρ with|.nx ρ2=>lc c b n ρ2|.rt d=>some (.rt d)) else some (g7.nx ρ))=_;refine AZ h ?_;simp[h2,h3]
theorem Ar {f id:Nat}{caps l items:List D}{es:List E}(hf:ρ f=some (.fz (.lam id caps)))(h1:g8 Φ Γ ρ es=some l)(h2:Φ.lam id (caps++l)=none)(h3:Φ.gen id (caps++l)=some items):ev Φ Γ ρ (.callv f es p q)=some (.it items):=by
 refine AZ mQ<|AZ hf ?_;simp[h1,h2,h3]
theorem t0 {f:E}{id:Nat}{caps l items:List D}{es:List E}(hc:f.isCall=true)(hf:ev Φ Γ ρ f=some (.d (.lam id caps)))(h1:g8 Φ Γ ρ es=some l)(h2:Φ.lam id (caps++l)=none)(h3:Φ.gen id (caps++l)=some items):ev Φ Γ ρ (.calle f es p)=some (.it items):=by
 refine AZ mR<|AZ hc<|AZ hf ?_;simp[R.asD,h1,h2,h3]
end
theorem ae {ρ:ac}{x:Nat}{e:fu}:ρ.set x e x=some e:=by unfold ac.set;exact AZ (if_pos rfl) rfl
theorem set_ne {ρ:ac}{x y:Nat}{e:fu}(h:y≠x):ρ.set x e y=ρ y:=by unfold ac.set;exact AZ (if_neg h) rfl
theorem sN {ρ:ac}{x y:Nat}{e:fu}{v:Option fu}(k:ρ y=v)(h:Nat.beq y x=false:=by rfl):ρ.set x e y=v:=(set_ne (Nat.ne_of_beq_eq_false h)).trans k
theorem cg.set {ρ:ac}(h:cg ρ) (x:Nat)(d:D):cg (ρ.set x (.fz d)):=by
 intro y e he;unfold ac.set at he
 split at he
 ·exact nomatch he
 ·exact h y e he
theorem jZ {ps:List Nat}{args:List D}:cg (aq ps args fun J=>none):=by
 have:∀(l:List (Nat×D)) (ρ:ac),cg ρ->cg (l.foldl (fun ρ q=>ρ.set q.1 (.fz q.2)) ρ):=by
  intro l
  induction l with
  |nil=>intro ρ h;exact h
  |cons a l ih=>intro ρ h;exact ih _ (h.set _ _)
 exact this _ _ fun y d h=>by cases h
theorem cg.setO {ρ:ac}(h:cg ρ) (x:Nat)(d:List D):cg (ρ.set x (.own d)):=by
 intro y e he;unfold ac.set at he
 split at he
 ·exact nomatch he
 ·exact h y e he
theorem cg.mine {ρ:ac}{Γ:aj}(h:cg ρ){x:Nat}(hk:(Γ x==some .local||Γ x==some .cell)=true):Γ.mine ρ x=true:=by
 unfold aj.mine;refine AZ hk ?_
 cases he:ρ x with
 |none=>rfl
 |some e=>cases e with
  |sealed d=>exact absurd he (h x d)
  |_=>rfl
theorem cg.setD {ρ:ac}(h:cg ρ) (x:Nat)(l:List (List Nat)):cg (ρ.set x (.ownD l)):=by
 intro y e he;unfold ac.set at he
 split at he
 ·exact nomatch he
 ·exact h y e he
theorem cg.set2 {ρ:ac}(h:cg ρ) (x:Nat)(d:List (List D)):cg (ρ.set x (.own2 d)):=by
 intro y e he;unfold ac.set at he
 split at he
 ·exact nomatch he
 ·exact h y e he
theorem qY {Φ:bU}{N:Nat}{t:Tx}{args:List D}{d:D}(hl:t.ps.length=args.length)(h:aL Φ N (aH t.sc t.fid) (aq t.ps args fun J=>none) t.ir=some (.rt d)):iZ Φ N t args=some d:=by
 unfold iZ;exact AZ (if_pos hl)<|AZ h rfl
theorem bC {Φ' Φ:bU}{N:Nat}{Ψ:Nat->D->Option D}{tF:Nat->Option Tx}{tL:Nat->Option Lx}{tG:Nat->Option Gx}{f:Nat}{args:List D}{d:D}(t:Tx)(e:Φ'=Φ.up N Ψ tF tL tG)(ht:tF f=some t)(hl:t.ps.length=args.length)(h:aL Φ N (aH t.sc t.fid) (aq t.ps args fun J=>none) t.ir=some (.rt d)):Φ'.call f args=some d:=by
 subst e;show(match tF f with|some t=>iZ Φ N t args|none=>Φ.call f args)=_;refine AZ ht ?_;exact qY hl h
section
variable {Φ:bU}{Ψ:Nat->D->Option D}{rm:Nat}{Γ:aj}{ρ:ac}
theorem dJ:eH Φ Ψ rm Γ ρ []=some ([],ρ):=by exact AZ mT rfl
theorem bq {ρ1 ρ2:ac}{s:Sg}{r:List Sg}{a b:List D}(h:sr Φ Ψ rm Γ ρ s=some (a,ρ1))(h2:eH Φ Ψ rm Γ ρ1 r=some (b,ρ2)):eH Φ Ψ rm Γ ρ (s::r)=some (a++b,ρ2):=by
 refine AZ lC<|AZ h ?_;simp[h2]
theorem vO {c:E}{a:List Sg}{p:Pos}{l:List D}{ρ1:ac}(h:cT Φ Γ ρ c=some true)(h2:eH Φ Ψ rm Γ ρ a=some (l,ρ1)):sr Φ Ψ rm Γ ρ (.ifS c a p)=some (l,ρ1):=by
 refine AZ kH<|AZ h ?_;simp[h2]
theorem ur {c:E}{a:List Sg}{p:Pos}(h:cT Φ Γ ρ c=some false):sr Φ Ψ rm Γ ρ (.ifS c a p)=some ([],ρ):=by
 refine AZ kH<|AZ h ?_;simp
theorem uq {x:Nat}{p q r:Pos}{d:D}(h:ρ.at x=some d):sr Φ Ψ rm Γ ρ (.yld x p q r)=some ([d],ρ):=by
 refine AZ pB<|AZ h ?_;rfl
theorem uu {x:Nat}{e:E}{d:D}{p q:Pos}(h:ev Φ Γ ρ e=some (.d d))(hm:Γ.mine ρ x=true)(hf:d.flat=true)(he:e.isCp=false):sr Φ Ψ rm Γ ρ (.asg x e p q)=some ([],ρ.set x (.fz d)):=by
 refine AZ pC<|AZ h ?_;simp[R.asD,hm,hf,he]
theorem ut {t y:Nat}{tp yp p:Pos}{body:List Sg}{d:D}{items l:List D}{ρ1:ac}(h:ρ.at y=some d)(h2:(R.d d).asI=some items)(h3:eh Γ t (fun ρ=>eH Φ Ψ rm Γ ρ body) ρ items=some (l,ρ1)):sr Φ Ψ rm Γ ρ (.forS t tp y yp body p)=some (l,ρ1):=by
 refine AZ mV<|AZ h ?_;simp[h2,h3]
theorem ye_pm {x f y:Nat}{q1 q2 q3 q4 q5:Pos}{d r:D}(h:ρ.at y=some d)(h2:Ψ f d=some r)(hm:Γ.mine ρ x=true)(hg:Γ f=some .globalImplicit):sr Φ Ψ rm Γ ρ (.pm x f y q1 q2 q3 q4 q5)=some ([],ρ.set x (.fz r)):=by
 refine AZ sH<|AZ h ?_;simp[h2,hm,hg]
theorem ye_newD {x:Nat}{q1 q2 q3:Pos}(hm:Γ.mine ρ x=true)(hx:x=rm):sr Φ Ψ rm Γ ρ (.newD x q1 q2 q3)=some ([],ρ.set x (.ownD [])):=by
 refine AZ mU<|AZ hm<|AZ hx ?_;simp
theorem jG {t:Nat}{body:ac->Option (List D×ac)}{d:D}{r a b:List D}{ρ1 ρ2:ac}(hm:Γ.mine ρ t=true)(h:body (ρ.set t (.fz d))=some (a,ρ1))(h2:eh Γ t body ρ1 r=some (b,ρ2)):eh Γ t body ρ (d::r)=some (a++b,ρ2):=by
 (rw[eh];refine AZ (if_pos hm)<|AZ h ?_);simp[h2]
end
theorem zX {Φ' Φ:bU}{N:Nat}{Ψ:Nat->D->Option D}{tF:Nat->Option Tx}{tL:Nat->Option Lx}{tG:Nat->Option Gx}{i:Nat}{all l:List D}{ρ':ac}(t:Gx)(e:Φ'=Φ.up N Ψ tF tL tG)(ht:tG i=some t)(hl:(av t.sc).length+t.ps.length=all.length)
  (h:eH Φ Ψ t.rm (aH t.sc 0) (aq t.ps (all.drop (av t.sc).length) (cN (av t.sc) (all.take (av t.sc).length))) t.ss=some (l,ρ')) (hlim:l.length<=lim):Φ'.gen i all=some l:=by
 subst e;show(match tG i with|some t=>xJ Φ Ψ t all|none=>Φ.gen i all)=_;refine AZ ht ?_;show xJ Φ Ψ t all=_;unfold xJ;refine AZ (if_pos hl)<|AZ h ?_
 simp only;exact AZ (if_pos hlim) rfl
theorem qX {Φ:bU}{Γ:aj}{ρ:ac}{N x id f:Nat}{ps:List (Nat×Pos)}{b:List Stmt}{sc:LK}{g:Bool}{p:Pos}{caps:List D}(h:jS Γ sc=true/\f≠0/\Γ.f=f/\Γ.mine ρ x=true)(hc:(av sc).mapM (fun x=>match ρ x with|some (.sealed d)=>some d|_=>none)=some caps):
  bJ Φ N Γ ρ (.defS x id f ps b sc g p)=some (.nx (ρ.set x (.fz (.lam id caps)))):=by
 refine AZ lG<|AZ (if_pos h) ?_
 exact(congrArg (fun o:Option (List D)=>o.bind fun caps=>some (g7.nx (ρ.set x (.fz (.lam id caps))))) hc).trans rfl
theorem rE (a b:Nat):((a:Int)==(b:Int))=decide (a=b):=by
 (refine AZ (propext Cr) ?_;rw[beq_iff_eq,decide_eq_true_eq]);exact Int.ofNat_inj
theorem iK {n k:Nat}(h:k<=n):CR n (k:Int)=k:=by
 unfold CR;exact AZ (if_neg (HF.mpr (Cf k)))<|AZ (Int.min_eq_left (DD.mpr h))<|AZ (Int.max_eq_right (Cf k))<|AZ (CZ _) rfl
theorem ud {n k:Nat}(h0:0 < k)(h:k<=n):CR n (-(k:Int))=n - k:=by
 unfold CR;have e:-(k:Int)+n=((n - k:Nat):Int):=by refine AZ (Int.ofNat_sub h)<|AZ (Int.add_comm _ _) ?_;rfl
 exact AZ (if_pos (Int.neg_neg_of_pos (E3.mpr h0)))<|AZ e<|AZ (Int.min_eq_left (DD.mpr (C0 _ _)))<|AZ (Int.max_eq_right (Cf _))<|AZ (CZ _) rfl
theorem kN {t:List Nat}{i:Int}(hi:-(lim:Int)<=i/\i<=lim):D.slice (.str t) none (some (.int i))=some (.str (t.take (CR t.length i))):=by
 have e:D.bnd (some (.int i))=some (some i):=by show(if _ then _ else _)=_;exact AZ (if_pos hi) rfl
 unfold D.slice;refine AZ e ?_;show some (D.str (fE none (some i) t))=_;simp[fE]
theorem nQ {t:List Nat}{i:Int}(hi:-(lim:Int)<=i/\i<=lim):D.slice (.str t) (some (.int i)) none=some (.str (t.drop (CR t.length i))):=by
 have e:D.bnd (some (.int i))=some (some i):=by show(if _ then _ else _)=_;exact AZ (if_pos hi) rfl
 unfold D.slice;refine AZ e ?_;show some (D.str (fE (some i) none t))=_;simp only[fE,GL];exact AZ (DM (by simp)) rfl
noncomputable def stP:St->List St×List St×E×Pos
 |.forS (.name _ p) it b _=>(b,[],it,p)
 |.whl c b _=>(b,[],c,qq 0 0 0)
 |.ifS c a b _=>(a,b,c,qq 0 0 0)
 |.asg _ e _ _=>([],[],e,qq 0 0 0)
 |.app _ e _ _ _ _=>([],[],e,qq 0 0 0)
 |_=>([],[],.nil (qq 0 0 0),qq 0 0 0)
noncomputable def uH (s:St):Pos:=(stP s).2.2.2
noncomputable def rJ (s:St):E:=(stP s).2.2.1
noncomputable def ey (s:St):List St:=(stP s).1
noncomputable def Ap (s:St):List St:=(stP s).2.1
noncomputable def yt:Sg->List Sg
 |.forS _ _ _ _ b _=>b
 |_=>[]
noncomputable abbrev io:St:=.raw []
noncomputable abbrev y00:Sg:=.newD 0 (qq 0 0 0) (qq 0 0 0) (qq 0 0 0)
end Mine
namespace Mine
noncomputable def rp (c:Nat)(z:List Nat)(l:List Nat):List Nat:=l.flatMap fun k=>if k=c then z else[k]
theorem jU (c:Nat)(z:List Nat):∀l:List Nat,c ∉ l->rp c z l=l
 |[],_=>rfl
 |k::r,h=>by
  have h1:¬k=c:=fun e=>h (e▸Bj ..);have ih:=jU c z r fun m=>h (Bi _ m);unfold rp at ih ⊢;refine AZ BJ<|AZ (if_neg h1)<|AZ ih ?_;rfl
theorem pW (c:Nat)(z a b:List Nat):rp c z (a++b)=rp c z a++rp c z b:=Eg
theorem wf (c:Nat)(z:List Nat):∀parts:List Str,(∀p∈parts,c ∉ p.cps.toList)->rp c z (Str.join ⟨#[c]⟩ parts).cps.toList=(Str.join ⟨z.toArray⟩ parts).cps.toList
 |[],_=>rfl
 |[p],h=>jU c z _ (h p (BK.mpr rfl))
 |p::q::r,h=>by
  have ih:=wf c z (q::r) fun a ha=>h a (Bi _ ha);show rp c z (p++⟨#[c]⟩++Str.join ⟨#[c]⟩ (q::r)).cps.toList=(p++⟨z.toArray⟩++Str.join ⟨z.toArray⟩ (q::r)).cps.toList;simp only[Str.cps_append,G5];refine AZ (pW _ _ _ _)<|AZ (pW _ _ _ _)<|AZ ih<|AZ (jU c z _ (h p (Bj ..))) ?_
  show p.cps.toList++rp c z [c]++_=_;simp[rp]
theorem yQ (t z:List Nat) (c:Nat):nJ t [c] z=rp c z t:=by
 show(G8 ⟨t.toArray⟩ ⟨#[c]⟩ ⟨z.toArray⟩).cps.toList=rp c z t;exact AZ (StrLaws.replace_one _ _ _)<|AZ (BE (wf c z _ (StrLaws.split_free _ c)))<|AZ (StrLaws.join_split _ _) rfl
theorem rV (t:List Nat) (c:Nat):Ej ⟨t.toArray⟩ ⟨[c].toArray⟩=decide (c∈t):=by
 have:=GY ⟨t.toArray⟩ c
 simpa [Ej] using this
noncomputable def bQ (m:List (Nat×List Nat)) (c:Nat):List Nat:=(m.lookup c).getD [c]
noncomputable def yM (m:List (Nat×List Nat)) (c:Nat):Bool:=(m.lookup c).isNone&&m.all fun q=>!q.2.contains c
theorem bW {α β:Type} [BEq α] [LawfulBEq α]:∀{l:List (α×β)}{a:α}{b:β},l.lookup a=some b->(a,b)∈l
 |(x,y)::l,a,b,h=>by
  rw[Bu] at h
  split at h
  ·rename_i e;obtain rfl:=A0 h;rw[beq_iff_eq] at e;subst e;exact Bj ..
  ·exact Bi _ (bW h)
theorem qi {α β:Type} [BEq α] [LawfulBEq α](a:α):∀(l m:List (α×β)),(l++m).lookup a=(l.lookup a).or (m.lookup a)
 |[],m=>by simp
 |(x,y)::l,m=>by
  (refine AZ Dl ?_;rw[Bu,Bu])
  split
  ·simp
  ·exact qi a l m
theorem sR {m:List (Nat×List Nat)}{c:Nat}{z w:List Nat}(h:yM m c=true):rp c z (w.flatMap (bQ m))=w.flatMap (bQ (m++[(c,z)])):=by
 unfold yM at h;rw[Bz] at h;obtain⟨h1,h2⟩:=h;have h1:m.lookup c=none:=by simpa using h1
 unfold rp;refine AZ Hm ?_
 congr 1
 funext k
 show rp c z (bQ m k)=_;unfold bQ;rw[qi]
 cases hk:m.lookup k with
 |some v=>
  have:=Bp.mp h2 _ (bW hk);exact jU c z v (by simpa using this)
 |none=>
  simp only[Option.none_or,FD]
  by_cases e:k=c
  ·subst e;simp[rp,C4]
  ·have:(k==c)=false:=by simpa using e
   simp[rp,C4,this,e]
theorem qS {m:List (Nat×List Nat)}(h:m.all (fun q=>decide (q.2.length<=6))=true)(w:List Nat):(w.flatMap (bQ m)).length<=6 * w.length:=by
 induction w with
 |nil=>simp
 |cons k w ih=>
  have:(bQ m k).length<=6:=by
   unfold bQ
   cases hk:m.lookup k with
   |none=>simp
   |some v=>simpa using Bp.mp h _ (bW hk)
  have e:6 * (w.length+1)=6+6 * w.length:=by exact AZ (Nat.mul_add _ _ _)<|AZ (Nat.mul_one _)<|AZ (Nat.add_comm _ _) rfl
  refine AZ BJ<|AZ Bm<|AZ BA<|AZ e ?_
  exact Nat.add_le_add this ih
theorem nR {ρ:ac}{x:Nat}{e:fu}(h:ρ x=some e):ρ.set x e=ρ:=by
 funext y
 unfold ac.set
 by_cases hy:y=x
 ·subst hy;exact AZ (if_pos rfl)<|AZ h rfl
 ·exact AZ (if_neg hy) rfl
theorem sub_ar {a w z:Nat}(l1:a<=6 * w)(hw:w<=100)(h3:z<=6):a+(a+1) * z<=16777216:=
 have h:a<=600:=Bf l1 (Fk 6 hw)
 Bf (Nat.add_le_add h (Nat.mul_le_mul (Cs h) h3)) (by decide)
theorem jM {Φ:bU}{N:Nat}{Γ:aj}{ρ:ac}{x c:Nat}{z w:List Nat}{m:List (Nat×List Nat)}{q1 q2 q3 q4 q5 q6 q7 q8 q9 q10 q11:Pos}(hm:(Γ x==some .local||Γ x==some .cell)=true)(hx:ρ x=some (.fz (.str (w.flatMap (bQ m)))))(hw:w.length<=100)
  (h1:yM m c=true) (h2:m.all (fun q=>decide (q.2.length<=6))=true) (h3:z.length<=6) (hz:[c]≠z) (hq:q6.endLine=q9.line):
  bJ Φ N Γ ρ (.sub x [c] z q1 q2 q3 q4 q5 q6 q7 q8 q9 q10 q11)=some (.nx (ρ.set x (.fz (.str (w.flatMap (bQ (m++[(c,z)]))))))):=by
 refine AZ mZ ?_;refine AZ hx ?_;have hmine:Γ.mine ρ x=true:=by unfold aj.mine;refine AZ hm<|AZ hx ?_;rfl
 have l1:=qS h2 w;have l2:(w.flatMap (bQ (m++[(c,z)]))).length<=6 * w.length:=qS (by refine AZ List.all_append<|AZ h2 ?_;simpa using h3) w;have e1:nJ (w.flatMap (bQ m)) [c] z=w.flatMap (bQ (m++[(c,z)])):=by exact AZ (yQ _ _ _)<|AZ (sR h1) rfl
 simp only;have h4:(w.flatMap (bQ m)).length+((w.flatMap (bQ m)).length+1) * z.length<=16777216:=sub_ar l1 (by assumption) h3;have h5:(nJ (w.flatMap (bQ m)) [c] z).length<=lim:=by refine AZ e1 ?_;unfold lim;lia
 refine AZ (if_pos ⟨hmine,hz,h4,h5,hq⟩) ?_
 ·refine AZ e1<|AZ (rV _ _) ?_
  by_cases hc:c∈w.flatMap (bQ m)
  ·exact AZ (decide_eq_true hc)<|AZ (if_pos rfl) rfl
  ·refine AZ (decide_eq_false hc)<|AZ (if_neg DK) ?_
   congr 2
   refine AZ (BE (sR h1))<|AZ (jU c z _ hc) ?_
   exact(nR hx).symm
noncomputable abbrev amp:List Nat:=[38,97,109,112,59]
noncomputable abbrev alt:List Nat:=[38,108,116,59]
noncomputable abbrev agt:List Nat:=[38,103,116,59]
noncomputable abbrev aqu:List Nat:=[38,113,117,111,116,59]
noncomputable def m0:List (Nat×List Nat):=[(38,amp),(60,alt),(62,agt)]
noncomputable def m1:List (Nat×List Nat):=[(38,amp),(60,alt),(62,agt),(34,aqu),(13,[38,35,49,51,59]),(10,[38,35,49,48,59]),(9,[38,35,48,57,59])]
noncomputable def m2:List (Nat×List Nat):=[(38,amp),(62,agt),(34,aqu)]
noncomputable def m3:List (Nat×List Nat):=[(38,amp),(60,alt),(62,agt),(13,[38,35,120,68,59])]
noncomputable def m4:List (Nat×List Nat):=[(38,amp),(60,alt),(34,aqu),(9,[38,35,120,57,59]),(10,[38,35,120,65,59]),(13,[38,35,120,68,59])]
noncomputable def ju (k:Nat):List (Nat×List Nat):=if k=0 then m0 else if k=1 then m1 else if k=2 then m2 else if k=3 then m3 else m4
theorem iD (w:List Nat):w.flatMap (bQ [])=w:=by
 have:bQ []=fun c=>[c]:=by funext c;rfl
 refine AZ this ?_
 induction w with
 |nil=>rfl
 |cons a w ih=>refine AZ BJ<|AZ ih ?_;rfl
theorem hs_ne {hs:List ExceptHandler}(h:hs.isEmpty=false){Φ:bU}{N:Nat}{Γ:aj}{ρ:ac}{b:List St}{p:Pos}:bJ Φ N Γ ρ (.tryS b hs p)=aL Φ N Γ ρ b:=by
 refine AZ lE<|AZ h ?_;rfl
theorem j7 {Φ:bU}{N:Nat}{Γ:aj}{ρ:ac}{d:D}{p q:Pos}:aL Φ N Γ (ρ.set 78 (.fz d)) [.ret (.name 78 p) q]=some (.rt d):=by
 refine bF ?_;refine AZ jj<|AZ fj ?_;simp[ac.set,R.asD]
theorem jJ {Φ:bU}{N:Nat}{Γ:aj}{ρ:ac}{d:D}{hs:List ExceptHandler}{b:List St}{p:Pos}(hh:hs.isEmpty=false)(h:aL Φ N Γ ρ b=some (.rt d)):aL Φ N Γ ρ [.tryS b hs p]=some (.rt d):=by
 refine bF ?_;exact AZ (hs_ne hh)<|AZ h rfl
theorem yf {w:List Nat}(hw:w.length<=100):aT.call 37 [.str w]=some (.str (w.flatMap (bQ m0))):=
 bC (tx dG eW 0 (dH (jy "_escape_cdata"))) (Φ:=aG) rfl rfl rfl (jJ (by rfl) (by(repeat (refine ag (jM (by rfl) (by first|rfl|(show some (fu.fz (D.str _))=_;rw[iD])) ‹_› (by decide) (by decide) (by decide) (by decide) (by rfl)) ?_));exact j7))
theorem vG {w:List Nat}(hw:w.length<=100):aT.call 38 [.str w]=some (.str (w.flatMap (bQ m1))):=
 bC (tx dk eJ 0 (du (jy "_escape_attrib"))) (Φ:=aG) rfl rfl rfl (jJ (by rfl) (by(repeat (refine ag (jM (by rfl) (by first|rfl|(show some (fu.fz (D.str _))=_;rw[iD])) ‹_› (by decide) (by decide) (by decide) (by decide) (by rfl)) ?_));exact j7))
theorem zV {w:List Nat}(hw:w.length<=100):aT.call 39 [.str w]=some (.str (w.flatMap (bQ m2))):=
 bC (tx bM cJ 0 (bO (jy "_escape_attrib_html"))) (Φ:=aG) rfl rfl rfl (jJ (by rfl) (by(repeat (refine ag (jM (by rfl) (by first|rfl|(show some (fu.fz (D.str _))=_;rw[iD])) ‹_› (by decide) (by decide) (by decide) (by decide) (by rfl)) ?_));exact j7))
theorem AG {w:List Nat}(hw:w.length<=100):aT.call 40 [.str w]=some (.str (w.flatMap (bQ m3))):=
 bC (tx b6 cZ 0 (b9 (jy "_escape_cdata_c14n"))) (Φ:=aG) rfl rfl rfl (jJ (by rfl) (by(repeat (refine ag (jM (by rfl) (by first|rfl|(show some (fu.fz (D.str _))=_;rw[iD])) ‹_› (by decide) (by decide) (by decide) (by decide) (by rfl)) ?_));exact j7))
theorem AM {w:List Nat}(hw:w.length<=100):aT.call 41 [.str w]=some (.str (w.flatMap (bQ m4))):=
 bC (tx bN cK 0 (bP (jy "_escape_attrib_c14n"))) (Φ:=aG) rfl rfl rfl (jJ (by rfl) (by(repeat (refine ag (jM (by rfl) (by first|rfl|(show some (fu.fz (D.str _))=_;rw[iD])) ‹_› (by decide) (by decide) (by decide) (by decide) (by rfl)) ?_));exact j7))
noncomputable def sg (k c:Nat):List Nat:=(if sY.contains c then[92] else[])++bQ (ju k) c
noncomputable def sp (k:Nat)(w:List Nat):List Nat:=w.flatMap (sg k)
theorem k5 {k:Nat}(hk:k < 5):k=0\/k=1\/k=2\/k=3\/k=4:=
 have h:∀k,k < 5->k=0\/k=1\/k=2\/k=3\/k=4:=by decide
 h k hk
theorem tab92 {k:Nat}(hk:k < 5):bQ (ju k) 92=[92]:=by rcases k5 hk with rfl|rfl|rfl|rfl|rfl<;>decide
theorem vS (l:List Nat):(lO tP l).length<=2 * l.length:=uG (fun c y h=>by unfold tP at h;split at h<;>cases h;rfl) l
theorem esc_sp {k:Nat}(hk:k < 5)(w:List Nat):(lO tP w).flatMap (bQ (ju k))=sp k w:=by
 unfold lO sp;refine AZ Hm ?_
 congr 1
 funext c
 unfold tP sg
 split
 ·show[92,c].flatMap _=_
  refine AZ BJ<|AZ (tab92 hk) ?_;simp
 ·simp
theorem vn {w:List Nat}(hw:w.length<=50):aT.call 35 [.str w]=some (.str (lO tP w)):=by
 have l2:=vS w;show(if _/\_ then _ else _)=_;exact AZ (if_pos ⟨by unfold lim;lia,by unfold lim;lia⟩) rfl
theorem lN {w:List Nat}{k:Nat}(hk:k < 5)(hw:w.length<=50):dm.call 43 [.str w,.int k]=some (.str (sp k w)):=by
 refine bC (tx d0 ba 0 d8) (Φ:=aT) rfl rfl rfl ?_;have l2:=vS w;have e4:=vn hw;have hw':(lO tP w).length<=100:=by lia
 refine AZ (BE (esc_sp hk _)) ?_;have nx:∀{a:Int}{f:Nat}{p1 p2 p3 p4 p5 p6 p7 p8 p9 p10:Pos}{r:List St}{o:Option g7},(((k:Nat):Int)==a)=false->
   aL aT NN (aH ba 0) (aq [86,85] [.str w,.int k] fun J=>none) r=o->
   aL aT NN (aH ba 0) (aq [86,85] [.str w,.int k] fun J=>none) (.ifS (.cmp (.name 85 p1) .Eq (.int a p2) p3) [.ret (.call f [.call 35 [.name 86 p4] p5 p6] p7 p8) p9] [] p10::r)=o:=fun h h2=>
  ag (cH (aA (aa rfl) af (je.trans (by exact AZ h rfl))) ax) h2
 have cl:∀{f:Nat}{p4 p5 p6 p7 p8 p9:Pos}{r:List St},(aH ba 0) f=some .globalImplicit->aT.call f [.str (lO tP w)]=some (.str ((lO tP w).flatMap (bQ (ju k))))->
   aL aT NN (aH ba 0) (aq [86,85] [.str w,.int k] fun J=>none) (.ret (.call f [.call 35 [.name 86 p4] p5 p6] p7 p8) p9::r)=some (.rt (.str ((lO tP w).flatMap (bQ (ju k))))):=fun hf h2=>
  bF (c0 (ca (ad (ca (ad (aa rfl) az) rfl e4) az) hf h2))
 have rt:∀{a:Int}{f:Nat}{p1 p2 p3 p4 p5 p6 p7 p8 p9 p10:Pos}{r:List St},(((k:Nat):Int)==a)=true->(aH ba 0) f=some .globalImplicit->aT.call f [.str (lO tP w)]=some (.str ((lO tP w).flatMap (bQ (ju k))))->
   aL aT NN (aH ba 0) (aq [86,85] [.str w,.int k] fun J=>none) (.ifS (.cmp (.name 85 p1) .Eq (.int a p2) p3) [.ret (.call f [.call 35 [.name 86 p4] p5 p6] p7 p8) p9] [] p10::r)=some (.rt (.str ((lO tP w).flatMap (bQ (ju k))))):=fun h hf h2=>
  bF (eQ (aA (aa rfl) af (je.trans (by exact AZ h rfl))) (cl hf h2))
 rcases k5 hk with rfl|rfl|rfl|rfl|rfl
 ·exact rt rfl rfl (yf hw')
 ·exact nx rfl (rt rfl rfl (vG hw'))
 ·exact nx rfl (nx rfl (rt rfl rfl (zV hw')))
 ·exact nx rfl (nx rfl (nx rfl (rt rfl rfl (AG hw'))))
 ·exact nx rfl (nx rfl (nx rfl (nx rfl (cl rfl (AM hw')))))
end Mine
namespace Mine
theorem cg.all {ρ:ac}{Γ:aj}(h:cg ρ){xs:List (Nat×Pos)}(hk:xs.all (fun q=>Γ q.1==some .local||Γ q.1==some .cell)=true):xs.all (fun q=>Γ.mine ρ q.1)=true:=
 Bp.mpr fun q hq=>h.mine (Bp.mp hk q hq)
theorem mE:2<=lim:=by decide
noncomputable abbrev ΓS:aj:=aH dY 0
noncomputable def uL:List St:=ey (cn.getD 2 io)
noncomputable def tb (k:Nat):List (List Nat):=
 if k=0 then[[97,109,112],[108,116],[103,116],[45],[45],[45],[45]]
 else if k=1 then[[97,109,112],[108,116],[103,116],[113,117,111,116],[35,49,51],[35,49,48],[35,48,57]]
 else if k=2 then[[97,109,112],[45],[103,116],[113,117,111,116],[45],[45],[45]]
 else if k=3 then[[97,109,112],[108,116],[103,116],[45],[35,120,68],[45],[45]]
 else[[97,109,112],[108,116],[45],[113,117,111,116],[35,120,68],[35,120,65],[35,120,57]]
noncomputable def gSpB (c:Int):Bool:=((([32,35,36,38,45,46,63]:List Int).any fun y=>y==c)||((decide ((9:Int)<=c)&&decide (c<=13))||((decide ((40:Int)<=c)&&decide (c<=43))||((decide ((91:Int)<=c)&&decide (c<=94))||((decide ((123:Int)<=c)&&decide (c<=126))||false)))))
theorem gSp_low:(Bn 127).all (fun c=>gSpB c==sY.contains c)=true:=by decide +kernel
theorem j2 {c:Nat}{k:Int}(h:¬c < 127)(hk:k < 127):decide ((c:Int)<=k)=false:=decide_eq_false fun q=>h (DC.mp (show(c:Int) < ((127:Nat):Int) from Ey q hk))
theorem qJ {c:Nat}(h:¬c < 127):∀l:List Int,l.all (fun y=>decide (y < 127))=true->(l.any fun y=>y==(c:Int))=false
 |[],_=>rfl
 |y::l,e=>by
  refine aS (Dh.mp (show(decide (y < 127)&&_)=true from e)) fun e1 e2=>?_;have hy:(y==(c:Int))=false:=beq_eq_false_iff_ne.mpr fun q=>by have:=of_decide_eq_true e1;lia
  show(y==(c:Int)||_)=false;refine AZ hy<|AZ (qJ h l e2) ?_;rfl
theorem gSp_hi {c:Nat}(h:¬c < 127):gSpB c=false:=by
 unfold gSpB;refine AZ (qJ h _ (by decide))<|AZ (j2 h (by decide))<|AZ (j2 h (by decide))<|AZ (j2 h (by decide))<|AZ (j2 h (by decide)) ?_
 simp only[E8,Fl]
theorem spL_hi {c:Nat}(h:¬c < 127):sY.contains c=false:=by
 have e:sY.all (fun y=>decide (y < 127))=true:=by decide
 refine AZ (propext Dp) ?_;intro q;exact h (of_decide_eq_true (Bp.mp e c (B9.mp q)))
theorem xX (c:Nat):gSpB c=sY.contains c:=by
 by_cases h:c < 127
 ·exact beq_iff_eq.mp (Bp.mp gSp_low c (BL.mpr h))
 ·exact AZ (gSp_hi h)<|AZ (spL_hi h) rfl
theorem zZ (c:Nat):((([32,35,36,38,45,46,63]:List Int).any fun y=>y==(c:Int))||((decide ((9:Int)<=c)&&decide ((c:Int)<=13))||((decide ((40:Int)<=c)&&decide ((c:Int)<=43))||((decide ((91:Int)<=c)&&decide ((c:Int)<=94))||((decide ((123:Int)<=c)&&decide ((c:Int)<=126))||false)))))=sY.contains c:=xX c
theorem kY (c:Int)(l:List Int):D.cmp .In (.int c) (.tup (l.map .int))=some (l.any fun y=>y==c):=by
 have e:(l.map D.int).mapM (D.pd 4)=some (l.map .int):=by
  induction l with
  |nil=>rfl
  |cons a l ih=>(refine AZ Bo ?_;rw[CQ];refine AZ ih ?_);rfl
 show(do let p <-D.pd 5 (.int c);let q <-(l.map D.int).mapM (D.pd 4);some (q.any fun y=>PyData.eqv y p))=_;refine AZ e ?_;show some ((l.map PyData.int).any fun y=>PyData.eqv y (.int c))=_;refine AZ List.any_map ?_
 rfl
noncomputable abbrev eI:List Nat:=[38,60,62,34,13,10,9]
theorem find7 {c:Nat}(h:c ∉ eI):Fc ⟨eI.toArray⟩ ⟨[c].toArray⟩=-1:=by
 have:=GY ⟨eI.toArray⟩ c;rw[decide_eq_false (h)] at this;have h2:FS ⟨eI.toArray⟩ ⟨#[c]⟩ 0 (⟨eI.toArray⟩:Str).length 1=[]:=by simpa using this
 unfold Fc;show(match FS ⟨eI.toArray⟩ ⟨#[c]⟩ 0 (⟨eI.toArray⟩:Str).length 1 with|i::_=>(i:Int)|[]=>-1)=-1;exact AZ h2 rfl
noncomputable def okT (k j:Nat):Bool:=match(tb k)[j]?,eI[j]? with
 |some w,some c=>decide (w.length<=10)&&(bQ (ju k) c==(if w==[45] then[c] else[38]++w++[59]))&&(Fc ⟨eI.toArray⟩ ⟨[c].toArray⟩==(j:Int))
 |_,_=>false
theorem okT_all:∀k,k < 5->∀j,j < 7->okT k j=true:=by decide +kernel
set_option tactic.hygienic true in
theorem sign2 {ρ:ac}{k c:Nat}{out:List Nat}(hk:k < 5)(hN:cg ρ)(h89:ρ 89=some (.fz (.str [c])))(h91:ρ 91=some (.fz (.int (Fc ⟨eI.toArray⟩ ⟨[c].toArray⟩))))(h87:ρ 87=some (.fz (.list ((tb k).map .str))))(h88:ρ 88=some (.fz (.str out)))(hl:out.length+12<=lim):
  bJ aG NN ΓS ρ (uL.getD 2 io)=some (.nx (ρ.set 88 (.fz (.str (out++bQ (ju k) c))))):=by
 have one:∀{r1 r2 r3:Pos},aL aG NN ΓS ρ [.augN 88 .Add (.name 89 r1) r2 r3]=some (.nx (ρ.set 88 (.fz (.str (out++[c]))))):=fun{r1 r2 r3}=>ag (uO h88 (aa h89) (by refine AZ Bm ?_;exact Bf (by simp) hl) (hN.mine rfl)) ax
 by_cases hc:c∈eI
 ·obtain⟨j,hj⟩:=G0 hc
  have hj7:j < 7:=(B0.mp hj).1;have hok:=okT_all k hk j hj7;unfold okT at hok;rw[hj] at hok
  split at hok
  case h_2=>exact ce hok
  rename_i w c' hw he
  obtain rfl:=A0 he;simp only[Bz,decide_eq_true_eq,beq_iff_eq] at hok;obtain⟨⟨hwl,ht⟩,hf⟩:=hok;replace h91:=hf▸h91;have hit:D.item (.list ((tb k).map .str)) (.int (j:Int))=some (.str w):=by
   show(bZ ((tb k).map D.str).length (j:Int)).bind (((tb k).map D.str)[·]?)=_;have hlt:=(B0.mp hw).1;have:bZ ((tb k).map D.str).length (j:Int)=some j:=by
    unfold bZ;refine AZ (if_pos (by lia))<|AZ (if_pos (by refine AZ (Bx _) ?_;lia)) ?_;rfl
   refine AZ this ?_;simp[hw]
  have c1:∀{p1 p2 p3:Pos},cT aG ΓS ρ (.cmp (.name 91 p1) .Lt (.int 0 p2) p3)=some false:=fun{p1 p2 p3}=>aA (aa h91) af (show some (decide ((j:Int) < 0))=_ by exact AZ (decide_eq_false (by lia)) rfl);have c2:∀{p4 p5 p6 p7 p8:Pos},cT aG ΓS ρ (.cmp (.idx (.name 87 p4) (.name 91 p5) p6) .Eq (.str [45] p7) p8)=some (w==[45]):=fun{p4 p5 p6 p7 p8}=>aA (au (aa h87) (aa h91) hit) (bc (by decide)) fF;refine AZ ht ?_
  cases hb:w==[45] with
  |true=>
   refine AZ (if_pos (beq_iff_eq.mp hb)) ?_;exact eQ (cb (ue c1 (b_orT (c2.trans (congrArg some hb))))) one
  |false=>
   refine AZ (if_neg (beq_eq_false_iff_ne.mp hb)) ?_;have l2:([38]++w++[59]).length<=12:=by simp;lia
   have k1:D.bin .Add (.str [38]) (.str w)=some (.str ([38]++w)):=if_pos (Bf (show _<=12 by simp;lia) (by decide));have k2:D.bin .Add (.str ([38]++w)) (.str [59])=some (.str ([38]++w++[59])):=if_pos (Bf l2 (by decide));exact cH (cb (ue c1 (ue (c2.trans (congrArg some hb)) uf))) (ag (uO h88 (bB (bB (bc (by decide)) (au (aa h87) (aa h91) hit) k1) (bc (by decide)) k2) (by refine AZ Bm ?_;exact Bf (C2 l2 _) hl) (hN.mine rfl)) ax)
 ·have e:bQ (ju k) c=[c]:=by
   have hs:(ju k).all (fun q=>eI.contains q.1)=true:=by rcases k5 hk with rfl|rfl|rfl|rfl|rfl<;>decide
   unfold bQ
   cases hq:(ju k).lookup c with
   |none=>rfl
   |some v=>exact absurd (B9.mp (Bp.mp hs _ (bW hq))) hc
  refine AZ e ?_;rw[find7 hc] at h91;exact eQ (cb (b_orT (aA (aa h91) af rfl))) one
theorem ze {ρ:ac}{k c:Nat}{out:List Nat}(hk:k < 5)(hN:cg ρ)(h89:ρ 89=some (.fz (.str [c])))(h87:ρ 87=some (.fz (.list ((tb k).map .str))))(h88:ρ 88=some (.fz (.str out)))(hl:out.length+13<=lim):
  ∃ρ',aL aG NN ΓS ρ uL=some (.nx ρ')/\cg ρ'/\ρ' 88=some (.fz (.str (out++sg k c)))/\ρ' 87=some (.fz (.list ((tb k).map .str))):=by
 let f:=Fc ⟨eI.toArray⟩ ⟨[c].toArray⟩
 let ρ1:=(ρ.set 90 (.fz (.int (c:Int)))).set 91 (.fz (.int f))
 have N1:cg ρ1:=(hN.set _ _).set _ _;have a:∀y,y≠90->y≠91->ρ1 y=ρ y:=fun y h1 h2=>(set_ne h2).trans (set_ne h1);have k88:=(a 88 (by decide) (by decide)).trans h88;have k90:ρ1 90=some (.fz (.int (c:Int))):=sN ae;have k91:ρ1 91=some (.fz (.int f)):=ae;have c1:∀{a b:Int}{p1 p2 p3 p4:Pos},cT aG ΓS ρ1 (.cmp2 (.int a p1) .LtE (.name 90 p2) .LtE (.int b p3) p4)=some (decide (a<=c)&&decide ((c:Int)<=b)):=fun{a b p1 p2 p3 p4}=>
  t_cmp2 af (aa k90) af rfl rfl
 have cnd:∀{c':Bool}{p1 p2 p3 p4 p5 p6 p7 p8 p9 q1 q2 q3 q4 q5 q6 q7 q8 q9 r1 r2 r3 r4 r5 r6 r7 r8 z1:Pos},sY.contains c=c'->cT aG ΓS ρ1 (.bop .Or [.cmp (.name 90 p1) .In (.tup [.int 32 p2,.int 35 p3,.int 36 p4,.int 38 p5,.int 45 p6,.int 46 p7,.int 63 p8] 0 p9) q1,.cmp2 (.int 9 q2) .LtE (.name 90 q3) .LtE (.int 13 q4) q5,.cmp2 (.int 40 q6) .LtE (.name 90 q7) .LtE (.int 43 q8) q9,.cmp2 (.int 91 r1) .LtE (.name 90 r2) .LtE (.int 94 r3) r4,.cmp2 (.int 123 r5) .LtE (.name 90 r6) .LtE (.int 126 r7) r8] z1)=some c':=fun h=>
  cb ((se (aA (aa k90) (fX (ad af (ad af (ad af (ad af (ad af (ad af (ad af az))))))) (by decide)) (kY (c:Int) [32,35,36,38,45,46,63])) (se c1 (se c1 (se c1 (se c1 uf))))).trans (congrArg some ((zZ c).trans h)))
 unfold sg
 cases hc:sY.contains c with
 |true=>
  let ρ2:=ρ1.set 88 (.fz (.str (out++[92])))
  have N2:cg ρ2:=N1.set _ _;have e2:=sign2 (ρ:=ρ2) hk N2 (sN ((a 89 (by decide) (by decide)).trans h89)) (sN k91) (sN ((a 87 (by decide) (by decide)).trans h87)) ae (by refine AZ Bm ?_;exact hl);refine⟨_,ag (eK (e7 (gn (aa h89) rfl (by decide) rfl) (e7 (rL rfl (bc (by decide)) (aa h89) rfl) gj)) rfl rfl (show[90,91].Nodup by decide) (hN.all rfl) mE) (ag (eQ (cnd hc) (ag (uO k88 (bc (by decide)) (by refine AZ Bm ?_;exact Bf (C2 (by decide) _) hl) (N1.mine rfl)) ax)) (ag e2 ax)),N2.set _ _,ae.trans (by simp),sN (sN ((a 87 (by decide) (by decide)).trans h87))⟩
 |false=>
  have e2:=sign2 (ρ:=ρ1) hk N1 ((a 89 (by decide) (by decide)).trans h89) k91 ((a 87 (by decide) (by decide)).trans h87) k88 (by lia);exact⟨_,ag (eK (e7 (gn (aa h89) rfl (by decide) rfl) (e7 (rL rfl (bc (by decide)) (aa h89) rfl) gj)) rfl rfl (show[90,91].Nodup by decide) (hN.all rfl) mE) (ag (cH (cnd hc) ax) (ag e2 ax)),N1.set _ _,ae,sN ((a 87 (by decide) (by decide)).trans h87)⟩
theorem tabC_le {k:Nat}(hk:k < 5) (c:Nat):(bQ (ju k) c).length<=6:=by
 have:=qS (m:=ju k) (by rcases k5 hk with rfl|rfl|rfl|rfl|rfl<;>decide) [c]
 simpa using this
theorem sg_le {k:Nat}(hk:k < 5) (c:Nat):(sg k c).length<=7:=by
 have:=tabC_le hk c;unfold sg;refine AZ Bm ?_
 split<;>simp<;>lia
theorem nO {k:Nat}(hk:k < 5)(w:List Nat):(sp k w).length<=7 * w.length:=by
 unfold sp
 induction w with
 |nil=>simp
 |cons c w ih=>
  have:=sg_le hk c;refine AZ BJ<|AZ Bm<|AZ BA ?_;lia
theorem pT {tp:Pos}{k:Nat}(hk:k < 5):∀(l:List Nat){ρ:ac}{out:List Nat},cg ρ->ρ 87=some (.fz (.list ((tb k).map .str)))->ρ 88=some (.fz (.str out))->out.length+7 * l.length+13<=lim->
  ∃ρ',dF ΓS (.name 89 tp) (fun ρ=>aL aG NN ΓS ρ uL) ρ (l.map fun c=>.str [c])=some (.nx ρ')/\ρ' 88=some (.fz (.str (out++sp k l)))
 |[],ρ,out,hN,h87,h88,hl=>⟨ρ,oH,by refine AZ h88 ?_;simp[sp]⟩
 |c::l,ρ,out,hN,h87,h88,hl=>by
  replace hl:=BA▸hl;have hlen:=sg_le hk c;refine vQ (ze (c:=c) hk (hN.set 89 (.str [c])) ae (sN h87) (sN h88) (by lia)) fun ρ1 r1 N1 o1 u1=>?_;refine ak (pT hk l (tp:=tp) N1 u1 o1 (by refine AZ Bm ?_;lia)) fun ρ2 r2 o2=>?_;refine⟨ρ2,k9 (hN.mine rfl) r1 r2,?_⟩;refine AZ o2 ?_;simp[sp]
theorem lQ {w:List Nat}{k:Nat}(hk:k < 5)(hw:w.length<=50):aT.call 44 [.str w,.int k]=some (.str (sp k w)):=by
 refine bC (tx d6 dY 0 cn) (Φ:=aG) rfl rfl rfl ?_;have N0:cg (aq [86,85] [.str w,.int (k:Int)] fun _=>none):=jZ;have N1:=N0.set 87 (.list ((tb k).map .str));have N2:=N1.set 88 (.str []);refine ak (pT (tp:=(uH (cn.getD 2 io))) hk w N2 (sN ae) ae (by show _<=1048576;simp;lia)) fun ρ3 r3 o3=>?_;refine ag (cI (d:=.list ((tb k).map .str)) ?_ (N0.mine rfl)) (ag (cI (bc (by decide)) (N1.mine rfl)) (ag (jT (aa (d:=.str w) rfl) rfl r3) (bF (c0 (aa o3)))));rcases k5 hk with rfl|rfl|rfl|rfl|rfl<;>exact rL rfl (au (eO (ad (bc (by decide)) (ad (bc (by decide)) (ad (bc (by decide)) (ad (bc (by decide)) (ad (bc (by decide)) az))))) (by decide)) (aa rfl) rfl) (bc (by decide)) (by kernel_rfl)
end Mine
namespace Mine
noncomputable def bare (b:Nat):Bool:=b==123||b==125||b==42
noncomputable def wh (m:List (Nat×List Nat)):Bool:=(m.lookup 38).isSome&&m.all fun q=>q.2.head?==some 38&&q.2.all (fun b=>!bare b)&&m.all fun q'=>!(q.2.isPrefixOf q'.2)||(q.1==q'.1)
theorem uZ {k:Nat}(hk:k < 5):wh (ju k)=true:=by rcases k5 hk with rfl|rfl|rfl|rfl|rfl<;>decide
theorem app_pre {a b x y:List Nat}(h:a++x=b++y):(a.isPrefixOf b=true)\/(b.isPrefixOf a=true):=by
 rcases EA.mp h with⟨z,h1,J⟩|⟨z,h1,J⟩
 ·exact .inl (Gi.mpr ⟨z,h1.symm⟩)
 ·exact .inr (Gi.mpr ⟨z,h1.symm⟩)
theorem sT {k:Nat}(hk:k < 5){c c':Nat}{x y:List Nat}(h:bQ (ju k) c++x=bQ (ju k) c'++y):c=c'/\x=y:=by
 have key:c=c':=by
  have hp:=uZ hk;unfold wh at hp;rw[Bz] at hp;refine aS hp fun h38 hall=>?_;have hd:∀{c v},(ju k).lookup c=some v->∃r,v=38::r:=fun{c v} hv=>by
   have:=Bp.mp hall _ (bW hv);simp only[Bz,beq_iff_eq] at this
   cases v with
   |nil=>exact ah this.1.1
   |cons a r=>exact⟨r,by have:=A0 this.1.1;exact AZ this rfl⟩
  have n38:∀{c v},(ju k).lookup c=none->(ju k).lookup v=none->c≠38:=fun{c _} h1 _ e=>by
   rw[e] at h1;rw[h1] at h38;exact ce h38
  unfold bQ at h
  cases h1:(ju k).lookup c with
  |none=>
   cases h2:(ju k).lookup c' with
   |none=>
    replace h:=h2▸h1▸h;exact(Bv h).1
   |some v=>
    rw[h1,h2] at h;refine x1 (hd h2) fun r e91=>?_;subst e91;exact absurd (Bv h).1 (n38 h1 h1)
  |some v=>
   cases h2:(ju k).lookup c' with
   |none=>
    rw[h1,h2] at h;refine x1 (hd h1) fun r e91=>?_;subst e91;exact absurd (Bv h).1.symm (n38 h2 h2)
   |some v'=>
    rw[h1,h2] at h;have a1:=Bp.mp hall _ (bW h1);have a2:=Bp.mp hall _ (bW h2);rw[Bz] at a1 a2;rcases app_pre h with q|q
    ·have:=Bp.mp a1.2 _ (bW h2)
     rw[show List.isPrefixOf v v'=true from q] at this;exact beq_iff_eq.mp (show(c==c')=true from this)
    ·have:=Bp.mp a2.2 _ (bW h1)
     rw[show List.isPrefixOf v' v=true from q] at this;exact(beq_iff_eq.mp (show(c'==c)=true from this)).symm
 subst key;exact⟨rfl,GG h⟩
theorem vT {k:Nat}(hk:k < 5) (c:Nat):∃r,bQ (ju k) c=38::r\/bQ (ju k) c=[c]:=by
 unfold bQ
 cases h1:(ju k).lookup c with
 |none=>exact⟨[],.inr rfl⟩
 |some v=>
  have hp:=uZ hk;unfold wh at hp;rw[Bz] at hp;have:=Bp.mp hp.2 _ (bW h1);simp only[Bz,beq_iff_eq] at this
  cases v with
  |nil=>exact ah this.1.1
  |cons a r=>exact⟨r,.inl (by have:=A0 this.1.1;refine AZ this ?_;rfl)⟩
theorem xu {k:Nat}(hk:k < 5){b c:Nat}(hb:bare b=true)(h:b∈bQ (ju k) c):c=b/\bQ (ju k) c=[b]:=by
 unfold bQ at h ⊢
 cases h1:(ju k).lookup c with
 |none=>replace h:=h1▸h;have:=BK.mp h;subst this;exact⟨rfl,rfl⟩
 |some v=>
  replace h:=h1▸h;have hp:=uZ hk;unfold wh at hp;rw[Bz] at hp;have:=Bp.mp hp.2 _ (bW h1);simp only[Bz] at this;have:=Bp.mp this.1.2 b h;rw[hb] at this;exact ce this
theorem xa {b:Nat}(hb:bare b=true):sY.contains b=true:=by
 unfold bare at hb;simp only[BZ,beq_iff_eq] at hb;rcases hb with(rfl|rfl)|rfl<;>decide
theorem sg_pre {k:Nat}(hk:k < 5){c c':Nat}{x y:List Nat}(h:sg k c++x=sg k c'++y):c=c'/\x=y:=by
 have no:∀{c':Nat}{x y:List Nat},sY.contains c'=false->([92]++x:List Nat)=bQ (ju k) c'++y->False:=fun{c' x y} h1 h2=>by
  obtain⟨r,e|e⟩:=vT hk c'
  ·rw[e] at h2;exact absurd (Bv h2).1 (by decide)
  ·rw[e] at h2
   have:(92:Nat)=c':=(Bv h2).1;subst this;exact absurd h1 (by decide)
 unfold sg at h
 cases h1:sY.contains c<;>cases h2:sY.contains c'
 ·rw[h1,h2] at h;exact sT hk h
 ·rw[h1,h2] at h
  exact(no h1 (by rw[<-BU];exact h.symm)).elim
 ·rw[h1,h2] at h
  exact(no h2 (by rw[<-BU];exact h)).elim
 ·rw[h1,h2] at h
  simp only[if_true,BU] at h;exact sT hk (GG h)
theorem ta {k:Nat}(hk:k < 5) (c:Nat):∃a r,sg k c=a::r/\bare a=false:=by
 unfold sg
 cases h1:sY.contains c with
 |true=>exact⟨92,_,rfl,by decide⟩
 |false=>
  obtain⟨r,e|e⟩:=vT hk c
  ·exact⟨38,r,by refine AZ e ?_;rfl,by decide⟩
  ·refine⟨c,[],by refine AZ e ?_;rfl,?_⟩
   refine AZ (propext Dp) ?_;intro q;rw[xa q] at h1;exact zy h1
theorem sg_bare {k:Nat}(hk:k < 5){b c:Nat}(hb:bare b=true){x z:List Nat}(h:sg k c=x++b::z):c=b/\x=[92]/\z=[]:=by
 have n92:b≠92:=fun e=>by subst e;exact absurd hb (by decide)
 have hm:b∈bQ (ju k) c:=by
  have:b∈sg k c:=by refine AZ h ?_;simp
  unfold sg at this;rcases CY.mp this with q|q
  ·split at q
   ·exact absurd (BK.mp q) n92
   ·exact bE q
  ·exact q
 refine aS (xu hk hb hm) fun e91=>?_;subst e91;intro ht;unfold sg at h;rw[xa hb,ht] at h;simp only[if_true,Dl,D8] at h
 match x,h with
 |[],h=>exact absurd (Bv h).1.symm n92
 |[a],h=>
  refine aS (Bv h) fun e91=>?_;subst e91;intro h2;exact⟨rfl,rfl,(Bv h2).2.symm⟩
 |a::a'::r,h=>
  have:=congrArg EE h;simp at this
noncomputable def AS (k:Nat)(t:List Nat):Prop:=∀c y,t≠sg k c++y
theorem nK {k:Nat}(hk:k < 5):AS k []:=fun c y h=>by
 refine sI (ta hk c) fun a r e J=>?_;rw[e] at h;exact nomatch h
theorem dM {k:Nat}(hk:k < 5){b:Nat}{t:List Nat}(hb:bare b=true):AS k (b::t):=fun c y h=>by
 refine sI (ta hk c) fun a r e ha=>?_;rw[e] at h;rw[(Bv h).1,ha] at hb;exact ce hb
theorem dc {k c:Nat}{w:List Nat}:sp k (c::w)=sg k c++sp k w:=BJ
theorem sp_app {k:Nat}{a b:List Nat}:sp k (a++b)=sp k a++sp k b:=Eg
theorem sW {k:Nat}(hk:k < 5):∀(x l r t:List Nat),AS k t->sp k x++r=sp k l++t->∃l',l=x++l'/\r=sp k l'++t
 |[],l,r,t,_,h=>⟨l,rfl,h⟩
 |c::x,[],r,t,st,h=>by
  rw[dc,BU] at h;exact absurd h.symm (st c _)
 |c::x,c'::l,r,t,st,h=>by
  rw[dc,dc,BU,BU] at h;refine aS (sg_pre hk h) fun e91=>?_;subst e91;intro h2;refine ak (sW hk x l r t st h2) fun l' e91=>?_;subst e91;intro h3;exact⟨l',rfl,h3⟩
theorem v5 {k:Nat}(hk:k < 5){x l r t:List Nat}(s1:AS k r)(s2:AS k t)(h:sp k x++r=sp k l++t):x=l/\r=t:=by
 refine ak (sW hk x l r t s2 h) fun l' e91=>?_;subst e91;intro h2
 cases l' with
 |nil=>exact⟨by simp,h2⟩
 |cons c l'=>rw[dc,BU] at h2;exact absurd h2 (s1 c _)
theorem kM {k:Nat}(hk:k < 5){x l:List Nat}(h:sp k x=sp k l):x=l:=(v5 hk (nK hk) (nK hk) (by exact AZ h rfl)).1
theorem hY {k:Nat}(hk:k < 5){b:Nat}(hb:bare b=true):∀(w x y:List Nat),sp k w=x++b::y->∃w1 w2,w=w1++b::w2/\x=sp k w1++[92]/\y=sp k w2
 |[],x,y,h=>by
  have:=congrArg EE h;simp[sp] at this
 |c::w,x,y,h=>by
  replace h:=dc▸h;rcases EA.mp h with⟨z,h1,h2⟩|⟨z,h1,h2⟩
  ·refine kJ (hY hk hb w z y h2) fun w1 w2 e91=>?_
   subst e91;intro h3 h4;exact⟨c::w1,w2,rfl,by(refine AZ h1<|AZ h3<|AZ dc ?_;rw[BU]),h4⟩
  ·cases z with
   |nil=>
    refine kJ (hY hk hb w [] y (h2.symm)) fun w1 w2 J h3 J=>?_;have:=congrArg EE h3;simp at this
   |cons a z=>
    refine aS (Bv h2) fun e91=>?_;subst e91;intro h3;refine pL (sg_bare hk hb h1) fun e91=>?_;subst e91;intro h4 e92;subst e92;exact⟨[],w,rfl,h4,by refine AZ h3 ?_;rfl⟩
theorem sX {k:Nat}(hk:k < 5){w t:List Nat}{b:Nat}(hb:bare b=true):sp k w≠b::t:=by
 cases w with
 |nil=>exact fun h=>nomatch h
 |cons c w=>refine AZ dc ?_;exact fun h=>dM hk hb c _ h.symm
end Mine
namespace Mine
abbrev Wd:=List Nat
abbrev Nm:=Option (Option Wd×Wd)
noncomputable def dW (k:Nat):Option Wd->Wd->List Nat
 |none,l=>sp k l
 |some s,l=>123::(sp k s++125::sp k l)
noncomputable def tY (a b:List Nat):Bool:=decide (b <:+ a)
noncomputable def gV (way:Nat)(s:Option Wd)(l:Wd)(s':Option Wd)(l':Wd):Bool:=
 if(way=2\/way=4)/\s'≠s then false else if way=4 then l'==l else way != 3||tY (125::l') (125::l)
theorem b123:bare 123=true:=by decide
theorem ug:bare 125=true:=by decide
theorem b42:bare 42=true:=by decide
theorem oN (t u:List Nat)(hu:0 < u.length):(t.drop (CR t.length (-(u.length:Int)))==u)=decide (u <:+ t):=by
 (refine AZ (propext Cr) ?_;rw[beq_iff_eq,decide_eq_true_eq])
 constructor
 ·intro h
  refine AZ (BE h) ?_;exact List.drop_suffix _ _
 ·rintro⟨x,rfl⟩
  have:CR (x++u).length (-(u.length:Int))=x.length:=(ud hu (by refine AZ Bm ?_;exact Do _ _)).trans (by refine AZ Bm ?_;exact Hw _ _);exact AZ this<|AZ E6 rfl
theorem jK (t u:List Nat){n:Nat}(hn:n=u.length):(t.take (CR t.length (n:Int))==u)=decide (u <+: t):=by
 subst hn
 (refine AZ (propext Cr) ?_;rw[beq_iff_eq,decide_eq_true_eq])
 constructor
 ·intro h
  refine AZ (BE h) ?_;exact List.take_prefix _ _
 ·rintro⟨x,rfl⟩
  have:CR (u++x).length (u.length:Int)=u.length:=iK (by refine AZ Bm ?_;exact FY _ _);exact AZ this<|AZ Eo rfl
section
variable {k:Nat}(hk:k < 5)
include hk
theorem tag_hd {s':Option Wd}{l':Wd}(hl:l'≠[]):∃a r,dW k s' l'=a::r/\(a==123)=s'.isSome:=by
 cases s' with
 |some s=>exact⟨123,_,rfl,rfl⟩
 |none=>
  refine x2 (CI hl) fun c w e91=>?_;subst e91;refine sI (ta hk c) fun a r e ha=>?_;refine⟨a,r++sp k w,by show sp k (c::w)=_;refine AZ dc<|AZ e ?_;rfl,?_⟩;refine beq_eq_false_iff_ne.mpr fun q=>?_;rw[q] at ha;exact absurd ha (by decide)
theorem tag_ns {s':Option Wd}{l' w:Wd}:decide ((123::(sp k w++[125])) <+: dW k s' l')=(s'==some w):=by
 (refine AZ (propext Cr) ?_;rw[decide_eq_true_eq,beq_iff_eq])
 constructor
 ·rintro⟨r,h⟩
  cases s' with
  |none=>exact absurd h.symm (sX hk b123)
  |some s=>
   have h2:sp k w++[125]++r=sp k s++125::sp k l':=(Bv h).2;rw[BU] at h2;exact AZ ((v5 hk (dM hk ug) (dM hk ug) h2.symm).1) rfl
 ·rintro rfl
  exact⟨sp k l',by simp[dW]⟩
theorem yJ {s s':Option Wd}{l l':Wd}:(dW k s' l'==dW k s l)=(decide (s'=s)&&l'==l):=by
 refine AZ (propext Cr) ?_;simp only[beq_iff_eq,Bz,decide_eq_true_eq]
 constructor
 ·intro h
  cases s'<;>cases s
  ·exact⟨rfl,kM hk h⟩
  ·exact absurd h (sX hk b123)
  ·exact absurd h.symm (sX hk b123)
  ·refine aS (v5 hk (dM hk ug) (dM hk ug) (Bv h).2) fun e91=>?_
   subst e91;intro h3;exact⟨rfl,kM hk (Bv h3).2⟩
 ·rintro⟨rfl,rfl⟩;rfl
theorem yP {l l' x:Wd}(h:sp k l'=x++125::sp k l):∃w,l'=w++125::l:=by
 refine kJ (hY hk ug _ _ _ h) fun w1 w2 e91=>?_;subst e91;intro J h2;refine AZ (kM hk h2) ?_;exact⟨w1,rfl⟩
theorem tag_end {s':Option Wd}{l l':Wd}:(dW k s' l'==sp k l||decide ((125::sp k l) <:+ dW k s' l'))=tY (125::l') (125::l):=by
 refine AZ (propext Cr) ?_;unfold tY;simp only[BZ,beq_iff_eq,decide_eq_true_eq];have two:(125::l) <:+ (125::l')↔l'=l\/∃w,l'=w++125::l:=by
  refine AZ (propext List.suffix_cons_iff) ?_
  constructor
  ·rintro(h|⟨w,h⟩)
   ·exact .inl (Bv h).2.symm
   ·exact .inr ⟨w,h.symm⟩
  ·rintro(rfl|⟨w,h⟩)
   ·exact .inl rfl
   ·exact .inr ⟨w,h.symm⟩
 refine AZ (propext two) ?_;have spw:∀w:Wd,sp k (w++125::l)=sp k w++[92]++125::sp k l:=fun w=>by
  refine AZ sp_app<|AZ dc ?_
  have:sg k 125=[92,125]:=by rcases k5 hk with rfl|rfl|rfl|rfl|rfl<;>decide
  refine AZ this ?_;simp
 constructor
 ·rintro(h|⟨x,h⟩)
  ·cases s' with
   |none=>exact .inl (kM hk h)
   |some s=>exact absurd h.symm (sX hk b123)
  ·cases s' with
   |none=>exact .inr (yP hk h.symm)
   |some s=>
    have h:x++125::sp k l=(123::sp k s)++125::sp k l':=h;rcases EA.mp h with⟨z,h1,h2⟩|⟨z,h1,h2⟩
    ·cases z with
     |nil=>exact .inl (kM hk (Bv h2).2.symm)
     |cons a z=>
      refine aS (Bv h2) fun e91=>?_;subst e91;intro h3
      cases x with
      |nil=>exact absurd (Bv h1).1 (by decide)
      |cons a' x=>
       refine aS (Bv h1) fun J h4=>?_;refine kJ (hY hk ug _ _ _ h4) fun w1 w2 J J e91=>?_;subst e91;have:=(v5 hk (nK hk) (dM hk ug) (x:=l) (r:=[]) (by refine AZ (CE _) ?_;exact h3)).2;exact nomatch this
    ·cases z with
     |nil=>exact .inl (kM hk (Bv h2).2)
     |cons a z=>exact .inr (yP hk (Bv h2).2)
 ·rintro(rfl|⟨w,rfl⟩)
  ·cases s' with
   |none=>exact .inl rfl
   |some s=>exact .inr ⟨123::sp k s,rfl⟩
  ·right
   cases s' with
   |none=>exact⟨sp k w++[92],(spw w).symm⟩
   |some s=>exact⟨123::(sp k s++125::(sp k w++[92])),by show _=123::(sp k s++125::sp k (w++125::l));refine AZ (spw _) ?_;simp⟩
theorem qv {s:Option Wd}{l:Wd}(hl:l≠[]){u:List Nat}(hu:u=123::((match s with|none=>[]|some w=>sp k w)++125::sp k l)):([123,42,125] <+: u)=False/\([125,42] <:+ u)=False:=by
 subst hu
 constructor
 ·refine eq_false fun⟨r,h⟩=>?_
  have h2:=(Bv h).2
  cases s with
  |none=>exact absurd (Bv h2).1 (by decide)
  |some w=>
   cases w with
   |nil=>exact absurd (Bv h2).1 (by decide)
   |cons c w=>
    have h2:42::125::r=sp k (c::w)++125::sp k l:=h2;rw[dc,BU] at h2;exact dM hk b42 c _ h2
 ·refine eq_false fun⟨x,h⟩=>?_
  refine x2 (CI hl) fun c w e91=>?_;subst e91;generalize(match s with|none=>[]|some w=>sp k w)=S at h;obtain⟨y,b,hy⟩:∃y b,sp k (c::w)=y++[b]:=by
   have:sp k (c::w)≠[]:=fun e=>by
    refine sI (ta hk c) fun a r e' J=>?_;rw[dc,e'] at e;exact nomatch e
   exact⟨_,_,(D9 this).symm⟩
  replace h:=hy▸h;have h:(x++[125])++[42]=(123::(S++125::y))++[b]:=by simpa using h
  refine aS (List.append_inj' h rfl) fun h3 h4=>?_;obtain rfl:42=b:=(Bv h4).1;refine kJ (hY hk b42 _ _ _ hy) fun w1 w2 J e91=>?_;subst e91;intro J;have h3:x++[125]=(123::(S++125::sp k w1))++[92]:=by simpa using h3
  exact absurd (Bv (List.append_inj' h3 rfl).2).1 (by decide)
end
end Mine
namespace Mine
noncomputable def o4:Option Wd->D
 |none=>.nil
 |some w=>.str w
noncomputable def fG:Nm->D
 |none=>.nil
 |some q=>.tup [o4 q.1,.str q.2]
noncomputable def kL (k:Nat):Nm->D
 |none=>.nil
 |some q=>.str (dW k q.1 q.2)
abbrev Th:=Nat×Nm
noncomputable def eV (k:Nat)(q:Th):D:=.thing [19,20] [.int (q.1:Int),kL k q.2]
noncomputable def Uns (ρ:ac) (x:Nat):Prop:=∀d,ρ x≠some (.sealed d)
theorem Uns.mine {ρ:ac}{Γ:aj}{x:Nat}(h:Uns ρ x)(hk:(Γ x==some .local||Γ x==some .cell)=true):Γ.mine ρ x=true:=by
 unfold aj.mine;refine AZ hk ?_
 cases he:ρ x with
 |none=>rfl
 |some e=>cases e with
  |sealed d=>exact absurd he (h d)
  |_=>rfl
theorem Uns.set {ρ:ac}{x:Nat}(h:Uns ρ x) (y:Nat)(d:D):Uns (ρ.set y (.fz d)) x:=by
 intro e he;unfold ac.set at he
 split at he
 ·exact nomatch he
 ·exact h e he
theorem yfor {Γ:aj}{t:Nat}{body:ac->Option (List D×ac)}{I:ac->Prop}{α:Type}{c:α->D}{f:α->List D}(hm:∀ρ,I ρ->Γ.mine ρ t=true):∀(items:List α),(∀a∈items,∀ρ,I ρ->∃ρ',body (ρ.set t (.fz (c a)))=some (f a,ρ')/\I ρ')->∀ρ,I ρ->∃ρ',eh Γ t body ρ (items.map c)=some (items.flatMap f,ρ')/\I ρ'
 |[],_,ρ,h=>⟨ρ,by(refine AZ Dx ?_;rw[eh]);rfl,h⟩
 |a::items,st,ρ,h=>by
  refine ak (st a Bj ρ h) fun ρ1 r1 h1=>?_;refine ak (yfor hm items (fun b hb=>st b (Bi _ hb)) ρ1 h1) fun ρ2 r2 h2=>?_;exact⟨ρ2,jG (hm ρ h) r1 r2,h2⟩
noncomputable def vC (t:Gx)(caps:List D):ac:=cN (av t.sc) caps
structure kA (t:Gx)(caps:List D)(ρ:ac):Prop where
 c:∀y∈av t.sc,ρ y=vC t caps y
 u2:Uns ρ 62
 u4:Uns ρ 64
 u1:Uns ρ 71
theorem kA.set {t:Gx}{caps:List D}{ρ:ac}(h:kA t caps ρ){x:Nat}(hx:x ∉ av t.sc)(d:D):kA t caps (ρ.set x (.fz d)):=
 ⟨fun y hy=>(set_ne fun(e:y=x)=>hx (e▸hy)).trans (h.c y hy),h.u2.set _ _,h.u4.set _ _,h.u1.set _ _⟩
theorem ygen {i:Nat}{t:Gx}{caps:List D}{α:Type}{items:List α}{cD:α->D}{f:α->List D}{body:List Sg}{p1 p2 p3:Pos}(ht:tG1 i=some t)(hr:t.rm=74)(hss:t.ss=[.forS 62 p1 61 p2 body p3])(hps:t.ps=[58,61])(hl:(av t.sc).length=caps.length)
  (hfr:[58,61,62,64,71].all (fun x=>!(av t.sc).contains x)=true) (h62:(aH t.sc 0) 62=some .local) (hlim:(items.flatMap f).length<=lim)
  (st:∀q∈items,∀ρ,kA t caps ρ->ρ 62=some (.fz (cD q))->∃ρ',eH aG iu 74 (aH t.sc 0) ρ body=some (f q,ρ')/\kA t caps ρ'):
  aT.gen i (caps++[.nil,.list (items.map cD)])=some (items.flatMap f):=by
 have nf:∀x∈[58,61,62,64,71],x ∉ av t.sc:=fun x hx e=>by
  have:=Bp.mp hfr x hx;rw[B9.mpr e] at this;exact ce this
 have u0:∀x,x ∉ av t.sc->Uns (vC t caps) x:=fun x hx d h=>by
  unfold vC cN at h;refine ak (Bt.mp h) fun d' h1 J=>?_;have:∀(l:List (Nat×D)),l.lookup x=some d'->∃q∈l,q.1=x:=fun l h=>by
   exact⟨_,bW h,rfl⟩
  refine ak (this _ h1) fun q hq e91=>?_;subst e91;exact hx (CL hq).1
 have I0:kA t caps (aq [58,61] [.nil,.list (items.map cD)] (vC t caps)):=by
  have e:aq [58,61] [.nil,.list (items.map cD)] (vC t caps)=((vC t caps).set 58 (.fz .nil)).set 61 (.fz (.list (items.map cD))):=rfl;refine AZ e ?_;have J:kA t caps (vC t caps):=⟨fun J J=>rfl,u0 _ (nf 62 (by decide)),u0 _ (nf 64 (by decide)),u0 _ (nf 71 (by decide))⟩;exact(J.set (nf 58 (by decide)) _).set (nf 61 (by decide)) _
 refine ak (yfor (I:=kA t caps) (Γ:=aH t.sc 0) (t:=62) (body:=fun ρ=>eH aG iu 74 (aH t.sc 0) ρ body) (c:=cD) (f:=f) (fun ρ h=>h.u2.mine (by refine AZ h62 ?_;rfl)) items (fun q hq ρ h=>st q hq _ (h.set (nf 62 (by decide)) _) ae) _ I0) fun ρ' r J=>?_;refine zX t (Φ':=aT) (Φ:=aG) rfl ht (by refine AZ hps<|AZ hl<|AZ Bm ?_;rfl) (ρ':=ρ') ?_ hlim;refine AZ hl<|AZ Eo<|AZ E6<|AZ hps<|AZ hss<|AZ hr ?_
 exact(bq (b:=[]) (ut (d:=.list (items.map cD)) rfl rfl r) dJ).trans (by exact AZ (CE _) rfl)
theorem iE {α:Type}(P:α->Bool)(g:α->D)(l:List α):(l.flatMap fun q=>if P q then[g q] else[])=(l.filter P).map g:=by
 induction l with
 |nil=>rfl
 |cons a l ih=>
  refine AZ BJ<|AZ ih<|AZ DU ?_
  cases P a<;>rfl
noncomputable def tM (i:Nat):Gx:=(tG1 i).getD ⟨[],[],0,[]⟩
noncomputable def wM (i:Nat):List Sg:=yt ((tM i).ss.getD 0 y00)
noncomputable abbrev Γg (i:Nat):aj:=aH (tM i).sc 0
section
variable {k:Nat}{items:List Th}
theorem vN {i:Nat}{caps:List D}{P:Th->Bool}{p1 p2 p3:Pos}(ht:tG1 i=some (tM i))(hr:(tM i).rm=74)(hss:(tM i).ss=[.forS 62 p1 61 p2 (wM i) p3])(hps:(tM i).ps=[58,61])(hl:(av (tM i).sc).length=caps.length)
  (hfr:[58,61,62,64,71].all (fun x=>!(av (tM i).sc).contains x)=true) (h62:Γg i 62=some .local) (hlim:items.length<=lim)
  (st:∀q∈items,∀ρ,kA (tM i) caps ρ->ρ 62=some (.fz (eV k q))->∃ρ',eH aG iu 74 (Γg i) ρ (wM i)=some (if P q then[eV k q] else[],ρ')/\kA (tM i) caps ρ'):
  aT.gen i (caps++[.nil,.list (items.map (eV k))])=some ((items.filter P).map (eV k)):=by
 have:=ygen (cD:=eV k) (f:=fun q=>if P q then[eV k q] else[]) ht hr hss hps hl hfr h62 (by refine AZ (iE _ _ _)<|AZ (Bx _) ?_;exact Bf (Cz _ _) hlim) st;exact AZ this<|AZ (iE _ _ _) rfl
theorem yld1 {Γ:aj}{ρ:ac}{q:Th}{b:Bool}{e:E}{p r1 r2 r3:Pos}(h62:ρ 62=some (.fz (eV k q)))(ht:cT aG Γ ρ e=some b):eH aG iu 74 Γ ρ [.ifS e [.yld 62 r1 r2 r3] p]=some (if b then[eV k q] else[],ρ):=by
 cases b with
 |true=>exact(bq (b:=[]) (vO ht (bq (b:=[]) (uq (d:=eV k q) (by unfold ac.at;exact AZ h62 rfl)) dJ)) dJ).trans rfl
 |false=>exact(bq (b:=[]) (ur ht) dJ).trans rfl
theorem yld2 {i:Nat}{caps:List D}{ρ:ac}{q:Th}{b:Bool}{e:E}{p r1 r2 r3 a1 a2 a3 a4:Pos}(I:kA (tM i) caps ρ)(h64:Γg i 64=some .local)(hf:64 ∉ av (tM i).sc)(h62:ρ 62=some (.fz (eV k q)))
  (ht:∀ρ',kA (tM i) caps ρ'->ρ' 64=some (.fz (kL k q.2))->cT aG (Γg i) ρ' e=some b):∃ρ',eH aG iu 74 (Γg i) ρ [.asg 64 (.attr (.name 62 a1) 20 a2) a3 a4,.ifS e [.yld 62 r1 r2 r3] p]=some (if b then[eV k q] else[],ρ')/\kA (tM i) caps ρ':=by
 have I':=I.set hf (kL k q.2);have fl:(kL k q.2).flat=true:=by rcases q with⟨v,_|⟨s,l⟩⟩<;>rfl
 exact⟨_,(bq (a:=[]) (uu (oM rfl (aa h62) rfl) (I.u4.mine (by refine AZ h64 ?_;rfl)) fl rfl) (yld1 (sN h62) (ht _ I' ae))).trans rfl,I'⟩
end
end Mine
namespace Mine
noncomputable def iF (way:Nat)(s:Option Wd)(l:Wd):Nm->Bool
 |none=>false
 |some q=>gV way s l q.1 q.2
noncomputable def NeL (q:Th):Prop:=∀s l,q.2=some (s,l)->l≠[]
noncomputable def j3 (k:Nat)(u:List Nat):Nm->Bool
 |none=>false
 |some q=>dW k q.1 q.2==u
theorem kP {n m:Nat}(h:m < n):bZ n (m:Int)=some m:=by
 unfold bZ;refine AZ (if_pos (by lia))<|AZ (if_pos (by lia)) ?_;rfl
theorem pR (a:Nat)(r:List Nat):D.item (.str (a::r)) (.int 0)=some (.str [a]):=by
 show((bZ (a::r).length ((0:Nat):Int)).bind ((a::r)[·]?)).map (fun c=>D.str [c])=_;refine AZ (kP (by simp)) ?_;rfl
theorem Ai {k:Nat}{nm:Nm}{u:List Nat}:D.cmp .Eq (kL k nm) (.str u)=some (j3 k u nm):=by
 rcases nm with _|⟨s,l⟩<;>rfl
theorem isi_tag {k:Nat}{nm:Nm}:zT [kL k nm,.bi 7]=some nm.isSome:=by
 rcases nm with _|⟨s,l⟩<;>rfl
section
variable {k:Nat}{items:List Th}
theorem mG {i:Nat}{caps:List D}{ρ:ac}{e:E}{nm:Nm}{p1 p2 p3:Pos}(h59:ρ 59=some (.sealed (.bi 6)))(h60:ρ 60=some (.sealed (.bi 7)))(he:ev aG (Γg i) ρ e=some (.d (kL k nm))):cT aG (Γg i) ρ (.callv 59 [e,.name 60 p1] p2 p3)=some nm.isSome:=
 t_isi h59 (ad he (ad (gJ h60) az)) isi_tag
theorem gen13 (hlim:items.length<=lim):aT.gen 13 [.bi 6,.bi 7,.nil,.list (items.map (eV k))]=some ((items.filter fun q=>q.2.isSome).map (eV k)):=by
 refine vN (i:=13) (caps:=[.bi 6,.bi 7]) rfl rfl rfl rfl rfl (by decide) rfl hlim fun q hq ρ I h62=>⟨ρ,?_,I⟩;exact yld1 h62 (mG (caps:=[]) (I.c 59 (by decide)) (I.c 60 (by decide)) (oM rfl (aa h62) rfl))
theorem gen14 (hk:k < 5)(hlim:items.length<=lim)(hne:∀q∈items,NeL q):aT.gen 14 [.bi 6,.bi 7,.nil,.list (items.map (eV k))]=some ((items.filter fun q=>match q.2 with|none=>false|some q=>q.1.isNone).map (eV k)):=by
 refine vN (i:=14) (caps:=[.bi 6,.bi 7]) rfl rfl rfl rfl rfl (by decide) rfl hlim fun q hq ρ I h62=>yld2 I rfl (by decide) h62 fun ρ' I' h64=>?_;have hi:∀{p1 p2 p3 p4:Pos},cT aG (Γg 14) ρ' (.callv 59 [.name 64 p1,.name 60 p2] p3 p4)=some q.2.isSome:=fun{_ _ _ _}=>mG (caps:=[]) (I'.c 59 (by decide)) (I'.c 60 (by decide)) (aa h64);obtain⟨v,_|⟨s,l⟩⟩:=q
 ·exact cb (e8 hi)
 ·refine sI (tag_hd (k:=k) hk (s':=s) (hne _ hq s l rfl)) fun a r e ha=>?_
  have h64':ρ' 64=some (.fz (.str (a::r))):=by refine AZ h64 ?_;show some (fu.fz (D.str (dW k s l)))=_;exact AZ e rfl
  refine cb (eF hi ((jf (aA (au (aa h64') af (pR a r)) (bc (by decide)) rfl) f7).trans ?_));show some ((!([a]==[123]))&&true)=_;have:([a]==[123])=(a==123):=by simp
  refine AZ this<|AZ ha ?_
  cases s<;>rfl
theorem gen15 (hk:k < 5){L:Wd}(hlim:items.length<=lim):aT.gen 15 [.bi 6,.bi 7,.slo (some (-((125::sp k L).length:Int))) none,.str (125::sp k L),.str (sp k L),.nil,.list (items.map (eV k))]=some ((items.filter fun q=>match q.2 with|none=>false|some q=>tY (125::q.2) (125::L)).map (eV k)):=by
 refine vN (i:=15) (caps:=[.bi 6,.bi 7,.slo (some (-((125::sp k L).length:Int))) none,.str (125::sp k L),.str (sp k L)]) rfl rfl rfl rfl rfl (by decide) rfl hlim fun q hq ρ I h62=>yld2 I rfl (by decide) h62 fun ρ' I' h64=>?_;have hi:∀{p1 p2 p3 p4:Pos},cT aG (Γg 15) ρ' (.callv 59 [.name 64 p1,.name 60 p2] p3 p4)=some q.2.isSome:=fun{_ _ _ _}=>mG (caps:=[]) (I'.c 59 (by decide)) (I'.c 60 (by decide)) (aa h64);have c1:∀{p1 p2 p3:Pos},cT aG (Γg 15) ρ' (.cmp (.name 64 p1) .Eq (.name 20 p2) p3)=some (j3 k (sp k L) q.2):=fun{_ _ _}=>aA (aa h64) (gJ (I'.c 20 (by decide))) Ai;obtain⟨v,_|⟨s,l⟩⟩:=q
 ·exact cb (ue c1 (ue (cb (e8 hi)) uf))
 ·have hit:D.item (.str (dW k s l)) (.slo (some (-((125::sp k L).length:Int))) none)=some (.str ((dW k s l).drop (CR (dW k s l).length (-((125::sp k L).length:Int))))):=by
   show some (D.str (fE _ _ _))=_;simp only[fE,GL];exact AZ (DM (by simp)) rfl
  refine(cb (se c1 (se (cb (jf hi (jf (aA (au (aa h64) (gJ (I'.c 66 (by decide))) hit) (gJ (I'.c 65 (by decide))) fF) f7))) uf))).trans ?_;refine AZ (oN _ _ (by simp)) ?_;show some ((dW k s l==sp k L)||((true&&(decide _&&true))||false))=_;exact AZ (DI _)<|AZ (Fm _)<|AZ (Fl _)<|AZ (tag_end hk) rfl
theorem gen16 (hk:k < 5){w:Wd}(hlim:items.length<=lim):aT.gen 16 [.bi 6,.bi 7,.str (123::(sp k w++[125])),.slo none (some ((123::(sp k w++[125])).length:Int)),.nil,.list (items.map (eV k))]=some ((items.filter fun q=>match q.2 with|none=>false|some q=>q.1==some w).map (eV k)):=by
 refine vN (i:=16) (caps:=[.bi 6,.bi 7,.str (123::(sp k w++[125])),.slo none (some ((123::(sp k w++[125])).length:Int))]) rfl rfl rfl rfl rfl (by decide) rfl hlim fun q hq ρ I h62=>yld2 I rfl (by decide) h62 fun ρ' I' h64=>?_;have hi:∀{p1 p2 p3 p4:Pos},cT aG (Γg 16) ρ' (.callv 59 [.name 64 p1,.name 60 p2] p3 p4)=some q.2.isSome:=fun{_ _ _ _}=>mG (caps:=[]) (I'.c 59 (by decide)) (I'.c 60 (by decide)) (aa h64);obtain⟨v,_|⟨s,l⟩⟩:=q
 ·exact cb (e8 hi)
 ·have hit:D.item (.str (dW k s l)) (.slo none (some ((123::(sp k w++[125])).length:Int)))=some (.str ((dW k s l).take (CR (dW k s l).length ((123::(sp k w++[125])).length:Int)))):=by
   show some (D.str (fE _ _ _))=_;simp[fE]
  refine(cb (jf hi (jf (aA (au (aa h64) (gJ (I'.c 68 (by decide))) hit) (gJ (I'.c 67 (by decide))) fF) f7))).trans ?_;refine AZ (jK _ _ rfl)<|AZ (tag_ns hk) ?_
  show some (true&&((s==some w)&&true))=_;exact AZ (DI _)<|AZ (Fm _) rfl
theorem gen12 {u:List Nat}{rows:List (List Th)}(hlim:(rows.flatMap fun r=>(r.filter fun q=>j3 k u q.2).map (eV k)).length<=lim):aT.gen 12 [.str u,.nil,.list (rows.map fun r=>.list (r.map (eV k)))]=some (rows.flatMap fun r=>(r.filter fun q=>j3 k u q.2).map (eV k)):=by
 refine ygen (i:=12) (t:=tM 12) (caps:=[.str u]) (body:=wM 12) (cD:=fun r=>.list (r.map (eV k))) rfl rfl rfl rfl rfl (by decide) rfl hlim fun row hr ρ I h62=>?_
 obtain⟨ρ',r,I'⟩:=yfor (Γ:=Γg 12) (t:=71) (I:=kA (tM 12) [.str u]) (body:=fun ρ=>eH aG iu 74 (Γg 12) ρ (yt ((wM 12).getD 0 y00))) (c:=eV k) (f:=fun q=>if j3 k u q.2 then[eV k q] else[]) (fun ρ h=>h.u1.mine rfl) row (fun q hq ρ h=>⟨ρ.set 71 (.fz (eV k q)),by
   have ht:∀{p1 p2 p3 p4:Pos},cT aG (Γg 12) (ρ.set 71 (.fz (eV k q))) (.cmp (.attr (.name 71 p1) 20 p2) .Eq (.name 20 p3) p4)=some (j3 k u q.2):=fun{_ _ _ _}=>
    aA (oM rfl (aa ae) (z:=kL k q.2) rfl) (gJ (sN (h.c 20 (by decide)))) Ai
   cases hb:j3 k u q.2 with
   |true=>exact(bq (b:=[]) (vO (ht.trans (congrArg some hb)) (bq (b:=[]) (uq (d:=eV k q) (by unfold ac.at;exact AZ ae rfl)) dJ)) dJ).trans rfl
   |false=>exact(bq (b:=[]) (ur (ht.trans (congrArg some hb))) dJ).trans rfl,h.set (by decide) _⟩) ρ I
 refine⟨ρ',(bq (b:=[]) (ut (d:=.list (row.map (eV k))) (by unfold ac.at;exact AZ h62 rfl) rfl r) dJ).trans ?_,I'⟩;exact AZ (CE _)<|AZ (iE _ _ _) rfl
end
end Mine
namespace Mine
theorem prep0:aT.call 32 [.str [123,42,125,42]]=some (.lam 13 [.bi 6,.bi 7]):=by rfl
theorem prep1:aT.call 32 [.str [123,125,42]]=some (.lam 14 [.bi 6,.bi 7]):=by rfl
theorem ends_eq (a b:List Nat):FJ ⟨a.toArray⟩ ⟨b.toArray⟩=tY a b:=by
 unfold FJ Builtin.Str.subAt tY Str.length
 (refine AZ (propext Cr) ?_;rw[decide_eq_true_eq])
 simp only[B7,Nat.zero_add,Bz,decide_eq_true_eq,beq_iff_eq]
 constructor
 ·rintro⟨h1,h2⟩
  have h3:(a.drop (a.length - b.length))=b:=by
   have:=congrArg GH h2;simp only[List.extract_toArray,Gy] at this;rw[show a.length - b.length+b.length - (a.length - b.length)=b.length by lia,DM (by simp;lia)] at this;exact this
  have h4:=List.take_append_drop (a.length - b.length) a;rw[h3] at h4;exact⟨_,h4⟩
 ·rintro⟨x,rfl⟩
  refine⟨by simp,?_⟩;have:(x++b).length - b.length=x.length:=by simp
  refine AZ this ?_;simp[Gy]
theorem tv {i:Int}(h:-(lim:Int)<=i/\i<=lim):D.part (.int i)=some (some i):=if_pos h
theorem slo_lo {i:Int}(h:-(lim:Int)<=i/\i<=lim):D.builtin2 3 (.int i) .nil=some (.slo (some i) none):=by
 show(D.part (.int i)).bind _=_;refine AZ (tv h) ?_;rfl
theorem slo_hi {i:Int}(h:-(lim:Int)<=i/\i<=lim):D.builtin2 3 .nil (.int i)=some (.slo none (some i)):=by
 show(D.part (.int i)).map _=_;refine AZ (tv h) ?_;rfl
section
variable {k:Nat}(hk:k < 5)
include hk
theorem prep2 {l:Wd}(hl:l≠[])(hw:l.length<=50):aT.call 32 [.str (123::42::125::sp k l)]=some (.lam 15 [.bi 6,.bi 7,.slo (some (-((125::sp k l).length:Int))) none,.str (125::sp k l),.str (sp k l)]):=by
 have hlen:=nO hk l;refine bC (tx c6 dX 32 (bI (qZ (eD "_prepare_tag")))) (Φ:=aG) rfl rfl rfl ?_
 have n1:((123::42::125::sp k l)==[123,42,125,42])=false:=beq_eq_false_iff_ne.mpr fun h=>sX hk b42 (Bv (Bv (Bv h).2).2).2;have n2:((123::42::125::sp k l)==[123,125,42])=false:=beq_eq_false_iff_ne.mpr fun h=>absurd (Bv (Bv h).2).1 (by decide);have c2:CR (123::42::125::sp k l).length 2=2:=iK (k:=2) (Do 2 _);have c3:CR (123::42::125::sp k l).length 3=3:=iK (k:=3) (Do 3 _);have N0:cg (aq [20] [.str (123::42::125::sp k l)] fun J=>none):=jZ;have x65:D.slice (.str (123::42::125::sp k l)) (some (.int 2)) none=some (.str (125::sp k l)):=(nQ (by decide)).trans (by refine AZ c2 ?_;rfl);have x20:D.slice (.str (123::42::125::sp k l)) (some (.int 3)) none=some (.str (sp k l)):=(nQ (by decide)).trans (by refine AZ c3 ?_;rfl);have x66:=slo_lo (i:=-((125::sp k l).length:Int)) ⟨by simp only[BA];unfold lim;lia,by unfold lim;lia⟩;have tk:((123::42::125::sp k l).take 3==[123,42,125])=true:=rfl;have N1:=(N0.set 59 (.bi 6)).set 60 (.bi 7);have N2:=N1.set 65 (.str (125::sp k l));have N3:=N2.set 66 (.slo (some (-((125::sp k l).length:Int))) none)
 refine ag (eK (e7 (e_bi ⟨rfl,.inl rfl⟩) (e7 (e_bi ⟨rfl,.inr rfl⟩) gj)) rfl rfl (by decide) (N0.all rfl) mE) (ag (cH (aA (aa (d:=.str (123::42::125::sp k l)) rfl) (bc (by decide)) (fF.trans (congrArg some n1))) (ag (cH (aA (aa (d:=.str (123::42::125::sp k l)) rfl) (bc (by decide)) (fF.trans (congrArg some n2))) (ag (eQ (aA (iG (aa (d:=.str (123::42::125::sp k l)) rfl) eZ (eY af) (kN (by decide))) (bc (by decide)) (fF.trans (by exact AZ c3<|AZ tk rfl)))
  (ag (cI (iG (aa (d:=.str (123::42::125::sp k l)) rfl) (eY af) eZ x65) (N1.mine rfl)) (ag (cI (vt (e_usub (gn (aa (d:=.str (125::sp k l)) rfl) rfl (by decide) rfl)) c9 rfl (by decide) x66) (N2.mine rfl)) (ag (cI (iG (aa (d:=.str (123::42::125::sp k l)) rfl) (eY af) eZ x20) (N3.mine rfl))
   (ag (fy rfl rfl) (ag (fy rfl rfl) (ag (fy rfl rfl) (ag (fy rfl rfl) (ag (fy rfl rfl) (ag (qX (caps:=[.bi 6,.bi 7,.slo (some (-((125::sp k l).length:Int))) none,.str (125::sp k l),.str (sp k l)]) ⟨rfl,by decide,rfl,rfl⟩ rfl) ax)))))))))) ax)) ax)) (bF (c0 (aa rfl))))
theorem prep3 {w:Wd}(hl:w≠[])(hw:w.length<=50):aT.call 32 [.str (123::(sp k w++[125,42]))]=some (.lam 16 [.bi 6,.bi 7,.str (123::(sp k w++[125])),.slo none (some ((123::(sp k w++[125])).length:Int))]):=by
 have hlen:=nO hk w;refine bC (tx c6 dX 32 (bI (qZ (eD "_prepare_tag")))) (Φ:=aG) rfl rfl rfl ?_
 obtain⟨a,r,e,ha⟩:∃a r,sp k w=a::r/\bare a=false:=by
  refine x2 (CI hl) fun c w' e91=>?_;subst e91;refine sI (ta hk c) fun a r e ha=>?_;exact⟨a,r++sp k w',by refine AZ dc<|AZ e ?_;rfl,ha⟩
 generalize hu:(123::(sp k w++[125,42]))=u;have hu2:u=123::a::(r++[125,42]):=by refine AZ (BE hu)<|AZ e ?_;rfl
 have na:a≠42/\a≠125:=⟨fun q=>by rw[q] at ha;exact absurd ha (by decide),fun q=>by rw[q] at ha;exact absurd ha (by decide)⟩;have n1:(u==[123,42,125,42])=false:=beq_eq_false_iff_ne.mpr fun h=>na.1 (Bv (Bv (hu2.symm.trans h)).2).1;have n2:(u==[123,125,42])=false:=beq_eq_false_iff_ne.mpr fun h=>na.2 (Bv (Bv (hu2.symm.trans h)).2).1;have n3:(u.take (CR u.length 3)==[123,42,125])=false:=(jK u [123,42,125] (n:=3) rfl).trans (decide_eq_false fun⟨x,h⟩=>na.1 (Bv (Bv (h.trans hu2)).2).1.symm);have n4:(u.drop (CR u.length (-2))==[125,42])=true:=(oN u [125,42] (by decide)).trans (decide_eq_true ⟨123::sp k w,by refine AZ (BE hu) ?_;simp⟩);have ulen:u.length=(sp k w).length+3:=by refine AZ (BE hu) ?_;simp
 have x67:D.slice (.str u) none (some (.int (-1)))=some (.str (123::(sp k w++[125]))):=(kN (by decide)).trans (by
  have:CR u.length (-1)=(123::(sp k w++[125])).length:=(ud (k:=1) (by decide) (by refine AZ ulen ?_;exact Do _ _)).trans (by refine AZ ulen ?_;simp)
  exact AZ this<|AZ (BE hu)<|AZ (show 123::(sp k w++[125,42])=(123::(sp k w++[125]))++[42] by simp)<|AZ Eo rfl)
 have x68:=slo_hi (i:=((123::(sp k w++[125])).length:Int)) ⟨by unfold lim;lia,by simp only[BA,Bm,Da];unfold lim;lia⟩;have N0:cg (aq [20] [.str u] fun J=>none):=jZ;have N1:=(N0.set 59 (.bi 6)).set 60 (.bi 7);have N2:=N1.set 67 (.str (123::(sp k w++[125])))
 refine ag (eK (e7 (e_bi ⟨rfl,.inl rfl⟩) (e7 (e_bi ⟨rfl,.inr rfl⟩) gj)) rfl rfl (by decide) (N0.all rfl) mE) (ag (cH (aA (aa (d:=.str u) rfl) (bc (by decide)) (fF.trans (congrArg some n1))) (ag (cH (aA (aa (d:=.str u) rfl) (bc (by decide)) (fF.trans (congrArg some n2))) (ag (cH (aA (iG (aa (d:=.str u) rfl) eZ (eY af) (kN (by decide))) (bc (by decide)) (fF.trans (congrArg some n3)))
  (ag (eQ (aA (iG (aa (d:=.str u) rfl) (eY j9) eZ (nQ (by decide))) (bc (by decide)) (fF.trans (congrArg some n4))) (ag (cI (iG (aa (d:=.str u) rfl) eZ (eY j9) x67) (N1.mine rfl)) (ag (cI (vt c9 (gn (aa (d:=.str (123::(sp k w++[125]))) rfl) rfl (by decide) rfl) rfl (by decide) x68) (N2.mine rfl))
   (ag (fy rfl rfl) (ag (fy rfl rfl) (ag (fy rfl rfl) (ag (fy rfl rfl) (ag (qX (caps:=[.bi 6,.bi 7,.str (123::(sp k w++[125])),.slo none (some ((123::(sp k w++[125])).length:Int))]) ⟨rfl,by decide,rfl,rfl⟩ rfl) ax)))))))) ax)) ax)) ax)) (bF (c0 (aa rfl))))
omit hk in
theorem nz {u:List Nat}:aT.call 31 [.str u]=some (.bool (decide ([123,42,125] <+: u)||decide ([125,42] <:+ u))):=by
 refine bC (tx cB dL 0 cF) (Φ:=aG) rfl rfl rfl ?_;refine bF (c0 (v_or (oL (iG (aa (d:=.str u) rfl) eZ (eY af) (kN (by decide))) (bc (by decide)) (fF.trans ?_)) (oL (iG (aa (d:=.str u) rfl) (eY j9) eZ (nQ (by decide))) (bc (by decide)) (fF.trans ?_))))
 ·exact congrArg some (jK u [123,42,125] (n:=3) rfl)
 ·exact congrArg some (oN u [125,42] (by decide))
noncomputable def spW (k:Nat):Option Wd->List Nat
 |none=>[]
 |some w=>sp k w
theorem yd {s:Option Wd}{l:Wd}(hl:l≠[])(hs:s≠some [])(hw:l.length<=50):dm.call 33 [.nil,.tup [.str [],.str (123::(spW k s++125::sp k l))]]=some (.lam 12 [.str (dW k s l)]):=by
 have hlen:=nO hk l;refine bC (tx di de 33 (bh (qR (eD "prepare_child")))) (Φ:=aT) rfl rfl rfl ?_
 generalize hu:(123::(spW k s++125::sp k l))=u;obtain⟨f1,f2⟩:=qv hk (s:=s) hl (u:=u) (by refine AZ (BE hu) ?_;cases s<;>rfl);have hwild:aT.call 31 [.str u]=some (.bool false):=nz.trans (by simp only[f1,f2];rfl);have N0:cg (aq [72,70] [.nil,.tup [.str [],.str u]] fun J=>none):=jZ;have N1:=N0.set 20 (.str u);refine ag (cI (au (aa (d:=.tup [.str [],.str u]) rfl) af (z:=.str u) rfl) (N0.mine rfl)) ?_
 suffices h:∃ρ,aL aT NN (aH de 33) ((aq [72,70] [.nil,.tup [.str [],.str u]] fun J=>none).set 20 (.fz (.str u))) (Ap ((bh (qR (eD "prepare_child"))).getD 1 io))=some (.nx ρ)/\ρ 63=some (.fz (.lam 12 [.str (dW k s l)])) by
  refine ak h fun ρ h1 h2=>?_;exact ag (cH (gy (ad (aa (d:=.str u) rfl) az) rfl hwild) h1) (bF (c0 (aa h2)))
 cases s with
 |none=>
  have c2:CR u.length 2=2:=iK (k:=2) (by refine AZ (BE hu) ?_;exact Do 2 _);have t2:(u.take 2==[123,125])=true:=by refine AZ (BE hu) ?_;rfl
  have x20:D.slice (.str u) (some (.int 2)) none=some (.str (sp k l)):=(nQ (by decide)).trans (by refine AZ c2<|AZ (BE hu) ?_;rfl);exact⟨_,ag (eQ (aA (iG (aa (d:=.str u) rfl) eZ (eY af) (kN (by decide))) (bc (by decide)) (fF.trans (by exact AZ c2<|AZ t2 rfl))) (ag (cI (iG (aa (d:=.str u) rfl) (eY af) eZ x20) (N1.mine rfl)) ax)) (ag (fy (d:=.str (sp k l)) rfl rfl) (ag (qX (caps:=[.str (sp k l)]) ⟨rfl,by decide,rfl,rfl⟩ rfl) ax)),ae⟩
 |some w=>
  have hw0:w≠[]:=fun e=>hs (by exact AZ e rfl)
  have t2:(u.take (CR u.length 2)==[123,125])=false:=(jK u [123,125] (n:=2) rfl).trans (decide_eq_false fun⟨x,h⟩=>by
   rw[<-hu] at h;refine x2 (CI hw0) fun c w' e91=>?_;subst e91;have h2:125::x=sp k (c::w')++125::sp k l:=(Bv h).2;rw[dc,BU] at h2
   exact dM hk ug c _ h2)
  have hu':u=dW k (some w) l:=hu.symm;refine AZ (BE hu') ?_;exact⟨_,ag (cH (aA (iG (aa (d:=.str u) rfl) eZ (eY af) (kN (by decide))) (bc (by decide)) (fF.trans (congrArg some t2))) ax) (ag (fy (d:=.str u) rfl rfl) (ag (qX (caps:=[.str u]) ⟨rfl,by decide,rfl,rfl⟩ rfl) ax)),ae⟩
end
end Mine
namespace Mine
noncomputable def stp (way:Nat)(s:Option Wd)(l:Wd):D:=.tup [.int (way:Int),fG (some (s,l))]
theorem ne_wd (a b:Option Wd):D.cmp .NotEq (o4 a) (o4 b)=some (!decide (a=b)):=by
 rcases a with _|a<;>rcases b with _|b
 ·rfl
 ·simp[o4];rfl
 ·simp[o4];rfl
 ·show some (!(a==b))=_
  congr 2
  refine AZ (propext Cr) ?_;simp
theorem eG {a b:List Nat}(h:(a++b).length<=lim):D.bin .Add (.str a) (.str b)=some (.str (a++b)):=if_pos h
theorem z7 {way:Nat}{s:Option Wd}{l:Wd}{nm:Nm}(hw:way < 5)(hl:l.length<=50)(hn:∀q,nm=some q->q.2.length<=50):aT.call 47 [stp way s l,fG nm]=some (.bool (iF way s l nm)):=by
 refine bC (tx fQ ij 0 fV) (Φ:=aG) rfl rfl rfl ?_;rcases nm with _|⟨s',l'⟩
 ·rfl
 have hn:=hn _ rfl;have N0:cg (aq [112,110] [stp way s l,fG (some (s',l'))] fun J=>none):=jZ
 have hin:D.cmp .In (.int (way:Int)) (.tup ([2,4].map .int))=some (decide (way=2\/way=4)):=(kY (way:Int) [2,4]).trans (by
  have:=k5 (k:=way) (by assumption)
  rcases this with rfl|rfl|rfl|rfl|rfl<;>rfl)
 have a1:D.bin .Add (.str [125]) (.str l')=some (.str (125::l')):=eG (by show _<=1048576;simp;lia);have a2:D.bin .Add (.str [125]) (.str l)=some (.str (125::l)):=eG (by show _<=1048576;simp;lia);have a3:D.method (.str (125::l')) 15 [.str (125::l)]=some (.bool (tY (125::l') (125::l))):=by
  refine AZ (BE (ends_eq _ _)) ?_;rfl
 refine ag (cH (aA (aa (d:=fG (some (s',l'))) rfl) c9 rfl) ax) (ag (uP (ds:=[.int (way:Int),fG (some (s,l))]) (aa rfl) rfl rfl (N0.all rfl)) ?_);show _=some (g7.rt (.bool (gV way s l s' l')));unfold gV
 by_cases h1:(way=2\/way=4)/\s'≠s
 ·refine AZ (if_pos h1) ?_
  refine bF (eQ (cb (jf (aA (aa rfl) (fX (ad af (ad af az)) mE) hin) (jf (aA (au (aa (d:=fG (some (s',l'))) rfl) af (z:=o4 s') rfl) (au (aa (d:=fG (some (s,l))) rfl) af (z:=o4 s) rfl) (ne_wd _ _)) f7)) |>.trans ?_) (bF (c0 rO)));simp[h1.1,h1.2]
 ·refine AZ (if_neg h1) ?_
  refine ag (cH (cb (jf (aA (aa rfl) (fX (ad af (ad af az)) mE) hin) (jf (aA (au (aa (d:=fG (some (s',l'))) rfl) af (z:=o4 s') rfl) (au (aa (d:=fG (some (s,l))) rfl) af (z:=o4 s) rfl) (ne_wd _ _)) f7)) |>.trans ?_) ax) ?_
  ·congr 1
   refine AZ (propext Dp) ?_
   simpa using h1
  ·have c4:((way:Int)==4)=decide (way=4):=rE way 4
   by_cases h4:way=4
   ·refine AZ (if_pos h4) ?_
    exact bF (eQ (aA (aa (d:=.int (way:Int)) rfl) af (je.trans (by exact AZ c4<|AZ (decide_eq_true h4) rfl))) (bF (c0 (oL (au (aa (d:=fG (some (s',l'))) rfl) af (z:=.str l') rfl) (au (aa (d:=fG (some (s,l))) rfl) af (z:=.str l) rfl) fF))))
   ·refine AZ (if_neg h4) ?_
    refine ag (cH (aA (aa (d:=.int (way:Int)) rfl) af (je.trans (by exact AZ c4<|AZ (decide_eq_false h4) rfl))) ax) (bF (c0 (v_or (oL (aa (d:=.int (way:Int)) rfl) af ?_) (rL rfl (bB (bc (by decide)) (au (aa (d:=fG (some (s',l'))) rfl) af (z:=.str l') rfl) a1) (bB (bc (by decide)) (au (aa (d:=fG (some (s,l))) rfl) af (z:=.str l) rfl) a2) a3))));have e3:((way:Int)==3)=(way==3):=rE way 3;show(D.cmp .Eq (.int (way:Int)) (.int 3)).map (!·)=some (way != 3);refine AZ je<|AZ e3 ?_;rfl
section
variable {k:Nat}(hk:k < 5)
include hk
theorem tag_run {nm:Nm}(hn:∀q,nm=some q->q.2.length<=50/\∀w,q.1=some w->w.length<=50):dm.call 50 [fG nm,.int (k:Int)]=some (kL k nm):=by
 refine bC (tx gC jq 0 gH) (Φ:=aT) rfl rfl rfl ?_;rcases nm with _|⟨s,l⟩
 ·rfl
 obtain⟨hl,hs⟩:=hn _ rfl;have l1:=nO hk l;have N0:cg (aq [110,85] [fG (some (s,l)),.int (k:Int)] fun J=>none):=jZ;refine ag (cH (aA (aa (d:=fG (some (s,l))) rfl) c9 rfl) ax) (ag (cI (ca (ad (au (aa (d:=fG (some (s,l))) rfl) af (z:=.str l) rfl) (ad (aa (d:=.int (k:Int)) rfl) az)) rfl (lQ hk hl)) (N0.mine rfl)) (bF (c0 ?_)))
 cases s with
 |none=>exact rM (aA (au (aa (d:=fG (some (none,l))) rfl) af (z:=.nil) rfl) c9 rfl) (aa ae)
 |some w=>
  have l2:=nO hk w;have hw:=hs w rfl;have a1:D.bin .Add (.str [123]) (.str (sp k w))=some (.str (123::sp k w)):=eG (by show _<=1048576;simp;lia);have a2:D.bin .Add (.str (123::sp k w)) (.str [125])=some (.str (123::sp k w++[125])):=eG (by show _<=1048576;simp;lia);have a3:D.bin .Add (.str (123::sp k w++[125])) (.str (sp k l))=some (.str (dW k (some w) l)):=(eG (by show _<=1048576;simp;lia)).trans (by simp[dW]);exact rN (aA (au (aa (d:=fG (some (some w,l))) rfl) af (z:=.str w) rfl) c9 rfl) (bB (bB (bB (bc (by decide)) (ca (ad (au (aa (d:=fG (some (some w,l))) rfl) af (z:=.str w) rfl) (ad (aa (d:=.int (k:Int)) rfl) az)) rfl (lQ hk hw)) a1) (bc (by decide)) a2) (aa ae) a3)
noncomputable def vR (k way:Nat)(s:Option Wd):List Nat:=if way=2\/way=4 then spW k s else[42]
noncomputable def wLo (k way:Nat)(l:Wd):List Nat:=if 2 < way then sp k l else[42]
noncomputable def cV (k way:Nat)(s:Option Wd)(l:Wd):List Nat:=123::(vR k way s++125::wLo k way l)
noncomputable abbrev ΓW:aj:=aH fL 0
theorem yv {way:Nat}{s:Option Wd}{l:Wd}(hw:way < 5)(hl:l.length<=50)(hs:∀w,s=some w->w.length<=50):dC.call 51 [stp way s l,.int (k:Int)]=some (.str (cV k way s l)):=by
 have l1:=nO hk l;have lS:(vR k way s).length<=400:=by
  unfold vR
  split
  ·cases s with
   |none=>simp[spW]
   |some w=>have:=nO hk w;have:=hs w rfl;simp only[spW];lia
  ·simp
 have lL:(wLo k way l).length<=400:=by
  unfold wLo
  split
  ·lia
  ·simp
 refine bC (tx fO fL 0 dQ) (Φ:=dm) rfl rfl rfl ?_;have N0:cg (aq [112,85] [stp way s l,.int (k:Int)] fun J=>none):=jZ;have N1:cg (((aq [112,85] [stp way s l,.int (k:Int)] fun J=>none).set 107 (.fz (.int (way:Int)))).set 110 (.fz (fG (some (s,l))))):=(N0.set _ _).set _ _
 let ρ2:=((((aq [112,85] [stp way s l,.int (k:Int)] fun J=>none).set 107 (.fz (.int (way:Int)))).set 110 (.fz (fG (some (s,l))))).set 98 (.fz (.str [42]))).set 99 (.fz (.str [42]))
 have N2:cg ρ2:=(N1.set _ _).set _ _;refine ag (uP (ds:=[.int (way:Int),fG (some (s,l))]) (aa rfl) rfl rfl (N0.all rfl)) (ag (eK (e7 (bc (by decide)) (e7 (bc (by decide)) gj)) rfl rfl (by decide) (N1.all rfl) mE) ?_)
 have hin:D.cmp .In (.int (way:Int)) (.tup ([2,4].map .int))=some (decide (way=2\/way=4)):=(kY (way:Int) [2,4]).trans (by
  have:=k5 (k:=way) (by assumption)
  rcases this with rfl|rfl|rfl|rfl|rfl<;>rfl)
 have hgt:D.cmp .Gt (.int (way:Int)) (.int 2)=some (decide (2 < way)):=by
  show some (decide ((2:Int) < way))=_;exact congrArg some (decide_eq_decide.mpr (show((2:Nat):Int) < (way:Int)↔2 < way from DC))
 let ρ3:=ρ2.set 98 (.fz (.str (vR k way s)))
 have N3:cg ρ3:=N2.set _ _;have r3:bJ dm NN ΓW ρ2 (dQ.getD 2 io)=some (.nx ρ3):=by
  by_cases h:way=2\/way=4
  ·have e:vR k way s=spW k s:=if_pos h
   refine eQ (aA (aa (d:=.int (way:Int)) rfl) (fX (ad af (ad af az)) mE) (hin.trans (by exact AZ (decide_eq_true h) rfl))) (ag (cI ?_ (N2.mine rfl)) ax);refine AZ e ?_
   cases s with
   |none=>exact rM (aA (au (aa (d:=fG (some (none,l))) rfl) af (z:=.nil) rfl) c9 rfl) (bc (by decide))
   |some w=>exact rN (aA (au (aa (d:=fG (some (some w,l))) rfl) af (z:=.str w) rfl) c9 rfl) (ca (ad (au (aa (d:=fG (some (some w,l))) rfl) af (z:=.str w) rfl) (ad (aa (d:=.int (k:Int)) rfl) az)) rfl (lN hk (hs w rfl)))
  ·have e:vR k way s=[42]:=if_neg h
   refine(cH (aA (aa (d:=.int (way:Int)) rfl) (fX (ad af (ad af az)) mE) (hin.trans (by exact AZ (decide_eq_false h) rfl))) ax).trans ?_;show some (g7.nx ρ2)=some (.nx (ρ2.set 98 (.fz (.str (vR k way s)))));rw[e,nR];rfl
 let ρ4:=ρ3.set 99 (.fz (.str (wLo k way l)))
 have r4:bJ dm NN ΓW ρ3 (dQ.getD 3 io)=some (.nx ρ4):=by
  by_cases h:2 < way
  ·have e:wLo k way l=sp k l:=if_pos h
   refine eQ (aA (aa (d:=.int (way:Int)) rfl) af (hgt.trans (by exact AZ (decide_eq_true h) rfl))) (ag (cI ?_ (N3.mine rfl)) ax);refine AZ e ?_;exact ca (ad (au (aa (d:=fG (some (s,l))) rfl) af (z:=.str l) rfl) (ad (aa (d:=.int (k:Int)) rfl) az)) rfl (lN hk hl)
  ·have e:wLo k way l=[42]:=if_neg h
   refine(cH (aA (aa (d:=.int (way:Int)) rfl) af (hgt.trans (by exact AZ (decide_eq_false h) rfl))) ax).trans ?_;show some (g7.nx ρ3)=some (.nx (ρ3.set 99 (.fz (.str (wLo k way l)))));rw[e,nR];rfl
 have a1:D.bin .Add (.str [123]) (.str (vR k way s))=some (.str (123::vR k way s)):=eG (by show _<=1048576;simp;lia);have a2:D.bin .Add (.str (123::vR k way s)) (.str [125])=some (.str (123::vR k way s++[125])):=eG (by show _<=1048576;simp;lia);have a3:D.bin .Add (.str (123::vR k way s++[125])) (.str (wLo k way l))=some (.str (cV k way s l)):=(eG (by show _<=1048576;simp;lia)).trans (by simp[cV]);exact ag r3 (ag r4 (bF (c0 (bB (bB (bB (bc (by decide)) (aa (d:=.str (vR k way s)) rfl) a1) (bc (by decide)) a2) (aa (d:=.str (wLo k way l)) rfl) a3))))
end
end Mine
namespace Mine
theorem e_comp2 {Φ:bU}{Γ:aj}{ρ:ac}{α:Type}{elt it it2:E}{n m:Nat}{tp tq:Pos}{sc:LK}{p:Pos}{r:R}{L:List (List α)}{c:List α->D}{g h:α->D}(ho:jS Γ sc=true)(h1:ev Φ Γ ρ it=some r)(h2:r.asI=some (L.map c))(hf:(Tg.name n tp).fit sc (ρ.cut sc)=true)
  (hf2:∀a,(Tg.name m tq).fit sc ((ρ.cut sc).set n (.fz (c a)))=true) (hi:∀a∈L,∃r,ev Φ (aB Γ sc) ((ρ.cut sc).set n (.fz (c a))) it2=some r/\r.asI=some (a.map g)) (he:∀a∈L,∀b∈a,ev Φ (aB Γ sc) (((ρ.cut sc).set n (.fz (c a))).set m (.fz (g b))) elt=some (.d (h b))) (hl:L.flatten.length<=lim):
  ev Φ Γ ρ (.comp elt [.mk (.name n tp) it [],.mk (.name m tq) it2 []] sc p)=some (.d (.list (L.flatten.map h))):=by
 refine AZ jh<|AZ (if_pos ho)<|AZ h1 ?_
 simp only[Bh,BB,h2];rw[gl (g:=fun a=>a.map h) hf L fun a ha=>?_]
 ·have:(L.flatMap fun a=>a.map h)=L.flatten.map h:=by exact AZ List.map_flatten<|AZ FP rfl
  refine AZ this ?_;simp only[BB,xS];refine AZ (if_pos (by refine AZ (Bx _) ?_;exact hl)) ?_;rfl
 ·refine ak (hi a ha) fun r' q1 q2=>?_
  simp only[f9,BB,if_true,nv,q1,q2,Bh];rw[gl (g:=fun b=>[h b]) (hf2 a) a fun b hb=>?_,tS];simp[f9,iR,he a ha b hb,R.asD]
noncomputable def pX (k:Nat)(rows:List (List Th)):D:=.list (rows.map fun r=>.list (r.map (eV k)))
noncomputable def gX (way:Nat)(s:Option Wd)(l:Wd)(rows:List (List Th)):List Th:=rows.flatMap fun r=>r.filter fun q=>iF way s l q.2
theorem fD {P Q:Nm->Bool}(h:∀nm,P nm=Q nm)(l:List Th):(l.filter fun q=>P q.2)=l.filter fun q=>Q q.2:=by
 have:P=Q:=funext h;exact AZ this rfl
section
variable {k:Nat}(hk:k < 5)
include hk
theorem yw {way:Nat}{s:Option Wd}{l:Wd}(hw:way < 4)(hl:l≠[])(hl5:l.length<=50)(hs:∀w,s=some w->w≠[]/\w.length<=50):(decide ([123,42,125] <+: cV k way s l)||decide ([125,42] <:+ cV k way s l))=true/\
  ∃i caps,aT.call 32 [.str (cV k way s l)]=some (.lam i caps)/\∀items:List Th,items.length<=lim->(∀q∈items,NeL q)->aT.gen i (caps++[.nil,.list (items.map (eV k))])=some ((items.filter fun q=>iF way s l q.2).map (eV k)):=by
 have w01:∀way,(way=0\/way=1)->cV k way s l=[123,42,125,42]:=fun way h=>by rcases h with rfl|rfl<;>rfl
 have f01:∀way,(way=0\/way=1)->∀nm,nm.isSome=iF way s l nm:=fun way h nm=>by
  rcases h with rfl|rfl<;>rcases nm with _|⟨s',l'⟩<;>simp[iF,gV]
 have c01:∀way,(way=0\/way=1)->(decide ([123,42,125] <+: cV k way s l)||decide ([125,42] <:+ cV k way s l))=true/\
  ∃i caps,aT.call 32 [.str (cV k way s l)]=some (.lam i caps)/\∀items:List Th,items.length<=lim->(∀q∈items,NeL q)->aT.gen i (caps++[.nil,.list (items.map (eV k))])=some ((items.filter fun q=>iF way s l q.2).map (eV k)):=fun way h=>by
  refine AZ (w01 way h) ?_;exact⟨by decide,13,[.bi 6,.bi 7],prep0,fun items hi J=>by refine AZ (BE (fD (P:=fun nm=>nm.isSome) (f01 way h) _)) ?_;exact gen13 hi⟩
 have h4:∀i,i < 4->i=0\/i=1\/i=2\/i=3:=by decide
 have:=h4 way (by assumption);rcases this with rfl|rfl|rfl|rfl
 ·exact c01 0 (.inl rfl)
 ·exact c01 1 (.inr rfl)
 ·cases s with
  |none=>
   refine⟨by rfl,14,[.bi 6,.bi 7],prep1,fun items hi hne=>?_⟩;rw[<-fD (P:=fun nm=>match nm with|none=>false|some q=>q.1.isNone) fun nm=>?_]
   ·exact gen14 hk hi hne
   ·rcases nm with _|⟨_|s',l'⟩<;>simp[iF,gV]
  |some w=>
   refine aS (hs w rfl) fun h1 h2=>?_;refine⟨?_,16,_,prep3 hk h1 h2,fun items hi hne=>?_⟩
   ·refine AZ (BZ _ _) ?_
    exact .inr (decide_eq_true ⟨123::sp k w,by simp[cV,vR,wLo,spW]⟩)
   ·rw[<-fD (P:=fun nm=>match nm with|none=>false|some q=>q.1==some w) fun nm=>?_]
    ·exact gen16 hk hi
    ·rcases nm with _|⟨s',l'⟩
     ·rfl
     ·show(s'==some w)=gV 2 (some w) l s' l'
      by_cases h:s'=some w
      ·subst h;simp[gV]
      ·simp[gV,h]
 ·refine⟨?_,15,_,prep2 hk hl hl5,fun items hi hne=>?_⟩
  ·refine AZ (BZ _ _) ?_
   exact .inl (decide_eq_true ⟨sp k l,rfl⟩)
  ·rw[<-fD (P:=fun nm=>match nm with|none=>false|some q=>tY (125::q.2) (125::l)) fun nm=>?_]
   ·exact gen15 hk hi
   ·rcases nm with _|⟨s',l'⟩<;>simp[iF,gV]
theorem Au {way:Nat}{s:Option Wd}{l:Wd}{rows:List (List Th)}(hw:way < 5)(hl:l≠[])(hl5:l.length<=50)(hs:∀w,s=some w->w≠[]/\w.length<=50)(hlim:rows.flatten.length<=lim)(hne:∀r∈rows,∀q∈r,NeL q):
  dC.call 54 [.str (cV k way s l),pX k rows]=some (.list ((gX way s l rows).map fun q=>.int (q.1:Int))):=by
 refine bC (tx fS ik 0 fW) (Φ:=dm) rfl rfl rfl ?_;have ef:rows.flatten.filter (fun q=>iF way s l q.2)=gX way s l rows:=by
  unfold gX;exact AZ List.filter_flatten<|AZ FP rfl
 have hdl:(gX way s l rows).length<=lim:=by refine AZ (BE ef) ?_;exact Bf (Cz _ _) hlim
 by_cases h4:way < 4
 ·refine x0121 (yw (s:=s) hk h4 hl hl5 hs) fun hb i caps hp hg=>?_
  have hw31:dm.call 31 [.str (cV k way s l)]=some (.bool true):=(nz (u:=cV k way s l)).trans (by exact AZ hb rfl);have hg':=hg rows.flatten hlim fun q hq=>by
   refine ak (List.mem_flatten.mp hq) fun r h1 h2=>?_;exact hne r h1 q h2
  rw[ef] at hg'
  exact bF (eQ (gy (ad (aa (d:=.str (cV k way s l)) rfl) az) rfl hw31) (bF (c0 (jA (l:=gX way s l rows) (c:=eV k) (k:=fun q=>.int (q.1:Int)) (by rfl)
   (t0 (by rfl) (ca (ad (aa (d:=.str (cV k way s l)) rfl) az) rfl hp) (ad c9 (ad (e_comp2 (L:=rows) (c:=fun r=>.list (r.map (eV k))) (g:=eV k) (h:=eV k) (by rfl) (aa (d:=pX k rows) rfl) rfl (by rfl) (fun J=>rfl) (fun a J=>⟨_,aa ae,rfl⟩) (fun a J b J=>aa ae) hlim) az)) rfl hg')
   rfl (by rfl) (fun q hq=>oM rfl (aa ae) rfl) hdl))))
 ·obtain rfl:way=4:=by lia
  have hs0:s≠some []:=fun e=>(hs [] e).1 rfl;have ew:cV k 4 s l=123::(spW k s++125::sp k l):=rfl
  have hw31:dm.call 31 [.str (cV k 4 s l)]=some (.bool false):=(nz (u:=cV k 4 s l)).trans (by
   obtain⟨f1,f2⟩:=qv hk (s:=s) hl (u:=cV k 4 s l) (by refine AZ ew ?_;cases s<;>rfl)
   simp only[f1,f2];rfl)
  have hp:dm.call 33 [.nil,.tup [.str [],.str (cV k 4 s l)]]=some (.lam 12 [.str (dW k s l)]):=yd hk hl hs0 hl5;have e4:∀nm,j3 k (dW k s l) nm=iF 4 s l nm:=fun nm=>by
   rcases nm with _|⟨s',l'⟩
   ·rfl
   ·show(dW k s' l'==dW k s l)=gV 4 s l s' l'
    refine AZ (yJ hk) ?_
    by_cases h:s'=s
    ·subst h;simp[gV]
    ·simp[gV,h]
  have em:(rows.flatMap fun r=>(r.filter fun q=>j3 k (dW k s l) q.2).map (eV k))=(gX 4 s l rows).map (eV k):=by
   unfold gX;refine AZ List.map_flatMap ?_
   congr 1
   funext r
   exact AZ (fD e4 _) rfl
  have hg:dm.gen 12 ([.str (dW k s l)]++[.nil,pX k rows])=some ((gX 4 s l rows).map (eV k)):=(gen12 (k:=k) (u:=dW k s l) (rows:=rows) (by refine AZ em<|AZ (Bx _) ?_;exact hdl)).trans (by exact AZ em rfl)
  exact ag (cH (gy (ad (aa (d:=.str (cV k 4 s l)) rfl) az) rfl hw31) ax) (bF (c0 (jA (l:=gX 4 s l rows) (c:=eV k) (k:=fun q=>.int (q.1:Int)) (by rfl)
   (t0 (by rfl) (ca (ad c9 (ad (fX (ad (bc (by decide)) (ad (aa (d:=.str (cV k 4 s l)) rfl) az)) mE) az)) rfl hp) (ad c9 (ad (aa (d:=pX k rows) rfl) az)) rfl hg)
   rfl (by rfl) (fun q hq=>oM rfl (aa ae) rfl) hdl)))
end
end Mine
namespace Mine
noncomputable abbrev pl (ps:List Nat):D:=.list (ps.map fun(p:Nat)=>.int (p:Int))
theorem tT {f:List Nat}{c:Nat}:∀g:List Nat,((g.map fun c=>D.str [c]).zip (g.map fun J=>D.str f)).find? (fun q=>q.1.isStr [c])=if g.contains c then some (.str [c],.str f) else none
 |[]=>rfl
 |a::g=>by
  simp only[Bo,Ce,Cg];have e:(D.str [a]).isStr [c]=(c==a):=by
   show([a]==[c])=_
   by_cases h:c=a
   ·subst h;simp
   ·exact AZ (beq_eq_false_iff_ne.mpr h)<|AZ (beq_eq_false_iff_ne.mpr fun e=>h (Bv e).1.symm) rfl
  (refine AZ e ?_;rw[Ep])
  cases h:c==a with
  |true=>refine AZ (beq_iff_eq.mp h) ?_;rfl
  |false=>exact(tT g).trans (by simp)
theorem oP {c:Nat}:∀fs:List (List Nat),D.dget ((ml fs).map .str) ((ma fs).map .str) [c]=(fs.find? (·.contains c)).map .str
 |[]=>rfl
 |f::fs=>by
  have ih:=oP (c:=c) fs;unfold D.dget at ih ⊢;have ek:(ml (f::fs)).map D.str=(f.map fun c=>D.str [c])++(ml fs).map D.str:=by
   refine AZ (show ml (f::fs)=(f.map fun c=>[c])++ml fs from BJ)<|AZ BW<|AZ BR ?_;rfl
  have ev:(ma (f::fs)).map D.str=(f.map fun J=>D.str f)++(ma fs).map D.str:=by
   refine AZ (show ma (f::fs)=(f.map fun J=>f)++ma fs from BJ)<|AZ BW<|AZ BR ?_;rfl
  refine AZ ek<|AZ ev<|AZ (List.zip_append (by simp))<|AZ (List.find?_append)<|AZ (tT _)<|AZ (Cg) ?_
  cases h:f.contains c with
  |true=>rfl
  |false=>simpa using ih
noncomputable def da (fs:List (List Nat)):List (List Nat)->List Nat->List (List Nat)
 |_,[]=>[]
 |ks,c::cs=>match fs.find? (·.contains c) with
  |none=>da fs ks cs
  |some f=>if ks.contains f then da fs ks cs else f::da fs (ks++[f]) cs
theorem ki {fs ks:List (List Nat)}{c:Nat}{cs:List Nat}:da fs ks (c::cs)=match fs.find? (·.contains c) with
  |none=>da fs ks cs
  |some f=>if ks.contains f then da fs ks cs else f::da fs (ks++[f]) cs:=rfl
theorem gq {fs:List (List Nat)}:∀(cs:List Nat)(ks:List (List Nat)),(da fs ks cs).length<=cs.length
 |[],_=>Bq _
 |c::cs,ks=>by
  (rw[ki];refine AZ BA ?_)
  split
  ·exact CW (gq cs ks)
  ·split
   ·exact CW (gq cs ks)
   ·exact Cs (gq cs _)
set_option tactic.hygienic true in
theorem gM {fs:List (List Nat)}{f:List Nat}:∀(cs:List Nat)(ks:List (List Nat)),f∈da fs ks cs->f∈fs
 |[],_,h=>bE h
 |c::cs,ks,h=>by
  rw[ki] at h
  split at h
  ·exact gM cs ks h
  ·rename_i f' hf
   split at h
   ·exact gM cs ks h
   ·rcases Bw.mp h with rfl|h
    ·exact DB hf
    ·exact gM cs _ h
noncomputable abbrev ΓP:aj:=aH aW 0
noncomputable def ppBody:List Sg:=yt (aF.getD 2 y00)
theorem rX {fs:List (List Nat)}:∀(cs:List Nat)(ρ:ac)(ks:List (List Nat)),cg ρ->ρ 21=some (.fz (.dict ((ml fs).map .str) ((ma fs).map .str)))->ρ 74=some (.ownD ks)->ks.length+cs.length < 64->
  ∃ρ',eh ΓP 62 (fun ρ=>eH aG iu 74 ΓP ρ ppBody) ρ (cs.map fun c=>.str [c])=some ((da fs ks cs).map .str,ρ')
 |[],ρ,ks,_,_,_,_=>⟨ρ,by rw[Dx,eh];rfl⟩
 |c::cs,ρ,ks,hN,h21,h74,hl=>by
  replace hl:=BA▸hl;have N1:=hN.set 62 (.str [c]);have k21:(ρ.set 62 (.fz (.str [c]))) 21=some (.fz (.dict ((ml fs).map .str) ((ma fs).map .str))):=sN h21
  have ht:∀{p1 p2 p3:Pos},cT aG ΓP (ρ.set 62 (.fz (.str [c]))) (.cmp (.name 62 p1) .In (.name 21 p2) p3)=some (fs.find? (·.contains c)).isSome:=fun{_ _ _}=>aA (aa ae) (aa k21) (by
   show some (D.dget _ _ [c]).isSome=_
   exact AZ (oP _)<|AZ Option.isSome_map rfl)
  rw[ki]
  cases hf:fs.find? (·.contains c) with
  |none=>
   refine x1 (rX cs (ρ.set 62 (.fz (.str [c]))) ks N1 k21 (sN h74) (by lia)) fun ρ2 r2=>?_;exact⟨ρ2,(jG (a:=[]) (hN.mine rfl) (bq (a:=[]) (b:=[]) (ur (ht.trans (by refine AZ hf ?_;rfl))) dJ) r2).trans rfl⟩
  |some f=>
   have hi:D.item (.dict ((ml fs).map .str) ((ma fs).map .str)) (.str [c])=some (.str f):=by
    show D.dget _ _ [c]=_;refine AZ (oP _)<|AZ hf ?_;rfl
   have N2:=N1.set 75 (.str f);have a1:((ρ.set 62 (.fz (.str [c]))).set 75 (.fz (.str f))) 74=some (.ownD ks):=sN (sN h74);have a2:((ρ.set 62 (.fz (.str [c]))).set 75 (.fz (.str f))).at 75=some (.str f):=by unfold ac.at;exact AZ ae rfl
   have b21:((ρ.set 62 (.fz (.str [c]))).set 75 (.fz (.str f))) 21=some (.fz (.dict ((ml fs).map .str) ((ma fs).map .str))):=sN k21
   by_cases hc:ks.contains f=true
   ·simp only[hc,if_true]
    refine x1 (rX cs _ ks N2 b21 a1 (by lia)) fun ρ2 r2=>?_;refine⟨ρ2,(jG (a:=[]) (hN.mine rfl) (bq (a:=[]) (b:=[]) (vO (ht.trans (by refine AZ hf ?_;rfl)) (bq (a:=[]) (b:=[]) (uu (au (aa k21) (aa ae) hi) (N1.mine rfl) rfl rfl) (bq (a:=[]) (b:=[]) ?_ dJ))) dJ) r2).trans rfl⟩;refine AZ hH<|AZ a1<|AZ a2 ?_
    simp only;exact AZ (if_pos ⟨trivial,by lia⟩)<|AZ (if_pos hc) rfl
   ·simp only[hc,BP,if_false]
    refine x1 (rX cs (((ρ.set 62 (.fz (.str [c]))).set 75 (.fz (.str f))).set 74 (.ownD (ks++[f]))) (ks++[f]) (N2.setD 74 _) (sN b21) ae (by refine AZ Bm<|AZ Cy ?_;lia)) fun ρ2 r2=>?_;refine⟨ρ2,(jG (a:=[.str f]) (hN.mine rfl) (bq (a:=[.str f]) (b:=[]) (vO (ht.trans (by refine AZ hf ?_;rfl)) (bq (a:=[]) (b:=[.str f]) (uu (au (aa k21) (aa ae) hi) (N1.mine rfl) rfl rfl) (bq (a:=[.str f]) (b:=[]) ?_ dJ))) dJ) r2).trans rfl⟩;refine AZ hH<|AZ a1<|AZ a2 ?_
    simp only;refine AZ (if_pos ⟨trivial,by lia⟩)<|AZ (if_neg hc) ?_
    exact bq (a:=[.str f]) (b:=[]) (uq (by unfold ac.at;exact AZ (set_ne (by decide))<|AZ ae rfl)) dJ
noncomputable abbrev rU (fs:List (List Nat)):D:=.cx (cc (fs.map .str))
theorem gen11 {fs:List (List Nat)}{cs:List Nat}(hl:cs.length < 64):aT.gen 11 [rU fs,.list (cs.map fun c=>.str [c])]=some ((da fs [] cs).map .str):=by
 let ρ0:=aq [58,61] [rU fs,.list (cs.map fun c=>.str [c])] (cN [] [])
 have N0:cg ρ0:=by
  have:cg (cN [] []):=fun y d h=>ah h;exact(this.set 58 _).set 61 _
 have hpsi:iu 30 (rU fs)=some (.dict ((ml fs).map .str) ((ma fs).map .str)):=psi_eq fs;refine x1 (rX (fs:=fs) cs ((ρ0.set 21 (.fz (.dict ((ml fs).map .str) ((ma fs).map .str)))).set 74 (.ownD [])) [] ((N0.set 21 _).setD 74 []) rfl rfl (by simpa using hl)) fun ρ' r=>?_
 exact zX (tM 11) (Φ':=aT) (Φ:=aG) rfl rfl rfl (bq (a:=[]) (ye_pm rfl hpsi (N0.mine rfl) rfl) (bq (a:=[]) (ye_newD ((N0.set 21 _).mine rfl) rfl) (bq (a:=(da fs [] cs).map .str) (b:=[]) (ut (d:=.list (cs.map fun c=>.str [c])) rfl rfl r) dJ)) |>.trans (by refine AZ (CE _) ?_;rfl)) (by
  have:=gq (fs:=fs) cs []
  refine AZ (Bx _) ?_;unfold lim;lia)
theorem mM {i:Int}(h:0<=i/\i < 55296):D.builtin 1 [.int i]=some (.str [i.toNat]):=if_pos h
noncomputable def upI (fs:List (List Nat))(ps:List Nat):List Int:=(da fs [] (ps.map (97+·))).map fun f=>((f.headD 0:Nat):Int) - 65
theorem up_run {fs:List (List Nat)}{ps:List Nat}(hf:∀f∈fs,f≠[])(hp:ps.length < 64)(hv:∀p∈ps,p < 1000):dm.call 55 [.lam 11 [],rU fs,pl ps]=some (.list ((upI fs ps).map .int)):=by
 refine bC (tx iT kQ 0 iY) (Φ:=aT) rfl rfl rfl ?_;have hg:aT.gen 11 ([]++[rU fs,.list (ps.map fun p=>.str [97+p])])=some ((da fs [] (ps.map (97+·))).map .str):=by
  have:=gen11 (fs:=fs) (cs:=ps.map (97+·)) (by refine AZ (Bx _) ?_;exact hp);rw[BR] at this;exact this
 have hlen:=gq (fs:=fs) (ps.map (97+·)) [];rw[Bx] at hlen;have e:(upI fs ps).map D.int=(da fs [] (ps.map (97+·))).map fun f=>D.int (((f.headD 0:Nat):Int) - 65):=by unfold upI;refine AZ BR ?_;rfl
 refine AZ e ?_
 refine bF (c0 (jA (l:=da fs [] (ps.map (97+·))) (c:=D.str) (k:=fun f=>.int (((f.headD 0:Nat):Int) - 65)) (by rfl)
  (Ar (f:=121) (id:=11) (caps:=[]) rfl (ad (aa (d:=rU fs) rfl) (ad (jA (l:=ps) (c:=fun(p:Nat)=>.int (p:Int)) (k:=fun p=>.str [97+p]) (by rfl) (aa (d:=pl ps) rfl) rfl (by rfl) (fun p hpp=>gn (bB af (aa ae) rfl) rfl (by decide) ?_) (by unfold lim;lia)) az)) rfl hg)
  rfl (by rfl) (fun f hf'=>?_) (by unfold lim;lia)))
 ·have:=hv p hpp
  exact(mM (i:=97+(p:Int)) ⟨by lia,by lia⟩).trans (by exact AZ (show(97+(p:Int)).toNat=97+p by lia) rfl)
 ·refine x2 (CI (hf f (gM _ _ hf'))) fun a r e91=>?_
  subst e91;exact bB (gn (au (aa ae) af (pR a r)) rfl (by decide) (z:=.int (a:Int)) rfl) af rfl
end Mine
namespace Mine
abbrev dB:=Nat×Option Wd×Wd
noncomputable def be (P:List Nat) (v:Nat):Nat:=P.getD v 0
noncomputable def dP (N:List Nm) (v:Nat):Nm:=N.getD v none
noncomputable def pI (P:List Nat) (v:Nat):Int:=if v=0 then -1 else(be P v:Int)
noncomputable def wo (P:List Nat)(N:List Nm) (v:Nat):D:=.tup [.int (pI P v),fG (dP N v)]
noncomputable def aQ (P:List Nat)(N:List Nm):D:=.list ((Bn 7).map (wo P N))
noncomputable def jp (q:dB):D:=stp q.1 q.2.1 q.2.2
noncomputable def o5 (q:Nat×dB):D:=.tup [.int (q.1:Int),jp q.2]
noncomputable def cY (T:List (Nat×dB)):D:=.list (.tup [.int (-1),.nil]::T.map o5)
noncomputable def kn (T:List (Nat×dB)) (n:Nat):Nat×dB:=T.getD (n - 1) (0,0,none,[])
noncomputable def gY (q:dB):Prop:=q.1 < 5/\q.2.2≠[]/\q.2.2.length<=50/\∀w,q.2.1=some w->w≠[]/\w.length<=50
noncomputable def gR (nm:Nm):Prop:=∀s l,nm=some (s,l)->l≠[]/\l.length<=50/\∀w,s=some w->w≠[]/\w.length<=50
noncomputable def mn (q:dB)(nm:Nm):Bool:=iF q.1 q.2.1 q.2.2 nm
section
variable (P:List Nat)(N:List Nm)(T:List (Nat×dB))
noncomputable def jC (g:Nat->Nat->Bool)(m v:Nat):Bool:=(Bn 7).any fun w=>pI P w==(v:Int)&&g m w
noncomputable def pY (g:Nat->Nat->Bool)(n v:Nat)(ms:List Nat):Bool:=ms.all fun m=>!((kn T m).1==n)||jC P g m v
noncomputable def qF (g:Nat->Nat->Bool)(n v:Nat):Bool:=(n==0||mn (kn T n).2 (dP N v))&&pY P T g n v (Dr (n+1) (T.length - n))
noncomputable def gS:Nat->Nat->Nat->Bool
 |0,_,_=>true
 |f+1,n,v=>qF P N T (gS f) n v
noncomputable def oJ (L:Nat->Nat->Bool):Nat->Nat->Nat->Bool
 |0,_,_=>false
 |f+1,n,v=>if n≠0/\L n v=true then oJ L f (kn T n).1 (be P v) else n==0&&(v==0&&L 0 0)
theorem wJ {f n v:Nat}:gS P N T (f+1) n v=qF P N T (gS P N T f) n v:=rfl
theorem rK {L:Nat->Nat->Bool}{f n v:Nat}:oJ P T L (f+1) n v=if n≠0/\L n v=true then oJ P T L f (kn T n).1 (be P v) else n==0&&(v==0&&L 0 0):=rfl
end
section
variable {P:List Nat}{N:List Nm}{T:List (Nat×dB)}
theorem bV {v:Nat}(hv:v < 7):D.item (aQ P N) (.int (v:Int))=some (wo P N v):=by
 show(bZ ((Bn 7).map (wo P N)).length (v:Int)).bind (((Bn 7).map (wo P N))[·]?)=_;refine AZ (kP (by simpa using hv)) ?_;simp[hv]
theorem fk {n:Nat}(h0:n≠0)(hn:n<=T.length):D.item (cY T) (.int (n:Int))=some (o5 (kn T n)):=by
 show(bZ (.tup [.int (-1),.nil]::T.map o5).length (n:Int)).bind ((.tup [.int (-1),.nil]::T.map o5)[·]?)=_;refine AZ (kP (by simp;lia)) ?_;refine x1 (CS h0) fun m e91=>?_;subst e91;have:m < T.length:=hn;simp[kn,this]
theorem vo (l:List Nat):D.cmp .Eq (pl l) (.list [])=some l.isEmpty:=by
 have h1:D.pd 5 (pl l)=some (.list (l.map fun(p:Nat)=>.int (p:Int))):=by
  show((l.map fun(p:Nat)=>D.int (p:Int)).mapM (D.pd 4)).map PyData.list=_;have:(l.map fun(p:Nat)=>D.int (p:Int)).mapM (D.pd 4)=some (l.map fun(p:Nat)=>PyData.int (p:Int)):=by
   induction l with
   |nil=>rfl
   |cons a l ih=>(refine AZ Bo ?_;rw[CQ];refine AZ ih ?_);rfl
  refine AZ this ?_;rfl
 show(do let p <-D.pd 5 (pl l);let q <-D.pd 5 (.list []);some (PyData.eqv p q))=_;refine AZ h1 ?_
 cases l<;>rfl
noncomputable def wI:Tx:=tx dO dN 0 b8
noncomputable abbrev ΓL:aj:=aH dN 0
noncomputable def vc:List St:=ey (b8.getD 1 io)
theorem zL {Φ:bU}{g:Nat->Nat->Bool}{n m v:Nat}(h0:m≠0)(hm:m<=T.length)(hv:v < 7)(hg:∀w:Nat,w < 7->Φ.call 48 [cY T,.int (m:Int),aQ P N,.int (w:Int)]=some (.bool (g m w))){ρ:ac}(hN:cg ρ)(h103:ρ 103=some (.fz (cY T)))(h101:ρ 101=some (.fz (.int (n:Int))))(h95:ρ 95=some (.fz (aQ P N)))(h105:ρ 105=some (.fz (.int (v:Int))))(h113:ρ 113=some (.fz (.int (m:Int)))):
  aL Φ NN ΓL ρ vc=some (if(!((kn T m).1==n)||jC P g m v)=true then .nx ρ else .rt (.bool false)):=by
 have c1:∀{p1 p2 p3 p4 p5 p6 p7:Pos},cT Φ ΓL ρ (.cmp (.idx (.idx (.name 103 p1) (.name 113 p2) p3) (.int 0 p4) p5) .Eq (.name 101 p6) p7)=some ((kn T m).1==n):=fun{_ _ _ _ _ _ _}=>
  aA (au (au (aa h103) (aa h113) (fk h0 hm)) af (z:=.int ((kn T m).1:Int)) rfl) (aa h101) (je.trans (congrArg some (rE _ _)))
 cases hk:((kn T m).1==n) with
 |false=>exact ag (cH (cb (e8 (c1.trans (congrArg some hk)))) ax) ax
 |true=>
  have c2:∀{p:Pos},ev Φ ΓL ρ (match vc.getD 0 io with|.ifS (.bop _ [_,.cmp c _ _ _] _) _ _ _=>c|_=>.nil p)=some (.d (pl ((Bn 7).filter fun w=>pI P w==(v:Int)&&g m w))):=fun{p}=>by
   refine ka (l:=Bn 7) (c:=fun(w:Nat)=>.int (w:Int)) (k:=fun(w:Nat)=>.int (w:Int)) (by rfl) (fY (n:=7) af rfl (by decide)) rfl (by rfl) (fun w hw=>?_) (fun w J J=>aa ae) (by decide);have hw7:w < 7:=BL.mp hw;have a:∀{y e},ρ y=some e->y≠114->(ρ.cut [(106,.local),(114,.local),(48,.globalImplicit),(113,.free),(95,.free),(103,.free),(105,.free)]) y=some e->((ρ.cut [(106,.local),(114,.local),(48,.globalImplicit),(113,.free),(95,.free),(103,.free),(105,.free)]).set 114 (.fz (.int (w:Int)))) y=some e:=fun J h1 h2=>(set_ne h1).trans h2;have d1:=a h95 (by decide) h95;have d2:=a h103 (by decide) h103;have d3:=a h105 (by decide) h105;have d4:=a h113 (by decide) h113;refine cb ?_
   cases hp:(pI P w==(v:Int)) with
   |false=>exact e8 (aA (au (au (aa d1) (aa ae) (bV hw7)) af (z:=.int (pI P w)) rfl) (aa d3) (je.trans (congrArg some hp)))
   |true=>exact eF (aA (au (au (aa d1) (aa ae) (bV hw7)) af (z:=.int (pI P w)) rfl) (aa d3) (je.trans (congrArg some hp))) ((jf (gy (ad (aa d2) (ad (aa d4) (ad (aa d1) (ad (aa ae) az)))) rfl (hg w hw7)) f7).trans (by exact AZ (Fm _)<|AZ (DI _) rfl))
  have c3:((Bn 7).filter fun w=>pI P w==(v:Int)&&g m w).isEmpty=!jC P g m v:=by
   unfold jC;generalize Bn 7=l
   induction l with
   |nil=>rfl
   |cons a l ih=>
    refine AZ DU<|AZ D1 ?_
    cases h:(pI P a==(v:Int)&&g m a)
    ·simpa using ih
    ·rfl
  have c4:=vo ((Bn 7).filter fun w=>pI P w==(v:Int)&&g m w);rw[c3] at c4;simp only[Bool.not_true,EF]
  cases hb:jC P g m v with
  |true=>exact ag (cH (cb (eF (c1.trans (congrArg some hk)) (e8 (aA (c2 (p:=(qq 0 0 0))) (eO az (by decide)) (c4.trans (by refine AZ hb ?_;rfl)))))) ax) ax
  |false=>exact bF (eQ (cb (eF (c1.trans (congrArg some hk)) (eF (aA (c2 (p:=(qq 0 0 0))) (eO az (by decide)) (c4.trans (by refine AZ hb ?_;rfl))) f7))) (bF (c0 rO)))
end
end Mine
namespace Mine
theorem gt0 (n:Nat):D.cmp .Gt (.int (n:Int)) (.int 0)=some (n != 0):=by
 show some (decide ((0:Int) < n))=_;refine congrArg some ?_
 (refine AZ (propext Cr) ?_;rw[decide_eq_true_eq,bne_iff_ne]);exact E3.trans Nat.pos_iff_ne_zero
theorem wg {a b:Nat}(ha:a<=1000)(hb:b<=1000):D.rng (.int (a:Int)) (.int (b:Int))=some ((Dr a (b - a)).map fun(i:Nat)=>.int (i:Int)):=by
 have h:-(lim:Int)<=(a:Int)/\(a:Int)<=lim/\-(lim:Int)<=(b:Int)/\(b:Int)<=lim/\((b:Int) - a).toNat<=lim:=
  ⟨Em (by decide) (Cf _),DD.mpr (Bf ha (by decide)),Em (by decide) (Cf _),DD.mpr (Bf hb (by decide)),by refine AZ (Int.toNat_sub _ _) ?_;exact Bf (C0 _ _) (Bf hb (by decide))⟩
 have e:D.rng (.int (a:Int)) (.int (b:Int))=some ((Bn ((b:Int) - a).toNat).map fun(i:Nat)=>.int ((a:Int)+i)):=if_pos h;refine AZ e<|AZ (Int.toNat_sub _ _)<|AZ List.range'_eq_map_range<|AZ BR ?_
 congr 1
section
variable {P:List Nat}{N:List Nm}{T:List (Nat×dB)}
theorem qo {Φ:bU}{g:Nat->Nat->Bool}{n v:Nat}{tp:Pos}(hv:v < 7)(hg:∀m,n < m->m<=T.length->∀w:Nat,w < 7->Φ.call 48 [cY T,.int (m:Int),aQ P N,.int (w:Int)]=some (.bool (g m w))):∀(ms:List Nat),(∀m∈ms,n < m/\m<=T.length)->∀(ρ:ac),cg ρ->ρ 103=some (.fz (cY T))->ρ 101=some (.fz (.int (n:Int)))->ρ 95=some (.fz (aQ P N))->ρ 105=some (.fz (.int (v:Int)))->
  ∃ρ',dF ΓL (.name 113 tp) (fun ρ=>aL Φ NN ΓL ρ vc) ρ (ms.map fun(m:Nat)=>.int (m:Int))=some (if pY P T g n v ms=true then .nx ρ' else .rt (.bool false))
 |[],_,ρ,_,_,_,_,_=>⟨ρ,oH⟩
 |m::ms,hm,ρ,hN,h103,h101,h95,h105=>by
  refine aS (hm m Bj) fun h1 h2=>?_;have r1:=zL (Φ:=Φ) (g:=g) (n:=n) (m:=m) (by lia) h2 hv (hg m h1 h2) (ρ:=ρ.set 113 (.fz (.int (m:Int)))) (hN.set _ _) (sN h103) (sN h101) (sN h95) (sN h105) ae;have er:pY P T g n v (m::ms)=((!((kn T m).1==n)||jC P g m v)&&pY P T g n v ms):=rfl
  cases hb:(!((kn T m).1==n)||jC P g m v) with
  |true=>
   rw[hb] at r1;obtain⟨ρ',r2⟩:=qo hv hg ms (fun x hx=>hm x (Bi _ hx)) (ρ.set 113 (.fz (.int (m:Int)))) (hN.set _ _) (sN h103) (sN h101) (sN h95) (sN h105);refine⟨ρ',?_⟩;refine AZ er<|AZ hb<|AZ (DI _) ?_
   exact k9 (hN.mine rfl) r1 r2
  |false=>
   rw[hb] at r1;refine⟨ρ,?_⟩;refine AZ er<|AZ hb<|AZ (Gk _) ?_
   exact f_ret (hN.mine rfl) r1
structure TwOk (N:List Nm)(T:List (Nat×dB)):Prop where
 st:∀n,n≠0->n<=T.length->gY (kn T n).2
 nm:∀v,gR (dP N v)
 len:T.length<=6
theorem kX {Φ:bU}{g:Nat->Nat->Bool}(W:TwOk N T)(hf:∀q nm,gY q->gR nm->Φ.call 47 [jp q,fG nm]=some (.bool (mn q nm))){n v:Nat}(hn:n<=T.length)(hv:v < 7)
  (hg:∀m,n < m->m<=T.length->∀w:Nat,w < 7->Φ.call 48 [cY T,.int (m:Int),aQ P N,.int (w:Int)]=some (.bool (g m w))):iZ Φ NN wI [cY T,.int (n:Int),aQ P N,.int (v:Int)]=some (.bool (qF P N T g n v)):=by
 refine qY rfl ?_;have N0:cg (aq [103,101,95,105] [cY T,.int (n:Int),aQ P N,.int (v:Int)] fun J=>none):=jZ;have W6:=W.len
 obtain⟨ρ',r⟩:=qo (P:=P) (N:=N) (T:=T) (Φ:=Φ) (g:=g) (n:=n) (v:=v) (tp:=(uH (b8.getD 1 io))) hv hg (Dr (n+1) (T.length - n)) (fun m hm=>by
  have:=ED.mp hm
  exact⟨this.1,by omega⟩) _ N0 rfl rfl rfl rfl
 have hr:D.rng (.int ((n:Int)+1)) (.int ((.tup [.int (-1),.nil]::T.map o5).length:Int))=some ((Dr (n+1) (T.length - n)).map fun(i:Nat)=>.int (i:Int)):=by
  have e1:((n:Int)+1)=((n+1:Nat):Int):=rfl;have e2:((.tup [.int (-1),.nil]::T.map o5).length:Int)=((T.length+1:Nat):Int):=by simp
  exact AZ e1<|AZ e2<|AZ (wg (Bf (Cs (Bf hn W6)) (by decide)) (Bf (Cs W6) (by decide)))<|AZ (Nat.succ_sub_succ T.length n) rfl
 have hgt:=gt0 n;have rest:∀{b:Bool},pY P T g n v (Dr (n+1) (T.length - n))=b->aL Φ NN ΓL (aq [103,101,95,105] [cY T,.int (n:Int),aQ P N,.int (v:Int)] fun J=>none) (b8.drop 1)=some (.rt (.bool b)):=fun{b} hb=>by
  rw[hb] at r
  cases b with
  |true=>exact ag (jT (vp (bB (aa (d:=.int (n:Int)) rfl) af rfl) (gn (aa (d:=cY T) rfl) rfl (by decide) rfl) rfl hr) rfl r) (bF (c0 rO))
  |false=>exact bF (jT (vp (bB (aa (d:=.int (n:Int)) rfl) af rfl) (gn (aa (d:=cY T) rfl) rfl (by decide) rfl) rfl hr) rfl r)
 unfold qF
 cases h0:(n==0) with
 |true=>
  refine AZ (Bool.true_or _)<|AZ (DI _) ?_
  exact ag (cH (cb (e8 (aA (aa (d:=.int (n:Int)) rfl) af (hgt.trans (by(rw[bne];refine AZ h0 ?_);first|done|rfl))))) ax) (rest rfl)
 |false=>
  have hn0:n≠0:=beq_eq_false_iff_ne.mp h0;have hc:=hf (kn T n).2 (dP N v) (W.st n hn0 hn) (W.nm v);refine AZ (EF _) ?_
  cases hb:mn (kn T n).2 (dP N v) with
  |true=>
   refine AZ (DI _) ?_;exact ag (cH (cb (eF (aA (aa (d:=.int (n:Int)) rfl) af (hgt.trans (by(rw[bne];refine AZ h0 ?_);first|done|rfl))) (e8 (t_not (gy (ad (au (au (aa (d:=cY T) rfl) (aa (d:=.int (n:Int)) rfl) (fk hn0 hn)) af (z:=jp (kn T n).2) rfl) (ad (au (au (aa (d:=aQ P N) rfl) (aa (d:=.int (v:Int)) rfl) (bV hv)) af (z:=fG (dP N v)) rfl) az)) rfl (hc.trans (by exact AZ hb rfl))))))) ax) (rest rfl)
  |false=>
   refine AZ (Gk _) ?_;exact bF (eQ (cb (eF (aA (aa (d:=.int (n:Int)) rfl) af (hgt.trans (by(rw[bne];refine AZ h0 ?_);first|done|rfl))) (eF (t_not (gy (ad (au (au (aa (d:=cY T) rfl) (aa (d:=.int (n:Int)) rfl) (fk hn0 hn)) af (z:=jp (kn T n).2) rfl) (ad (au (au (aa (d:=aQ P N) rfl) (aa (d:=.int (v:Int)) rfl) (bV hv)) af (z:=fG (dP N v)) rfl) az)) rfl (hc.trans (by exact AZ hb rfl)))) f7))) (bF (c0 rO)))
theorem oG (q:dB)(nm:Nm)(hq:gY q)(hn:gR nm):aT.call 47 [jp q,fG nm]=some (.bool (mn q nm)):=
 z7 hq.1 hq.2.2.1 fun q' e=>(hn q'.1 q'.2 e).2.1
theorem wq:∀(j:Nat)(args:List D),(gh j).call 47 args=aT.call 47 args
 |0,_=>rfl
 |j+1,args=>wq j args
theorem qO {Φ:bU}{M:Nat}{Ψ:Nat->D->Option D}{tF:Nat->Option Tx}{tL:Nat->Option Lx}{tG:Nat->Option Gx}{f:Nat}{t:Tx}{args:List D}(h:tF f=some t):(Φ.up M Ψ tF tL tG).call f args=iZ Φ M t args:=by
 show(match tF f with|some t=>iZ Φ M t args|none=>Φ.call f args)=_;exact AZ h rfl
theorem phiL_48 (j:Nat)(args:List D):(gh (j+1)).call 48 args=iZ (gh j) NN wI args:=qO (tF:=tF4) rfl
theorem phi3_48 (args:List D):dC.call 48 args=iZ dm NN wI args:=qO (Φ:=dm) (tF:=tF3) rfl
theorem phi2_48 (args:List D):dm.call 48 args=iZ aT NN wI args:=qO (Φ:=aT) (tF:=tF2) rfl
theorem cz {Φ:bU}{M:Nat}{Ψ:Nat->D->Option D}{tF:Nat->Option Tx}{tL:Nat->Option Lx}{tG:Nat->Option Gx}{f:Nat}{args:List D}(h:tF f=none):(Φ.up M Ψ tF tL tG).call f args=Φ.call f args:=by
 show(match tF f with|some t=>iZ Φ M t args|none=>Φ.call f args)=_;exact AZ h rfl
theorem phi2_47 (args:List D):dm.call 47 args=aT.call 47 args:=cz (Φ:=aT) (tF:=tF2) rfl
theorem tE (W:TwOk N T):∀(j n v:Nat),n<=T.length->v < 7->T.length<=n+1+j->(gh j).call 48 [cY T,.int (n:Int),aQ P N,.int (v:Int)]=some (.bool (gS P N T (j+2) n v))
 |0,n,v,hn,hv,hj=>by
  show dC.call 48 _=_;refine AZ (phi3_48 _) ?_;refine kX (g:=gS P N T 1) W (fun q nm hq hn=>(phi2_47 _).trans (oG q nm hq hn)) hn hv fun m hm1 hm2 w hw=>?_;refine AZ (phi2_48 _) ?_;exact kX (g:=gS P N T 0) W oG hm2 hw fun m' h1 h2=>absurd (Bf h2 hj) (Nat.not_le_of_lt (BI hm1 h1))
 |j+1,n,v,hn,hv,hj=>by
  refine AZ (phiL_48 _ _) ?_;exact kX (g:=gS P N T (j+2)) W (fun q nm hq hn=>(wq j _).trans (oG q nm hq hn)) hn hv fun m hm1 hm2 w hw=>tE W j m w hm2 hw (Bf hj (show n+1+(j+1)<=m+1+j by refine AZ (Hx m 1 j) ?_;exact Cs (Fe hm1 j)))
noncomputable abbrev jw (P:List Nat)(N:List Nm)(T:List (Nat×dB))(n v:Nat):Bool:=gS P N T 8 n v
theorem qm (W:TwOk N T){n v:Nat}(hn:n<=T.length)(hv:v < 7):(gh 6).call 48 [cY T,.int (n:Int),aQ P N,.int (v:Int)]=some (.bool (jw P N T n v)):=
 tE W 6 n v hn hv (Bf W.len (Do 6 (n+1)))
end
end Mine
namespace Mine
theorem eq0 (n:Nat):D.cmp .Eq (.int (n:Int)) (.int 0)=some (n==0):=je.trans (congrArg some (rE n 0))
section
variable {P:List Nat}{N:List Nm}{T:List (Nat×dB)}
structure mu (P:List Nat)(N:List Nm)(T:List (Nat×dB)):Prop where
 w:TwOk N T
 n0:dP N 0=none
 p7:∀v,be P v < 7
 kl:∀n,n≠0->n<=T.length->(kn T n).1 < n
theorem lies0 (h:dP N 0=none){n:Nat}(hn:n≠0):jw P N T n 0=false:=by
 show((n==0||mn (kn T n).2 (dP N 0))&&_)=false;refine AZ h<|AZ (beq_eq_false_iff_ne.mpr hn) ?_;rfl
noncomputable abbrev ΓE:aj:=aH fN 0
noncomputable def yy:List St:=ey (dS.getD 0 io)
noncomputable def yx:E:=rJ (dS.getD 0 io)
theorem qE (R:mu P N T):∀(f n v F:Nat)(ρ:ac),n<=f->f < F->n<=T.length->v < 7->cg ρ->ρ 103=some (.fz (cY T))->ρ 101=some (.fz (.int (n:Int)))->ρ 95=some (.fz (aQ P N))->ρ 105=some (.fz (.int (v:Int)))->
  ∃(ρ':ac) (n' v':Nat),lc (fun ρ=>cT (gh 6) ΓE ρ yx) (fun ρ=>aL (gh 6) NN ΓE ρ yy) F ρ=some (.nx ρ')/\ρ' 103=some (.fz (cY T))/\ρ' 101=some (.fz (.int (n':Int)))/\ρ' 95=some (.fz (aQ P N))/\ρ' 105=some (.fz (.int (v':Int)))/\v' < 7/\oJ P T (jw P N T) (f+1) n v=(n'==0&&(v'==0&&jw P N T 0 0))
 |f,n,v,F,ρ,hf,hF,hn,hv,hN,h103,h101,h95,h105=>by
  refine x1 (CS (GS (BI (Cp _) hF))) fun F e91=>?_;subst e91;have hl:=qm (P:=P) R.w hn hv;rw[rK]
  by_cases hc:n≠0/\jw P N T n v=true
  ·refine AZ (if_pos hc) ?_
   have hv0:v≠0:=fun e=>by
    have h2:=hc.2;rw[e,lies0 R.n0 hc.1] at h2;exact ce h2
   have hk:=R.kl n hc.1 hn;have ht:cT (gh 6) ΓE ρ yx=some true:=cb (eF (aA (aa h101) af ((gt0 n).trans (by exact AZ (bne_iff_ne.mpr hc.1) rfl))) (eF (gy (ad (aa h103) (ad (aa h101) (ad (aa h95) (ad (aa h105) az)))) rfl (hl.trans (by exact AZ hc.2 rfl))) f7));have hpv:D.item (wo P N v) (.int 0)=some (.int (be P v:Int)):=by
    show some (D.int (pI P v))=_
    (rw[pI];exact AZ (if_neg hv0) rfl)
   have hb:aL (gh 6) NN ΓE ρ yy=some (.nx ((ρ.set 101 (.fz (.int ((kn T n).1:Int)))).set 105 (.fz (.int (be P v:Int))))):=
    ag (eK (e7 (au (au (aa h103) (aa h101) (fk hc.1 hn)) af (z:=.int ((kn T n).1:Int)) rfl) (e7 (au (au (aa h95) (aa h105) (bV hv)) af hpv) gj)) rfl rfl (by decide) (hN.all rfl) mE) ax
   match f with
   |0=>exact absurd (Ha.mp hf) hc.1
   |f+1=>
    refine x36 (qE R f (kn T n).1 (be P v) F _ (Cm (Ba hk hf)) (Nat.lt_of_succ_lt_succ hF) (Bf (CK hk) hn) (R.p7 v) ((hN.set 101 (.int ((kn T n).1:Int))).set 105 (.int (be P v:Int))) (sN (sN h103)) (sN ae) (sN (sN h95)) ae) fun ρ' n' v' r k1 k2 k3 k4 k5 k6=>?_;exact⟨ρ',n',v',qN ht hb r,k1,k2,k3,k4,k5,k6⟩
  ·refine AZ (if_neg hc) ?_
   refine⟨ρ,n,v,uA ?_,h103,h101,h95,h105,hv,rfl⟩
   by_cases h0:n=0
   ·exact cb (e8 (aA (aa h101) af ((gt0 n).trans (by refine AZ h0 ?_;rfl))))
   ·refine cb (eF (aA (aa h101) af ((gt0 n).trans (by exact AZ (bne_iff_ne.mpr h0) rfl))) (e8 (gy (ad (aa h103) (ad (aa h101) (ad (aa h95) (ad (aa h105) az)))) rfl (hl.trans ?_))))
    exact AZ (Dp.mpr fun q=>hc ⟨h0,q⟩) rfl
noncomputable abbrev Ao (P:List Nat)(N:List Nm)(T:List (Nat×dB))(n v:Nat):Bool:=oJ P T (jw P N T) 8 n v
theorem Am (R:mu P N T){n v:Nat}(hn:n<=T.length)(hv:v < 7):uV.call 49 [cY T,.int (n:Int),aQ P N,.int (v:Int)]=some (.bool (Ao P N T n v)):=by
 refine bC (tx fR fN 0 dS) (Φ:=gh 6) (Φ':=uV) (tF:=tF9) rfl rfl rfl ?_;have W6:=R.w.len;have N0:cg (aq [103,101,95,105] [cY T,.int (n:Int),aQ P N,.int (v:Int)] fun _=>none):=jZ;refine x36 (qE R 7 n v 100 _ (Bf hn (Bf W6 (by decide))) (by decide) hn hv N0 rfl rfl rfl rfl) fun ρ' n' v' r k1 k2 k3 k4 k5 k6=>?_;refine AZ (show Ao P N T n v=_ from k6) ?_;refine ag (zf r) (bF (c0 ?_));have l0:=qm (P:=P) R.w (n:=0) (v:=0) (Cp _) (by decide);have c1:∀{p1 p2 p3:Pos},ev (gh 6) ΓE ρ' (.cmp (.name 101 p1) .Eq (.int 0 p2) p3)=some (.d (.bool (n'==0))):=fun{_ _ _}=>oL (aa k2) af (eq0 n');have c2:∀{p1 p2 p3:Pos},ev (gh 6) ΓE ρ' (.cmp (.name 105 p1) .Eq (.int 0 p2) p3)=some (.d (.bool (v'==0))):=fun{_ _ _}=>oL (aa k4) af (eq0 v');have c3:∀{p1 p2 p3 p4 p5 p6:Pos},ev (gh 6) ΓE ρ' (.call 48 [.name 103 p1,.int 0 p2,.name 95 p3,.int 0 p4] p5 p6)=some (.d (.bool (jw P N T 0 0))):=fun{_ _ _ _ _ _}=>ca (ad (aa k1) (ad af (ad (aa k3) (ad af az)))) rfl l0;refine(g9 (Φ:=gh 6) (Γ:=ΓE) (ρ:=ρ')).trans ?_
 cases h1:n'==0 with
 |false=>exact uB (b:=false) (c1.trans (by exact AZ h1 rfl)) rfl
 |true=>
  refine uC (b:=true) (c1.trans (by exact AZ h1 rfl)) rfl ?_
  cases h2:v'==0 with
  |false=>exact uB (b:=false) (c2.trans (by exact AZ h2 rfl)) rfl
  |true=>exact uC (b:=true) (c2.trans (by exact AZ h2 rfl)) rfl (v_end c3)
end
end Mine
namespace Mine
section
variable {P:List Nat}{N:List Nm}{T:List (Nat×dB)}
structure Hom (P:List Nat)(N:List Nm)(T:List (Nat×dB))(h:Nat->Nat):Prop where
 z:h 0=0
 s:∀m,m≠0->m<=T.length->h m≠0/\h m < 7/\be P (h m)=h (kn T m).1/\mn (kn T m).2 (dP N (h m))=true
noncomputable def AX (P:List Nat)(N:List Nm)(T:List (Nat×dB))(n v:Nat):Prop:=∃h,Hom P N T h/\h n=v
theorem tz {w v:Nat}:(pI P w==(v:Int))=true↔w≠0/\be P w=v:=by
 unfold pI;rw[beq_iff_eq]
 split
 ·rename_i h;constructor
  ·intro q;lia
  ·exact fun q=>absurd h q.1
 ·rename_i h;constructor
  ·exact fun q=>⟨h,by lia⟩
  ·exact fun q=>by lia
theorem ln {g:Nat->Nat->Bool}{n v:Nat}:qF P N T g n v=true↔(n=0\/mn (kn T n).2 (dP N v)=true)/\∀m,n < m->m<=T.length->(kn T m).1=n->∃w,w < 7/\w≠0/\be P w=v/\g m w=true:=by
 unfold qF pY
 (refine AZ (Bz _ _)<|AZ (BZ _ _) ?_;rw[beq_iff_eq];refine AZ (propext Bp) ?_)
 refine and_congr Iff.rfl ⟨fun h m h1 h2 hk=>?_,fun h m hm=>?_⟩
 ·have:=h m (ED.mpr ⟨h1,BI h2 (by lia)⟩)
  rw[hk,beq_self_eq_true,Bool.not_true,EF] at this;refine ak (FR.mp this) fun w hw hb=>?_;rw[Bz] at hb;refine aS (tz.mp hb.1) fun a b=>?_;exact⟨w,BL.mp hw,a,b,hb.2⟩
 ·have hm:=ED.mp hm
  by_cases hk:(kn T m).1=n
  ·refine vQ (h m (by lia) (by lia) hk) fun w h1 h2 h3 h4=>?_
   refine AZ (BZ _ _) ?_;exact .inr (FR.mpr ⟨w,BL.mpr h1,by refine AZ (Bz _ _) ?_;exact⟨tz.mpr ⟨h2,h3⟩,h4⟩⟩)
  ·refine AZ (beq_eq_false_iff_ne.mpr hk) ?_;rfl
theorem ot {h:Nat->Nat}(H:Hom P N T h):∀f m,m<=T.length->gS P N T f m (h m)=true
 |0,_,_=>rfl
 |f+1,m,hm=>by
  (rw[wJ];refine AZ (propext ln) ?_)
  refine⟨?_,fun m' h1 h2 hk=>?_⟩
  ·by_cases h0:m=0
   ·exact .inl h0
   ·exact .inr (H.s m h0 hm).2.2.2
  ·refine x03 (H.s m' (by lia) h2) fun a b c J=>?_
   exact⟨h m',b,a,by exact AZ c<|AZ hk rfl,ot H f m' h2⟩
theorem tX {h:Nat->Nat}(H:Hom P N T h)(kl:∀n,n≠0->n<=T.length->(kn T n).1 < n):∀f n,n < f->n<=T.length->oJ P T (jw P N T) f n (h n)=true
 |0,_,hf,_=>absurd hf (by lia)
 |f+1,n,hf,hn=>by
  rw[rK]
  by_cases h0:n=0
  ·subst h0
   refine AZ (if_neg (fun q=>q.1 rfl))<|AZ H.z ?_
   have:=ot H 8 0 hn;rw[H.z] at this;refine AZ (show jw P N T 0 0=true from this) ?_;rfl
  ·refine AZ (if_pos ⟨h0,ot H 8 n hn⟩)<|AZ ((H.s n h0 hn).2.2.1) ?_
   have:=kl n h0 hn;exact tX H kl f _ (by lia) (by lia)
theorem qk:∀(f n v:Nat),n<=T.length->T.length < n+f->gS P N T f n v=true->gS P N T (f+1) n v=true
 |0,n,v,hn,hf,_=>absurd hf (by lia)
 |f+1,n,v,hn,hf,h=>by
  rw[wJ,ln] at h ⊢;refine⟨h.1,fun m h1 h2 hk=>?_⟩;refine vQ (h.2 m h1 h2 hk) fun w a b c d=>?_;exact⟨w,a,b,c,qk f m w h2 (by lia) d⟩
theorem ql (h6:T.length<=6){n v:Nat}(h:jw P N T n v=true):(n=0\/mn (kn T n).2 (dP N v)=true)/\∀m,n < m->m<=T.length->(kn T m).1=n->∃w,w < 7/\w≠0/\be P w=v/\jw P N T m w=true:=by
 have h:=(ln (g:=gS P N T 7)).mp h;refine⟨h.1,fun m h1 h2 hk=>?_⟩;refine vQ (h.2 m h1 h2 hk) fun w a b c d=>?_;exact⟨w,a,b,c,qk 7 m w h2 (by lia) d⟩
structure Chn (P:List Nat)(N:List Nm)(T:List (Nat×dB)) (n:Nat)(C:Nat->Nat->Prop):Prop where
 le:∀m w,C m w->m<=n
 fn:∀m w w',C m w->C m w'->w=w'
 z:C 0 0
 at':∀m w,C m w->w < 7/\jw P N T m w=true/\(m≠0->w≠0/\C (kn T m).1 (be P w))
theorem chain (R:mu P N T):∀f n v,n < f->n<=T.length->v < 7->oJ P T (jw P N T) f n v=true->∃C,Chn P N T n C/\C n v
 |0,n,v,hf,_,_,_=>absurd hf (by lia)
 |f+1,n,v,hf,hn,hv,h=>by
  rw[rK] at h
  split at h
  ·rename_i hc
   have hk:=R.kl n hc.1 hn;refine ak (chain R f _ _ (by lia) (by lia) (R.p7 v) h) fun C K hC=>?_;refine⟨fun m w=>(m=n/\w=v)\/C m w,⟨fun m w q=>q.elim (fun q=>by lia) fun q=>by have:=K.le m w q;lia,fun m w w' q q'=>?_,.inr K.z,fun m w q=>?_⟩,.inl ⟨rfl,rfl⟩⟩
   ·rcases q with q|q<;>rcases q' with q'|q'
    ·exact q.2.trans q'.2.symm
    ·have:=K.le m w' q';lia
    ·have:=K.le m w q;lia
    ·exact K.fn m w w' q q'
   ·rcases q with⟨e1,e2⟩|q
    ·refine AZ e1<|AZ e2 ?_
     have hv0:v≠0:=fun e=>by
      have:=hc.2;rw[e,lies0 R.n0 hc.1] at this;exact DW this
     exact⟨hv,hc.2,fun J=>⟨hv0,.inr hC⟩⟩
    ·refine pL (K.at' m w q) fun a b c=>?_
     exact⟨a,b,fun h0=>⟨(c h0).1,.inr (c h0).2⟩⟩
  ·simp only[Bz,beq_iff_eq] at h
   refine pL h fun e91=>?_;subst e91;intro e92;subst e92;intro h2
   exact⟨fun m w=>m=0/\w=0,⟨fun m w q=>by lia,fun m w w' q q'=>q.2.trans q'.2.symm,⟨rfl,rfl⟩,fun m w q=>by
    refine aS q fun e91=>?_;subst e91;intro e92;subst e92
    exact⟨hv,h2,fun h0=>absurd rfl h0⟩⟩,rfl,rfl⟩
theorem build (R:mu P N T){n:Nat}{C:Nat->Nat->Prop}(K:Chn P N T n C):∀k,k<=T.length->∃h:Nat->Nat,h 0=0/\(∀m,m<=k->jw P N T m (h m)=true/\h m < 7/\(m≠0->h m≠0/\be P (h m)=h (kn T m).1))/\∀m,m<=k->∀w,C m w->w=h m
 |0,_=>⟨fun J=>0,rfl,fun m hm=>by
   obtain rfl:m=0:=by lia
   exact⟨(K.at' 0 0 K.z).2.1,by decide,fun q=>absurd rfl q⟩,fun m hm w hw=>by
   obtain rfl:m=0:=by lia
   exact K.fn 0 w 0 hw K.z⟩
 |k+1,hk=>by
  refine pJ (build R K k (by lia)) fun h h0 h1 h2=>?_;have hl:=R.kl (k+1) (by lia) hk;have key:∃w,w < 7/\w≠0/\be P w=h (kn T (k+1)).1/\jw P N T (k+1) w=true/\∀w',C (k+1) w'->w'=w:=by
   by_cases hC:∃w,C (k+1) w
   ·refine x1 hC fun w hw=>?_
    refine pL (K.at' _ _ hw) fun a b c=>?_;refine aS (c (by lia)) fun c1 c2=>?_;exact⟨w,a,c1,h2 _ (by lia) _ c2,b,fun w' hw'=>K.fn _ _ _ hw' hw⟩
   ·refine vQ ((ql R.w.len (h1 (kn T (k+1)).1 (by lia)).1).2 (k+1) hl hk rfl) fun w a b c d=>?_
    exact⟨w,a,b,c,d,fun w' hw'=>absurd ⟨w',hw'⟩ hC⟩
  refine x14 key fun w a b c d e=>?_;have ne:∀m,m<=k->(if m=k+1 then w else h m)=h m:=fun m hm=>if_neg (by lia);refine⟨fun m=>if m=k+1 then w else h m,(ne 0 (by lia)).trans h0,fun m hm=>?_,fun m hm w' hw'=>?_⟩
  ·by_cases hm':m=k+1
   ·subst hm'
    simp only[if_true];exact⟨d,a,fun J=>⟨b,by refine AZ (ne _ (by lia)) ?_;exact c⟩⟩
   ·simp only[ne m (by lia)]
    refine pL (h1 m (by lia)) fun x y z=>?_;refine⟨x,y,fun q=>⟨(z q).1,?_⟩⟩;have:=R.kl m q (by lia);refine AZ (ne _ (by lia)) ?_;exact(z q).2
  ·by_cases hm':m=k+1
   ·subst hm'
    simp only[if_true];exact e w' hw'
   ·simp only[ne m (by lia)]
    exact h2 m (by lia) w' hw'
theorem wV (R:mu P N T){n v:Nat}(hn:n<=T.length)(hv:v < 7):Ao P N T n v=true↔AX P N T n v:=by
 have h6:=R.w.len
 constructor
 ·intro h
  refine ak (chain R 8 n v (by lia) hn hv h) fun C K hC=>?_;refine pJ (build R K T.length (Bq _)) fun h h0 h1 h2=>?_;refine⟨h,⟨h0,fun m hm0 hm=>?_⟩,(h2 n hn v hC).symm⟩;refine pL (h1 m hm) fun a b c=>?_;exact⟨(c hm0).1,b,(c hm0).2,(ql h6 a).1.resolve_left hm0⟩
 ·rintro⟨h,H,rfl⟩
  exact tX H R.kl 8 n (by lia) hn
end
end Mine
namespace Mine
noncomputable abbrev ym (l:List Nat):Prop:=l.Pairwise (· < ·)
theorem sf:∀{a b:List Nat},ym a->ym b->(∀x,x∈a↔x∈b)->a=b
 |[],[],_,_,_=>rfl
 |[],y::b,_,_,h=>absurd ((h y).mpr Bj) (by simp)
 |x::a,[],_,_,h=>absurd ((h x).mp Bj) (by simp)
 |x::a,y::b,ha,hb,h=>by
  refine aS (BV.mp ha) fun h1 h2=>?_;refine aS (BV.mp hb) fun h3 h4=>?_;have e:x=y:=by
   rcases Bw.mp ((h x).mp Bj) with q|q
   ·exact q
   ·rcases Bw.mp ((h y).mpr Bj) with r|r
    ·exact r.symm
    ·have:=h1 y r;have:=h3 x q;lia
  subst e;rw[sf h2 h4 fun z=>?_]
  constructor
  ·intro q
   rcases Bw.mp ((h z).mp (Bi _ q)) with r|r
   ·have:=h1 z q;lia
   ·exact r
  ·intro q
   rcases Bw.mp ((h z).mpr (Bi _ q)) with r|r
   ·have:=h3 z q;lia
   ·exact r
section
variable (P:List Nat)
noncomputable def gb:List Nat->List Nat->List Nat
 |_,[]=>[]
 |ks,v::r=>if v=0 then gb ks r else if ks.contains (be P v) then gb ks r else be P v::gb (ks++[be P v]) r
theorem upN_n {ks:List Nat}:gb P ks []=[]:=rfl
theorem nD {ks r:List Nat}{v:Nat}:gb P ks (v::r)=if v=0 then gb P ks r else if ks.contains (be P v) then gb P ks r else be P v::gb P (ks++[be P v]) r:=rfl
noncomputable def pc (v:Nat):List Nat:=(Bn 7).filter fun w=>pI P w==(v:Int)
noncomputable def gp (N:List Nm)(s:dB)(X:List Nat):List Nat:=X.flatMap fun v=>(pc P v).filter fun w=>mn s (dP N w)
noncomputable def stepN (N:List Nm)(X:List Nat):Option dB->List Nat
 |none=>gb P [] X
 |some s=>gp P N s X
noncomputable def cL (N:List Nm)(X:List Nat)(p:List (Option dB)):List Nat:=p.foldl (stepN P N) X
noncomputable def depF:Nat->Nat->Nat
 |0,_=>0
 |f+1,v=>if v=0 then 0 else depF f (be P v)+1
noncomputable def yq (v:Nat):Nat:=depF P 7 v
structure vI:Prop where
 p0:be P 0=0
 lt:∀v,v≠0->v < 7->be P v < v
 dp:∀v,v≠0->v < 7->yq P v=yq P (be P v)+1
 mono:∀c d,c≠0->c < d->d < 7->yq P c=yq P d->be P c<=be P d
end
inductive gQ:List (Option dB)->List (Nat×dB)->Nat->Prop
 |nil:gQ [] [] 0
 |down {p T k s}(w:gQ p T k) (hs:gY s):gQ (p++[some s]) (T++[(k,s)]) (T.length+1)
 |up {p T k}(w:gQ p T k) (h:k≠0):gQ (p++[none]) T (kn T k).1
theorem rz {T:List (Nat×dB)}{q:Nat×dB}{m:Nat}(h0:m≠0)(hm:m<=T.length):kn (T++[q]) m=kn T m:=by
 unfold kn;exact AZ (BS)<|AZ (BS)<|AZ (C8 (Ba (Gv (Nat.pos_of_ne_zero h0) (by decide)) hm)) rfl
theorem rA {T:List (Nat×dB)}{q:Nat×dB}:kn (T++[q]) (T.length+1)=q:=by
 unfold kn;simp[List.getD]
theorem gQ.ok {p:List (Option dB)}{T:List (Nat×dB)}{k:Nat}(w:gQ p T k):k<=T.length/\∀m,m≠0->m<=T.length->(kn T m).1 < m/\gY (kn T m).2:=by
 induction w with
 |nil=>exact⟨Bq _,fun m h0 hm=>absurd (Ha.mp hm) h0⟩
 |@down p T k s w hs ih=>
  refine⟨by simp,fun m h0 hm=>?_⟩;rw[Bm,Cy] at hm
  by_cases h:m=T.length+1
  ·subst h
   refine AZ rA ?_;exact⟨Nat.lt_succ_of_le ih.1,hs⟩
  ·have hm':m<=T.length:=Cm (Eu hm h)
   refine AZ (rz h0 hm') ?_;exact ih.2 m h0 hm'
 |@up p T k w h ih=>
  have:=ih.2 k h ih.1;exact⟨Bf (CK this.1) ih.1,ih.2⟩
section
variable {P:List Nat}{N:List Nm}{T:List (Nat×dB)}
theorem lay_nil {v:Nat}:AX P N [] 0 v↔v=0:=by
 constructor
 ·rintro⟨h,H,rfl⟩;exact H.z
 ·rintro rfl
  exact⟨fun J=>0,⟨rfl,fun m h0 hm=>absurd (Ha.mp hm) h0⟩,rfl⟩
theorem zH (kl:∀m,m≠0->m<=T.length->(kn T m).1 < m){k:Nat}{s:dB}(hk:k<=T.length){w:Nat}:AX P N (T++[(k,s)]) (T.length+1) w↔(w≠0/\w < 7/\mn s (dP N w)=true)/\AX P N T k (be P w):=by
 constructor
 ·rintro⟨h,H,rfl⟩
  refine x03 (H.s (T.length+1) (Nat.succ_ne_zero _) (by simp)) fun a b c d=>?_;rw[rA] at c d;refine⟨⟨a,b,d⟩,h,⟨H.z,fun m h0 hm=>?_⟩,c.symm⟩;have:=H.s m h0 (by refine AZ Bm ?_;lia)
  rwa [rz h0 hm] at this
 ·rintro⟨⟨a,b,d⟩,h,H,e⟩
  have ne:∀m,m<=T.length->(if m=T.length+1 then w else h m)=h m:=fun m hm=>if_neg fun e=>G9 _ (e▸hm);refine⟨fun m=>if m=T.length+1 then w else h m,⟨(ne 0 (Cp _)).trans H.z,fun m h0 hm=>?_⟩,if_pos rfl⟩;rw[Bm,Cy] at hm
  by_cases h1:m=T.length+1
  ·subst h1
   simp only[if_true,rA];exact⟨a,b,by refine AZ (ne k hk) ?_;exact e.symm,d⟩
  ·have hm':m<=T.length:=Cm (Eu hm h1)
   simp only[ne m hm'];refine AZ (rz h0 hm')<|AZ (ne _ (Bf (CK (kl m h0 hm')) hm')) ?_
   exact H.s m h0 hm'
theorem lay_up {n u:Nat}(h0:n≠0)(hn:n<=T.length):AX P N T (kn T n).1 u↔∃w,AX P N T n w/\be P w=u:=by
 constructor
 ·rintro⟨h,H,rfl⟩
  exact⟨h n,⟨h,H,rfl⟩,(H.s n h0 hn).2.2.1⟩
 ·rintro⟨w,⟨h,H,rfl⟩,rfl⟩
  exact⟨h,H,((H.s n h0 hn).2.2.1).symm⟩
theorem jx {n v:Nat}(hn:n<=T.length)(h:AX P N T n v):v < 7/\(n≠0->v≠0)/\(n=0->v=0):=by
 refine ak h fun h H e91=>?_;subst e91
 by_cases h0:n=0
 ·subst h0;refine AZ H.z ?_;exact⟨by decide,fun q=>absurd rfl q,fun J=>rfl⟩
 ·refine pL (H.s n h0 hn) fun a b J=>?_
  exact⟨b,fun J=>a,fun q=>absurd q h0⟩
theorem wK (S:vI P)(kl:∀m,m≠0->m<=T.length->(kn T m).1 < m){h h':Nat->Nat}(H:Hom P N T h)(H':Hom P N T h') (n:Nat)(hn:n<=T.length):yq P (h n)=yq P (h' n):=by
 induction n using Nat.strongRecOn with
 |_ n ih=>
  by_cases h0:n=0
  ·subst h0;exact AZ H.z<|AZ H'.z rfl
  ·refine x03 (H.s n h0 hn) fun a b c J=>?_
   refine x03 (H'.s n h0 hn) fun a' b' c' J=>?_;have:=kl n h0 hn;exact AZ (S.dp _ a b)<|AZ (S.dp _ a' b')<|AZ c<|AZ c'<|AZ (ih _ this (by lia)) rfl
theorem gv {u:Nat}:∀{X ks:List Nat},u∈gb P ks X↔u ∉ ks/\∃v∈X,v≠0/\be P v=u
 |[],ks=>by simp[upN_n]
 |v::X,ks=>by
  rw[nD]
  split
  ·rename_i h
   refine AZ (propext (gv (X:=X))) ?_;refine and_congr Iff.rfl ⟨fun⟨x,a,b⟩=>⟨x,Bi _ a,b⟩,fun⟨x,a,b⟩=>?_⟩;rcases Bw.mp a with rfl|a
   ·exact absurd h b.1
   ·exact⟨x,a,b⟩
  ·rename_i h
   split
   ·rename_i hc
    refine AZ (propext (gv (X:=X))) ?_;refine⟨fun⟨q,x,a,b⟩=>⟨q,x,Bi _ a,b⟩,fun⟨q,x,a,b⟩=>⟨q,?_⟩⟩;rcases Bw.mp a with rfl|a
    ·exact absurd (B9.mp hc) (by refine AZ b.2 ?_;exact q)
    ·exact⟨x,a,b⟩
   ·rename_i hc
    have hc:be P v ∉ ks:=fun q=>hc (B9.mpr q);refine AZ (propext Bw)<|AZ (propext (gv (X:=X))) ?_
    constructor
    ·rintro(rfl|⟨q,x,a,b⟩)
     ·exact⟨hc,v,Bj,h,rfl⟩
     ·exact⟨fun z=>q (D3 _ z),x,Bi _ a,b⟩
    ·rintro⟨q,x,a,b⟩
     by_cases e:u=be P v
     ·exact .inl e
     ·right
      refine⟨fun z=>(CY.mp z).elim q fun z=>e (BK.mp z),?_⟩;rcases Bw.mp a with rfl|a
      ·exact absurd b.2.symm e
      ·exact⟨x,a,b⟩
theorem my:∀{X ks:List Nat},X.Pairwise (fun a b=>be P a<=be P b)->(∀k∈ks,∀v∈X,k<=be P v)->ym (gb P ks X)
 |[],_,_,_=>B3
 |v::X,ks,h,hk=>by
  refine aS (BV.mp h) fun h1 h2=>?_;have hk':∀k∈ks,∀v∈X,k<=be P v:=fun k a x b=>hk k a x (Bi _ b);rw[nD]
  split
  ·exact my h2 hk'
  ·split
   ·exact my h2 hk'
   ·refine BV.mpr ⟨fun u hu=>?_,my h2 fun k a x b=>?_⟩
    ·refine yu (gv.mp hu) fun q x a J e91=>?_
     subst e91;exact Eu (h1 x a) fun e=>q (DO _ (BK.mpr e.symm))
    ·rcases CY.mp a with a|a
     ·exact hk' k a x b
     ·refine AZ (BK.mp a) ?_;exact h1 x b
theorem nC:∀{X ks:List Nat},(∀v∈X,v=0\/be P v∈ks)->gb P ks X=[]
 |[],_,_=>rfl
 |v::X,ks,h=>by
  rw[nD];have:=nC (X:=X) (ks:=ks) fun x hx=>h x (Bi _ hx)
  split
  ·exact this
  ·rename_i h0
   refine AZ (if_pos (B9.mpr ((h v Bj).resolve_left h0))) ?_;exact this
theorem mA:∀{X Y ks:List Nat},gb P ks (X++Y)=gb P ks X++gb P (ks++gb P ks X) Y
 |[],Y,ks=>by simp[upN_n]
 |v::X,Y,ks=>by
  (refine AZ Dl ?_;rw[nD,nD])
  split
  ·exact mA
  ·split
   ·exact mA
   ·refine AZ (mA (X:=X))<|AZ Dl<|AZ (BU _ _ _) ?_;rfl
theorem pO {X:List Nat}:gb P [] (X++X)=gb P [] X:=by
 have:=nC (P:=P) (X:=X) (ks:=[]++gb P [] X) fun v hv=>by
  by_cases h0:v=0
  ·exact .inl h0
  ·exact .inr (DO _ (gv.mpr ⟨by simp,v,hv,h0,rfl⟩))
 exact AZ mA<|AZ this<|AZ (CE _) rfl
theorem eT {v w:Nat}:w∈pc P v↔w < 7/\w≠0/\be P w=v:=by
 unfold pc
 (refine AZ (propext Cq)<|AZ (propext BL) ?_;rw[tz])
theorem tJ {v:Nat}:ym (pc P v):=by
 unfold pc;exact Ew Eh EU
theorem Av {s:dB}{X:List Nat}{w:Nat}:w∈gp P N s X↔(w≠0/\w < 7/\mn s (dP N w)=true)/\be P w∈X:=by
 unfold gp;refine AZ (propext List.mem_flatMap) ?_
 constructor
 ·rintro⟨v,hv,hw⟩
  refine aS (Cq.mp hw) fun a b=>?_;refine pL (eT.mp a) fun c d e91=>?_;subst e91;exact⟨⟨d,c,b⟩,hv⟩
 ·rintro⟨⟨a,b,c⟩,d⟩
  exact⟨_,d,Cq.mpr ⟨eT.mpr ⟨b,a,rfl⟩,c⟩⟩
theorem Aw (S:vI P){s:dB}{X:List Nat}(h:ym X)(hd:∀v∈X,∀v'∈X,yq P v=yq P v'):ym (gp P N s X):=by
 unfold gp
 (rw[ym];refine AZ (propext GU) ?_)
 refine⟨fun v hv=>Ew Eh tJ,?_⟩;refine D7 ?_ h;intro v v' hv hv' hlt w hw w' hw';refine pL (eT.mp (Cq.mp hw).1) fun a b c=>?_;refine pL (eT.mp (Cq.mp hw').1) fun a' b' c'=>?_;refine Nat.lt_of_not_le fun hle=>?_;rcases Hv hle with q|q
 ·have:=S.mono w' w b' q a (by exact AZ (S.dp _ b' a')<|AZ (S.dp _ b a)<|AZ c<|AZ c'<|AZ (hd v hv v' hv') rfl)
  rw[c,c'] at this;lia
 ·subst q;replace c':=c▸c';lia
theorem nB (S:vI P){p:List (Option dB)}{k:Nat}(w:gQ p T k):ym (cL P N [0] p)/\∀v,v∈cL P N [0] p↔AX P N T k v:=by
 induction w with
 |nil=>exact⟨by show List.Pairwise _ [0];simp,fun v=>by refine AZ (propext lay_nil) ?_;show v∈[0]↔_;simp⟩
 |@down p T k s w hs ih=>
  refine aS w.ok fun hk kl=>?_;have e:cL P N [0] (p++[some s])=gp P N s (cL P N [0] p):=by unfold cL;refine AZ Dg ?_;rfl
  refine AZ e ?_;refine⟨Aw S ih.1 fun v hv v' hv'=>?_,fun v=>?_⟩
  ·refine ak ((ih.2 v).mp hv) fun h H e91=>?_
   subst e91;refine ak ((ih.2 v').mp hv') fun h' H' e91=>?_;subst e91;exact wK S (fun m a b=>(kl m a b).1) H H' k hk
  ·(refine AZ (propext Av)<|AZ (propext (zH (fun m a b=>(kl m a b).1) hk)) ?_;rw[ih.2])
 |@up p T k w h ih=>
  refine aS w.ok fun hk kl=>?_;have e:cL P N [0] (p++[none])=gb P [] (cL P N [0] p):=by unfold cL;refine AZ Dg ?_;rfl
  refine AZ e ?_;exact up_step S kl ih.1 ih.2 h hk
where
 up_step (S:vI P){T:List (Nat×dB)}{X:List Nat}{k:Nat}(kl:∀m,m≠0->m<=T.length->(kn T m).1 < m/\gY (kn T m).2) (ha:ym X) (hm:∀v,v∈X↔AX P N T k v) (h:k≠0) (hk:k<=T.length):ym (gb P [] X)/\∀v,v∈gb P [] X↔AX P N T (kn T k).1 v:=by
  refine⟨my (D7 (fun{a b} h1 h2 hlt=>?_) ha) (fun J q=>bE q),fun v=>?_⟩
  ·have la:=jx hk ((hm a).mp h1)
   have lb:=jx hk ((hm b).mp h2);refine ak ((hm a).mp h1) fun h' H' e91=>?_;subst e91;refine ak ((hm b).mp h2) fun h'' H'' e91=>?_;subst e91;exact S.mono _ _ (la.2.1 h) hlt lb.1 (wK S (fun m a b=>(kl m a b).1) H' H'' k hk)
  ·refine AZ (propext gv)<|AZ (propext (lay_up h hk)) ?_
   constructor
   ·rintro⟨J,w,a,b,c⟩;exact⟨w,(hm w).mp a,c⟩
   ·rintro⟨w,a,c⟩;exact⟨by simp,w,(hm w).mpr a,(jx hk a).2.1 h,c⟩
theorem sJ {p:List (Option dB)}{k:Nat}(w:gQ p T k):cL P N [0,0] p=if none∈p then cL P N [0] p else cL P N [0] p++cL P N [0] p:=by
 induction w with
 |nil=>rfl
 |@down p T k s w hs ih=>
  have e:∀X,cL P N X (p++[some s])=gp P N s (cL P N X p):=fun X=>by unfold cL;refine AZ Dg ?_;rfl
  refine AZ (e _)<|AZ (e _)<|AZ ih ?_
  by_cases hn:none∈p
  ·exact AZ (if_pos hn)<|AZ (if_pos (D3 _ hn)) rfl
  ·refine AZ (if_neg hn)<|AZ (if_neg (by simpa using hn)) ?_
   unfold gp;exact AZ Eg rfl
 |@up p T k w h ih=>
  have e:∀X,cL P N X (p++[none])=gb P [] (cL P N X p):=fun X=>by unfold cL;refine AZ Dg ?_;rfl
  refine AZ (e _)<|AZ (e _)<|AZ ih ?_
  by_cases hn:none∈p
  ·exact AZ (if_pos hn)<|AZ (if_pos (by simp)) rfl
  ·refine AZ (if_neg hn)<|AZ (if_pos (by simp)) ?_
   exact pO
end
end Mine
namespace Mine
section
variable (P:List Nat)(N:List Nm)(T:List (Nat×dB))
noncomputable def bG (k:Nat):List Nat:=(Bn 7).filter (Ao P N T k)
noncomputable def mq:Nat->Nat->List (List Nat)
 |0,_=>[]
 |f+1,k=>bG P N T k::(if k=0 then[] else mq f (kn T k).1)
noncomputable def eg:Nat->List Nat->List (List Nat)
 |0,X=>[X]
 |d+1,X=>X::eg d (gb P [] X)
theorem z5 {d:Nat}{X:List Nat}:eg P (d+1) X=X::eg P d (gb P [] X):=rfl
theorem rP {f k:Nat}:mq P N T (f+1) k=bG P N T k::(if k=0 then[] else mq P N T f (kn T k).1):=rfl
end
section
variable {P:List Nat}{N:List Nm}{T:List (Nat×dB)}
theorem j8 (R:mu P N T){k v:Nat}(hk:k<=T.length):v∈bG P N T k↔AX P N T k v:=by
 unfold bG;refine AZ (propext Cq)<|AZ (propext BL) ?_
 exact⟨fun h=>(wV R hk h.1).mp h.2,fun h=>⟨(jx hk h).1,(wV R hk (jx hk h).1).mpr h⟩⟩
theorem oK {k:Nat}:ym (bG P N T k):=by
 unfold bG;exact Ew Eh EU
theorem endL_up (S:vI P)(R:mu P N T)(kl:∀m,m≠0->m<=T.length->(kn T m).1 < m/\gY (kn T m).2){k:Nat}(h0:k≠0)(hk:k<=T.length):gb P [] (bG P N T k)=bG P N T (kn T k).1:=by
 refine aS (nB.up_step S kl oK (fun v=>j8 R hk) h0 hk) fun a b=>?_;refine sf a oK fun v=>?_
 (refine AZ (propext (b _)) ?_;rw[j8 R (by have:=(kl k h0 hk).1;lia)])
theorem An (R:mu P N T):gb P [] (bG P N T 0)=[]:=
 nC fun v hv=>.inl ((jx (Cp _) ((j8 R (Cp _)).mp hv)).2.2 rfl)
theorem qw (S:vI P)(R:mu P N T)(kl:∀m,m≠0->m<=T.length->(kn T m).1 < m/\gY (kn T m).2):∀(f k:Nat),k < f->k<=T.length->eg P (mq P N T f k).length (bG P N T k)=mq P N T f k++[[]]
 |0,k,hf,_=>absurd hf (by lia)
 |f+1,k,hf,hk=>by
  rw[rP]
  by_cases h0:k=0
  ·subst h0
   refine AZ (if_pos rfl) ?_;show[_,gb P [] _]=_;refine AZ (An R) ?_;rfl
  ·refine AZ (if_neg h0) ?_
   have:=(kl k h0 hk).1;show bG P N T k::eg P (mq P N T f (kn T k).1).length (gb P [] (bG P N T k))=_;refine AZ (endL_up S R kl h0 hk)<|AZ (qw S R kl f _ (by lia) (by lia)) ?_;rfl
theorem plain02 (S:vI P)(R:mu P N T){p:List (Option dB)}{k:Nat}(w:gQ p T k):eg P (mq P N T 8 k).length (cL P N [0,0] p)=(if none∈p then bG P N T k else bG P N T k++bG P N T k)::((mq P N T 8 k).tail++[[]]):=by
 refine aS w.ok fun hk kl=>?_;refine aS (nB (P:=P) (N:=N) S w) fun a b=>?_;have e:cL P N [0] p=bG P N T k:=sf a oK fun v=>by(refine AZ (propext (b _)) ?_;rw[j8 R hk])
 have h6:=R.w.len;have fd:=qw S R kl 8 k (by lia) hk
 (refine AZ (sJ w) ?_;rw[e])
 have hd:∃d r,mq P N T 8 k=d::r:=⟨_,_,rfl⟩;refine x2 hd fun d r hd=>?_;rw[hd] at fd ⊢;have h2:eg P (d::r).length (bG P N T k)=bG P N T k::eg P r.length (gb P [] (bG P N T k)):=rfl;rw[h2] at fd;have h3:eg P r.length (gb P [] (bG P N T k))=r++[[]]:=(Bv fd).2
 split
 ·refine AZ h2<|AZ h3 ?_;rfl
 ·show _::eg P r.length (gb P [] (bG P N T k++bG P N T k))=_
  refine AZ pO<|AZ h3 ?_;rfl
end
end Mine
namespace Mine
theorem k8 (l:List Int){m:Nat}(h:m < l.length):D.item (.list (l.map .int)) (.int (m:Int))=some (.int (l[m])):=by
 show(bZ (l.map D.int).length (m:Int)).bind ((l.map D.int)[·]?)=_;have:bZ (l.map D.int).length (m:Int)=some m:=by
  unfold bZ;refine AZ (if_pos (by lia))<|AZ (if_pos (by refine AZ (Bx _) ?_;lia)) ?_
  rfl
 refine AZ this ?_;simp[h]
theorem add_int {cs:List Int}{j:Nat}{y:Int}(h:j < cs.length):qK (cs.map .int) (.int (j:Int)) (.int y)=some ((cs.set j (cs[j]+y)).map .int):=by
 show(if 0<=(j:Int)/\(j:Int) < (cs.map D.int).length then((cs.map D.int)[(j:Int).toNat]?).bind fun z=>(yh z (.int y)).map fun w=>(cs.map D.int).set (j:Int).toNat w else none)=_;refine AZ (if_pos ⟨Cf j,by refine AZ (Bx _) ?_;exact DC.mpr h⟩)<|AZ (CZ _)<|AZ (CU)<|AZ (CA h) ?_
 show some ((cs.map D.int).set j (.int (cs[j]+y)))=_;exact AZ List.map_set rfl
theorem mod8 (m:Nat):D.bin .Mod (.int (m:Int)) (.int 8)=some (.int ((m % 8:Nat):Int)):=by
 show(if(0:Int) < 8 then some (D.int (EO (m:Int) 8)) else none)=_;refine AZ (if_pos (by decide))<|AZ (Gz _ (by decide)) ?_
 rfl
theorem mI {Γ:aj}{x:Nat}{tp:Pos}{body:ac->Option g7}{I:Nat->ac->Prop}{n:Nat}(hm:∀i ρ,I i ρ->Γ.mine ρ x=true)(st:∀i,i < n->∀ρ,I i ρ->∃ρ',body (ρ.set x (.fz (.int (i:Int))))=some (.nx ρ')/\I (i+1) ρ'){ρ:ac}(h:I 0 ρ):
  ∃ρ',dF Γ (.name x tp) body ρ ((Bn n).map fun(i:Nat)=>.int (i:Int))=some (.nx ρ')/\I n ρ':=by
 have key:∀(k m:Nat) (ρ:ac),m+k=n->I m ρ->∃ρ',dF Γ (.name x tp) body ρ ((Dr m k).map fun(i:Nat)=>.int (i:Int))=some (.nx ρ')/\I n ρ':=by
  intro k
  induction k with
  |zero=>intro m ρ e h;exact⟨ρ,oH,by refine AZ (BE e) ?_;exact h⟩
  |succ k ih=>
   intro m ρ e h;refine ak (st m (by lia) ρ h) fun ρ1 r1 h1=>?_;refine ak (ih (m+1) ρ1 (by lia) h1) fun ρ2 r2 h2=>?_;refine AZ List.range'_succ<|AZ Bo ?_
   exact⟨ρ2,k9 (hm _ _ h) r1 r2,h2⟩
 refine AZ List.range_eq_range' ?_;exact key n 0 ρ (by lia) h
noncomputable abbrev ΓC:aj:=aH fc 0
theorem ye (l:List Int)(hl:l.length<=63):∃cs:List Int,cs.length=8/\aT.call 42 [.list (l.map .int)]=some (.list (cs.map .int)):=by
 have N0:cg (aq [84] [.list (l.map .int)] fun J=>none):=jZ;have N1:=N0.setO 82 ([42,60,306,2356,288,3394,1728,1].map D.int);obtain⟨ρ',r,hN,cs,k,hc,J⟩:=mI (Γ:=ΓC) (x:=83) (n:=l.length) (tp:=(qq 172 8 9)) (body:=fun ρ=>aL aG NN ΓC ρ (ey (d9.getD 1 io))) (I:=fun i ρ=>cg ρ/\∃cs:List Int,ρ 82=some (.own (cs.map .int))/\cs.length=8/\ρ 84=some (.fz (.list (l.map .int))))
  (fun i ρ h=>h.1.mine rfl) (fun m hm ρ ⟨hN,cs,h82,hc,h84⟩=>by
   refine⟨_,ag (zg (sN h82) (bB (aa ae) af (mod8 m)) (au (aa (sN h84)) (aa ae) (k8 l hm)) (add_int (by lia))) ax,(hN.set 83 _).setO 82 _,_,ae,EY.trans hc,sN (sN h84)⟩) (ρ:=(aq [84] [.list (l.map .int)] fun J=>none).set 82 (.own ([42,60,306,2356,288,3394,1728,1].map D.int))) ⟨N1,_,ae,rfl,rfl⟩
 refine⟨cs,hc,bC (tx ff fc 0 d9) (Φ:=aG) (Φ':=aT) (tF:=tF1) rfl rfl rfl ?_⟩;exact ag (td (ad af (ad af (ad af (ad af (ad af (ad af (ad af (ad af az)))))))) (N0.mine rfl) (by decide)) (ag (jT (fY (n:=l.length) (gn (aa (d:=.list (l.map .int)) rfl) rfl (by decide) (by show some (D.int ((l.map D.int).length:Int))=_;exact AZ (Bx _) rfl)) rfl (by unfold lim;lia)) rfl r) (ag (pV k) (bF (c0 (aa ae)))))
theorem t6 {c:Int}{b k m:Nat}(hb:1<=b/\b<=12)(hk:k<=5)(hm:0 < m):∃x:Nat,x < m/\∀{Φ:bU}{Γ:aj}{ρ:ac}{e:E}{n:Nat}{p1 p2 p3 p4 p5 p6:Pos},ev Φ Γ ρ e=some (.d (.int c))->ρ n=some (.fz (.int (k:Int)))->ev Φ Γ ρ (.bin (.bin e .FloorDiv (.bin (.int (b:Int) p1) .Pow (.name n p2) p3) p4) .Mod (.int (m:Int) p5) p6)=some (.d (.int (x:Int))):=by
 have hpow:b ^ k < 1073741824:=BI (Bf (Nat.pow_le_pow_left hb.2 k) (Nat.pow_le_pow_right (by decide) hk)) (by decide);have hpos:0 < b ^ k:=Nat.pow_pos hb.1;have hm':(0:Int) < m:=E3.mpr hm;refine⟨(EO (DN c ((b ^ k:Nat):Int)) (m:Int)).toNat,?_,fun{Φ Γ ρ e n p1 p2 p3 p4 p5 p6} he hn=>?_⟩
 ·exact(FL (Dn _ hm')).mpr (Ez _ hm')
 ·have e1:D.bin .Pow (.int (b:Int)) (.int (k:Int))=some (.int ((b ^ k:Nat):Int)):=by
   refine(if_pos (c:=0<=(b:Int)/\(b:Int)<=16/\0<=(k:Int)/\(k:Int)<=16) ⟨Cf _,show(b:Int)<=((16:Nat):Int) from DD.mpr (Bf hb.2 (by decide)),Cf _,show(k:Int)<=((16:Nat):Int) from DD.mpr (Bf hk (by decide))⟩).trans ?_;exact AZ (CZ _)<|AZ (Int.natCast_pow _ _) rfl
  have e2:D.bin .FloorDiv (.int c) (.int ((b ^ k:Nat):Int))=some (.int (DN c ((b ^ k:Nat):Int))):=if_pos ⟨E3.mpr hpos,show((b ^ k:Nat):Int) < ((1073741824:Nat):Int) from DC.mpr hpow⟩;have e3:D.bin .Mod (.int (DN c ((b ^ k:Nat):Int))) (.int (m:Int))=some (.int (EO (DN c ((b ^ k:Nat):Int)) (m:Int))):=if_pos hm';have h1:=Dn (DN c ((b ^ k:Nat):Int)) hm';refine AZ (Ei h1) ?_;exact bB (bB he (bB af (aa hn) e1) e2) af e3
end Mine
namespace Mine
noncomputable def iz (P:List Nat):Nat->Nat->List Nat
 |0,_=>[]
 |f+1,v=>v::(if v=0 then[] else iz P f (be P v))
theorem mD {P:List Nat}{f v:Nat}:iz P (f+1) v=v::(if v=0 then[] else iz P f (be P v)):=rfl
noncomputable def pb (P:List Nat) (h:Nat):Nat:=(iz P 8 (P.length - 1)).getD (min h ((iz P 8 (P.length - 1)).length - 1)) 0
noncomputable def bn (hs:List Nat):List Nat:=hs.foldl (fun P h=>P++[pb P h]) [0]
noncomputable def Dec (P:List Nat):Prop:=∀v,v≠0->v < P.length->be P v < v
theorem tD {P:List Nat}(hd:Dec P):∀(f v x:Nat),v < P.length->x∈iz P f v->x<=v
 |0,v,x,_,h=>bE h
 |f+1,v,x,hv,h=>by
  rw[mD] at h;rcases Bw.mp h with rfl|h
  ·exact Bq _
  ·split at h
   ·exact bE h
   ·rename_i h0
    have:=hd v h0 hv;exact Bf (tD hd f _ x (by lia) h) (by lia)
theorem lU (hs:List Nat) (h:Nat):bn (hs++[h])=bn hs++[pb (bn hs) h]:=by
 unfold bn;refine AZ Dg ?_;rfl
theorem wt {P:List Nat}{x v:Nat}(hv:v < P.length):be (P++[x]) v=be P v:=by
 unfold be;exact AZ (BS)<|AZ (BS)<|AZ (C8 hv) rfl
theorem qu {α:Type}{l:List α}{x:α}(d:α):(l++[x]).getD l.length d=x:=by
 refine AZ (BS)<|AZ List.getElem?_concat_length ?_;rfl
theorem wu {P:List Nat}{x:Nat}:be (P++[x]) P.length=x:=by
 exact qu _
theorem ro {N:List Nm}{x:Nm}{v:Nat}(hv:v < N.length):dP (N++[x]) v=dP N v:=by
 unfold dP;exact AZ (BS)<|AZ (BS)<|AZ (C8 hv) rfl
theorem wD {N:List Nm}{x:Nm}:dP (N++[x]) N.length=x:=by
 exact qu _
theorem newP_le {P:List Nat}(hd:Dec P)(hl:0 < P.length) (h:Nat):pb P h < P.length:=by
 unfold pb;generalize min h _=j;refine AZ (BS) ?_
 cases hx:(iz P 8 (P.length - 1))[j]? with
 |none=>exact hl
 |some x=>
  have:=tD hd 8 (P.length - 1) x (Gv hl (by decide)) (Co hx);exact BI this (Gv hl (by decide))
theorem pars_ok:∀hs:List Nat,(bn hs).length=hs.length+1/\Dec (bn hs):=by
 have key:∀(n:Nat) (hs:List Nat),hs.length=n->(bn hs).length=hs.length+1/\Dec (bn hs):=by
  intro n
  induction n with
  |zero=>
   intro hs h;obtain rfl:=List.length_eq_zero_iff.mp h;exact⟨rfl,fun v h0 hv=>absurd (show v < 1 from hv) (by lia)⟩
  |succ n ih=>
   intro hs h;obtain⟨r,x,rfl⟩:∃r x,hs=r++[x]:=⟨hs.dropLast,hs.getLast (by intro e;rw[e] at h;exact nomatch h),(D9 _).symm⟩;rw[Bm,Cy] at h;refine aS (ih r (by lia)) fun h1 h2=>?_;refine AZ (lU _ _) ?_;refine⟨by simp[h1],fun v h0 hv=>?_⟩;rw[Bm,Cy] at hv
   by_cases hv':v=(bn r).length
   ·subst hv'
    refine AZ wu ?_;exact newP_le h2 (by lia) x
   ·refine AZ (wt (by lia)) ?_
    exact h2 v h0 (by lia)
 exact fun hs=>key _ hs rfl
theorem iX {l:List D}{x:D}:D.item (.list (l++[x])) (.int (-1))=some x:=by
 show(bZ (l++[x]).length (-1)).bind ((l++[x])[·]?)=_;have:bZ (l++[x]).length (-1)=some l.length:=by
  unfold bZ;refine AZ (if_neg (by decide))<|AZ (if_pos (by simp;lia)) ?_
  congr 1
  simp;lia
 refine AZ this ?_;simp
noncomputable abbrev ΓTr:aj:=aH fM 0
noncomputable def nG:List St:=ey (dR.getD 3 io)
noncomputable def trWh:St:=nG.getD 1 io
noncomputable def yH:E:=rJ (trWh)
noncomputable abbrev cO (P:List Nat)(N:List Nm) (n:Nat):List D:=(Bn n).map (wo P N)
theorem uU {P:List Nat}{N:List Nm}{n v:Nat}(hv:v < n):D.item (.list (cO P N n)) (.int (v:Int))=some (wo P N v):=by
 show(bZ (cO P N n).length (v:Int)).bind ((cO P N n)[·]?)=_;refine AZ (kP (by simpa using hv)) ?_;simp[hv]
theorem tC {P:List Nat}{N:List Nm}(hd:Dec P)(h7:P.length<=7):∀(f v:Nat)(ks:List D)(ρ:ac) (F:Nat),v < f->f<=F->v < P.length->cg ρ->ρ 95=some (.own (cO P N P.length))->ρ 96=some (.own (ks++[.int (v:Int)]))->ks.length+v < 100->
  ∃ρ',lc (fun ρ=>cT aG ΓTr ρ yH) (fun ρ=>aL aG NN ΓTr ρ (ey trWh)) F ρ=some (.nx ρ')/\cg ρ'/\ρ' 96=some (.own (ks++(iz P f v).map fun(x:Nat)=>.int (x:Int)))/\∀y,y≠96->ρ' y=ρ y
 |0,v,_,_,_,hf,_,_,_,_,_,_=>absurd hf (by lia)
 |f+1,v,ks,ρ,F,hf,hF,hv,hN,h95,h96,hl=>by
  refine x1 (CS (show F≠0 by lia)) fun F e91=>?_;subst e91;have hi:∀{p1 p2 p3 p4:Pos},ev aG ΓTr ρ (.idx (.name 96 p1) (.neg 1 p2 p3) p4)=some (.d (.int (v:Int))):=fun{_ _ _ _}=>jz (eu h96) rfl j9 iX;have hc:cT aG ΓTr ρ yH=some (v != 0):=aA hi af (gt0 v);rw[mD]
  by_cases h0:v=0
  ·subst h0
   exact⟨ρ,uA (hc.trans rfl),hN,by refine AZ h96 ?_;rfl,fun _ _=>rfl⟩
  ·have hp:=hd v h0 hv
   have e0:D.item (wo P N v) (.int 0)=some (.int (be P v:Int)):=by
    show some (D.int (pI P v))=_
    (rw[pI];exact AZ (if_neg h0) rfl)
   have hb:aL aG NN ΓTr ρ (ey trWh)=some (.nx (ρ.set 96 (.own (ks++[.int (v:Int)]++[.int (be P v:Int)])))):=
    ag (lT h96 (au (jz (eu h95) rfl hi (uU hv)) af e0) rfl (by refine AZ Bm<|AZ Cy ?_;exact Ba (EN (BI (FY _ v) hl)) (by decide))) ax
   refine vQ (tC hd h7 f (be P v) (ks++[.int (v:Int)]) _ F (Ba hp (Cm hf)) (Nat.le_of_succ_le_succ hF) (CP hp hv) (hN.setO 96 (ks++[.int (v:Int)]++[.int (be P v:Int)])) (sN h95) ae (by refine AZ Bm<|AZ Cy ?_;exact BI (show ks.length+1+be P v<=ks.length+v by refine AZ (Nat.add_assoc _ _ _)<|AZ (Nat.add_comm 1 _) ?_;exact C2 hp _) hl)) fun ρ' r N' k u=>?_;refine⟨ρ',qN (hc.trans (by exact AZ (bne_iff_ne.mpr h0) rfl)) hb r,N',?_,fun y hy=>(u y hy).trans (set_ne hy)⟩;refine AZ k<|AZ (if_neg h0) ?_;simp
theorem zE {P:List Nat}{f v:Nat}:0 < (iz P (f+1) v).length:=by rw[mD];simp
theorem qj {P:List Nat}:∀(f v:Nat),(iz P f v).length<=f
 |0,_=>Bq _
 |f+1,v=>by
  (rw[mD];refine AZ BA ?_)
  split
  ·simp
  ·have:=qj (P:=P) f (be P v);lia
noncomputable def jl (a b:Nat):List (Option Wd):=[some [a],some [b],some [b,125,a],none]
noncomputable def l9 (a b i:Nat):Option Wd:=(jl a b).getD i none
noncomputable def o8 (a b i j:Nat):Nm:=(l9 a b j).map fun l=>(l9 a b i,l)
theorem yB {a b:Nat}:∀i,l9 a b i=some [a]\/l9 a b i=some [b]\/l9 a b i=some [b,125,a]\/l9 a b i=none
 |0=>.inl rfl
 |1=>.inr (.inl rfl)
 |2=>.inr (.inr (.inl rfl))
 |3=>.inr (.inr (.inr rfl))
 |_+4=>.inr (.inr (.inr rfl))
theorem yA {a b i:Nat}{w:Wd}(h:l9 a b i=some w):w≠[]/\w.length<=50:=by
 rcases yB (a:=a) (b:=b) i with q|q|q|q
 ·obtain rfl:=A0 (h.symm.trans q)
  exact⟨FQ _ _,E5 rfl⟩
 ·obtain rfl:=A0 (h.symm.trans q)
  exact⟨FQ _ _,E5 rfl⟩
 ·obtain rfl:=A0 (h.symm.trans q)
  exact⟨FQ _ _,E5 rfl⟩
 ·exact ah (q.symm.trans h)
theorem nmAt_ok {a b i j:Nat}:gR (o8 a b i j):=fun s l h=>by
 unfold o8 at h;refine ak (Bt.mp h) fun l' h1 h2=>?_
 cases h2
 exact⟨(yA h1).1,(yA h1).2,fun w hw=>yA hw⟩
noncomputable def ChW (w:Wd):Prop:=∀c∈w,c < 1114112
noncomputable def ChN (nm:Nm):Prop:=∀s l,nm=some (s,l)->ChW l/\∀w,s=some w->ChW w
theorem wd_ch {a b i:Nat}(ha:a < 55296)(hb:b < 55296){w:Wd}(h:l9 a b i=some w):ChW w:=by
 have la:a < 1114112:=CP ha (by decide);have lb:b < 1114112:=CP hb (by decide);unfold ChW;rcases yB (a:=a) (b:=b) i with q|q|q|q
 ·exact A0 (q.symm.trans h)▸Bb.mpr ⟨la,fun J q=>bE q⟩
 ·exact A0 (q.symm.trans h)▸Bb.mpr ⟨lb,fun J q=>bE q⟩
 ·exact A0 (q.symm.trans h)▸Bb.mpr ⟨lb,Bb.mpr ⟨by decide,Bb.mpr ⟨la,fun J q=>bE q⟩⟩⟩
 ·exact ah (q.symm.trans h)
theorem nmAt_ch {a b i j:Nat}(ha:a < 55296)(hb:b < 55296):ChN (o8 a b i j):=fun s l h=>by
 unfold o8 at h;refine ak (Bt.mp h) fun l' h1 h2=>?_
 cases h2
 exact⟨wd_ch ha hb h1,fun w hw=>wd_ch ha hb hw⟩
theorem pN {a b i:Nat}(hi:i < 4):D.item (.list ((jl a b).map o4)) (.int (i:Int))=some (o4 (l9 a b i)):=by
 have h:∀i,i < 4->i=0\/i=1\/i=2\/i=3:=by decide
 have:=h i hi;rcases this with rfl|rfl|rfl|rfl<;>rfl
end Mine
namespace Mine
theorem qt {l:List Nat}{j:Nat}(hj:j < l.length):D.item (pl l) (.int (j:Int))=some (.int (l.getD j 0:Int)):=by
 show(bZ (l.map fun(x:Nat)=>D.int (x:Int)).length (j:Int)).bind ((l.map fun(x:Nat)=>D.int (x:Int))[·]?)=_;refine AZ (kP (by simpa using hj)) ?_;simp[hj,List.getD]
theorem min_nat {x y:Nat}:D.builtin2 9 (.int (x:Int)) (.int (y:Int))=some (.int ((min x y:Nat):Int)):=by
 show some (D.int (if(y:Int) < x then(y:Int) else x))=_
 by_cases h:(y:Int) < x
 ·exact AZ (if_pos h)<|AZ (Nat.min_eq_right (CK (DC.mp h))) rfl
 ·exact AZ (if_neg h)<|AZ (Nat.min_eq_left (DD.mp (HF.mp h))) rfl
theorem tn {P:List Nat}{N:List Nm}{k x:Nat}{nm:Nm}(hP:P.length=k+1)(hN:N.length=k+1):cO (P++[x]) (N++[nm]) (k+2)=cO P N (k+1)++[.tup [.int (x:Int),fG nm]]:=by
 unfold cO;refine AZ EX<|AZ BW ?_
 congr 1
 ·refine Dk fun v hv=>?_
  have hv:=BL.mp hv;unfold wo pI;exact AZ (wt (by lia))<|AZ (ro (by lia)) rfl
 ·have e1:be (P++[x]) (k+1)=x:=by refine AZ (BE hP) ?_;exact wu
  have e2:dP (N++[nm]) (k+1)=nm:=by refine AZ (BE hN) ?_;exact wD
  show[D.tup [.int (pI (P++[x]) (k+1)),fG (dP (N++[nm]) (k+1))]]=_
  (refine AZ e2 ?_;rw[pI];exact AZ (if_neg (by lia))<|AZ e1 rfl)
structure xd (cs:List Int)(a b k:Nat)(ρ:ac):Prop where
 ns:cg ρ
 c:ρ 82=some (.fz (.list (cs.map .int)))
 w:ρ 94=some (.fz (.list ((jl a b).map o4)))
 t:∃hs N,hs.length=k/\(∀h∈hs,h < 3)/\N.length=k+1/\dP N 0=none/\(∀v,gR (dP N v)/\ChN (dP N v))/\ρ 95=some (.own (cO (bn hs) N (k+1)))
theorem xt {cs:List Int}{a b k:Nat}{ρ:ac}(hc:cs.length=8)(ha:a < 55296)(hb:b < 55296)(hk:k < 6)(I:xd cs a b k ρ):∃ρ',aL aG NN ΓTr (ρ.set 83 (.fz (.int (k:Int)))) nG=some (.nx ρ')/\xd cs a b (k+1) ρ':=by
 obtain⟨hN,h82,h94,hs,N,hh,h3,hNl,hN0,hNm,h95⟩:=I;refine aS (pars_ok hs) fun hPl hd=>?_;replace hPl:=hh▸hPl;refine ak (t6 (c:=cs[2]) (b:=3) (k:=k) (m:=3) (by decide) (Cm (by assumption)) (by decide)) fun x hx ex=>?_;refine ak (t6 (c:=cs[3]) (b:=4) (k:=k) (m:=4) (by decide) (Cm (by assumption)) (by decide)) fun i hi ei=>?_;refine ak (t6 (c:=cs[4]) (b:=4) (k:=k) (m:=4) (by decide) (Cm (by assumption)) (by decide)) fun j hj ej=>?_
 let ρ0:=ρ.set 83 (.fz (.int (k:Int)))
 have N0:cg ρ0:=hN.set _ _
 let ρ1:=ρ0.set 96 (.own [.int (k:Int)])
 have N1:cg ρ1:=N0.setO _ _;have a95:ρ1 95=some (.own (cO (bn hs) N (bn hs).length)):=by refine AZ hPl ?_;exact sN (sN h95)
 refine vQ (tC (P:=bn hs) (N:=N) hd (by lia) 8 k [] ρ1 100 (by lia) (by decide) (by lia) N1 a95 ae (by simp;lia)) fun ρ2 r2 N2 k96 u2=>?_;replace k96:=(D8 _)▸k96;have b82:ρ2 82=some (.fz (.list (cs.map .int))):=(u2 82 (by decide)).trans (sN (sN h82));have b83:ρ2 83=some (.fz (.int (k:Int))):=(u2 83 (by decide)).trans (sN ae);have b94:ρ2 94=some (.fz (.list ((jl a b).map o4))):=(u2 94 (by decide)).trans (sN (sN h94));have b95:ρ2 95=some (.own (cO (bn hs) N (k+1))):=(u2 95 (by decide)).trans (a95.trans (by exact AZ hPl rfl));generalize hl:iz (bn hs) 8 k=line at k96;have l1:0 < line.length:=by refine AZ (BE hl) ?_;exact zE
 have l8:line.length<=8:=by refine AZ (BE hl) ?_;exact qj 8 k
 have en:pb (bn hs) x=line.getD (min x (line.length - 1)) 0:=by
  unfold pb;exact AZ hPl<|AZ (Hw _ _)<|AZ hl rfl
 have ct:∀{n:Nat}(hn:n < cs.length){ρ:ac}{p1 p2 p3:Pos},ρ 82=some (.fz (.list (cs.map .int)))->ev aG ΓTr ρ (.idx (.name 82 p1) (.int (n:Int) p2) p3)=some (.d (.int cs[n])):=fun{n} hn {ρ p1 p2 p3} h=>au (aa h) af (k8 cs hn);have elen:∀{p1 p2 p3 p4 p5:Pos},ev aG ΓTr ρ2 (.bin (.blt 0 [.name 96 p1] p2 p3) .Sub (.int 1 p4) p5)=some (.d (.int ((line.length - 1:Nat):Int))):=fun{_ _ _ _ _}=>by
  refine bB (vq (eu k96) rfl rfl (by decide) (z:=.int (line.length:Int)) ?_) af (z:=.int ((line.length - 1:Nat):Int)) ?_
  ·show some (D.int (((line.map fun(x:Nat)=>D.int (x:Int)).length:Nat):Int))=_
   exact AZ (Bx _) rfl
  ·show some (D.int ((line.length:Int) - 1))=_
   congr 2;lia
 let ρ3:=ρ2.set 97 (.fz (.int (pb (bn hs) x:Int)))
 have N3:cg ρ3:=N2.set _ _;have s3:ev aG ΓTr ρ2 (rJ (nG.getD 2 io))=some (.d (.int (pb (bn hs) x:Int))):=by
  refine AZ en ?_;exact jz (eu k96) rfl (vt (ex (ct (n:=2) (by refine AZ hc ?_;decide) b82) b83) elen rfl (by decide) min_nat) (qt (by lia))
 have c82:ρ3 82=some (.fz (.list (cs.map .int))):=sN b82;have c83:ρ3 83=some (.fz (.int (k:Int))):=sN b83;have c94:ρ3 94=some (.fz (.list ((jl a b).map o4))):=sN b94
 let ρ4:=(ρ3.set 98 (.fz (o4 (l9 a b i)))).set 99 (.fz (o4 (l9 a b j)))
 have N4:cg ρ4:=(N3.set _ _).set _ _;have v4:∀y,y≠98->y≠99->ρ4 y=ρ3 y:=fun y h1 h2=>(set_ne h2).trans (set_ne h1);have s5:ev aG ΓTr ρ4 (rJ (nG.getD 4 io))=some (.d (.tup [.int (pb (bn hs) x:Int),fG (o8 a b i j)])):=by
  refine fX (ad (aa ((v4 97 (by decide) (by decide)).trans ae)) (ad (x:=fG (o8 a b i j)) ?_ az)) mE;unfold o8
  cases hw:l9 a b j with
  |none=>exact rM (aA (aa (ae.trans (by exact AZ hw rfl))) c9 rfl) c9
  |some l=>exact rN (aA (aa (d:=.str l) (ae.trans (by refine AZ hw ?_;rfl))) c9 rfl) (fX (ad (aa (sN ae)) (ad (aa (d:=.str l) (ae.trans (by refine AZ hw ?_;rfl))) az)) mE)
 refine⟨ρ4.set 95 (.own (cO (bn hs) N (k+1)++[.tup [.int (pb (bn hs) x:Int),fG (o8 a b i j)]])),?_,?_⟩
 ·exact ag (td (ad (aa ae) az) (N0.mine rfl) (by decide:1<=lim)) (ag (zf r2) (ag (cI s3 (N2.mine rfl)) (ag (eK (e7 (au (aa c94) (ei (ct (n:=3) (by refine AZ hc ?_;decide) c82) c83) (pN hi)) (e7 (au (aa c94) (ej (ct (n:=4) (by refine AZ hc ?_;decide) c82) c83) (pN hj)) gj)) rfl rfl (by decide) (N3.all rfl) mE)
   (ag (lT ((v4 95 (by decide) (by decide)).trans (sN b95)) s5 rfl (by unfold cO;refine AZ (Bx _)<|AZ HA ?_;unfold lim;lia)) ax))))
 ·refine⟨N4.setO _ _,sN ((v4 82 (by decide) (by decide)).trans c82),sN ((v4 94 (by decide) (by decide)).trans c94),hs++[x],N++[o8 a b i j],by simp[hh],fun h hm=>?_,by simp[hNl],by refine AZ (ro (by lia)) ?_;exact hN0,fun v=>?_,?_⟩
  ·rcases CY.mp hm with q|q
   ·exact h3 h q
   ·refine AZ (BK.mp q) ?_;exact hx
  ·by_cases hv:v < N.length
   ·refine AZ (ro hv) ?_;exact hNm v
   ·by_cases hv':v=N.length
    ·refine AZ hv'<|AZ wD ?_;exact⟨nmAt_ok,nmAt_ch ha hb⟩
    ·have:dP (N++[o8 a b i j]) v=none:=by
      unfold dP;refine AZ (BS)<|AZ (GW (by simp;lia)) ?_;rfl
     refine AZ this ?_;exact⟨fun s l h=>(ah h),fun s l h=>(ah h)⟩
  ·exact AZ ae<|AZ (lU _ _)<|AZ (tn hPl hNl) rfl
end Mine
namespace Mine
theorem mC {c m:Int}(h:0 < m):D.bin .Mod (.int c) (.int m)=some (.int (EO c m)):=if_pos h
theorem wZ {c:Int}:∃a:Nat,a < 55296/\∀{Φ:bU}{Γ:aj}{ρ:ac}{e:E}{p1 p2 p3 p4:Pos},Γ 1=some .globalImplicit->ev Φ Γ ρ e=some (.d (.int c))->ev Φ Γ ρ (.blt 1 [.bin e .Mod (.int 55296 p1) p2] p3 p4)=some (.d (.str [a])):=by
 have h1:=Dn c (b:=55296) (by decide);have h2:=Ez c (b:=55296) (by decide);refine⟨(EO c 55296).toNat,(FL h1).mpr h2,fun{Φ Γ ρ e p1 p2 p3 p4} hg he=>?_⟩;have e3:=mC (c:=c) (m:=55296) (by decide);exact gn (bB he af e3) hg (by decide) (mM ⟨h1,h2⟩)
structure vH (P:List Nat)(N:List Nm):Prop where
 hs:∃hs,P=bn hs/\hs.length=6/\∀h∈hs,h < 3
 n0:dP N 0=none
 nm:∀v,gR (dP N v)
 ch:∀v,ChN (dP N v)
theorem yC {cs:List Int}(hc:cs.length=8):∃P N,vH P N/\aT.call 45 [.list (cs.map .int)]=some (aQ P N):=by
 have ct:∀{n:Nat}(hn:n < cs.length){ρ:ac}{p1 p2 p3:Pos},ρ 82=some (.fz (.list (cs.map .int)))->ev aG ΓTr ρ (.idx (.name 82 p1) (.int (n:Int) p2) p3)=some (.d (.int cs[n])):=fun{n} hn {ρ p1 p2 p3} h=>au (aa h) af (k8 cs hn);obtain⟨a,ha,ea⟩:=wZ (c:=cs[0]);obtain⟨b,hb,eb⟩:=wZ (c:=cs[1]);have N0:cg (aq [82] [.list (cs.map .int)] fun _=>none):=jZ
 let ρ1:=((aq [82] [.list (cs.map .int)] fun _=>none).set 92 (.fz (.str [a]))).set 93 (.fz (.str [b]))
 have N1:cg ρ1:=(N0.set _ _).set _ _
 let ρ2:=ρ1.set 94 (.fz (.list ((jl a b).map o4)))
 have N2:cg ρ2:=N1.set _ _
 let ρ3:=ρ2.set 95 (.own (cO (bn []) [none] 1))
 have N3:cg ρ3:=N2.setO _ _
 have I0:xd cs a b 0 ρ3:=⟨N3,rfl,rfl,[],[none],rfl,(fun h q=>(nomatch q)),rfl,rfl,(fun v=>by
  have:dP [none] v=none:=by
   unfold dP
   match v with
   |0=>rfl
   |v+1=>rfl
  refine AZ this ?_;exact⟨fun s l h=>(nomatch h),fun s l h=>(nomatch h)⟩),rfl⟩
 obtain⟨ρ4,r4,I4⟩:=mI (Γ:=ΓTr) (x:=83) (n:=6) (tp:=(uH (dR.getD 3 io))) (body:=fun ρ=>aL aG NN ΓTr ρ nG) (I:=xd cs a b) (fun i ρ h=>h.ns.mine rfl) (fun i hi ρ h=>xt hc ha hb hi h) I0;obtain⟨hs,N,h6,h3,hNl,hN0,hNm,h95⟩:=I4.t;refine⟨bn hs,N,⟨⟨hs,rfl,h6,h3⟩,hN0,fun v=>(hNm v).1,fun v=>(hNm v).2⟩,bC (tx fP fM 0 dR) (Φ:=aG) (Φ':=aT) (tF:=tF1) rfl rfl rfl ?_⟩;have w3:D.bin .Add (.str [b]) (.str [125])=some (.str [b,125]):=eG (by decide:2<=lim);have w4:D.bin .Add (.str [b,125]) (.str [a])=some (.str [b,125,a]):=eG (by decide:3<=lim);have c92:ρ1 92=some (.fz (.str [a])):=rfl;have c93:ρ1 93=some (.fz (.str [b])):=rfl;exact ag (eK (e7 (ea rfl (ct (n:=0) (by refine AZ hc ?_;decide) rfl)) (e7 (eb rfl (ct (n:=1) (by refine AZ hc ?_;decide) rfl)) gj)) rfl rfl (by decide) (N0.all rfl) mE)
  (ag (cI (d:=.list ((jl a b).map o4)) (eO (ad (aa c92) (ad (aa c93) (ad (bB (bB (aa c93) (bc (by decide)) w3) (aa c92) w4) (ad c9 az)))) (by decide:4<=lim)) (N1.mine rfl))
   (ag (td (l:=cO (bn []) [none] 1) (ad (fX (ad j9 (ad c9 az)) mE) az) (N2.mine rfl) (by decide:1<=lim)) (ag (jT (fY (n:=6) af rfl (by decide)) rfl r4) (ag (pV h95) (bF (c0 (aa ae)))))))
noncomputable def shpB (P:List Nat):Bool:=be P 0==0&&((Bn 7).all fun v=>v==0||(decide (be P v < v)&&yq P v==yq P (be P v)+1))&&((Bn 7).all fun c=>(Bn 7).all fun d=>c==0||!(decide (c < d))||yq P c != yq P d||decide (be P c<=be P d))&&decide (P.length=7)
noncomputable def AL:Nat->(List Nat->Bool)->Bool
 |0,f=>f []
 |n+1,f=>(Bn 3).all fun a=>AL n fun r=>f (a::r)
theorem ui:∀{n:Nat}{f:List Nat->Bool},AL n f=true->∀hs:List Nat,hs.length=n->(∀h∈hs,h < 3)->f hs=true
 |0,f,h,[],_,_=>h
 |n+1,f,h,a::r,hl,h3=>ui (f:=fun r=>f (a::r)) (Bp.mp h a (BL.mpr (h3 a Bj))) r (D2 hl) fun x hx=>h3 x (Bi _ hx)
theorem shp_all:(AL 6 fun hs=>shpB (bn hs))=true:=by decide +kernel
theorem vH.shp {P:List Nat}{N:List Nm}(K:vH P N):shpB P=true:=by
 obtain⟨hs,rfl,h6,h3⟩:=K.hs;exact ui shp_all hs h6 h3
theorem shp_of {P:List Nat}(h:shpB P=true):vI P/\P.length=7:=by
 unfold shpB at h;simp only[Bz,beq_iff_eq,decide_eq_true_eq] at h;obtain⟨⟨⟨h0,h1⟩,h2⟩,h3⟩:=h;refine⟨⟨h0,fun v hv h7=>?_,fun v hv h7=>?_,fun c d hc hcd hd he=>?_⟩,h3⟩
 ·have:=Bp.mp h1 v (BL.mpr h7)
  simp only[BZ,beq_iff_eq,Bz,decide_eq_true_eq] at this;exact(this.resolve_left hv).1
 ·have:=Bp.mp h1 v (BL.mpr h7)
  simp only[BZ,beq_iff_eq,Bz,decide_eq_true_eq] at this;exact(this.resolve_left hv).2
 ·have:=Bp.mp (Bp.mp h2 c (BL.mpr (CP hcd hd))) d (BL.mpr hd)
  simp only[BZ,beq_iff_eq,FF,decide_eq_false_iff_not,bne_iff_ne,decide_eq_true_eq] at this;rcases this with((q|q)|q)|q
  ·exact absurd q hc
  ·exact absurd hcd q
  ·exact absurd he q
  ·exact q
end Mine
namespace Mine
noncomputable def kB:Option dB->D
 |none=>.nil
 |some s=>jp s
inductive Anc (P:List Nat)(T:List (Nat×dB)):Nat->Nat->Prop
 |z:Anc P T 0 0
 |s {h k:Nat}(h0:h≠0) (k0:k≠0) (h7:h < 7) (a:Anc P T (be P h) (kn T k).1):Anc P T h k
theorem Anc.grow {P:List Nat}{T:List (Nat×dB)}{q:Nat×dB}(kl:∀m,m≠0->m<=T.length->(kn T m).1 < m/\gY (kn T m).2){h k:Nat}(a:Anc P T h k)(hk:k<=T.length):Anc P (T++[q]) h k:=by
 induction a with
 |z=>exact .z
 |@s h k h0 k0 h7 a ih=>
  have:=(kl k k0 hk).1;exact .s h0 k0 h7 (by refine AZ (rz k0 hk) ?_;exact ih (by lia))
noncomputable abbrev ΓDr:aj:=aH fb 0
noncomputable def ld:List St:=ey (cC.getD 2 io)
noncomputable def d7 (N:List Nm):List Nat:=(Bn 7).filter fun v=>(dP N v).isSome
noncomputable def dE (P:List Nat)(N:List Nm) (h:Nat):List Nat:=(d7 N).filter fun v=>pI P v==(h:Int)
structure um (cs:List Int)(P:List Nat)(N:List Nm) (i:Nat)(ρ:ac):Prop where
 ns:cg ρ
 c:ρ 82=some (.fz (.list (cs.map .int)))
 t:ρ 95=some (.fz (aQ P N))
 nm:ρ 104=some (.fz (pl (d7 N)))
 st:∃p T k h,gQ p T k/\(∀s,some s∈p->∃v,dP N v=some s.2)/\Anc P T h k/\h < 7/\T.length<=i/\p.length<=i/\ρ 100=some (.fz (.int (h:Int)))/\ρ 101=some (.fz (.int (k:Int)))/\ρ 102=some (.own (p.map kB))/\ρ 103=some (.own (.tup [.int (-1),.nil]::T.map o5))
theorem jt {N:List Nm}(hn:∀v,gR (dP N v)){v:Nat}(hv:v∈d7 N):v < 7/\∃s l,dP N v=some (s,l):=by
 refine aS (Cq.mp hv) fun a b=>?_;refine x1 (DE.mp b) fun p91 e=>?_;obtain⟨s,l⟩:=p91;exact⟨BL.mp a,s,l,e⟩
theorem zM {P:List Nat}{N:List Nm}{ρ:ac}{h:Nat}(hN:cg ρ)(h95:ρ 95=some (.fz (aQ P N)))(h104:ρ 104=some (.fz (pl (d7 N))))(h100:ρ 100=some (.fz (.int (h:Int)))):
  ev aG ΓDr ρ (rJ (ld.getD 1 io))=some (.d (pl (dE P N h))):=by
 have hl:(d7 N).length<=lim:=Bf (Cz _ _) (by decide);refine ka (l:=d7 N) (c:=fun(w:Nat)=>.int (w:Int)) (k:=fun(w:Nat)=>.int (w:Int)) (b:=fun v=>pI P v==(h:Int)) (by rfl) (aa h104) rfl (by rfl) (fun w hw=>?_) (fun w _ _=>aa ae) hl;have hw7:w < 7:=BL.mp (Cq.mp hw).1;exact aA (au (au (aa (sN h95)) (aa ae) (bV hw7)) af (z:=.int (pI P w)) rfl) (aa (sN h100)) je
theorem wE {x m:Nat}(h:0 < m):D.bin .Mod (.int (x:Int)) (.int (m:Int))=some (.int ((x % m:Nat):Int)):=by
 refine AZ (mC (by lia))<|AZ (Gz _ (by lia)) ?_;rfl
theorem ne_nilL (l:List Nat):D.cmp .NotEq (pl l) (.list [])=some (!l.isEmpty):=by
 show(D.eq (pl l) (.list [])).map (!·)=_;refine AZ (show D.eq (pl l) (.list [])=some l.isEmpty from vo l) ?_;rfl
theorem xU {l:List Nat}(hl:l≠[]):∃q,q∈l/\D.item (pl l) (.int (-1))=some (.int (q:Int)):=by
 obtain⟨r,q,rfl⟩:∃r q,l=r++[q]:=⟨_,_,(D9 hl).symm⟩;refine⟨q,by simp,?_⟩;unfold pl;refine AZ BW ?_;exact iX
theorem At {P:List Nat}{N:List Nm}{T:List (Nat×dB)}{ρ:ac}{p:List (Option dB)}{k h:Nat}(hN:cg ρ)(h95:ρ 95=some (.fz (aQ P N)))(h100:ρ 100=some (.fz (.int (h:Int))))(h101:ρ 101=some (.fz (.int (k:Int))))(h102:ρ 102=some (.own (p.map kB)))(h103:ρ 103=some (.own (.tup [.int (-1),.nil]::T.map o5)))(h0:h≠0)(h7:h < 7)(k0:k≠0)(hk:k<=T.length)(hp:p.length < 100):
  aL aG NN ΓDr ρ (ey (ld.getD 2 io))=some (.nx (((ρ.set 102 (.own ((p++[none]).map kB))).set 100 (.fz (.int (be P h:Int)))).set 101 (.fz (.int ((kn T k).1:Int))))):=by
 let ρ1:=ρ.set 102 (.own (p.map kB++[.nil]))
 have N1:cg ρ1:=hN.setO _ _;have e0:D.item (wo P N h) (.int 0)=some (.int (be P h:Int)):=by
  show some (D.int (pI P h))=_
  (rw[pI];exact AZ (if_neg h0) rfl)
 have ep:(p++[none]).map kB=p.map kB++[.nil]:=by refine AZ BW ?_;rfl
 refine AZ ep ?_;have c95:ρ1 95=some (.fz (aQ P N)):=sN h95;have c100:ρ1 100=some (.fz (.int (h:Int))):=sN h100;have c101:ρ1 101=some (.fz (.int (k:Int))):=sN h101;have c103:ρ1 103=some (.own (.tup [.int (-1),.nil]::T.map o5)):=sN h103;exact ag (lT h102 c9 rfl (by refine AZ (Bx _) ?_;unfold lim;lia)) (ag (eK (e7 (au (au (aa c95) (aa c100) (bV h7)) af e0) (e7 (au (jz (eu c103) rfl (aa c101) (fk k0 hk)) af (z:=.int ((kn T k).1:Int)) rfl) gj)) rfl rfl (by decide) (N1.all rfl) mE) ax)
theorem vv {P:List Nat}{N:List Nm}{T:List (Nat×dB)}{ρ:ac}{p:List (Option dB)}{k h way pick:Nat}(hn:∀v,gR (dP N v))(hN:cg ρ)(h95:ρ 95=some (.fz (aQ P N)))(h104:ρ 104=some (.fz (pl (d7 N))))(h107:ρ 107=some (.fz (.int (way:Int))))(h108:ρ 108=some (.fz (.int (pick:Int))))(h109:ρ 109=some (.fz (pl (dE P N h))))(h101:ρ 101=some (.fz (.int (k:Int))))(h102:ρ 102=some (.own (p.map kB)))(h103:ρ 103=some (.own (.tup [.int (-1),.nil]::T.map o5)))
  (hw:way < 5) (hk0:dE P N h≠[]) (hp:p.length < 100) (hT:T.length < 100):
  ∃h' s,h'∈dE P N h/\gY s/\(∃v,dP N v=some s.2)/\aL aG NN ΓDr ρ (ey ((Ap (ld.getD 2 io)).getD 0 io))=some (.nx ((((ρ.set 100 (.fz (.int (h':Int)))).set 102 (.own ((p++[some s]).map kB))).set 103 (.own (.tup [.int (-1),.nil]::(T++[(k,s)]).map o5))).set 101 (.fz (.int ((T.length+1:Nat):Int))))):=by
 have hlen:0 < (dE P N h).length:=Hb.mpr hk0
 let j:=pick % 3 % (dE P N h).length
 have hj:j < (dE P N h).length:=Nat.mod_lt _ hlen
 let h':=(dE P N h).getD j 0
 have hm:h'∈dE P N h:=by
  show(dE P N h).getD j 0∈_;refine AZ (BS)<|AZ (CA hj) ?_
  exact List.getElem_mem _
 have hm':h'∈d7 N:=(Cq.mp hm).1;have hnn:d7 N≠[]:=fun e=>by rw[e] at hm';exact bE hm'
 refine ak (xU hnn) fun q' hq' eq'=>?_
 let ρ1:=ρ.set 100 (.fz (.int (h':Int)))
 have N1:cg ρ1:=hN.set _ _;have c108:ρ1 108=some (.fz (.int (pick:Int))):=sN h108;have c104:ρ1 104=some (.fz (pl (d7 N))):=sN h104;have hq:∃q,q∈d7 N/\∀{p1 p2 p3 p4 p5 p6 p7 p8 p9:Pos},ev aG ΓDr ρ1 (.ife (.cmp (.name 108 p1) .Lt (.int 9 p2) p3) (.name 100 p4) (.idx (.name 104 p5) (.neg 1 p6 p7) p8) p9)=some (.d (.int (q:Int))):=by
  have hc:D.cmp .Lt (.int (pick:Int)) (.int 9)=some (decide ((pick:Int) < 9)):=rfl
  by_cases h9:(pick:Int) < 9
  ·exact⟨h',hm',fun{_ _ _ _ _ _ _ _ _}=>rM (aA (aa c108) af (hc.trans (by exact AZ (decide_eq_true h9) rfl))) (aa ae)⟩
  ·exact⟨q',hq',fun{_ _ _ _ _ _ _ _ _}=>rN (aA (aa c108) af (hc.trans (by exact AZ (decide_eq_false h9) rfl))) (au (aa c104) j9 eq')⟩
 refine ak hq fun q hqm eq=>?_;refine x012 (jt hn hqm) fun q7 sp' l' en=>?_;refine pL (hn q sp' l' en) fun n1 n2 n3=>?_;have hS:gY (way,sp',l'):=⟨hw,n1,n2,n3⟩
 let ρ2:=ρ1.set 102 (.own (p.map kB++[jp (way,sp',l')]))
 have N2:cg ρ2:=N1.setO _ _
 let ρ3:=ρ2.set 103 (.own ((.tup [.int (-1),.nil]::T.map o5)++[o5 (k,way,sp',l')]))
 have N3:cg ρ3:=N2.setO _ _;have e1:(p++[some (way,sp',l')]).map kB=p.map kB++[jp (way,sp',l')]:=by refine AZ BW ?_;rfl
 have e2:(.tup [.int (-1),.nil]::(T++[(k,way,sp',l')]).map o5)=(.tup [.int (-1),.nil]::T.map o5)++[o5 (k,way,sp',l')]:=by refine AZ BW ?_;rfl
 refine⟨h',(way,sp',l'),hm,hS,⟨q,en⟩,?_⟩;refine AZ e1<|AZ e2 ?_
 have c95:ρ1 95=some (.fz (aQ P N)):=sN h95;have c107:ρ1 107=some (.fz (.int (way:Int))):=sN h107;have c102:ρ1 102=some (.own (p.map kB)):=sN h102;have d101:ρ2 101=some (.fz (.int (k:Int))):=sN (sN h101);have d103:ρ2 103=some (.own (.tup [.int (-1),.nil]::T.map o5)):=sN (sN h103);have m3:D.bin .Mod (.int (pick:Int)) (.int 3)=some (.int ((pick % 3:Nat):Int)):=wE (m:=3) (by decide);have mk:D.bin .Mod (.int ((pick % 3:Nat):Int)) (.int ((dE P N h).length:Int))=some (.int (j:Int)):=wE hlen;have bl:D.builtin 0 [pl (dE P N h)]=some (.int ((dE P N h).length:Int)):=by
  show some (D.int (((dE P N h).map fun(x:Nat)=>D.int (x:Int)).length:Int))=_;exact AZ (Bx _) rfl
 have tw:D.item (wo P N q) (.int 1)=some (fG (some (sp',l'))):=by
  show some (fG (dP N q))=_;exact AZ en rfl
 have sub1:D.bin .Sub (.int (((.tup [.int (-1),.nil]::T.map o5)++[o5 (k,way,sp',l')]).length:Int)) (.int 1)=some (.int ((T.length+1:Nat):Int)):=by
  show some (D.int _)=_
  congr 2
  simp
 exact ag (cI (au (aa h109) (bB (bB (aa h108) af m3) (gn (aa h109) rfl (by decide) bl) mk) (qt hj)) (hN.mine rfl))
  (ag (lT c102 (fX (ad (aa c107) (ad (au (au (aa c95) eq (bV q7)) af tw) az)) mE) rfl (by refine AZ (Bx _) ?_;unfold lim;lia))
   (ag (lT d103 (fX (ad (aa d101) (ad (jz (eu ae) rfl j9 iX) az)) mE) rfl (by simp;unfold lim;lia))
    (ag (cI (bB (vq (eu ae) rfl rfl (by decide) (z:=.int (((.tup [.int (-1),.nil]::T.map o5)++[o5 (k,way,sp',l')]).length:Int)) rfl) af sub1) (N3.mine rfl)) ax)))
end Mine
namespace Mine
theorem vu {cs:List Int}{P:List Nat}{N:List Nm}{i:Nat}{ρ:ac}(S:vI P)(hc:cs.length=8)(hn:∀v,gR (dP N v))(hi:i < 6)(I:um cs P N i ρ):∃ρ',aL aG NN ΓDr (ρ.set 83 (.fz (.int (i:Int)))) ld=some (.nx ρ')/\um cs P N (i+1) ρ':=by
 obtain⟨hN,h82,h95,h104,p,T,k,h,W,hpn,A,h7,hT,hp,h100,h101,h102,h103⟩:=I;refine ak (t6 (c:=cs[5]) (b:=5) (k:=i) (m:=5) (by decide) (Cm hi) (by decide)) fun way hw ew=>?_;refine ak (t6 (c:=cs[6]) (b:=12) (k:=i) (m:=12) (by decide) (Cm hi) (by decide)) fun pick hpk ep=>?_;refine aS W.ok fun hk kl=>?_
 let ρ0:=ρ.set 83 (.fz (.int (i:Int)))
 have N0:cg ρ0:=hN.set _ _;have ct:∀{n:Nat}(hn:n < cs.length){ρ:ac}{p1 p2 p3:Pos},ρ 82=some (.fz (.list (cs.map .int)))->ev aG ΓDr ρ (.idx (.name 82 p1) (.int (n:Int) p2) p3)=some (.d (.int cs[n])):=fun{n} hn {ρ p1 p2 p3} h=>au (aa h) af (k8 cs hn);have a82:ρ0 82=some (.fz (.list (cs.map .int))):=sN h82
 let ρ1:=(ρ0.set 107 (.fz (.int (way:Int)))).set 108 (.fz (.int (pick:Int)))
 have N1:cg ρ1:=(N0.set _ _).set _ _;have v1:∀y,y≠83->y≠107->y≠108->ρ1 y=ρ y:=fun y a b c=>(set_ne c).trans ((set_ne b).trans (set_ne a));have ek:=zM (P:=P) (N:=N) (ρ:=ρ1) (h:=h) N1 ((v1 95 (by decide) (by decide) (by decide)).trans h95) ((v1 104 (by decide) (by decide) (by decide)).trans h104) ((v1 100 (by decide) (by decide) (by decide)).trans h100)
 let ρ2:=ρ1.set 109 (.fz (pl (dE P N h)))
 have N2:cg ρ2:=N1.set _ _;have v2:∀y,y≠83->y≠107->y≠108->y≠109->ρ2 y=ρ y:=fun y a b c d=>(set_ne d).trans (v1 y a b c);have b82:=(v2 82 (by decide) (by decide) (by decide) (by decide)).trans h82;have b95:=(v2 95 (by decide) (by decide) (by decide) (by decide)).trans h95;have b104:=(v2 104 (by decide) (by decide) (by decide) (by decide)).trans h104;have b100:=(v2 100 (by decide) (by decide) (by decide) (by decide)).trans h100;have b101:=(v2 101 (by decide) (by decide) (by decide) (by decide)).trans h101;have b102:=(v2 102 (by decide) (by decide) (by decide) (by decide)).trans h102;have b103:=(v2 103 (by decide) (by decide) (by decide) (by decide)).trans h103;have b107:ρ2 107=some (.fz (.int (way:Int))):=sN (sN ae);have b108:ρ2 108=some (.fz (.int (pick:Int))):=sN ae;have b109:ρ2 109=some (.fz (pl (dE P N h))):=ae
 suffices hs:∃ρ',bJ aG NN ΓDr ρ2 (ld.getD 2 io)=some (.nx ρ')/\um cs P N (i+1) ρ' by
  refine ak hs fun ρ' r I'=>?_;exact⟨ρ',ag (eK (e7 (ew (ct (n:=5) (by refine AZ hc ?_;decide) a82) ae) (e7 (ep (ct (n:=6) (by refine AZ hc ?_;decide) a82) ae) gj)) rfl rfl (by decide) (N0.all rfl) mE) (ag (cI ek (N1.mine rfl)) (ag r ax)),I'⟩
 have c1:∀{p1 p2 p3:Pos},cT aG ΓDr ρ2 (.cmp (.name 100 p1) .Gt (.int 0 p2) p3)=some (h != 0):=fun{_ _ _}=>aA (aa b100) af (gt0 h);have c2:∀{p1 p2 p3 p4 p5 p6 p7:Pos},cT aG ΓDr ρ2 (.bop .Or [.cmp (.name 109 p1) .Eq (.list [] p2) p3,.cmp (.name 107 p4) .Eq (.int 0 p5) p6] p7)=some ((dE P N h).isEmpty||((way==0)||false)):=fun{_ _ _ _ _ _ _}=>
  cb (se (aA (aa b109) (eO az (by decide)) (vo _)) (se (aA (aa b107) af (eq0 way)) uf))
 by_cases hA:h≠0/\((dE P N h).isEmpty||((way==0)||false))=true
 ·obtain⟨k0,A'⟩:k≠0/\Anc P T (be P h) (kn T k).1:=by
   cases A with
   |z=>exact absurd rfl hA.1
   |s h0 k0 h7 a=>exact⟨k0,a⟩
  have hp7:be P h < 7:=CP (S.lt h hA.1 h7) h7;refine⟨_,eQ (cb (eF (c1.trans (by exact AZ (bne_iff_ne.mpr hA.1) rfl)) (eF (c2.trans (by exact AZ hA.2 rfl)) f7))) (At N2 b95 b100 b101 b102 b103 hA.1 h7 k0 hk (BI (Bf (by assumption) (CK hi)) (by decide))),((N2.setO _ _).set _ _).set _ _,?_,?_,?_,p++[none],T,_,_,gQ.up W k0,(fun s hs=>hpn s ((CY.mp hs).elim id fun q=>nomatch BK.mp q)),A',hp7,by lia,by simp;lia,?_,?_,?_,?_⟩
  ·exact sN (sN (sN b82))
  ·exact sN (sN (sN b95))
  ·exact sN (sN (sN b104))
  ·exact sN ae
  ·exact ae
  ·exact sN (sN ae)
  ·exact sN (sN (sN b103))
 ·have hF:∀{p1 p2 p3 p4 p5 p6 p7 p8 p9 q1 q2:Pos},cT aG ΓDr ρ2 (.bop .And [.cmp (.name 100 p1) .Gt (.int 0 p2) p3,.bop .Or [.cmp (.name 109 p4) .Eq (.list [] p5) p6,.cmp (.name 107 p7) .Eq (.int 0 p8) p9] q1] q2)=some false:=fun{_ _ _ _ _ _ _ _ _ _ _}=>by
   by_cases h0:h=0
   ·exact cb (e8 (c1.trans (by refine AZ h0 ?_;rfl)))
   ·exact cb (eF (c1.trans (by exact AZ (bne_iff_ne.mpr h0) rfl)) (e8 (c2.trans (by exact AZ (Dp.mpr fun q=>hA ⟨h0,q⟩) rfl))))
  have c3:∀{p1 p2 p3:Pos},cT aG ΓDr ρ2 (.cmp (.name 109 p1) .NotEq (.list [] p2) p3)=some (!(dE P N h).isEmpty):=fun{_ _ _}=>aA (aa b109) (eO az (by decide)) (ne_nilL _)
  cases hE:(dE P N h).isEmpty with
  |true=>
   exact⟨_,cH hF (ag (cH (c3.trans (by refine AZ hE ?_;rfl)) ax) ax),N2,b82,b95,b104,p,T,k,h,W,hpn,A,h7,CW (by assumption),CW (by assumption),b100,b101,b102,b103⟩
  |false=>
   have hne:dE P N h≠[]:=fun e=>by rw[e] at hE;exact zy hE
   refine x23 (vv (P:=P) (T:=T) (p:=p) hn N2 b95 b104 b107 b108 b109 b101 b102 b103 hw hne (BI (Bf (by assumption) (CK hi)) (by decide)) (BI (Bf (by assumption) (CK hi)) (by decide))) fun h' s hm hS hsn r=>?_;have hm2:=Cq.mp hm;refine aS (tz.mp hm2.2) fun h'0 hpar=>?_;refine⟨_,cH hF (ag (eQ (c3.trans (by refine AZ hE ?_;rfl)) r) ax),(((N2.set _ _).setO _ _).setO _ _).set _ _,?_,?_,?_,p++[some s],T++[(k,s)],T.length+1,h',gQ.down W hS,(fun s' hs'=>(CY.mp hs').elim (hpn s') fun q=>by refine AZ (A0 (BK.mp q)) ?_;exact hsn),?_,(jt hn hm2.1).1,by simp;lia,by simp;lia,?_,?_,?_,?_⟩
   ·exact sN (sN (sN (sN b82)))
   ·exact sN (sN (sN (sN b95)))
   ·exact sN (sN (sN (sN b104)))
   ·exact .s h'0 (by lia) (jt hn hm2.1).1 (by refine AZ hpar<|AZ rA ?_;exact A.grow kl hk)
   ·exact sN (sN (sN ae))
   ·exact ae
   ·exact sN (sN ae)
   ·exact sN ae
end Mine
namespace Mine
theorem zR {nm:Nm}:D.cmp .IsNot (fG nm) .nil=some nm.isSome:=by
 rcases nm with J|⟨s,l⟩<;>rfl
theorem z8 {c m:Int}(h:0 < m/\m < 1073741824):D.bin .FloorDiv (.int c) (.int m)=some (.int (DN c m)):=if_pos h
theorem ya {cs:List Int}{P:List Nat}{N:List Nm}(S:vI P)(hc:cs.length=8)(hn:∀v,gR (dP N v)):∃p T k,gQ p T k/\(∀s,some s∈p->∃v,dP N v=some s.2)/\T.length<=6/\p.length<=6/\aT.call 46 [aQ P N,.list (cs.map .int)]=some (.tup [.list (p.map kB),cY T,.int (k:Int)]):=by
 have ct:∀{n:Nat}(hn:n < cs.length){ρ:ac}{p1 p2 p3:Pos},ρ 82=some (.fz (.list (cs.map .int)))->ev aG ΓDr ρ (.idx (.name 82 p1) (.int (n:Int) p2) p3)=some (.d (.int cs[n])):=fun{n} hn {ρ p1 p2 p3} h=>au (aa h) af (k8 cs hn);have N0:cg (aq [95,82] [aQ P N,.list (cs.map .int)] fun J=>none):=jZ
 let ρ1:=((((aq [95,82] [aQ P N,.list (cs.map .int)] fun J=>none).set 100 (.fz (.int 0))).set 101 (.fz (.int 0))).set 102 (.own [])).set 103 (.own [.tup [.int (-1),.nil]])
 have N1:cg ρ1:=(((N0.set _ _).set _ _).setO _ _).setO _ _
 let ρ2:=ρ1.set 104 (.fz (pl (d7 N)))
 have N2:cg ρ2:=N1.set _ _;have I0:um cs P N 0 ρ2:=⟨N2,rfl,rfl,rfl,[],[],0,0,gQ.nil,(fun s hs=>bE hs),.z,by decide,Bq _,Bq _,rfl,rfl,rfl,rfl⟩;have g1:=Dn (DN cs[7] 5) (b:=6) (by decide);have g2:=Ez (DN cs[7] 5) (b:=6) (by decide);obtain⟨y,hy⟩:∃y:Nat,EO (DN cs[7] 5) 6=(y:Int):=⟨_,(Ei g1).symm⟩;rw[hy] at g2;refine ak (mI (Γ:=ΓDr) (x:=83) (n:=6 - y) (tp:=(uH (cC.getD 2 io))) (body:=fun ρ=>aL aG NN ΓDr ρ ld) (I:=um cs P N) (fun i ρ h=>h.ns.mine rfl) (fun i hi ρ h=>vu S hc hn (Ba hi (C0 6 y)) h) I0) fun ρ3 r3 I3=>?_;obtain⟨hN,J,J,J,p,T,k,h,W,hpn,A,h7,hT,hp,h100,h101,h102,h103⟩:=I3;refine⟨p,T,k,W,hpn,Bf hT (C0 6 y),Bf hp (C0 6 y),bC (tx fe fb 0 cC) (Φ:=aG) (Φ':=aT) (tF:=tF1) rfl rfl rfl ?_⟩;have hnl:(d7 N).length<=lim:=Bf (Cz _ _) (by decide);have en:ev aG ΓDr ρ1 (rJ (cC.getD 1 io))=some (.d (pl (d7 N))):=by
  refine ka (l:=Bn 7) (c:=fun(w:Nat)=>.int (w:Int)) (k:=fun(w:Nat)=>.int (w:Int)) (b:=fun v=>(dP N v).isSome) (by rfl) (fY (n:=7) af rfl (by decide)) rfl (by rfl) (fun w hw=>?_) (fun w J J=>aa ae) (by decide);have hw7:w < 7:=BL.mp hw;exact aA (au (au (aa (sN (show ρ1 95=some (.fz (aQ P N)) from rfl))) (aa ae) (bV hw7)) af (z:=fG (dP N w)) rfl) c9 zR
 have f1:=z8 (c:=cs[7]) (m:=5) (by decide);have f2:=mC (c:=DN cs[7] 5) (m:=6) (by decide);rw[hy] at f2;have f3:D.bin .Sub (.int 6) (.int (y:Int))=some (.int ((6 - y:Nat):Int)):=by
  show some (D.int ((6:Int) - y))=_;exact congrArg (fun z:Int=>some (D.int z)) (Int.ofNat_sub (CK (DC.mp (show(y:Int) < ((6:Nat):Int) from g2)))).symm
 refine ag (eK (e7 af (e7 af (oe (eO az (by decide)) rfl (oe (eO (ad (fX (ad j9 (ad c9 az)) mE) az) (by decide:1<=lim)) rfl gj)))) rfl rfl (by decide) (N0.all rfl) (by decide:4<=lim)) (ag (cI en (N1.mine rfl)) (ag (jT (fY (n:=6 - y) (bB af (bB (bB (ct (n:=7) (by refine AZ hc ?_;decide) rfl) af f1) af f2) f3) rfl (Bf (C0 6 y) (by decide))) rfl r3) ?_));have q1:(ρ3.set 102 (.fz (.list (p.map kB)))) 103=some (.own (.tup [.int (-1),.nil]::T.map o5)):=sN h103;exact ag (pV h102) (ag (pV q1) (bF (c0 (fX (ad (aa (sN ae)) (ad (aa ae) (ad (aa (sN (sN h101))) az))) (by decide:3<=lim)))))
end Mine
namespace Mine
theorem pU {α:Type}{n p:Nat}{f:Nat->α}{x:α}:((Bn n).map f).set p x=(Bn n).map fun q=>if q=p then x else f q:=by
 apply List.ext_getElem
 ·simp
 ·intro i h1 h2
  simp only[List.getElem_set,List.getElem_map,List.getElem_range]
  by_cases h:p=i
  ·exact AZ (if_pos h)<|AZ (if_pos h.symm) rfl
  ·exact AZ (if_neg h)<|AZ (if_neg fun e=>h e.symm) rfl
noncomputable def rB (P:List Nat)(m q:Nat):List Nat:=(Dr 1 m).filter fun v=>be P v==q
theorem qp {P:List Nat}{m q:Nat}:rB P (m+1) q=if q=be P (m+1) then rB P m q++[m+1] else rB P m q:=by
 unfold rB;refine AZ List.range'_concat<|AZ (List.filter_append _ _)<|AZ DU ?_
 simp only[Nat.mul_one,Nat.one_mul];refine AZ (show 1+m=m+1 by lia) ?_
 by_cases h:q=be P (m+1)
 ·refine AZ (if_pos h)<|AZ (if_pos (beq_iff_eq.mpr h.symm)) ?_;rfl
 ·refine AZ (if_neg h)<|AZ (if_neg (fun e=>h (beq_iff_eq.mp e).symm)) ?_;simp
theorem iU {P:List Nat}{q:Nat}:rB P 6 q=pc P q:=by
 unfold rB pc;have e:Bn 7=0::Dr 1 6:=rfl;rw[e,DU,if_neg (by simp[pI])];refine List.filter_congr fun v hv=>?_;have:=(ED.mp hv).1
 (refine AZ (propext Cr)<|AZ (propext tz) ?_;rw[beq_iff_eq])
 exact⟨fun h=>⟨by lia,h⟩,fun h=>h.2⟩
noncomputable def eX (k:Nat)(P:List Nat)(N:List Nm)(m q:Nat):List D:=(rB P m q).map fun v=>eV k (v,dP N v)
noncomputable def c8 (P:List Nat)(m q:Nat):List Nat:=(65+q)::(rB P m q).map (97+·)
theorem iC {P:List Nat}{m q:Nat}:(rB P m q).length<=m:=Bf (Cz _ _) (by simp)
theorem app_row {k:Nat}{P:List Nat}{N:List Nm}{m:Nat}(hm:m < 6)(hp:be P (m+1) < 7):uh ((Bn 7).map (eX k P N m)) (.int (be P (m+1):Int)) (eV k (m+1,dP N (m+1)))=some ((Bn 7).map (eX k P N (m+1))):=by
 have hl:=iC (P:=P) (m:=m) (q:=be P (m+1));have e:((Bn 7).map (eX k P N m))[((be P (m+1):Nat):Int).toNat]?=some (eX k P N m (be P (m+1))):=by
  refine AZ (CZ _) ?_;simp[hp]
 show(if 0<=((be P (m+1):Nat):Int)/\((be P (m+1):Nat):Int) < ((Bn 7).map (eX k P N m)).length then _ else none)=_;refine AZ (if_pos ⟨by lia,by simp;lia⟩)<|AZ e ?_
 show(if(eX k P N m (be P (m+1))).length < lim then some (((Bn 7).map (eX k P N m)).set ((be P (m+1):Nat):Int).toNat _) else none)=_;refine AZ (if_pos (by unfold eX;refine AZ (Bx _) ?_;unfold lim;lia))<|AZ (CZ _)<|AZ pU ?_
 congr 1
 refine Dk fun q J=>?_;unfold eX;refine AZ qp ?_
 by_cases h:q=be P (m+1)
 ·subst h;refine AZ (if_pos rfl)<|AZ (if_pos rfl)<|AZ BW ?_;rfl
 ·exact AZ (if_neg h)<|AZ (if_neg h) rfl
theorem add_fam {P:List Nat}{m:Nat}(hm:m < 6)(hp:be P (m+1) < 7):qK ((Bn 7).map fun q=>.str (c8 P m q)) (.int (be P (m+1):Int)) (.str [97+(m+1)])=some ((Bn 7).map fun q=>.str (c8 P (m+1) q)):=by
 have hl:=iC (P:=P) (m:=m) (q:=be P (m+1));have e:((Bn 7).map fun q=>D.str (c8 P m q))[((be P (m+1):Nat):Int).toNat]?=some (.str (c8 P m (be P (m+1)))):=by
  refine AZ (CZ _) ?_;simp[hp]
 have ea:yh (.str (c8 P m (be P (m+1)))) (.str [97+(m+1)])=some (.str (c8 P m (be P (m+1))++[97+(m+1)])):=eG (by unfold c8;simp;unfold lim;lia);show(if 0<=((be P (m+1):Nat):Int)/\((be P (m+1):Nat):Int) < ((Bn 7).map fun q=>D.str (c8 P m q)).length then _ else none)=_;refine AZ (if_pos ⟨by lia,by simp;lia⟩)<|AZ e ?_
 show(yh (.str (c8 P m (be P (m+1)))) (.str [97+(m+1)])).map (fun w=>((Bn 7).map fun q=>D.str (c8 P m q)).set ((be P (m+1):Nat):Int).toNat w)=_;refine AZ ea<|AZ (CJ _ _)<|AZ (CZ _)<|AZ pU ?_
 congr 1
 refine Dk fun q J=>?_;unfold c8;refine AZ qp ?_
 by_cases h:q=be P (m+1)
 ·subst h;refine AZ (if_pos rfl)<|AZ (if_pos rfl)<|AZ BW ?_;rfl
 ·exact AZ (if_neg h)<|AZ (if_neg h) rfl
end Mine
namespace Mine
theorem phi3_50 (args:List D):dC.call 50 args=dm.call 50 args:=cz (Φ:=dm) (tF:=tF3) rfl
theorem phi3_52 (a b:D):dC.call 52 [a,b]=some (.thing [19,20] [a,b]):=by
 refine AZ (show dC.call 52 [a,b]=dm.call 52 [a,b] from cz (Φ:=dm) (tF:=tF3) rfl)<|AZ (show dm.call 52 [a,b]=aT.call 52 [a,b] from cz (Φ:=aT) (tF:=tF2) rfl)<|AZ (show aT.call 52 [a,b]=aG.call 52 [a,b] from cz (Φ:=aG) (tF:=tF1) rfl) ?_
 rfl
noncomputable def z9:List St:=ey (fdA.getD 1 io)
structure ul (k:Nat)(P:List Nat)(N:List Nm)(ρ0:ac) (m:Nat)(ρ:ac):Prop where
 ns:cg ρ
 r:ρ 118=some (.own2 ((Bn 7).map (eX k P N m)))
 f:ρ 122=some (.own ((Bn 7).map fun q=>.str (c8 P m q)))
 u:∀y,y≠105->y≠118->y≠122->ρ y=ρ0 y
theorem gR.len {nm:Nm}(h:gR nm):∀q,nm=some q->q.2.length<=50/\∀w,q.1=some w->w.length<=50:=fun q e=>
 let ⟨_,b,c⟩:=h q.1 q.2 e
 ⟨b,fun w hw=>(c w hw).2⟩
theorem fd_step {k:Nat}(hk:k < 5){P:List Nat}{N:List Nm}(hn:∀v,gR (dP N v))(p7:∀v,be P v < 7){ρ0:ac}(h95:ρ0 95=some (.fz (aQ P N)))(h85:ρ0 85=some (.fz (.int (k:Int)))){m:Nat}(hm:m < 6){ρ:ac}(I:ul k P N ρ0 m ρ):
  ∃ρ',aL dC NN ΓD (ρ.set 105 (.fz (.int ((m+1:Nat):Int)))) z9=some (.nx ρ')/\ul k P N ρ0 (m+1) ρ':=by
 obtain⟨hN,hr,hf,hu⟩:=I
 let ρ1:=ρ.set 105 (.fz (.int ((m+1:Nat):Int)))
 have N1:cg ρ1:=hN.set _ _;have a95:ρ1 95=some (.fz (aQ P N)):=sN ((hu 95 (by decide) (by decide) (by decide)).trans h95);have a85:ρ1 85=some (.fz (.int (k:Int))):=sN ((hu 85 (by decide) (by decide) (by decide)).trans h85);have a118:ρ1 118=some (.own2 ((Bn 7).map (eX k P N m))):=sN hr;have e0:D.item (wo P N (m+1)) (.int 0)=some (.int (be P (m+1):Int)):=by
  show some (D.int (pI P (m+1)))=_
  (rw[pI];exact AZ (if_neg (Nat.succ_ne_zero m)) rfl)
 have et:dC.call 50 [fG (dP N (m+1)),.int (k:Int)]=some (kL k (dP N (m+1))):=(phi3_50 _).trans (tag_run hk (hn _).len);have eth:dC.call 52 [.int ((m+1:Nat):Int),kL k (dP N (m+1))]=some (eV k (m+1,dP N (m+1))):=phi3_52 _ _
 let ρ2:=ρ1.set 118 (.own2 ((Bn 7).map (eX k P N (m+1))))
 have N2:cg ρ2:=N1.set2 _ _;have b95:ρ2 95=some (.fz (aQ P N)):=sN a95;have b105:ρ2 105=some (.fz (.int ((m+1:Nat):Int))):=sN ae;have b122:ρ2 122=some (.own ((Bn 7).map fun q=>.str (c8 P m q))):=sN (sN hf);have ech:D.builtin 1 [.int (97+((m+1:Nat):Int))]=some (.str [97+(m+1)]):=(mM (i:=97+((m+1:Nat):Int)) ⟨by lia,by lia⟩).trans (by exact AZ (show(97+((m+1:Nat):Int)).toNat=97+(m+1) by lia) rfl)
 refine⟨_,ag (s_app2 a118 (au (au (aa a95) (aa ae) (bV (EN hm))) af e0) (ca (ad (aa ae) (ad (ca (ad (au (au (aa a95) (aa ae) (bV (EN hm))) af (z:=fG (dP N (m+1))) rfl) (ad (aa a85) az)) rfl et) az)) rfl eth) rfl (app_row hm (p7 _)))
  (ag (zg b122 (au (au (aa b95) (aa b105) (bV (EN hm))) af e0) (gn (bB af (aa b105) rfl) rfl (by decide) ech) (add_fam hm (p7 _))) ax),N2.setO _ _,sN ae,ae,fun y h1 h2 h3=>(set_ne h3).trans ((set_ne h2).trans ((set_ne h1).trans (hu y h1 h2 h3)))⟩
theorem wR {k:Nat}(hk:k < 5){P:List Nat}{N:List Nm}(hn:∀v,gR (dP N v))(p7:∀v,be P v < 7){ρ0:ac}(h95:ρ0 95=some (.fz (aQ P N)))(h85:ρ0 85=some (.fz (.int (k:Int)))){tp:Pos}:∀(n m:Nat)(ρ:ac),m+n=6->ul k P N ρ0 m ρ->
  ∃ρ',dF ΓD (.name 105 tp) (fun ρ=>aL dC NN ΓD ρ z9) ρ ((Dr (m+1) n).map fun(i:Nat)=>.int (i:Int))=some (.nx ρ')/\ul k P N ρ0 6 ρ'
 |0,m,ρ,e,I=>⟨ρ,oH,by refine AZ (BE (show m=6 from e)) ?_;exact I⟩
 |n+1,m,ρ,e,I=>by
  refine ak (fd_step hk hn p7 h95 h85 (by refine AZ (BE e) ?_;exact Nat.lt_add_of_pos_right (Nat.succ_pos n)) I) fun ρ1 r1 I1=>?_;refine ak (wR hk hn p7 h95 h85 (tp:=tp) n (m+1) ρ1 (by refine AZ (Hx _ _ _) ?_;exact e) I1) fun ρ2 r2 I2=>?_;refine AZ List.range'_succ<|AZ Bo ?_
  exact⟨ρ2,k9 (I.ns.mine rfl) r1 r2,I2⟩
end Mine
namespace Mine
noncomputable def cP (P:List Nat):List (List Nat):=(Bn 7).map (c8 P 6)
theorem mB:∀fs:List (List Nat),qc (fs.map D.str)=true
 |[]=>rfl
 |f::fs=>by(refine AZ Bo ?_;rw[qc];refine AZ (mB fs) ?_);rfl
theorem phi3_53 (fs:List (List Nat)):dC.call 53 [.list (fs.map .str)]=some (.thing [19] [cc (fs.map .str)]):=by
 refine AZ (show dC.call 53 [.list (fs.map .str)]=dm.call 53 [.list (fs.map .str)] from cz (Φ:=dm) (tF:=tF3) rfl)<|AZ (show dm.call 53 [.list (fs.map .str)]=aT.call 53 [.list (fs.map .str)] from cz (Φ:=aT) (tF:=tF2) rfl)<|AZ (show aT.call 53 [.list (fs.map .str)]=aG.call 53 [.list (fs.map .str)] from cz (Φ:=aG) (tF:=tF1) rfl) ?_
 show(if qc (fs.map D.str)=true then some (D.thing [19] [cc (fs.map .str)]) else none)=_;exact AZ (if_pos (mB fs)) rfl
theorem phi1_34:aT.call 34 [.nil,.tup [.str [46,46],.str []]]=some (.lam 11 []):=by rfl
theorem phi3_34:dC.call 34 [.nil,.tup [.str [46,46],.str []]]=some (.lam 11 []):=by
 refine AZ (show dC.call 34 [.nil,.tup [.str [46,46],.str []]]=dm.call 34 [.nil,.tup [.str [46,46],.str []]] from cz (Φ:=dm) (tF:=tF3) rfl)<|AZ (show dm.call 34 [.nil,.tup [.str [46,46],.str []]]=aT.call 34 [.nil,.tup [.str [46,46],.str []]] from cz (Φ:=aT) (tF:=tF2) rfl) ?_
 exact phi1_34
theorem fdA_run {k:Nat}(hk:k < 5){P:List Nat}{N:List Nm}(hn:∀v,gR (dP N v))(p7:∀v,be P v < 7){pD:D}{d:Nat}:∃ρ,aL dC NN ΓD (aq (cA.map (·.1)) [aQ P N,pD,.int (d:Int),.int (k:Int)] fun J=>none) fdA=some (.nx ρ)/\cg ρ/\ρ 95=some (.fz (aQ P N))/\ρ 102=some (.fz pD)/\ρ 125=some (.fz (.int (d:Int)))/\ρ 85=some (.fz (.int (k:Int)))/\
  ρ 118=some (.fz (.list ((Bn 7).map fun q=>.list (eX k P N 6 q))))/\ρ 122=some (.fz (.list ((cP P).map .str)))/\ρ 58=some (.fz (.thing [19] [cc ((cP P).map .str)]))/\ρ 121=some (.fz (.lam 11 []))/\ρ 120=some (.fz (pl [0,0])):=by
 let ρ0:=aq (cA.map (·.1)) [aQ P N,pD,.int (d:Int),.int (k:Int)] fun J=>none
 have N0:cg ρ0:=jZ;have z95:ρ0 95=some (.fz (aQ P N)):=rfl;have z85:ρ0 85=some (.fz (.int (k:Int))):=rfl
 let ρ1:=(ρ0.set 118 (.own2 ((Bn 7).map (eX k P N 0)))).set 122 (.own ((Bn 7).map fun q=>.str (c8 P 0 q)))
 have N1:cg ρ1:=(N0.set2 _ _).setO _ _;have I0:ul k P N ρ0 0 ρ1:=⟨N1,sN ae,ae,fun y J h2 h3=>(set_ne h3).trans (set_ne h2)⟩;obtain⟨ρ2,r2,N2,k118,k122,u2⟩:=wR hk hn p7 z95 z85 (tp:=(uH (fdA.getD 1 io))) 6 0 ρ1 rfl I0
 let ρ3:=ρ2.set 118 (.fz (.list (((Bn 7).map (eX k P N 6)).map .list)))
 let ρ4:=ρ3.set 122 (.fz (.list ((Bn 7).map fun q=>.str (c8 P 6 q))))
 have N4:cg ρ4:=(N2.set _ _).set _ _;have ef:((Bn 7).map fun q=>D.str (c8 P 6 q))=(cP P).map .str:=by unfold cP;refine AZ BR ?_;rfl
 have c122:ρ4 122=some (.fz (.list ((cP P).map .str))):=ae.trans (by exact AZ ef rfl);have hlen:((Bn 7).map (eX k P N 6)).all (fun r=>decide (r.length<=lim))=true:=Bp.mpr fun r hr=>by
  refine ak (BC.mp hr) fun q J e91=>?_;subst e91;have:=iC (P:=P) (m:=6) (q:=q);exact decide_eq_true (by unfold eX;refine AZ (Bx _) ?_;unfold lim;lia)
 have u4:∀y,y≠105->y≠118->y≠122->ρ4 y=ρ0 y:=fun y a b c=>(set_ne c).trans ((set_ne b).trans (u2 y a b c))
 let ρ5:=((ρ4.set 58 (.fz (.thing [19] [cc ((cP P).map .str)]))).set 121 (.fz (.lam 11 []))).set 120 (.fz (pl [0,0]))
 refine⟨ρ5,?_,((N4.set _ _).set _ _).set _ _,u4 95 (by decide) (by decide) (by decide),u4 102 (by decide) (by decide) (by decide),u4 125 (by decide) (by decide) (by decide),u4 85 (by decide) (by decide) (by decide),?_,c122,rfl,rfl,rfl⟩
 ·refine ag (eK (l:=[.own2 ((Bn 7).map (eX k P N 0)),.own ((Bn 7).map fun q=>.str (c8 P 0 q))]) (oe (d:=.list ((Bn 7).map fun J=>.list [])) (jA (l:=Bn 7) (c:=wo P N) (k:=fun J=>.list []) (by rfl) (aa z95) rfl (by rfl) (fun q J=>eO az (by decide)) (by decide)) rfl (oe (d:=.list ((Bn 7).map fun q=>.str [65+q])) (jA (l:=Bn 7) (c:=fun(v:Nat)=>.int (v:Int)) (k:=fun q=>.str [65+q]) (by rfl) (fY (n:=7) af rfl (by decide)) rfl (by rfl) (fun q hq=>?_) (by decide)) rfl gj)) rfl rfl (by decide) (N0.all rfl) mE)
   (ag (jT (vp af af rfl (wg (a:=1) (b:=7) (by decide) (by decide))) rfl r2) (ag (s_frz2 k118 hlen) (ag (pV (sN k122)) (ag (eK (e7 (ca (ad (aa c122) az) rfl (phi3_53 _)) (e7 (ca (ad c9 (ad (fX (ad (bc (by decide)) (ad (bc (by decide)) az)) mE) az)) rfl phi3_34) (e7 (eO (ad af (ad af az)) mE) gj))) rfl rfl (by decide) (N4.all rfl) (by decide:3<=lim)) ax))))
  have:=BL.mp hq;exact gn (bB af (aa ae) rfl) rfl (by decide) ((mM (i:=65+(q:Int)) ⟨by lia,by lia⟩).trans (by exact AZ (show(65+(q:Int)).toNat=65+q by lia) rfl))
 ·show ρ3 118=_
  exact ae.trans (by refine AZ BR ?_;rfl)
end Mine
namespace Mine
theorem vj {p:Nat}(hp:p < 7):(Bn 7).find? (fun q=>q==p)=some p:=by
 have h7:∀p,p < 7->p=0\/p=1\/p=2\/p=3\/p=4\/p=5\/p=6:=by decide
 have:=h7 p (by assumption);rcases this with rfl|rfl|rfl|rfl|rfl|rfl|rfl<;>rfl
theorem Ab {P:List Nat}(p7:∀v,be P v < 7){v:Nat}(hv:v < 7):(cP P).find? (·.contains (97+v))=if v=0 then none else some (c8 P 6 (be P v)):=by
 have key:∀q,q < 7->(c8 P 6 q).contains (97+v)=(v != 0&&q==be P v):=fun q hq=>by
  (refine AZ (propext Cr) ?_;rw[B9])
  unfold c8;refine AZ iU ?_;simp only[Bw,BC,Bz,bne_iff_ne,beq_iff_eq]
  constructor
  ·rintro(h|⟨w,hw,e⟩)
   ·lia
   ·obtain rfl:w=v:=by lia
    refine pL (eT.mp hw) fun a b c=>?_;exact⟨b,c.symm⟩
  ·rintro⟨a,b⟩
   exact .inr ⟨v,eT.mpr ⟨hv,a,b.symm⟩,rfl⟩
 unfold cP;refine AZ (List.find?_map) ?_
 by_cases h0:v=0
 ·rw[if_pos h0,Fp.mpr fun q hq=>?_]
  ·rfl
  ·show ¬(c8 P 6 q).contains (97+v)=true
   refine AZ (key q (BL.mp hq))<|AZ h0 ?_;simp
 ·refine AZ (if_neg h0) ?_
  have e:(Bn 7).find? ((fun x=>x.contains (97+v))∘c8 P 6)=(Bn 7).find? (fun q=>q==be P v):=by
   have:∀l:List Nat,(∀q∈l,q < 7)->l.find? ((fun x=>x.contains (97+v))∘c8 P 6)=l.find? (fun q=>q==be P v):=by
    intro l hl
    induction l with
    |nil=>rfl
    |cons a l ih=>
     refine AZ (Cg)<|AZ (Cg)<|AZ (ih fun q hq=>hl q (Bi _ hq)) ?_
     show(match(c8 P 6 a).contains (97+v) with|true=>_|false=>_)=_;refine AZ (key a (hl a Bj))<|AZ (bne_iff_ne.mpr h0)<|AZ (DI _) ?_
     cases a==be P v<;>rfl
   exact this _ fun q hq=>BL.mp hq
  refine AZ e<|AZ (vj (p7 v)) ?_;rfl
theorem kh {P:List Nat}(p7:∀v,be P v < 7):∀(X ks:List Nat),(∀v∈X,v < 7)->da (cP P) (ks.map (c8 P 6)) (X.map (97+·))=(gb P ks X).map (c8 P 6)
 |[],_,_=>rfl
 |v::X,ks,h=>by
  have hX:=fun x hx=>h x (Bi _ hx)
  (refine AZ Bo ?_;rw[ki];refine AZ (Ab p7 (h v Bj)) ?_;rw[nD])
  by_cases h0:v=0
  ·refine AZ (if_pos h0)<|AZ (if_pos h0) ?_;exact kh p7 X ks hX
  ·refine AZ (if_neg h0)<|AZ (if_neg h0) ?_
   have hc:(ks.map (c8 P 6)).contains (c8 P 6 (be P v))=ks.contains (be P v):=by
    (refine AZ (propext Cr) ?_;rw[B9,B9];refine AZ (propext BC) ?_)
    constructor
    ·rintro⟨q,hq,e⟩
     have:65+q=65+be P v:=(Bv e).1;refine AZ (BE (show q=be P v by lia)) ?_;exact hq
    ·exact fun hq=>⟨_,hq,rfl⟩
   simp only[hc]
   split
   ·exact kh p7 X ks hX
   ·have:=kh p7 X (ks++[be P v]) hX
    rw[BW] at this;refine AZ Bo ?_;exact congrArg _ this
theorem upI_up {P:List Nat}(p7:∀v,be P v < 7){X:List Nat}(h:∀v∈X,v < 7):upI (cP P) X=(gb P [] X).map fun(q:Nat)=>(q:Int):=by
 unfold upI;have:=kh p7 X [] h;rw[Dx] at this;refine AZ this<|AZ BR ?_
 refine Dk fun q J=>?_;show(((65+q:Nat):Int)) - 65=q
 lia
end Mine
namespace Mine
noncomputable def mf (P:List Nat)(N:List Nm) (v:Nat):List Th:=(pc P v).map fun w=>(w,dP N w)
theorem rowM_T {k:Nat}{P:List Nat}{N:List Nm}{v:Nat}:eX k P N 6 v=(mf P N v).map (eV k):=by
 unfold eX mf;refine AZ iU<|AZ BR ?_;rfl
theorem yb {P:List Nat}{N:List Nm}{s:dB}{X:List Nat}:(gX s.1 s.2.1 s.2.2 (X.map (mf P N))).map (·.1)=gp P N s X:=by
 unfold gX gp;refine AZ (List.flatMap_map _ _ _)<|AZ List.map_flatMap ?_
 congr 1
 funext v
 unfold mf;refine AZ List.filter_map<|AZ BR ?_
 show((pc P v).filter fun w=>mn s (dP N w)).map (fun w=>w)=_;exact AZ (List.map_id' _) rfl
theorem zN {P:List Nat}{v:Nat}:(pc P v).length<=7:=Bf (Cz _ _) (by simp)
theorem zh {P:List Nat}{N:List Nm}(X:List Nat):(X.map (mf P N)).flatten.length<=7 * X.length:=by
 induction X with
 |nil=>simp
 |cons v X ih=>
  have:=zN (P:=P) (v:=v);refine AZ Bo<|AZ FE<|AZ Bm<|AZ BA ?_
  unfold mf at ih ⊢;refine AZ (Bx _) ?_
  lia
structure pr (X:List Nat):Prop where
 lt:∀v∈X,v < 7
 len:X.length<=14
end Mine
namespace Mine
theorem asc_len {l:List Nat}(ha:ym l)(h:∀v∈l,v < 7):l.length<=7:=by
 have key:∀(n:Nat) (l:List Nat),ym l->(∀v∈l,v < n)->l.length<=n:=by
  intro n
  induction n with
  |zero=>
   intro l J h
   cases l with
   |nil=>exact Bq _
   |cons a l=>exact absurd (h a Bj) (by lia)
  |succ n ih=>
   intro l ha h;rcases List.eq_nil_or_concat l with rfl|⟨r,x,rfl⟩
   ·simp
   ·rw[List.concat_eq_append] at *
    have hp:=GZ.mp ha;have:=ih r hp.1 fun v hv=>by
     have h1:=hp.2.2 v hv x (BK.mpr rfl);have h2:=h x (by simp)
     lia
    refine AZ Bm<|AZ Cy ?_;lia
 exact key 7 l ha h
theorem qM {P:List Nat}{N:List Nm}{T:List (Nat×dB)}(S:vI P){p:List (Option dB)}{k:Nat}(w:gQ p T k):pr (cL P N [0,0] p):=by
 refine aS (nB (P:=P) (N:=N) S w) fun a b=>?_;have lt:∀v∈cL P N [0] p,v < 7:=fun v hv=>(jx w.ok.1 ((b v).mp hv)).1;have len:=asc_len a lt;refine AZ (sJ w) ?_
 split
 ·exact⟨lt,by lia⟩
 ·exact⟨fun v hv=>(CY.mp hv).elim (lt v) (lt v),by refine AZ Bm ?_;lia⟩
theorem Ac {Γ:aj}{t:Tg}{body:ac->Option g7}:∀(a b:List D)(ρ ρ':ac)(o:Option g7),dF Γ t body ρ a=some (.nx ρ')->dF Γ t body ρ' b=o->dF Γ t body ρ (a++b)=o
 |[],b,ρ,ρ',o,h,h2=>by
  replace h:=hU▸h
  cases h;exact h2
 |d::a,b,ρ,ρ',o,h,h2=>by
  refine AZ Dl<|AZ dU ?_
  rw[dU] at h;simp only[Bh,Bg] at h;refine i2 h fun ρ1 h3 o1 h4 h5=>?_;simp only[Bh,h3,BB,h4]
  cases o1 with
  |nx ρ2=>exact Ac a b ρ2 ρ' o h5 h2
  |rt d=>exact nomatch h5
end Mine
namespace Mine
theorem phi3_55 (args:List D):dC.call 55 args=dm.call 55 args:=cz (Φ:=dm) (tF:=tF3) rfl
noncomputable def uW:List St:=ey (fdB.getD 0 io)
noncomputable def zj (k:Nat)(P:List Nat)(N:List Nm):D:=.list ((Bn 7).map fun q=>.list (eX k P N 6 q))
structure l6 (k:Nat)(P:List Nat)(N:List Nm)(X:List Nat)(ρ:ac):Prop where
 ns:cg ρ
 c:ρ 58=some (.fz (rU (cP P)))
 l:ρ 121=some (.fz (.lam 11 []))
 r:ρ 118=some (.fz (zj k P N))
 k:ρ 85=some (.fz (.int (k:Int)))
 x:ρ 120=some (.fz (pl X))
theorem oV {P:List Nat}(p7:∀v,be P v < 7){X:List Nat}(hX:pr X):dC.call 55 [.lam 11 [],rU (cP P),pl X]=some (pl (gb P [] X)):=by
 refine AZ (phi3_55 _)<|AZ (up_run (fun f hf=>by
  refine ak (BC.mp hf) fun q J e91=>?_;subst e91
  exact fun e=>nomatch e) (by have:=hX.len;lia) (fun p hp=>by have:=hX.lt p hp;lia))<|AZ (upI_up p7 hX.lt) ?_
 unfold pl;refine AZ BR ?_;rfl
theorem zk {k:Nat}{P:List Nat}{N:List Nm}{v:Nat}(hv:v < 7):D.item (zj k P N) (.int (v:Int))=some (.list ((mf P N v).map (eV k))):=by
 show(bZ ((Bn 7).map fun q=>D.list (eX k P N 6 q)).length (v:Int)).bind (((Bn 7).map fun q=>D.list (eX k P N 6 q))[·]?)=_;refine AZ (kP (by simpa using hv)) ?_;simp[hv,rowM_T]
theorem pa_up {k:Nat}{P:List Nat}{N:List Nm}(p7:∀v,be P v < 7){X:List Nat}(hX:pr X){ρ:ac}(I:l6 k P N X ρ):aL dC NN ΓD (ρ.set 112 (.fz .nil)) uW=some (.nx ((ρ.set 112 (.fz .nil)).set 120 (.fz (pl (gb P [] X))))):=by
 have N1:=I.ns.set 112 .nil;exact ag (eQ (aA (aa (d:=.nil) ae) c9 rfl) (ag (cI (ca (ad (aa (sN I.l)) (ad (aa (sN I.c)) (ad (aa (sN I.x)) az))) rfl (oV p7 hX)) (N1.mine rfl)) ax)) ax
theorem pa_down {k:Nat}(hk:k < 5){P:List Nat}{N:List Nm}(hn:∀v,gR (dP N v)){X:List Nat}(hX:pr X){s:dB}(hs:gY s){ρ:ac}(I:l6 k P N X ρ):aL dC NN ΓD (ρ.set 112 (.fz (jp s))) uW=some (.nx ((ρ.set 112 (.fz (jp s))).set 120 (.fz (pl (gp P N s X))))):=by
 have N1:=I.ns.set 112 (jp s);refine x03 hs fun s1 s2 s3 s4=>?_;have ew:=yv hk (way:=s.1) (s:=s.2.1) (l:=s.2.2) s1 s3 fun w hw=>(s4 w hw).2;have hl:=zh (P:=P) (N:=N) X;have:=hX.len;have ed:=Au hk (way:=s.1) (s:=s.2.1) (l:=s.2.2) (rows:=X.map (mf P N)) s1 s2 s3 s4 (by unfold lim;lia) fun r hr q hq=>by
  refine ak (BC.mp hr) fun v J e91=>?_;subst e91;refine ak (BC.mp hq) fun w J e91=>?_;subst e91;exact fun sp l e=>(hn w sp l e).1
 have e1:(gX s.1 s.2.1 s.2.2 (X.map (mf P N))).map (fun q=>D.int (q.1:Int))=(gp P N s X).map fun(q:Nat)=>.int (q:Int):=by
  refine AZ (BE yb)<|AZ BR ?_;rfl
 rw[e1] at ed;have e2:pX k (X.map (mf P N))=.list (X.map fun v=>.list ((mf P N v).map (eV k))):=by unfold pX;refine AZ BR ?_;rfl
 rw[e2] at ed;have k118:(ρ.set 112 (.fz (jp s))) 118=some (.fz (zj k P N)):=sN I.r;exact ag (cH (aA (aa (d:=jp s) ae) c9 rfl) (ag (cI (ca (ad (ca (ad (aa ae) (ad (aa (sN I.k)) az)) rfl ew) (ad (jA (l:=X) (c:=fun(v:Nat)=>.int (v:Int)) (k:=fun v=>.list ((mf P N v).map (eV k))) (by rfl) (aa (sN I.x)) rfl (by rfl) (fun v hv=>au (aa (sN k118)) (aa ae) (zk (hX.lt v hv))) (by unfold lim;lia)) az)) rfl ed) (N1.mine rfl)) ax)) ax
end Mine
namespace Mine
theorem l6.step {k:Nat}{P:List Nat}{N:List Nm}{X Y:List Nat}{ρ:ac}{d:D}(I:l6 k P N X ρ):l6 k P N Y ((ρ.set 112 (.fz d)).set 120 (.fz (pl Y))):=
 ⟨(I.ns.set _ _).set _ _,sN (sN I.c),sN (sN I.l),sN (sN I.r),sN (sN I.k),ae⟩
theorem zu {k:Nat}(hk:k < 5){P:List Nat}{N:List Nm}(S:vI P)(hn:∀v,gR (dP N v))(p7:∀v,be P v < 7){tp:Pos}{p:List (Option dB)}{T:List (Nat×dB)}{j:Nat}(w:gQ p T j){ρ:ac}(I:l6 k P N [0,0] ρ):
  ∃ρ',dF ΓD (.name 112 tp) (fun ρ=>aL dC NN ΓD ρ uW) ρ (p.map kB)=some (.nx ρ')/\l6 k P N (cL P N [0,0] p) ρ'/\ρ' 125=ρ 125:=by
 induction w with
 |nil=>exact⟨ρ,oH,I,rfl⟩
 |@down p T j s w hs ih=>
  refine pJ ih fun ρ1 r1 I1 u1=>?_;have e:cL P N [0,0] (p++[some s])=gp P N s (cL P N [0,0] p):=by unfold cL;refine AZ Dg ?_;rfl
  refine AZ e<|AZ BW ?_
  exact⟨_,Ac _ _ _ _ _ r1 (k9 (I1.ns.mine rfl) (pa_down hk hn (qM S w) hs I1) oH),I1.step,sN (sN u1)⟩
 |@up p T j w h ih=>
  refine pJ ih fun ρ1 r1 I1 u1=>?_;have e:cL P N [0,0] (p++[none])=gb P [] (cL P N [0,0] p):=by unfold cL;refine AZ Dg ?_;rfl
  refine AZ e<|AZ BW ?_
  exact⟨_,Ac _ _ _ _ _ r1 (k9 (I1.ns.mine rfl) (pa_up p7 (qM S w) I1) oH),I1.step,sN (sN u1)⟩
end Mine
namespace Mine
noncomputable def gU (P:List Nat):Nat->List Nat->List Nat
 |0,X=>X
 |i+1,X=>gb P [] (gU P i X)
theorem oB {P:List Nat}:∀(i:Nat)(X:List Nat),gU P (i+1) X=gU P i (gb P [] X)
 |0,_=>rfl
 |i+1,X=>congrArg (gb P []) (oB i X)
theorem lX {P:List Nat}:∀(d:Nat)(X:List Nat),eg P d X=(Bn (d+1)).map fun i=>gU P i X
 |0,X=>rfl
 |d+1,X=>by
  (rw[z5];refine AZ (lX d _)<|AZ (List.range_succ_eq_map (n:=d+1))<|AZ Bo<|AZ BR ?_)
  refine congrArg (X::·) (Dk fun i J=>?_);exact(oB i X).symm
theorem mw {P:List Nat}:∀(X ks:List Nat),(gb P ks X).length<=X.length
 |[],_=>Bq _
 |v::X,ks=>by
  (rw[nD];refine AZ BA ?_)
  split
  ·exact CW (mw X ks)
  ·split
   ·exact CW (mw X ks)
   ·exact Cs (mw X _)
theorem pr.iter {P:List Nat}(p7:∀v,be P v < 7){X:List Nat}(h:pr X):∀i,pr (gU P i X)
 |0=>h
 |i+1=>⟨fun v hv=>by
   refine yu (gv.mp hv) fun J w J J e91=>?_;subst e91
   exact p7 w,Bf (mw _ _) (pr.iter p7 h i).len⟩
end Mine
namespace Mine
noncomputable def AF:List St:=ey (fdB.getD 2 io)
structure xh (P:List Nat)(X:List Nat) (i:Nat)(ρ:ac):Prop where
 ns:cg ρ
 c:ρ 58=some (.fz (rU (cP P)))
 l:ρ 121=some (.fz (.lam 11 []))
 f:ρ 124=some (.own ((Bn (i+1)).map fun j=>pl (gU P j X)))
theorem cl_step {P:List Nat}(p7:∀v,be P v < 7){X:List Nat}(hX:pr X){i:Nat}(hi:i < 100){ρ:ac}(I:xh P X i ρ):∃ρ',aL dC NN ΓD (ρ.set 83 (.fz (.int (i:Int)))) AF=some (.nx ρ')/\xh P X (i+1) ρ':=by
 have hl:((Bn (i+1)).map fun j=>pl (gU P j X))=((Bn i).map fun j=>pl (gU P j X))++[pl (gU P i X)]:=by refine AZ EX<|AZ BW ?_;rfl
 have k124:(ρ.set 83 (.fz (.int (i:Int)))) 124=some (.own (((Bn i).map fun j=>pl (gU P j X))++[pl (gU P i X)])):=sN (I.f.trans (by exact AZ hl rfl));refine⟨_,ag (lT k124 (ca (ad (aa (sN I.l)) (ad (aa (sN I.c)) (ad (jz (eu k124) rfl j9 iX) az))) rfl (oV p7 (pr.iter p7 hX i))) rfl (by simp;unfold lim;lia)) ax,(I.ns.set _ _).setO _ _,sN (sN I.c),sN (sN I.l),ae.trans ?_⟩;refine AZ (EX (n:=i+1))<|AZ BW<|AZ hl ?_;rfl
end Mine
namespace Mine
theorem fdB_run {k:Nat}(hk:k < 5){P:List Nat}{N:List Nm}(S:vI P)(hn:∀v,gR (dP N v))(p7:∀v,be P v < 7){p:List (Option dB)}{T:List (Nat×dB)}{j d:Nat}(w:gQ p T j)(hd:d < 100){ρ:ac}(I:l6 k P N [0,0] ρ)(h102:ρ 102=some (.fz (.list (p.map kB))))(h125:ρ 125=some (.fz (.int (d:Int)))):
  aL dC NN ΓD ρ fdB=some (.rt (.list ((eg P d (cL P N [0,0] p)).map pl))):=by
 refine pJ (zu hk S hn p7 (tp:=(uH (fdB.getD 0 io))) w I) fun ρ1 r1 I1 u1=>?_;have hX:=qM (P:=P) (N:=N) S w;have I2:xh P (cL P N [0,0] p) 0 (ρ1.set 124 (.own [pl (cL P N [0,0] p)])):=⟨I1.ns.setO _ _,sN I1.c,sN I1.l,ae⟩;refine ak (mI (Γ:=ΓD) (x:=83) (n:=d) (tp:=(uH (fdB.getD 2 io))) (body:=fun ρ=>aL dC NN ΓD ρ AF) (I:=xh P (cL P N [0,0] p)) (fun i ρ h=>h.ns.mine rfl) (fun i hi ρ h=>cl_step p7 hX (by lia) h) I2) fun ρ2 r2 I3=>?_;have e:(eg P d (cL P N [0,0] p)).map pl=(Bn (d+1)).map fun j=>pl (gU P j (cL P N [0,0] p)):=by refine AZ (lX _ _)<|AZ BR ?_;rfl
 refine AZ e ?_;have h125':(ρ1.set 124 (.own [pl (cL P N [0,0] p)])) 125=some (.fz (.int (d:Int))):=sN (u1.trans h125);exact ag (jT (aa h102) rfl r1) (ag (td (ad (aa I1.x) az) (I1.ns.mine rfl) (by decide:1<=lim)) (ag (jT (fY (n:=d) (aa h125') rfl (by unfold lim;lia)) rfl r2) (ag (pV I3.f) (bF (c0 (aa ae))))))
end Mine
namespace Mine
theorem vk {P:List Nat}:(cP P).flatten.Nodup:=by
 unfold cP;refine AZ (BE FP)<|AZ (propext List.nodup_iff_pairwise_ne)<|AZ (propext GU) ?_
 refine⟨fun q hq=>?_,?_⟩
 ·unfold c8
  refine AZ iU ?_;refine BV.mpr ⟨fun x hx=>?_,?_⟩
  ·refine ak (BC.mp hx) fun w J e91=>?_
   subst e91;have:=BL.mp hq
   lia
  ·exact D4 _ (fun a b (h:a < b)=>by lia) tJ
 ·refine D7 ?_ EU
  intro a b ha hb hlt x hx y hy e;have ha:=BL.mp ha;have hb:=BL.mp hb;subst e;unfold c8 at hx hy;rw[iU] at hx hy;rcases Bw.mp hx with h1|h1<;>rcases Bw.mp hy with h2|h2
  ·lia
  ·refine ak (BC.mp h2) fun w J e=>?_;lia
  ·refine ak (BC.mp h1) fun w J e=>?_;lia
  ·refine ak (BC.mp h1) fun w hw e=>?_
   refine ak (BC.mp h2) fun w' hw' e'=>?_;have a1:=(eT.mp hw).2.2;have a2:=(eT.mp hw').2.2;have:w=w':=by lia
   subst this
   lia
end Mine
namespace Mine
theorem qy:∀fs:List (List Nat),(fs.map D.str).flatMap famD=fs
 |[]=>rfl
 |f::fs=>by refine AZ Bo<|AZ BJ<|AZ (qy fs) ?_;rfl
theorem kR (fs:List (List Nat)):(cc (fs.map .str)).fams=fs:=qy fs
theorem qr:∀fs:List (List Nat),(fs.flatMap fun p=>p.map fun c=>[c])=fs.flatten.map fun c=>[c]
 |[]=>rfl
 |f::fs=>by exact AZ BJ<|AZ (qr fs)<|AZ FE<|AZ BW rfl
theorem Aa {P:List Nat}:(cP P).flatten.length<=100:=by
 have key:∀l:List Nat,(l.map (c8 P 6)).flatten.length<=7 * l.length:=by
  intro l
  induction l with
  |nil=>simp
  |cons a l ih=>
   have:=iC (P:=P) (m:=6) (q:=a);rw[Bo,FE,Bm,BA];have h2:(c8 P 6 a).length<=7:=by unfold c8;simp;lia
   lia
 have:=key (Bn 7);unfold cP;simp only[HA] at this
 lia
theorem sL:∀fs:List (List Nat),(fs.flatMap fun p=>p.map fun _=>p).length=(fs.flatMap fun p=>p.map fun c=>[c]).length
 |[]=>rfl
 |f::fs=>by refine AZ BJ<|AZ BJ<|AZ Bm<|AZ Bm<|AZ (sL fs) ?_;simp
end Mine
namespace Mine
theorem wm:∀l:List Nat,qc (l.map fun(x:Nat)=>D.int (x:Int))=true
 |[]=>rfl
 |a::l=>by(refine AZ Bo ?_;rw[qc];refine AZ (wm l) ?_);rfl
theorem js {α:Type}{f:α->D}(h:∀a,(f a).pl=true):∀l:List α,qc (l.map f)=true
 |[]=>rfl
 |a::l=>by(refine AZ Bo ?_;rw[qc];refine AZ (h a)<|AZ (js h l) ?_);rfl
theorem pl_nm (nm:Nm):(fG nm).pl=true:=by rcases nm with _|⟨_|s,l⟩<;>rfl
theorem pl_tag (k:Nat)(nm:Nm):(kL k nm).pl=true:=by rcases nm with _|⟨s,l⟩<;>rfl
theorem pl_th (k:Nat)(q:Th):(eV k q).pl=true:=by
 show((([19,20]:List Nat).length != 1)&&(true&&((kL k q.2).pl&&true)))=true;refine AZ (pl_tag _ _) ?_;rfl
theorem pl_st (s:Option dB):(kB s).pl=true:=by
 rcases s with _|⟨w,_|s,l⟩<;>rfl
theorem wl (P:List Nat)(N:List Nm):(aQ P N).pl=true:=js (f:=wo P N) (fun v=>by
 show(true&&((fG (dP N v)).pl&&true))=true
 refine AZ (pl_nm _) ?_;rfl) _
theorem sw_ok {k d:Nat}{P:List Nat}{N:List Nm}{p:List (Option dB)}{ρ:ac}(hN:cg ρ)(h95:ρ 95=some (.fz (aQ P N)))(h102:ρ 102=some (.fz (.list (p.map kB))))(h125:ρ 125=some (.fz (.int (d:Int))))(h85:ρ 85=some (.fz (.int (k:Int))))(h118:ρ 118=some (.fz (.list ((Bn 7).map fun q=>.list (eX k P N 6 q)))))(h122:ρ 122=some (.fz (.list ((cP P).map .str))))(h58:ρ 58=some (.fz (.thing [19] [cc ((cP P).map .str)])))(h121:ρ 121=some (.fz (.lam 11 [])))(h120:ρ 120=some (.fz (pl [0,0]))):SwOk ρ (cc ((cP P).map .str)):=by
 have ek:jL (cc ((cP P).map .str))=(cP P).flatten.map fun c=>[c]:=by
  unfold jL;exact AZ (kR _)<|AZ (qr _) rfl
 have hl:=Aa (P:=P);refine⟨hN,h58,fun x hx e he=>?_,⟨_,rfl,mB _⟩,?_,?_,?_,?_,?_⟩
 ·have hx:x=95\/x=102\/x=125\/x=85\/x=118\/x=122\/x=121\/x=120:=by simpa [nmK] using B9.mp hx
  have fin:∀{d':D},ρ x=some (.fz d')->d'.pl=true->∃d,e=.fz d/\d.pl=true:=fun h1 h2=>⟨_,A0 (he.symm.trans h1),h2⟩;rcases hx with rfl|rfl|rfl|rfl|rfl|rfl|rfl|rfl
  ·exact fin h95 (wl P N)
  ·exact fin h102 (js pl_st p)
  ·exact fin h125 rfl
  ·exact fin h85 rfl
  ·exact fin h118 (js (f:=fun q=>.list (eX k P N 6 q)) (fun q=>js (f:=fun v=>eV k (v,dP N v)) (fun v=>pl_th k _) _) _)
  ·exact fin h122 (mB _)
  ·exact fin h121 rfl
  ·exact fin h120 rfl
 ·refine AZ ek ?_
  exact D4 _ (fun a b h e=>h (Bv e).1) vk
 ·refine AZ ek ?_;rfl
 ·unfold nH jL;refine AZ (kR _) ?_;exact sL _
 ·refine AZ ek<|AZ (Bx _) ?_;unfold lim;lia
 ·intro y hy
  unfold nH at hy;rw[kR] at hy;refine ak (List.mem_flatMap.mp hy) fun f hf hy=>?_;refine ak (BC.mp hy) fun J J e91=>?_;subst e91;refine ak (BC.mp hf) fun q J e91=>?_;subst e91;have:=iC (P:=P) (m:=6) (q:=q);unfold c8;simp;unfold lim;lia
theorem z0 {k d:Nat}(hk:k < 5){P:List Nat}{N:List Nm}(S:vI P)(hn:∀v,gR (dP N v))(p7:∀v,be P v < 7){p:List (Option dB)}{T:List (Nat×dB)}{j:Nat}(w:gQ p T j)(hd:d < 100):c56 [aQ P N,.list (p.map kB),.int (d:Int),.int (k:Int)]=some (.list ((eg P d (cL P N [0,0] p)).map pl)):=by
 refine x1a (fdA_run hk hn p7 (pD:=.list (p.map kB)) (d:=d)) fun ρ r hN h95 h102 h125 h85 h118 h122 h58 h121 h120=>?_;have W:=sw_ok hN h95 h102 h125 h85 h118 h122 h58 h121 h120;have sN:cg (i5 ρ (cc ((cP P).map .str))):=fun y d e=>by
  unfold i5 at e
  split at e
  ·exact nomatch e
  ·split at e
   ·exact hN y d e
   ·exact ah e
 refine c56_of ⟨ρ,_,rfl,?_,r,W,fdB_run hk S hn p7 w hd (ρ:=i5 ρ (cc ((cP P).map .str))) ⟨sN,rfl,h121,h118,h85,h120⟩ h102 h125,?_⟩
 ·show((aQ P N).pl&&(qc (p.map kB)&&_))=true
  refine AZ (wl _ _)<|AZ (js pl_st _) ?_;rfl
 ·exact js (f:=pl) (fun X=>wm X) _
end Mine
namespace Mine
theorem n7 {f:Nat}(hf:f≠56)(args:List D):eR.call f args=uV.call f args:=if_neg hf
theorem tr {f:Nat}(hf:tF4 f=none):∀(j:Nat)(args:List D),(gh j).call f args=dC.call f args
 |0,_=>rfl
 |j+1,args=>(cz (Φ:=gh j) (tF:=tF4) hf).trans (tr hf j args)
theorem oh {f:Nat}(h:f≠56/\tF9 f=none/\tF4 f=none/\tF3 f=none/\tF2 f=none)(args:List D):eR.call f args=aT.call f args:=by
 exact AZ (n7 h.1 _)<|AZ (show uV.call f args=(gh 6).call f args from cz (tF:=tF9) h.2.1)<|AZ (tr h.2.2.1 _ _)<|AZ (show dC.call f args=dm.call f args from cz (Φ:=dm) (tF:=tF3) h.2.2.2.1)<|AZ (show dm.call f args=aT.call f args from cz (Φ:=aT) (tF:=tF2) h.2.2.2.2) rfl
theorem qB:∀a:List Nat,PyData.eqvAll (a.map fun(p:Nat)=>.int (p:Int)) (a.map fun(p:Nat)=>.int (p:Int))=true
 |[]=>rfl
 |x::a=>by
  simp only[Bo,PyData.eqvAll,PyData.eqv,qB a];simp
noncomputable def pP (ps:List Nat):PyData:=.list (ps.map fun(p:Nat)=>.int (p:Int))
theorem pd_pl (n:Nat)(ps:List Nat):D.pd (n+2) (pl ps)=some (pP ps):=by
 show((ps.map fun(p:Nat)=>D.int (p:Int)).mapM (D.pd (n+1))).map PyData.list=_;have:(ps.map fun(p:Nat)=>D.int (p:Int)).mapM (D.pd (n+1))=some (ps.map fun(p:Nat)=>PyData.int (p:Int)):=by
  induction ps with
  |nil=>rfl
  |cons a l ih=>(refine AZ Bo ?_;rw[CQ];refine AZ ih ?_);rfl
 refine AZ this ?_;rfl
theorem pd_pls (n:Nat)(L:List (List Nat)):(L.map pl).mapM (D.pd (n+2))=some (L.map pP):=by
 induction L with
 |nil=>rfl
 |cons a l ih=>(refine AZ Bo ?_;rw[CQ];refine AZ ih<|AZ (pd_pl _ _) ?_);rfl
theorem wS:∀L:List (List Nat),PyData.eqvAll (L.map pP) (L.map pP)=true
 |[]=>rfl
 |a::L=>by
  have h:PyData.eqv (pP a) (pP a)=true:=by
   unfold pP;simp only[PyData.eqv];exact qB a
  simp only[Bo,PyData.eqvAll,h,wS L]
  rfl
theorem eq_self (L:List (List Nat)):D.cmp .Eq (.list (L.map pl)) (.list (L.map pl))=some true:=by
 show(D.pd 5 (.list (L.map pl))).bind (fun p=>(D.pd 5 (.list (L.map pl))).bind fun q=>some (PyData.eqv p q))=_;have:D.pd 5 (.list (L.map pl))=some (.list (L.map pP)):=by
  show((L.map pl).mapM (D.pd 4)).map PyData.list=_;refine AZ (pd_pls _ _) ?_;rfl
 refine AZ this ?_;show some (PyData.eqv (.list (L.map pP)) (.list (L.map pP)))=_;simp only[PyData.eqv,wS]
theorem zt {n:Nat}{l:List Nat}(h:ChW l):D.pd (n+1) (.str l)=some (.str (cR l)):=by
 show(if l.all (· < 1114112)=true then _ else none)=_;exact AZ (if_pos (Bp.mpr fun c hc=>decide_eq_true (h c hc))) rfl
theorem pd_step {s:dB}(h:∃nm,ChN nm/\nm=some s.2):∃q,D.pd 4 (jp s)=some q/\PyData.eqv q .none=false:=by
 refine ak h fun nm hc e91=>?_;subst e91;obtain⟨w,sp',l⟩:=s;refine aS (hc sp' l rfl) fun h1 h2=>?_;have e:∃q,D.pd 2 (o4 sp')=some q:=by
  cases sp' with
  |none=>exact⟨_,rfl⟩
  |some w=>exact⟨_,zt (h2 w rfl)⟩
 refine x1 e fun q e=>?_;refine⟨.tuple [.int (w:Int),.tuple [q,.str (cR l)]],?_,rfl⟩;show([D.int (w:Int),.tup [o4 sp',.str l]].mapM (D.pd 3)).map PyData.tuple=_;have e3:D.pd 3 (.tup [o4 sp',.str l])=some (.tuple [q,.str (cR l)]):=by
  show([o4 sp',.str l].mapM (D.pd 2)).map PyData.tuple=_;simp only[CQ,GC,e,zt h1,EM,Bh,BB,CJ]
 simp only[CQ,GC,e3,EM,Bh,BB,CJ]
 rfl
theorem none_in:∀(p:List (Option dB)),(∀s,some s∈p->∃nm,ChN nm/\nm=some s.2)->D.cmp .In .nil (.list (p.map kB))=some (decide (none∈p)):=by
 intro p hp;have key:∀p:List (Option dB),(∀s,some s∈p->∃nm,ChN nm/\nm=some s.2)->∃qs,(p.map kB).mapM (D.pd 4)=some qs/\(qs.any fun y=>PyData.eqv y .none)=decide (none∈p):=by
  intro p
  induction p with
  |nil=>intro J;exact⟨[],rfl,rfl⟩
  |cons x p ih=>
   intro h;refine ak (ih fun s hs=>h s (Bi _ hs)) fun qs e1 e2=>?_
   cases x with
   |none=>
    refine⟨.none::qs,?_,?_⟩
    ·(refine AZ Bo ?_;rw[CQ];refine AZ e1 ?_);rfl
    ·(refine AZ D1 ?_;rw[decide_eq_true Bj]);rfl
   |some s=>
    refine ak (pd_step (h s Bj)) fun q e3 e4=>?_;refine⟨q::qs,?_,?_⟩
    ·(refine AZ Bo ?_;rw[CQ];refine AZ e1<|AZ (show kB (some s)=jp s from rfl)<|AZ e3 ?_);rfl
    ·refine AZ D1<|AZ e4<|AZ (EF _)<|AZ e2 ?_
     congr 1
     simp
 refine ak (key p hp) fun qs e1 e2=>?_;show(do let p' <-D.pd 5 .nil;let q <-(p.map kB).mapM (D.pd 4);some (q.any fun y=>PyData.eqv y p'))=_;refine AZ e1 ?_;exact congrArg some e2
end Mine
namespace Mine
noncomputable abbrev ΓLw:aj:=aH uN 0
noncomputable def rQ:List St:=ey (kZ.getD 4 io)
noncomputable def As:E:=rJ (kZ.getD 4 io)
theorem ge0 (n:Nat):D.cmp .GtE (.int (n:Int)) (.int 0)=some true:=by
 show some (decide ((0:Int)<=n))=_;exact AZ (decide_eq_true (Cf n)) rfl
theorem wL {d:D}{r:List D}:D.item (.list (d::r)) (.int ((0:Nat):Int))=some d:=by
 have e:bZ (d::r).length ((0:Nat):Int)=some 0:=(if_pos (Int.le_refl 0)).trans (if_pos (by refine AZ BA ?_;lia));show(bZ (d::r).length ((0:Nat):Int)).bind ((d::r)[·]?)=_;refine AZ e ?_;rfl
theorem tZ {P:List Nat}{N:List Nm}{T:List (Nat×dB)}{k:Nat}:(bG P N T k).length<=7:=Bf (Cz _ _) (by decide)
theorem wW {P:List Nat}{N:List Nm}{T:List (Nat×dB)}:∀f k,(mq P N T f k).length<=f
 |0,_=>Bq _
 |f+1,k=>by
  rw[rP]
  split
  ·exact Cs (Cp _)
  ·exact Cs (wW f _)
theorem t4 {P:List Nat}{N:List Nm}{T:List (Nat×dB)}(R:mu P N T):∀(f k F:Nat)(ρ:ac)(acc:List D),k < f->f < F->k<=T.length->acc.length+f<=50->cg ρ->ρ 103=some (.fz (cY T))->ρ 101=some (.fz (.int (k:Int)))->ρ 95=some (.fz (aQ P N))->ρ 126=some (.own acc)->
  ∃ρ',lc (fun ρ=>cT eR ΓLw ρ As) (fun ρ=>aL eR NN ΓLw ρ rQ) F ρ=some (.nx ρ')/\cg ρ'/\ρ' 126=some (.own (acc++(mq P N T f k).map pl))/\∀y,y≠126->y≠101->ρ' y=ρ y
 |0,_,_,_,_,h,_,_,_,_,_,_,_,_=>absurd h (by lia)
 |f+1,k,F,ρ,acc,hf,hF,hk,ha,hN,h103,h101,h95,h126=>by
  refine x1 (CS (GS (BI (Cp _) hF))) fun F e91=>?_;subst e91;have ht:cT eR ΓLw ρ As=some true:=aA (aa h101) af (ge0 k);have hl:acc.length < lim:=by unfold lim;lia
  have h1:=hN.setO 126 (acc++[pl (bG P N T k)]);have ev1:ev eR ΓLw ρ (rJ (rQ.getD 0 io))=some (.d (pl (bG P N T k))):=by
   refine ka (l:=Bn 7) (c:=fun(w:Nat)=>.int (w:Int)) (k:=fun(w:Nat)=>.int (w:Int)) (b:=Ao P N T k) (by rfl) (fY (n:=7) af rfl (by decide)) rfl (by rfl) (fun w hw=>?_) (fun w J J=>aa ae) (by decide);exact gy (ad (aa (sN h103)) (ad (aa (sN h101)) (ad (aa (sN h95)) (ad (aa ae) az)))) rfl ((n7 (by decide) _).trans (Am R hk (BL.mp hw)))
  by_cases h0:k=0
  ·subst h0
   have hb:aL eR NN ΓLw ρ rQ=some (.nx ((ρ.set 126 (.own (acc++[pl (bG P N T 0)]))).set 101 (.fz (.int (-1))))):=
    ag (lT h126 ev1 rfl hl) (ag (cI (au (au (aa (sN h103)) (aa (sN h101)) (z:=.tup [.int (-1),.nil]) wL) af rfl) (h1.mine rfl)) ax)
   refine x1 (CS (n:=F) (by lia)) fun F e91=>?_;subst e91;refine⟨_,qN ht hb (uA (aA (aa ae) af rfl)),h1.set _ _,sN ?_,fun y y1 y2=>(set_ne y2).trans (set_ne y1)⟩
   (rw[rP];refine AZ (if_pos rfl) ?_);exact ae
  ·have hb:aL eR NN ΓLw ρ rQ=some (.nx ((ρ.set 126 (.own (acc++[pl (bG P N T k)]))).set 101 (.fz (.int ((kn T k).1:Int))))):=
    ag (lT h126 ev1 rfl hl) (ag (cI (au (au (aa (sN h103)) (aa (sN h101)) (fk h0 hk)) af (z:=.int ((kn T k).1:Int)) rfl) (h1.mine rfl)) ax)
   have:=R.kl k h0 hk;refine vQ (t4 R f (kn T k).1 F _ (acc++[pl (bG P N T k)]) (by lia) (by lia) (by lia) (by refine AZ Bm ?_;show acc.length+1+f<=50;lia) (h1.set 101 (.int ((kn T k).1:Int))) (sN (sN h103)) ae (sN (sN h95)) (sN ae)) fun ρ' r n1 n2 n3=>?_;refine⟨ρ',qN ht hb r,n1,n2.trans ?_,fun y y1 y2=>(n3 y y1 y2).trans ((set_ne y2).trans (set_ne y1))⟩
   (rw[rP];refine AZ (if_neg h0)<|AZ (BU _ _ _) ?_);rfl
theorem par_p7 {P:List Nat}(S:vI P)(h7:P.length=7) (v:Nat):be P v < 7:=by
 by_cases hv:v < 7
 ·by_cases h0:v=0
  ·refine AZ h0<|AZ S.p0 ?_;decide
  ·have:=S.lt v h0 hv;lia
 ·unfold be
  refine AZ (BS)<|AZ (GW (by lia)) ?_;decide
theorem zd (d:D)(r:List D):D.slice (.list (d::r)) (some (.int 1)) none=some (.list r):=by
 show some (D.list (fE (some 1) none (d::r)))=_;have e:CR (d::r).length 1=1:=iK (k:=1) (Do 1 _);have e2:fE (some 1) none (d::r)=((d::r).drop (CR (d::r).length 1)).take ((d::r).length - CR (d::r).length 1):=rfl;refine AZ e2<|AZ e ?_
 exact congrArg (fun l=>some (D.list l)) List.take_length
theorem plain:∀l:List Int,l.length<=63->iZ eR NN zI [.list (l.map .int)]=some (.bool true):=by
 intro l hl;refine ak (ye l hl) fun cs hc e42=>?_;refine sI (yC hc) fun P N K e45=>?_;refine aS (shp_of K.shp) fun S h7=>?_;refine x34 (ya S hc K.nm) fun p T k w hs hT hp e46=>?_;refine aS w.ok fun hk kl=>?_;have p7:=par_p7 S h7;have R:mu P N T:=⟨⟨fun n h0 h=>(kl n h0 h).2,K.nm,hT⟩,K.n0,p7,fun n h0 h=>(kl n h0 h).1⟩;have c1:eR.call 42 [.list (l.map .int)]=some (.list (cs.map .int)):=(oh ⟨by decide,rfl,rfl,rfl,rfl⟩ _).trans e42;have c2:eR.call 45 [.list (cs.map .int)]=some (aQ P N):=(oh ⟨by decide,rfl,rfl,rfl,rfl⟩ _).trans e45;have c3:eR.call 46 [aQ P N,.list (cs.map .int)]=some (.tup [.list (p.map kB),cY T,.int (k:Int)]):=(oh ⟨by decide,rfl,rfl,rfl,rfl⟩ _).trans e46;have N0:cg (aq [84] [.list (l.map .int)] fun J=>none):=jZ;have N1:=(((N0.set 82 (.list (cs.map .int))).set 95 (aQ P N)));have N2:=((N1.set 102 (.list (p.map kB))).set 103 (cY T)).set 101 (.int (k:Int));have N3:=N2.setO 126 [];refine vQ (t4 R 8 k 100 _ [] (by lia) (by lia) hk (by decide) N3 rfl rfl rfl rfl) fun ρ' r n1 n2 n3=>?_;have hd:∃d r,mq P N T 8 k=d::r:=⟨_,_,rfl⟩;refine x2 hd fun d dr hd=>?_;have hd0:d=bG P N T k:=(Bv hd).1.symm;have hlen:=wW (P:=P) (N:=N) (T:=T) 8 k;have hpl:=plain02 S R w;rw[hd] at n2 hlen hpl;rw[hd0] at n2 hpl;have b0:∀{p1 p2 p3:Pos},ev eR ΓLw ρ' (.idx (.name 126 p1) (.int 0 p2) p3)=some (.d (pl (bG P N T k))):=fun{_ _ _}=>jz (eu n2) rfl af wL;have h82:ρ' 82=some (.fz (.list (cs.map .int))):=(n3 82 (by decide) (by decide)).trans rfl;have h95:ρ' 95=some (.fz (aQ P N)):=(n3 95 (by decide) (by decide)).trans rfl;have h102:ρ' 102=some (.fz (.list (p.map kB))):=(n3 102 (by decide) (by decide)).trans rfl;have hin:=none_in p fun s h=>by
  refine x1 (hs s h) fun v hv=>?_;exact⟨_,K.ch v,hv⟩
 have g1:=Dn cs[7] (b:=5) (by decide);have g2:=Ez cs[7] (b:=5) (by decide);obtain⟨y,hy⟩:∃y:Nat,EO cs[7] 5=(y:Int):=⟨_,(Ei g1).symm⟩;have f2:=mC (c:=cs[7]) (m:=5) (by decide);rw[hy] at g2 f2
 let once:=if none∈p then bG P N T k else bG P N T k++bG P N T k
 have c56e:=z0 (k:=y) (d:=(bG P N T k::dr).length) (by lia) S K.nm p7 w (by rw[BA] at hlen ⊢;lia);rw[hpl] at c56e;have ho:once.length<=14:=by
  have:=tZ (P:=P) (N:=N) (T:=T) (k:=k);show(if none∈p then bG P N T k else bG P N T k++bG P N T k).length<=14
  split
  ·lia
  ·refine AZ Bm ?_;lia
 have e127:ev eR ΓLw ρ' (rJ (kZ.getD 5 io))=some (.d (pl once)):=by
  refine Aq (aA c9 (aa h102) hin) ?_
  by_cases h:none∈p
  ·refine AZ (if_pos (decide_eq_true h))<|AZ (show once=bG P N T k from if_pos h) ?_;exact b0
  ·refine AZ (if_neg (by refine AZ (decide_eq_false h) ?_;exact DK))<|AZ (show once=bG P N T k++bG P N T k from if_neg h) ?_
   refine bB b0 b0 ?_;refine AZ (show pl (bG P N T k++bG P N T k)=.list ((bG P N T k).map (fun(p:Nat)=>D.int (p:Int))++(bG P N T k).map (fun(p:Nat)=>D.int (p:Int))) from congrArg D.list BW) ?_;refine if_pos ?_;have:=tZ (P:=P) (N:=N) (T:=T) (k:=k);refine AZ Bm<|AZ (Bx _) ?_;unfold lim;lia
 have s1:=zd (pl (bG P N T k)) (dr.map pl);have q126:=(set_ne (ρ:=ρ') (x:=127) (y:=126) (e:=.fz (pl once)) (by decide)).trans n2;have q95:=(set_ne (ρ:=ρ') (x:=127) (y:=95) (e:=.fz (pl once)) (by decide)).trans h95;have q102:=(set_ne (ρ:=ρ') (x:=127) (y:=102) (e:=.fz (pl once)) (by decide)).trans h102;have q82:=(set_ne (ρ:=ρ') (x:=127) (y:=82) (e:=.fz (pl once)) (by decide)).trans h82;have hm:(dr.map pl).length<=8:=by refine AZ (Bx _) ?_;rw[BA] at hlen;lia
 have a1:D.bin .Add (.list [pl once]) (.list (dr.map pl))=some (.list (pl once::dr.map pl)):=if_pos (by refine AZ Bm ?_;unfold lim;show 1+_<=_;lia);have a2:D.bin .Add (.list (pl once::dr.map pl)) (.list [pl []])=some (.list ((once::(dr++[[]])).map pl)):=by
  refine AZ Bo<|AZ BW ?_
  exact if_pos (by refine AZ Bm<|AZ BA ?_;unfold lim;show _+1+1<=_;lia)
 have hln:D.builtin 0 [.list (pl (bG P N T k)::dr.map pl)]=some (.int ((bG P N T k::dr).length:Int)):=by
  show some (D.int ((pl (bG P N T k)::dr.map pl).length:Int))=_;exact AZ BA<|AZ (Bx _)<|AZ BA rfl
 refine qY (t:=zI) rfl ?_;refine ag (cI (ca (ad (aa rfl) az) rfl c1) (N0.mine rfl)) (ag (cI (ca (ad (aa ae) az) rfl c2) ((N0.set _ _).mine rfl)) (ag (uP (ca (ad (aa ae) (ad (aa rfl) az)) rfl c3) rfl rfl (N1.all rfl)) (ag (td az (N2.mine rfl) (Cp _)) (ag (zf r) (ag (cI e127 (n1.mine rfl)) (bF (c0 ?_)))))));exact oL (ca (ad (aa q95) (ad (aa q102) (ad (vq (eu q126) rfl rfl (by decide) hln) (ad (bB (au (aa q82) af (k8 cs (m:=7) (by refine AZ hc ?_;decide))) af f2) az)))) rfl c56e) (bB (bB (eO (ad (aa ae) az) (by decide:1<=lim)) (e_slcB (eu q126) rfl (eY af) eZ s1) a1) (eO (ad (eO az (Cp _)) az) (by decide:1<=lim)) a2) (eq_self _)
theorem law02:PySem.Challenge.rw_wb0058_02.Holds:=fin2 plain
end Mine
theorem PySem.Challenge.cw_wb0058_02_holds : PySem.Challenge.rw_wb0058_02.Holds := by
  exact Mine.law02
