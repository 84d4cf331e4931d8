import PyProof.Rows.All
import Wide.All
import OpenK.AllK
import Wide.FinOn
import PySem.Challenge.RW_dn0283_07
open PySem PySem.W PyProof.Rows PySem.Challenge
open _root_ renaming List→AE,Option→AM,congrArg→BW,if_neg→CA,Nat→CC,Array→CE,decide_eq_false→CF,ne_true_of_eq_false→CL,decide_eq_true→CN,Bool→CZ,if_pos→DJ,Int→EE,Nonempty→FV,decide_eq_true_eq→HI,decide_eq_false_iff_not→JK,of_decide_eq_true→MT,False→NF,or_false→OJ,Decidable→PY,Unit→SI,and_true→TS,beq_iff_eq→TT,bne_self_eq_false→UX,if_false→WX,instLTNat→WY,beq_eq_false_iff_ne→cS,not_false_eq_true→jN,bne_iff_ne→tO,Inhabited→Ao
open And renaming right→ML,intro→TC,left→bI
open _root_.Array renaming getElem?_toList→FY,length_toList→GV,toList_push→MR,toList_inj→WF,toArray_toList→bJ,eq_empty_of_size_eq_zero→kM,size_push→pM,size_eq_one_iff→Ec,size_append→Gz
open Array.mk renaming injEq→TH
open Bool renaming false→AU,true→BC,false_ne_true→DE,false_eq_true→IV,and_eq_true→NT,not_eq_true'→iF,and_eq_true_iff→Fd
open Classical renaming byContradiction→wO
open Eq renaming symm→Bc
open Int renaming toNat_natCast→FF,eq_ofNat_of_zero_le→WH,ofNat_inj→fJ,fmod→tF,emod_lt_of_pos→Gk
open _root_.List renaming length_map→AN,mem_cons→AP,mem_append→AT,forall_mem_nil→BA,mem_singleton→BB,length_append→BD,map_append→BF,getElem?_eq_getElem→BL,mem_map_of_mem→BV,append_assoc→BX,length_cons→CD,size_toArray→CG,mem_map→CO,append_nil→CQ,nil_append→DB,nodup_cons→DF,getElem?_map→DH,nodup_append→DP,cons_append→DQ,dropLast_concat→DT,lookup→DY,map_cons→EC,length→EG,getElem?_eq_none→EM,getD_eq_getElem?_getD→EX,getElem?_toArray→FI,foldl_append→FO,length_nil→GA,map_map→GG,getElem?_cons_zero→GJ,not_mem_nil→GK,eq_nil_of_length_eq_zero→GQ,mem_of_getElem?→GR,replicate→HN,foldl_cons→HO,filter_cons_of_pos→HU,mem_reverse→HV,mem_append_right→IU,pairwise_cons→IW,mem_filter→JM,take_append_drop→JW,drop_eq_getElem_cons→KA,push_toArray→KL,length_reverse→LG,filter_cons_of_neg→LH,concat_eq_append→MN,eq_nil_or_concat→MO,getElem?_append_right→NH,mem_range→NI,nodup_nil→NJ,range→NK,lookup_cons→NV,prefix_refl→NX,drop_eq_nil_of_le→OZ,map_nil→PA,take_of_length_le→PB,take_succ_eq_append_getElem→PC,toArray→PD,mem_iff_getElem?→PW,perm_append_comm→PX,getElem_mem→QA,length_take→QB,mem_of_mem_take→QS,replicate_succ'→QU,reverse_append→RY,drop_drop→TN,getElem?_drop→TO,getLastD_eq_getLast?→UD,reverse_cons→UV,take_add_one→UW,getElem?_cons_succ→WJ,getElem_map→WK,forIn_cons→YY,forIn_nil→bN,length_dropLast→bO,filterMap_cons→cL,filter_eq_self→cM,append_of_mem→fN,flatten_cons→iJ,reverse_perm→iK,take_sublist→iL,append_inj'→kW,take_length→kX,map_id→pG,find?_cons→pO,length_eraseIdx_of_lt→tH,findIdx?_eq_none_iff→wQ,mem_take_iff_getElem→wR,rel_of_pairwise_cons→wV,findIdx?→xD,map_drop→xE,length_pos_of_mem→Bk,dropLast_sublist→Ed,length_singleton→Ee,singleton_append→Ef,forall_mem_cons→Fg,mem_append_left→Fh,mem_of_mem_drop→Fi,flatten_append→Ga,map_congr_left→Gb,map_eq_nil_iff→Gc,length_zipIdx→Gl,zipIdx_append→Gm,length_range→Hc,pairwise_map→Hd
open List.IsPrefix renaming trans→Fz
open List.Mem renaming tail→MM,head→fK
open List.Nodup renaming sublist→TL
open List.Perm renaming swap→tG
open List.cons renaming injEq→MG,inj→fL
open Nat renaming ne_of_gt→AJ,ne_of_lt→AO,le_trans→AQ,lt_trans→AZ,le_of_not_lt→BJ,lt_of_lt_of_le→CJ,lt_succ_self→CM,le_of_ble_eq_true→CP,le_refl→CR,lt_succ_of_lt→CX,le_antisymm→DG,succ_pos→EB,zero_le→EH,le_of_eq→ET,le_of_lt→EU,succ_lt_succ→FG,lt_or_ge→JC,min_le_left→KB,succ_le_succ→LI,le_succ_of_le→PE,min_le_right→QC,lt_irrefl→QJ,le_succ→QW,lt_of_le_of_lt→TP,add_zero→XK,zero_add→XN,le_add_left→YZ,not_lt→fO,sub_add_cancel→fP,ble→Bl,zero_mul→Bm,mul_le_mul_right→Fj,add_le_add_left→Ge,mul_le_mul_left→Gf,add_sub_cancel→Gn,le_of_lt_succ→He
open Nat.succ renaming inj→XM
open Ne renaming symm→BG
open Option renaming some→AK,none→BN,map_some→KC,map_eq_none_iff→XP,map_none→pP,toList_some→Gq
open Option.some renaming inj→HB,injEq→IG
open PyProof.Rows renaming News→AY,AllBare→BP,subscriptTail→BZ,seqObj→EI,assign_Name→EO,len_list→GF,envOf→GZ,listItems_at→JF,listUpdate_at→KZ,callWith_method1→LN,assignInOrder_cons→MA,get?_update_seq→MJ,seqEpoch_at→VG,unpackItems_tuple→VJ,Top→VO,IsTup→WI,entry_list_sort→ZC,slot_list_sort→bU,assign_Tuple_tuple→fQ,assignInOrder_nil→iU,mapSeq_push→pK,args_list_sort→tM,tail_any→vY,entry_sorted→By,envOfC→Bz,plain_sorted→Dj,entry_proto_collect'→Fm,kind_sorted→Fo,add_str→Hh
open PyProof.Rows.Fr renaming keep→QI,extBut→kR
open PyProof.Rows.ItemKind renaming str→Bh
open PyProof.Rows.LCg renaming SrcAt→RZ,lst→rY,NsObj→tI
open PyProof.Rows.News renaming get→GB
open PyProof.Rows.SortSt renaming mk'→Gs
open PyProof.V renaming FlatPairs→Gg
open PySem renaming Value→AC,wpAny_bind→AD,strValues→AF,Shared→AG,Addr→AH,wpAny→AI,wpAny_pure→AL,Str→AX,model→BE,Program→BH,sizeLine_eq→BI,Around→BQ,wpAny_execs_cons→BR,World→BU,wpAny_holding→CI,OsState→CU,Heap→CW,Obj→CY,sizeLine→DA,wpAny_mono→DI,call→DK,codeAny→DV,Tok→DW,Expr→EK,strKind→EL,wpAny_storeName_local→EN,wpAny_standAt→EQ,ExcName→ER,compEnvC→EY,execs→EZ,sysModules→FB,Result→FE,wpAny_call_entry→FM,wpAny_assign_Name→FP,recursionLimit→FX,wpAny_newObj_type→GX,wpAny_setState_of→GY,wpAny_newList→HC,foldedSetIterable→HJ,builtinLookup_eq_fast→HM,wpAny_setField_rec→HT,Builtin→IE,callWith→IH,wpAny_truthy_list→IJ,codeAny_builtin→IN,pyIter→IY,wpAny_isInstance→IZ,wpAny_rule→JA,wpAny_comprehension_free→JH,newList→JL,wpAny_setEntries_of→JO,rawInt→JU,valueAt→JY,typeLookup_type→KI,Scope→KO,lookup_relabel_local→KU,wpAny_of_eq→KW,compareOp→LO,isSubtype_type→LP,wpAny_askSetting→LQ,wpAny_callSpecial?_slot→LR,wpAny_typeOf→MD,letOwnedTupleGo→MK,SetTable→NL,newTuple→NP,pickOrder→OE,wpAny_execs_nil→OO,Pos→OP,pyNext→OT,wpAny_field→OX,checkBoundCall→PG,firstArgMember→PH,standAt→PJ,wpAny_fieldsOf→PK,wpAny_pyNext_list_item→PL,JoinOk→PZ,closureFor→QD,wpAny_call→QF,wpAny_letOwnedTupleGo_listiter→QG,wpAny_attempt→QQ,Model→QV,wpAny_loadName_local→RG,wpAny_newFunctionEnv→RH,codeAny_forLoop_any→SA,getItem→SO,notedBy→SU,Fin→TD,newFunctionEnv→TU,relayAll→TV,setsByText→TX,slot_listiter_next→TY,typeIs_str→UB,wpAny_seqItems→UC,wpAny_pyIter_list→VK,IsEnum→VN,plainId_quiet→VQ,Arguments→WE,Flow→WG,arm_assign_Tuple→WM,binaryOp→WO,entryFor_of_tree→WR,getMethod→WW,scanBound→XC,starEach→XF,Env→XH,setAddHashed→YM,setItem→YN,strKind_is→YS,typeLookup→YV,wpAny_load→YX,wpAny_updateSeq→ZD,exec_Assign_Name_used→ZM,wpAny_pyNext_list_end→ZZ,entryFor→bS,wpAny_newTuple→bZ,wpAny_pyIter_revIter→cC,Stmt→cP,length_partsBetween→dQ,seg_execs_nil→fM,Seg→iP,wpAny_pyIter_enum→kK,wpAny_setEpoch_of→kL,Sem→kZ,isSubtype→mA,revObj→nN,wpAny_eqBool_str→pB,unpackItems→pL,codeAny_of_tree→pY,theTreesLotGoes→rO,wpAny_ite_split→rT,wpAny_specialOf→rU,BindsTo→rV,Protocol→tJ,isSubtype_stop→uQ,seg_execs_cons→vM,setAddHashedIn→vO,wpAny_Name→wJ,wpAny_letOwnedTupleGo_enum→wK,wpAny_runValue→wL,wpAny_handled→Al,TriplesOk→As,cLine→Av,noteFrame→Ax,seg_again→Ay,updateSeq→Az,argsOk→Bp,codeAny_compStart_list→Bs,newExc→Cx,newSet→Cy,wpAny_pyNext_enum_item→Ea,wpAny_pyNext_enum_end→Ez,wpAny_pyNext_rev_item→Fb,GenState→Ff,codeAny_call_builtin→Fk,compTurn→Fl,raiseNew→Fs,wpAny_If→Fu,wpAny_pyNext_rev_end→Fv,wpAny_throw→Fw,entry_listiter_next→Gh,meets_str_join_list→Gi,args_listiter_next→Gt,checkCount→Gu,layNew→Gw,splitAtGen→Gx,wpAny_getItem_list→Gy,callAny→Hi,getAttr→Hj,getMethod_builtin→Hk,getMethod_set_add→Hl,slot_dict_getitem→Hp,wpAny_Return_some→Hq,wpAny_dictEntries→Hr,wpAny_truthy_bool→Hs
open PySem.Around renaming under_plainId→KJ,deeper→QH,in1_handled→Gj
open PySem.Bind renaming lastOf→pE
open PySem.BindsTo renaming of_eq→GO
open PySem.Builtin.Generator renaming sleptOver→rW,genWake→wM
open PySem.Builtin.List renaming listExtendWith→SB,listTooLong→VL,listLengthHint→rX,listSameRef→xA
open PySem.Builtin.Str renaming strKind→LF,partsBetween→MC,occurrencesFromRight→NQ,occurrences→OU,glued→Ha
open PySem.Calls renaming Constant_str→TI,spliced_cons→TJ,call_function_entry→wN,callWith_builtin→Ba,evalArgs_plain→Fe,spliced_nil→Hb
open PySem.CmpOp renaming NotIn→pF
open PySem.Code renaming quiet_builtin→LZ
open PySem.Data.seq renaming injEq→bL
open PySem.Expr renaming Attribute→TK,Tuple→XJ,Name→cD,ListComp→xB,Dict→Am
open PySem.F renaming slot_list_getattribute→VM,plain_extend_loop→cJ,slot_list_lt→tC,plain_extend_loop→wW,slot_list_getitem→wX,plainAttrs_dict→Aq,slot_dict_items→Ar,slot_dict_get→Eg,entry_extend_loop→Fx,slot_list_delitem→Fy
open PySem.Flow renaming next→GI
open PySem.Frame renaming guarded→xC
open PySem.Heap renaming get?_push_of_some→AV,lt_size→BS,get?_push_size→CH,get?_none_of_le→EA,size_push→FT,SameBut→IF,get?_update_self→IT,ExtBut→LX,dictOf_iff→MF,get?_update_other→Bg
open PySem.Heap.SameBut renaming update→DR
open PySem.Manifest renaming varargsMethods→Ap,signature?→Gd
open PySem.MeetsSeq3 renaming plain_eq_loop→LY,entry_eq_loop→pI
open PySem.Obj renaming mapSeq→ED,mapFields→xG,cls→Bn,data_mapFields→Gp
open PySem.Operator renaming Add→XO
open PySem.Sem renaming bind_eq_wrap'→iQ,wrap_wrap→xI
open PySem.SetTable renaming grown→NM,below→TQ,sizeAbove→TR,has→Bo,orStandIn→Gr,layClean→Hg
open PySem.SetTable.below renaming go→Hf
open PySem.SetTable.sizeAbove renaming go→Ei
open PySem.Stmt renaming For→QX,If→SG
open PySem.Str renaming ofString→AA,empty→AW,length_append→PF
open PySem.StrLaws renaming glued_between_self→tK,occ_length_le→Ej
open PySem.Txt renaming join→FW,slice→LJ,split→lB,strip→Au
open PySem.Value renaming ref→AR,bool→BY,none→DD,str→EW,builtin→GU,isStrOf→JD,type→JT,int→LM,isStrOf_shape→cR
open PySem.Value.str renaming injEq→pQ
open PySem.W renaming dictOf→CK,instObj→CV,Told→DC,ite_neg→HA,ite_pos→HE,methodObj→IK,kup_newTuple→JP,append_K→KP,tabObj→NS,newList_K→OW,envX→QE,storeX_L→TZ,hideAll→cG,kas_sort→jG,CodeHd→kP,kas_fr→mE,fnOf→uH,binds_K→Br,codeIn→Bt,nameX_L→Cu,hideAll_get→Fn,kmk_add_lit→Fq,set_dict→Ft,codeRec_of→Gv,ghostOf→Hm,kas_ask→Hn,kla_obj→Ho
open PySem.W.KasFin renaming intro→Bi
open PySem.W.LCgL renaming ld_own→UU
open PySem.W.TopRead renaming nolimit→ZA
open PySem.W.Upd renaming tail→LK,head→WL
open PySem.W.UpdF renaming head→lC
open PySem.pickOrder renaming go→Dh
open ToString renaming toString→bY
set_option Elab.async false
set_option maxRecDepth 100000
set_option maxHeartbeats 8000000
set_option linter.all false
set_option compiler.extract_closed false
namespace Mine
open PySem.Calls
theorem Wb {α β : Type} {M : Model} {A : Around} {E : Value → Shared → Prop} {s : Shared} {m : Sem α} {f : α → Sem β} {Q : β → Shared → Prop} (h : wpAny M A m (fun a s' => wpAny M A (f a) Q E s') E s) : wpAny M A (m >>= f) Q E s := wpAny_bind h
theorem Wp {α : Type} {M : Model} {A : Around} {E : Value → Shared → Prop} {s : Shared} {a : α} {Q : α → Shared → Prop} (h : Q a s) : wpAny M A (pure a : Sem α) Q E s := wpAny_pure h
structure Ok (g:CW) (os:CU) (own:AE (AH×CY)) (s:AG):Prop where
 size:g.objs.size≤s.heap.objs.size
 keep:∀b o,g.get? b=AK o→s.heap.get? b=AK o
 own:∀p∈own,s.heap.get? p.1=AK p.2∧g.get? p.1=BN
 os:s.os=os
 bare:BP s.gens
noncomputable def LeaveM(g:CW)(os:CU)(R:FE→AG→Prop)(v:AC)(s':AG):Prop :=
 ∃L' m' news',Fr g L' s'.heap m'∧AY g L' s'.heap news'∧s'.os=os∧BP s'.gens∧(Ok g os news' s'→R (.ok (.ret v)) s')
theorem mX{g:CW}{os:CU}{L:AH}{m:AX→AM AC}{news:AE (AH×CY)}{s:AG}(F:Fr g L s.heap m)(N:AY g L s.heap news)(ho:s.os=os)(hb:BP s.gens):Ok g os news s:=by
 obtain⟨oL,_,_,hL,_⟩:=F.ns;exact⟨EU (TP F.above (BS hL)),F.keep,λp hp=>⟨(N p hp).1,(N p hp).2.2⟩,ho,hb⟩
theorem UY{prog:BH}{w:BU}{A:BQ}{s:AG}{g:CW}{os:CU}{own:AE (AH×CY)}{K:Frag}{p:BH}{zw:AE AX}{zt:ER→AM AC}{mg mb:AX→AM AC}
  {R:FE→AG→Prop} {name qual:AX} {params:WE} {body:AE cP} {scope:KO} {dV kV doc pm cdv ct oc:AC} {an od:AM AH} {osl:CE (AM AC)} {f:AH} {args:Args} {binds:AE (AX×AC)}
  (H:Ok g os own s) (X:K.In g) (T:VO p zw zt mg mb g)
  (ho:K.lookup f=AK ⟨oc,od,.func (uH name qual params body scope dV kV doc pm an cdv ct),osl⟩) (hcd:Bt K cdv qual=BC) (zq:A.depth<FX)
  (zj:rV s (uH name qual params body scope dV kV doc pm an cdv ct) args binds) (hloc:∀y∈binds,scope.names.lookup y.1=AK .local)
  (h:∀L' h₁,Fr g L' h₁ (λy=>binds.reverse.lookup y)→AY g L' h₁ own→(∀p∈own,p.1<L') →
   AI (BE prog w) (A.deeper (GZ qual scope L' f cdv)) (EZ body (GZ qual scope L' f cdv))
    (λfl s'=>LeaveM g os R (match fl with|.ret v=>v|_=>.none) s')
    (λe s'=>AI (BE prog w) (A.deeper (GZ qual scope L' f cdv)) (leaving (GZ qual scope L' f cdv) e) (λ_ s''=>R (.error e) s'') (λe' s''=>R (.error e') s'') s')
    { s with heap:=h₁,toks:=s.toks+binds.length })
  (hco:scope.isCoroutine=AU:=by rfl) (hgen:scope.isGenerator=AU:=by rfl) (hk:scope.kind=.function:=by rfl)
  (hcell:∀x∈scope.names,x.2≠.cell:=by decide):DV (BE prog w) A (.call (.ref f) args) R s:=by
 refine codeAny_call_def (fd:=uH name qual params body scope dV kV doc pm an cdv ct) (body:=body) (binds:=binds) zq ((X.keeps H.keep) _ _ ho) rfl (T.nolimit.keeps H.keep) (Gv (X.keeps H.keep) hcd) rfl zj hcell hloc (λh₁ hns hk₁=>?_) hco hgen hk
 refine DI (h s.heap.objs.size h₁ ⟨hns,λb o e=>hk₁ b o (H.keep b o e),H.size⟩
  (λp hp=>⟨hk₁ _ _ (H.own p hp).1,AO (BS (H.own p hp).1),(H.own p hp).2⟩) (λp hp=>BS (H.own p hp).1)) (λfl s' hl=>?_) λ_ _ y=>y
 obtain⟨L',m',news',F',N',hos',hb',k⟩:=hl
 exact k (mX F' N' hos' hb')
theorem KQ{prog:BH}{w:BU}{A:BQ}{s:AG}{g:CW}{os:CU}{own:AE (AH×CY)}{K:Frag}{p:BH}{zw:AE AX}{zt:ER→AM AC}{mg mb:AX→AM AC}
  {R:FE→AG→Prop} {name qual:AX} {params:WE} {body:AE cP} {scope:KO} {dV kV doc pm cdv ct oc:AC} {an od:AM AH} {osl:CE (AM AC)} {f:AH} {args:Args} {binds:AE (AX×AC)} (m0:AX→AM AC)
  (H:Ok g os own s) (X:K.In g) (T:VO p zw zt mg mb g)
  (ho:K.lookup f=AK ⟨oc,od,.func (uH name qual params body scope dV kV doc pm an cdv ct),osl⟩) (hcd:Bt K cdv qual=BC) (zq:A.depth<FX)
  (zj:rV s (uH name qual params body scope dV kV doc pm an cdv ct) args binds) (hloc:∀y∈binds,scope.names.lookup y.1=AK .local) (hm:(λy=>binds.reverse.lookup y)=m0) (zf:0<binds.length)
  (h:∀L' h₁ k,0<k→Fr g L' h₁ m0→AY g L' h₁ own→(∀p∈own,p.1<L') →
   AI (BE prog w) (A.deeper (GZ qual scope L' f cdv)) (EZ body (GZ qual scope L' f cdv))
    (λfl s'=>LeaveM g os R (match fl with|.ret v=>v|_=>.none) s')
    (λe s'=>AI (BE prog w) (A.deeper (GZ qual scope L' f cdv)) (leaving (GZ qual scope L' f cdv) e) (λ_ s''=>R (.error e) s'') (λe' s''=>R (.error e') s'') s')
    { s with heap:=h₁,toks:=k })
  (hco:scope.isCoroutine=AU) (hgen:scope.isGenerator=AU) (hk:scope.kind=.function)
  (hcell:∀x∈scope.names,x.2≠.cell):DV (BE prog w) A (.call (.ref f) args) R s:=by
 subst hm;exact UY H X T ho hcd zq zj hloc (λL' h₁ F N l=>h L' h₁ _ (CJ zf (YZ ..)) F N l) hco hgen hk hcell
theorem leaveM_{g:CW}{os:CU}{L':AH}{m':AX→AM AC}{news':AE (AH×CY)}{R:FE→AG→Prop}{v:AC}{s':AG}(F':Fr g L' s'.heap m')(N':AY g L' s'.heap news')(ho:s'.os=os)(hb:BP s'.gens)
  (k:Ok g os news' s'→R (.ok (.ret v)) s'):LeaveM g os R v s':=⟨L',m',news',F',N',ho,hb,k⟩
theorem fE{g:CW}{L:AH}{m:AX→AM AC}{news own rest:AE (AH×CY)}{s:AG}{os:CU}(F:Fr g L s.heap m)(N:AY g L s.heap news)(hos:s.os=os)(hb:BP s.gens)
  (h1:∀p∈own,p∈news) (h2:∀p∈rest,p∈news) (h3:∀p∈rest,p.1∉own.map (·.1)) :
  Ok (cG s.heap (own.map (·.1))) os own s∧(∀b o,g.get? b=AK o→(cG s.heap (own.map (·.1))).get? b=AK o)∧(∀p∈rest,(cG s.heap (own.map (·.1))).get? p.1=AK p.2) ∧
  (∀s' own',Ok (cG s.heap (own.map (·.1))) os own' s'→Fr g L s'.heap m∧AY g L s'.heap (own'++rest)∧s'.os=os∧BP s'.gens):=by
 have nm:∀b o,g.get? b=AK o→b∉own.map (·.1):=λb o e q=>by
  obtain⟨p,hp,rfl⟩:=CO.mp q;rw[(N p (h1 p hp)).2.2] at e;cases e
 have st:∀b o,g.get? b=AK o→(cG s.heap (own.map (·.1))).get? b=AK o:=λb o e=>Fn _ (F.keep b o e) (nm b o e)
 have rs:∀p∈rest,(cG s.heap (own.map (·.1))).get? p.1=AK p.2:=λp hp=>Fn _ (N p (h2 p hp)).1 (h3 p hp)
 obtain⟨oL,es,ep,hL,hLd,hLk,hLf⟩:=F.ns
 have nL:L∉own.map (·.1):=λq=>by
  obtain⟨p,hp,e⟩:=CO.mp q;exact(N p (h1 p hp)).2.1 e
 have hLg:=Fn (own.map (·.1)) hL nL;refine⟨⟨ET (hideAll_size _ _),λb o e=>of_hideAll _ e,λp hp=>⟨(N p (h1 p hp)).1,hideAll_none _ (BV hp)⟩,hos,hb⟩,st,rs,λs' own' H=>⟨⟨⟨oL,es,ep,H.keep L oL hLg,hLd,hLk,hLf⟩,λb o e=>H.keep b o (st b o e),F.above⟩,λp hp=>?_,H.os,H.bare⟩⟩;rcases AT.mp hp with q|q
 ·refine⟨(H.own p q).1,λz=>?_,?_⟩
  ·have:=(H.own p q).2;rw[z,hLg] at this;cases this
  ·cases z:g.get? p.1 with
   |none=>rfl
   |some o=>have:=(H.own p q).2;rw[st _ _ z] at this;cases this
 ·exact⟨H.keep _ _ (rs p q),(N p (h2 p q)).2.1,(N p (h2 p q)).2.2⟩
theorem Fc{α:Type}{p:α→Prop}{a:α}{l:AE α}(h:p a)(t:∀x∈l,p x):∀x∈a::l,p x:=Fg.mpr ⟨h,t⟩
theorem Fp{α:Type}{p:α→Prop}{a b:AE α}(h:∀x∈a,p x)(t:∀x∈b,p x):∀x∈a++b,p x:=AE.forall_mem_append.mpr ⟨h,t⟩
theorem Ml{α:Type}{a:α}{s:AE α}(t:AE α)(h:a∈s):a∈s++t:=Fh t h
theorem Mr{α:Type}{a:α}{t:AE α}(s:AE α)(h:a∈t):a∈s++t:=IU s h
theorem Nl{a b:CC}(h:¬b<a):a≤b:=BJ h
theorem Nt{a b:CC}(h:¬b≤a):a<b:=CC.lt_of_not_le h
theorem El{a b:CC}(h:a=b):a≤b:=ET h
theorem Es{a b:CC}(h:a=b):b≤a:=ET h.symm
end Mine
namespace Mine
open PySem.Calls
set_option genSizeOf false
set_option genInjectivity false
inductive Ln where
 |k (n:CC)|v (i:CC)|a (x y:Ln)|m (n:CC) (x:Ln)|w (x:Ln) (n:CC)|c (n:CC) (x y t:Ln)
noncomputable abbrev V0:Ln:=.v 0
noncomputable abbrev V1:Ln:=.v 1
noncomputable abbrev V2:Ln:=.v 2
noncomputable abbrev V3:Ln:=.v 3
noncomputable abbrev V4:Ln:=.v 4
noncomputable abbrev V5:Ln:=.v 5
noncomputable abbrev V6:Ln:=.v 6
noncomputable abbrev V7:Ln:=.v 7
noncomputable abbrev V8:Ln:=.v 8
noncomputable abbrev V9:Ln:=.v 9
noncomputable abbrev K0:Ln:=.k 0
noncomputable abbrev K1:Ln:=.k 1
noncomputable abbrev Ln.s(x:Ln):Ln:=.a x (.k 1)
noncomputable abbrev Ln.e(x y t:Ln):Ln:=.c 1 x y t
noncomputable def Ln.at(c:AE CC):CC→CC:=@AE.rec CC (λ_=>CC→CC) (λ_=>0) (λh _ ih i=>@CC.rec (λ_=>CC) h (λj _=>ih j) i) c
noncomputable def Ln.d(c:AE CC)(e:Ln):CC:=@Ln.rec (λ_=>CC) (λn=>n) (λi=>Ln.at c i) (λ_ _ x y=>x+y) (λn _ x=>n*x) (λ_ n x=>x*n) (λ_ _ _ _ _ _ _=>0) e
noncomputable def Ln.add:AE CC→AE CC→AE CC:=λx=>@AE.rec CC (λ_=>AE CC→AE CC) (λy=>y) (λa s ih y=>@AE.rec CC (λ_=>AE CC) (a::s) (λb t _=>(a+b)::ih t) y) x
noncomputable def Ln.mul(n:CC):AE CC→AE CC:=λx=>@AE.rec CC (λ_=>AE CC) [] (λa _ ih=>n*a::ih) x
noncomputable def Ln.un:CC→AE CC:=λi=>@CC.rec (λ_=>AE CC) [1] (λ_ r=>0::r) i
noncomputable def Ln.p(e:Ln):AE CC:=@Ln.rec (λ_=>AE CC) (λn=>[n]) (λi=>0::Ln.un i) (λ_ _ x y=>Ln.add x y) (λn _ x=>Ln.mul n x) (λ_ n x=>Ln.mul n x) (λ_ _ _ _ _ _ _=>[]) e
noncomputable def Ln.dot(x c:AE CC):CC:=@AE.rec CC (λ_=>AE CC→CC) (λ_=>0) (λa _ ih c=>@AE.rec CC (λ_=>CC) 0 (λb t _=>a*b+ih t) c) x c
noncomputable def Ln.ge:AE CC→AE CC→CZ:=λx=>@AE.rec CC (λ_=>AE CC→CZ) (λy=>@AE.rec CC (λ_=>CZ) BC (λb _ r=>and (Bl b 0) r) y) (λa _ ih y=>@AE.rec CC (λ_=>CZ) BC (λb t _=>and (Bl b a) (ih t)) y) x
noncomputable def Ln.l(e:Ln):AE CC:=@Ln.rec (λ_=>AE CC) (λ_=>[]) (λ_=>[]) (λ_ _ _ _=>[]) (λ_ _ _=>[]) (λ_ _ _=>[]) (λn x _ _ _ _ t=>Ln.add (Ln.mul n (Ln.p x)) t) e
noncomputable def Ln.r(e:Ln):AE CC:=@Ln.rec (λ_=>AE CC) (λ_=>[1]) (λ_=>[1]) (λ_ _ _ _=>[1]) (λ_ _ _=>[1]) (λ_ _ _=>[1]) (λn _ y _ _ _ t=>Ln.add (Ln.mul n (Ln.p y)) t) e
noncomputable def Ln.den(c:AE CC)(e:Ln):Prop:=@Ln.rec (λ_=>Prop) (λ_=>NF) (λ_=>NF) (λ_ _ _ _=>NF) (λ_ _ _=>NF) (λ_ _ _=>NF) (λ_ x y _ _ _ t=>Ln.d c x≤Ln.d c y→t) e
theorem Ln.dot_add(x y c:AE CC):Ln.dot (Ln.add x y) c=Ln.dot x c+Ln.dot y c:=by
 induction x generalizing y c with
 |nil=>exact(XN _).symm
 |cons a s ih =>
  cases y with
  |nil=>rfl
  |cons b t =>
   cases c with
   |nil=>rfl
   |cons e u =>
    show(a+b)*e+Ln.dot (Ln.add s t) u=a*e+Ln.dot s u+(b*e+Ln.dot t u)
    rw[ih,CC.add_mul];exact CC.add_add_add_comm ..
theorem Ln.dot_mul(n:CC)(x c:AE CC):Ln.dot (Ln.mul n x) c=n*Ln.dot x c:=by
 induction x generalizing c with
 |nil=>rfl
 |cons a s ih =>
  cases c with
  |nil=>rfl
  |cons e u =>
   show n*a*e+Ln.dot (Ln.mul n s) u=n*(a*e+Ln.dot s u)
   rw[ih,CC.mul_add,CC.mul_assoc]
theorem Ln.dot_un(i:CC)(c:AE CC):Ln.dot (Ln.un i) c=Ln.at c i:=by
 induction i generalizing c with
 |zero =>
  cases c with
  |nil=>rfl
  |cons a t=>show 1*a+0=a;rw[CC.one_mul];rfl
 |succ i ih =>
  cases c with
  |nil=>rfl
  |cons a t=>show 0*a+Ln.dot (Ln.un i) t=Ln.at t i;rw[ih,Bm,XN]
theorem Ln.dot_p(e:Ln)(c:AE CC):Ln.dot (Ln.p e) (1::c)=Ln.d c e:=by
 induction e with
 |k n=>show n*1+0=n;rw[CC.mul_one];rfl
 |v i=>show 0*1+Ln.dot (Ln.un i) c=Ln.at c i;rw[Ln.dot_un,Bm,XN]
 |a x y h1 h2=>show Ln.dot (Ln.add (Ln.p x) (Ln.p y)) _=Ln.d c x+Ln.d c y;rw[Ln.dot_add,h1,h2]
 |m n x h=>show Ln.dot (Ln.mul n (Ln.p x)) _=n*Ln.d c x;rw[Ln.dot_mul,h]
 |w x n h=>show Ln.dot (Ln.mul n (Ln.p x)) _=Ln.d c x*n;rw[Ln.dot_mul,h,CC.mul_comm]
 |c=>rfl
theorem Ln.dot_ge(x y c:AE CC)(h:Ln.ge x y=BC):Ln.dot y c≤Ln.dot x c:=by
 induction x generalizing y c with
 |nil =>
  induction y generalizing c with
  |nil=>exact CR _
  |cons b t ih =>
   have h':=Fd.mp (show(Bl b 0&&Ln.ge [] t)=BC from h)
   cases c with
   |nil=>exact CR _
   |cons e u =>
    show b*e+Ln.dot t u≤0;rw[CC.le_zero.mp (CP h'.1),Bm,XN];exact ih u h'.2
 |cons a s ih =>
  cases y with
  |nil=>exact EH _
  |cons b t =>
   have h':=Fd.mp (show(Bl b a&&Ln.ge s t)=BC from h)
   cases c with
   |nil=>exact CR _
   |cons e u=>exact CC.add_le_add (Fj _ (CP h'.1)) (ih t u h'.2)
theorem Ln.fk'(c:AE CC)(e:Ln):∀X Y:CC,X≤Y→Y+Ln.dot (Ln.r e) (1::c)≤X+Ln.dot (Ln.l e) (1::c)→Ln.den c e:=by
 have base:∀X Y:CC,X≤Y→Y+(1*1+0)≤X+0→NF:=λX Y h1 h2=>QJ _ (CJ (CC.lt_succ_of_le h1) h2)
 induction e with
 |k=>exact base
 |v=>exact base
 |a=>exact base
 |m=>exact base
 |w=>exact base
 |c n x y t h1 h2 ih =>
  intro X Y h1 h2 hxy;refine ih (X+n*Ln.d c x) (Y+n*Ln.d c y) (CC.add_le_add h1 (Gf _ hxy)) ?_
  have e1:Ln.dot (Ln.l (.c n x y t)) (1::c)=n*Ln.d c x+Ln.dot (Ln.l t) (1::c):=by
   show Ln.dot (Ln.add (Ln.mul n (Ln.p x)) (Ln.l t)) _=_;rw[Ln.dot_add,Ln.dot_mul,Ln.dot_p]
  have e2:Ln.dot (Ln.r (.c n x y t)) (1::c)=n*Ln.d c y+Ln.dot (Ln.r t) (1::c):=by
   show Ln.dot (Ln.add (Ln.mul n (Ln.p y)) (Ln.r t)) _=_;rw[Ln.dot_add,Ln.dot_mul,Ln.dot_p]
  rw[e1,e2] at h2;rw[CC.add_assoc,CC.add_assoc];exact h2
theorem Ln.sba{a b:CC}:a≤a-b+b:=CC.le_add_of_sub_le (CR _)
theorem fk(c:AE CC)(e:Ln)(h:Ln.ge (Ln.l e) (Ln.r e)=BC):Ln.den c e :=
 Ln.fk' c e 0 0 (CR _) (Ge (Ln.dot_ge _ _ _ h) 0)
end Mine
namespace Mine
open PySem.Calls
noncomputable def cx{α:Type}(ne:FV α)(P:α→Prop):α:=@Classical.epsilon α ne λa=>¬P a
theorem HF{α:Type}(ne:FV α){P:α→Prop}(h:P (cx ne P)):∀a,P a:=λa =>
 wO λhn=>(@Classical.epsilon_spec_aux α ne (λa=>¬P a) ⟨a,hn⟩) h
def ES{α:Sort _}(_:α)(_:Prop):Prop:=True
abbrev Fa{α:Type}(P:α→Prop):Prop:=∀a,P a
theorem UA{α:Type}{P:α→Prop}:ES P (∀a,P a):=trivial
theorem HZ{α:Type}(ne:FV α){P:α→Prop}{T:Prop}(_:ES P T)(h:P (cx ne P)):∀a,P a:=HF ne h
noncomputable def cx2{α0 α1:Type}(ne:FV (α0×α1))(P:α0→α1→Prop):α0×α1:=cx ne λt=>P t.1 t.2
abbrev OV{α0 α1:Type}(P:α0→α1→Prop):Prop:=∀a0 a1,P a0 a1
theorem UF{α0 α1:Type}(ne:FV (α0×α1)){P:α0→α1→Prop}(h:P (cx2 ne P).1 (cx2 ne P).2):∀a0 a1,P a0 a1:=λa0 a1=>HF ne (P:=λt=>P t.1 t.2) h (a0,a1)
theorem IP{α0 α1:Type}{P:α0→α1→Prop}:ES P (∀a0 a1,P a0 a1):=trivial
theorem EV{α0 α1:Type}(ne:FV (α0×α1)){P:α0→α1→Prop}{T:Prop}(_:ES P T)(h:P (cx2 ne P).1 (cx2 ne P).2):∀a0 a1,P a0 a1:=UF ne h
noncomputable def cx3{α0 α1 α2:Type}(ne:FV (α0×α1×α2))(P:α0→α1→α2→Prop):α0×α1×α2:=cx ne λt=>P t.1 t.2.1 t.2.2
abbrev PV{α0 α1 α2:Type}(P:α0→α1→α2→Prop):Prop:=∀a0 a1 a2,P a0 a1 a2
theorem OY{α0 α1 α2:Type}(ne:FV (α0×α1×α2)){P:α0→α1→α2→Prop}(h:P (cx3 ne P).1 (cx3 ne P).2.1 (cx3 ne P).2.2):∀a0 a1 a2,P a0 a1 a2:=λa0 a1 a2=>HF ne (P:=λt=>P t.1 t.2.1 t.2.2) h (a0,a1,a2)
theorem JN{α0 α1 α2:Type}{P:α0→α1→α2→Prop}:ES P (∀a0 a1 a2,P a0 a1 a2):=trivial
theorem FL{α0 α1 α2:Type}(ne:FV (α0×α1×α2)){P:α0→α1→α2→Prop}{T:Prop}(_:ES P T)(h:P (cx3 ne P).1 (cx3 ne P).2.1 (cx3 ne P).2.2):∀a0 a1 a2,P a0 a1 a2:=OY ne h
noncomputable def Em{α0 α1 α2 α3:Type}(ne:FV (α0×α1×α2×α3))(P:α0→α1→α2→α3→Prop):α0×α1×α2×α3:=cx ne λt=>P t.1 t.2.1 t.2.2.1 t.2.2.2
abbrev ZE{α0 α1 α2 α3:Type}(P:α0→α1→α2→α3→Prop):Prop:=∀a0 a1 a2 a3,P a0 a1 a2 a3
theorem QZ{α0 α1 α2 α3:Type}(ne:FV (α0×α1×α2×α3)){P:α0→α1→α2→α3→Prop}(h:P (Em ne P).1 (Em ne P).2.1 (Em ne P).2.2.1 (Em ne P).2.2.2):∀a0 a1 a2 a3,P a0 a1 a2 a3:=λa0 a1 a2 a3=>HF ne (P:=λt=>P t.1 t.2.1 t.2.2.1 t.2.2.2) h (a0,a1,a2,a3)
theorem OM{α0 α1 α2 α3:Type}{P:α0→α1→α2→α3→Prop}:ES P (∀a0 a1 a2 a3,P a0 a1 a2 a3):=trivial
theorem IB{α0 α1 α2 α3:Type}(ne:FV (α0×α1×α2×α3)){P:α0→α1→α2→α3→Prop}{T:Prop}(_:ES P T)(h:P (Em ne P).1 (Em ne P).2.1 (Em ne P).2.2.1 (Em ne P).2.2.2):∀a0 a1 a2 a3,P a0 a1 a2 a3:=QZ ne h
noncomputable def Aw{α0 α1 α2 α3 α4:Type}(ne:FV (α0×α1×α2×α3×α4))(P:α0→α1→α2→α3→α4→Prop):α0×α1×α2×α3×α4:=cx ne λt=>P t.1 t.2.1 t.2.2.1 t.2.2.2.1 t.2.2.2.2
abbrev kQ{α0 α1 α2 α3 α4:Type}(P:α0→α1→α2→α3→α4→Prop):Prop:=∀a0 a1 a2 a3 a4,P a0 a1 a2 a3 a4
theorem RA{α0 α1 α2 α3 α4:Type}(ne:FV (α0×α1×α2×α3×α4)){P:α0→α1→α2→α3→α4→Prop}(h:P (Aw ne P).1 (Aw ne P).2.1 (Aw ne P).2.2.1 (Aw ne P).2.2.2.1 (Aw ne P).2.2.2.2):∀a0 a1 a2 a3 a4,P a0 a1 a2 a3 a4:=λa0 a1 a2 a3 a4=>HF ne (P:=λt=>P t.1 t.2.1 t.2.2.1 t.2.2.2.1 t.2.2.2.2) h (a0,a1,a2,a3,a4)
theorem UR{α0 α1 α2 α3 α4:Type}{P:α0→α1→α2→α3→α4→Prop}:ES P (∀a0 a1 a2 a3 a4,P a0 a1 a2 a3 a4):=trivial
theorem LU{α0 α1 α2 α3 α4:Type}(ne:FV (α0×α1×α2×α3×α4)){P:α0→α1→α2→α3→α4→Prop}{T:Prop}(_:ES P T)(h:P (Aw ne P).1 (Aw ne P).2.1 (Aw ne P).2.2.1 (Aw ne P).2.2.2.1 (Aw ne P).2.2.2.2):∀a0 a1 a2 a3 a4,P a0 a1 a2 a3 a4:=RA ne h
noncomputable def wY{α0 α1 α2 α3 α4 α5:Type}(ne:FV (α0×α1×α2×α3×α4×α5))(P:α0→α1→α2→α3→α4→α5→Prop):α0×α1×α2×α3×α4×α5:=cx ne λt=>P t.1 t.2.1 t.2.2.1 t.2.2.2.1 t.2.2.2.2.1 t.2.2.2.2.2
abbrev Be{α0 α1 α2 α3 α4 α5:Type}(P:α0→α1→α2→α3→α4→α5→Prop):Prop:=∀a0 a1 a2 a3 a4 a5,P a0 a1 a2 a3 a4 a5
theorem MU{α0 α1 α2 α3 α4 α5:Type}(ne:FV (α0×α1×α2×α3×α4×α5)){P:α0→α1→α2→α3→α4→α5→Prop}(h:P (wY ne P).1 (wY ne P).2.1 (wY ne P).2.2.1 (wY ne P).2.2.2.1 (wY ne P).2.2.2.2.1 (wY ne P).2.2.2.2.2):∀a0 a1 a2 a3 a4 a5,P a0 a1 a2 a3 a4 a5:=λa0 a1 a2 a3 a4 a5=>HF ne (P:=λt=>P t.1 t.2.1 t.2.2.1 t.2.2.2.1 t.2.2.2.2.1 t.2.2.2.2.2) h (a0,a1,a2,a3,a4,a5)
theorem kG{α0 α1 α2 α3 α4 α5:Type}{P:α0→α1→α2→α3→α4→α5→Prop}:ES P (∀a0 a1 a2 a3 a4 a5,P a0 a1 a2 a3 a4 a5):=trivial
theorem SJ{α0 α1 α2 α3 α4 α5:Type}(ne:FV (α0×α1×α2×α3×α4×α5)){P:α0→α1→α2→α3→α4→α5→Prop}{T:Prop}(_:ES P T)(h:P (wY ne P).1 (wY ne P).2.1 (wY ne P).2.2.1 (wY ne P).2.2.2.1 (wY ne P).2.2.2.2.1 (wY ne P).2.2.2.2.2):∀a0 a1 a2 a3 a4 a5,P a0 a1 a2 a3 a4 a5:=MU ne h
noncomputable def sD{α0 α1 α2 α3 α4 α5 α6:Type}(ne:FV (α0×α1×α2×α3×α4×α5×α6))(P:α0→α1→α2→α3→α4→α5→α6→Prop):α0×α1×α2×α3×α4×α5×α6:=cx ne λt=>P t.1 t.2.1 t.2.2.1 t.2.2.2.1 t.2.2.2.2.1 t.2.2.2.2.2.1 t.2.2.2.2.2.2
abbrev An{α0 α1 α2 α3 α4 α5 α6:Type}(P:α0→α1→α2→α3→α4→α5→α6→Prop):Prop:=∀a0 a1 a2 a3 a4 a5 a6,P a0 a1 a2 a3 a4 a5 a6
theorem RB{α0 α1 α2 α3 α4 α5 α6:Type}(ne:FV (α0×α1×α2×α3×α4×α5×α6)){P:α0→α1→α2→α3→α4→α5→α6→Prop}(h:P (sD ne P).1 (sD ne P).2.1 (sD ne P).2.2.1 (sD ne P).2.2.2.1 (sD ne P).2.2.2.2.1 (sD ne P).2.2.2.2.2.1 (sD ne P).2.2.2.2.2.2):∀a0 a1 a2 a3 a4 a5 a6,P a0 a1 a2 a3 a4 a5 a6:=λa0 a1 a2 a3 a4 a5 a6=>HF ne (P:=λt=>P t.1 t.2.1 t.2.2.1 t.2.2.2.1 t.2.2.2.2.1 t.2.2.2.2.2.1 t.2.2.2.2.2.2) h (a0,a1,a2,a3,a4,a5,a6)
theorem gB{α0 α1 α2 α3 α4 α5 α6:Type}{P:α0→α1→α2→α3→α4→α5→α6→Prop}:ES P (∀a0 a1 a2 a3 a4 a5 a6,P a0 a1 a2 a3 a4 a5 a6):=trivial
theorem RC{α0 α1 α2 α3 α4 α5 α6:Type}(ne:FV (α0×α1×α2×α3×α4×α5×α6)){P:α0→α1→α2→α3→α4→α5→α6→Prop}{T:Prop}(_:ES P T)(h:P (sD ne P).1 (sD ne P).2.1 (sD ne P).2.2.1 (sD ne P).2.2.2.1 (sD ne P).2.2.2.2.1 (sD ne P).2.2.2.2.2.1 (sD ne P).2.2.2.2.2.2):∀a0 a1 a2 a3 a4 a5 a6,P a0 a1 a2 a3 a4 a5 a6:=RB ne h
noncomputable def pJ{α0 α1 α2 α3 α4 α5 α6 α7:Type}(ne:FV (α0×α1×α2×α3×α4×α5×α6×α7))(P:α0→α1→α2→α3→α4→α5→α6→α7→Prop):α0×α1×α2×α3×α4×α5×α6×α7:=cx ne λt=>P t.1 t.2.1 t.2.2.1 t.2.2.2.1 t.2.2.2.2.1 t.2.2.2.2.2.1 t.2.2.2.2.2.2.1 t.2.2.2.2.2.2.2
abbrev Bf{α0 α1 α2 α3 α4 α5 α6 α7:Type}(P:α0→α1→α2→α3→α4→α5→α6→α7→Prop):Prop:=∀a0 a1 a2 a3 a4 a5 a6 a7,P a0 a1 a2 a3 a4 a5 a6 a7
theorem BK{α0 α1 α2 α3 α4 α5 α6 α7:Type}(ne:FV (α0×α1×α2×α3×α4×α5×α6×α7)){P:α0→α1→α2→α3→α4→α5→α6→α7→Prop}(h:P (pJ ne P).1 (pJ ne P).2.1 (pJ ne P).2.2.1 (pJ ne P).2.2.2.1 (pJ ne P).2.2.2.2.1 (pJ ne P).2.2.2.2.2.1 (pJ ne P).2.2.2.2.2.2.1 (pJ ne P).2.2.2.2.2.2.2):∀a0 a1 a2 a3 a4 a5 a6 a7,P a0 a1 a2 a3 a4 a5 a6 a7:=λa0 a1 a2 a3 a4 a5 a6 a7=>HF ne (P:=λt=>P t.1 t.2.1 t.2.2.1 t.2.2.2.1 t.2.2.2.2.1 t.2.2.2.2.2.1 t.2.2.2.2.2.2.1 t.2.2.2.2.2.2.2) h (a0,a1,a2,a3,a4,a5,a6,a7)
theorem kI{α0 α1 α2 α3 α4 α5 α6 α7:Type}{P:α0→α1→α2→α3→α4→α5→α6→α7→Prop}:ES P (∀a0 a1 a2 a3 a4 a5 a6 a7,P a0 a1 a2 a3 a4 a5 a6 a7):=trivial
theorem SK{α0 α1 α2 α3 α4 α5 α6 α7:Type}(ne:FV (α0×α1×α2×α3×α4×α5×α6×α7)){P:α0→α1→α2→α3→α4→α5→α6→α7→Prop}{T:Prop}(_:ES P T)(h:P (pJ ne P).1 (pJ ne P).2.1 (pJ ne P).2.2.1 (pJ ne P).2.2.2.1 (pJ ne P).2.2.2.2.1 (pJ ne P).2.2.2.2.2.1 (pJ ne P).2.2.2.2.2.2.1 (pJ ne P).2.2.2.2.2.2.2):∀a0 a1 a2 a3 a4 a5 a6 a7,P a0 a1 a2 a3 a4 a5 a6 a7:=BK ne h
theorem DM{α:Type}[Ao α]:FV α:=⟨default⟩
theorem neS:FV AG:=⟨{}⟩
theorem JS{β:Type}[Ao β]:FV (AG×β):=⟨({},default)⟩
theorem GM{β:Type}[Ao β](w:FV BU):FV (BU×BQ×AG×β):=w.elim λw=>⟨(w,{},{},default)⟩
theorem KF:FV BU:=⟨⟨λ_ _=>0,{ strHash:=λ_=>0,shareClass:=λ_=>0,mergeTok:=λt=>t,idOf:=λ_=>0,idOfShared:=λ_ _=>0,followText:=λ_=>AU,idOfImm:=λ_=>0 }⟩⟩
theorem HG{a b:AH}{l:AE AH}(h:a∉b::l):¬a=b:=λe=>h (e ▸ .head _)
theorem EJ{a b:AH}{l:AE AH}(h:a∉b::l):a∉l:=λm=>h (.tail _ m)
theorem EF{a:AH}{l:AE AH}(h:(a::l).Nodup):a∉l:=(DF.mp h).1
theorem CB{a:AH}{l:AE AH}(h:(a::l).Nodup):l.Nodup:=(DF.mp h).2
theorem ndk4{a0 a1 a2 a3:AH}{G:Prop}(nd:([a0,a1,a2,a3]:AE AH).Nodup)(h:¬a0=a1→¬a0=a2→¬a0=a3→¬a1=a2→¬a1=a3→¬a2=a3→G):G :=
 h (HG (EF nd)) (HG (EJ (EF nd))) (HG (EJ (EJ (EF nd)))) (HG (EF (CB nd))) (HG (EJ (EF (CB nd)))) (HG (EF (CB (CB nd))))
theorem ndk5{a0 a1 a2 a3 a4:AH}{G:Prop}(nd:([a0,a1,a2,a3,a4]:AE AH).Nodup)(h:¬a0=a1→¬a0=a2→¬a0=a3→¬a0=a4→¬a1=a2→¬a1=a3→¬a1=a4→¬a2=a3→¬a2=a4→¬a3=a4→G):G :=
 h (HG (EF nd)) (HG (EJ (EF nd))) (HG (EJ (EJ (EF nd)))) (HG (EJ (EJ (EJ (EF nd))))) (HG (EF (CB nd))) (HG (EJ (EF (CB nd)))) (HG (EJ (EJ (EF (CB nd))))) (HG (EF (CB (CB nd)))) (HG (EJ (EF (CB (CB nd))))) (HG (EF (CB (CB (CB nd)))))
theorem ndk6{a0 a1 a2 a3 a4 a5:AH}{G:Prop}(nd:([a0,a1,a2,a3,a4,a5]:AE AH).Nodup)(h:¬a0=a1→¬a0=a2→¬a0=a3→¬a0=a4→¬a0=a5→¬a1=a2→¬a1=a3→¬a1=a4→¬a1=a5→¬a2=a3→¬a2=a4→¬a2=a5→¬a3=a4→¬a3=a5→¬a4=a5→G):G :=
 h (HG (EF nd)) (HG (EJ (EF nd))) (HG (EJ (EJ (EF nd)))) (HG (EJ (EJ (EJ (EF nd))))) (HG (EJ (EJ (EJ (EJ (EF nd)))))) (HG (EF (CB nd))) (HG (EJ (EF (CB nd)))) (HG (EJ (EJ (EF (CB nd))))) (HG (EJ (EJ (EJ (EF (CB nd)))))) (HG (EF (CB (CB nd)))) (HG (EJ (EF (CB (CB nd))))) (HG (EJ (EJ (EF (CB (CB nd)))))) (HG (EF (CB (CB (CB nd))))) (HG (EJ (EF (CB (CB (CB nd)))))) (HG (EF (CB (CB (CB (CB nd))))))
theorem ndk7{a0 a1 a2 a3 a4 a5 a6:AH}{G:Prop}(nd:([a0,a1,a2,a3,a4,a5,a6]:AE AH).Nodup)(h:¬a0=a1→¬a0=a2→¬a0=a3→¬a0=a4→¬a0=a5→¬a0=a6→¬a1=a2→¬a1=a3→¬a1=a4→¬a1=a5→¬a1=a6→¬a2=a3→¬a2=a4→¬a2=a5→¬a2=a6→¬a3=a4→¬a3=a5→¬a3=a6→¬a4=a5→¬a4=a6→¬a5=a6→G):G :=
 h (HG (EF nd)) (HG (EJ (EF nd))) (HG (EJ (EJ (EF nd)))) (HG (EJ (EJ (EJ (EF nd))))) (HG (EJ (EJ (EJ (EJ (EF nd)))))) (HG (EJ (EJ (EJ (EJ (EJ (EF nd))))))) (HG (EF (CB nd))) (HG (EJ (EF (CB nd)))) (HG (EJ (EJ (EF (CB nd))))) (HG (EJ (EJ (EJ (EF (CB nd)))))) (HG (EJ (EJ (EJ (EJ (EF (CB nd))))))) (HG (EF (CB (CB nd)))) (HG (EJ (EF (CB (CB nd))))) (HG (EJ (EJ (EF (CB (CB nd)))))) (HG (EJ (EJ (EJ (EF (CB (CB nd))))))) (HG (EF (CB (CB (CB nd))))) (HG (EJ (EF (CB (CB (CB nd)))))) (HG (EJ (EJ (EF (CB (CB (CB nd))))))) (HG (EF (CB (CB (CB (CB nd)))))) (HG (EJ (EF (CB (CB (CB (CB nd))))))) (HG (EF (CB (CB (CB (CB (CB nd)))))))
theorem ndk8{a0 a1 a2 a3 a4 a5 a6 a7:AH}{G:Prop}(nd:([a0,a1,a2,a3,a4,a5,a6,a7]:AE AH).Nodup)(h:¬a0=a1→¬a0=a2→¬a0=a3→¬a0=a4→¬a0=a5→¬a0=a6→¬a0=a7→¬a1=a2→¬a1=a3→¬a1=a4→¬a1=a5→¬a1=a6→¬a1=a7→¬a2=a3→¬a2=a4→¬a2=a5→¬a2=a6→¬a2=a7→¬a3=a4→¬a3=a5→¬a3=a6→¬a3=a7→¬a4=a5→¬a4=a6→¬a4=a7→¬a5=a6→¬a5=a7→¬a6=a7→G):G :=
 h (HG (EF nd)) (HG (EJ (EF nd))) (HG (EJ (EJ (EF nd)))) (HG (EJ (EJ (EJ (EF nd))))) (HG (EJ (EJ (EJ (EJ (EF nd)))))) (HG (EJ (EJ (EJ (EJ (EJ (EF nd))))))) (HG (EJ (EJ (EJ (EJ (EJ (EJ (EF nd)))))))) (HG (EF (CB nd))) (HG (EJ (EF (CB nd)))) (HG (EJ (EJ (EF (CB nd))))) (HG (EJ (EJ (EJ (EF (CB nd)))))) (HG (EJ (EJ (EJ (EJ (EF (CB nd))))))) (HG (EJ (EJ (EJ (EJ (EJ (EF (CB nd)))))))) (HG (EF (CB (CB nd)))) (HG (EJ (EF (CB (CB nd))))) (HG (EJ (EJ (EF (CB (CB nd)))))) (HG (EJ (EJ (EJ (EF (CB (CB nd))))))) (HG (EJ (EJ (EJ (EJ (EF (CB (CB nd)))))))) (HG (EF (CB (CB (CB nd))))) (HG (EJ (EF (CB (CB (CB nd)))))) (HG (EJ (EJ (EF (CB (CB (CB nd))))))) (HG (EJ (EJ (EJ (EF (CB (CB (CB nd)))))))) (HG (EF (CB (CB (CB (CB nd)))))) (HG (EJ (EF (CB (CB (CB (CB nd))))))) (HG (EJ (EJ (EF (CB (CB (CB (CB nd)))))))) (HG (EF (CB (CB (CB (CB (CB nd))))))) (HG (EJ (EF (CB (CB (CB (CB (CB nd)))))))) (HG (EF (CB (CB (CB (CB (CB (CB nd))))))))
theorem ndk10{a0 a1 a2 a3 a4 a5 a6 a7 a8 a9:AH}{G:Prop}(nd:([a0,a1,a2,a3,a4,a5,a6,a7,a8,a9]:AE AH).Nodup)(h:¬a0=a1→¬a0=a2→¬a0=a3→¬a0=a4→¬a0=a5→¬a0=a6→¬a0=a7→¬a0=a8→¬a0=a9→¬a1=a2→¬a1=a3→¬a1=a4→¬a1=a5→¬a1=a6→¬a1=a7→¬a1=a8→¬a1=a9→¬a2=a3→¬a2=a4→¬a2=a5→¬a2=a6→¬a2=a7→¬a2=a8→¬a2=a9→¬a3=a4→¬a3=a5→¬a3=a6→¬a3=a7→¬a3=a8→¬a3=a9→¬a4=a5→¬a4=a6→¬a4=a7→¬a4=a8→¬a4=a9→¬a5=a6→¬a5=a7→¬a5=a8→¬a5=a9→¬a6=a7→¬a6=a8→¬a6=a9→¬a7=a8→¬a7=a9→¬a8=a9→G):G :=
 h (HG (EF nd)) (HG (EJ (EF nd))) (HG (EJ (EJ (EF nd)))) (HG (EJ (EJ (EJ (EF nd))))) (HG (EJ (EJ (EJ (EJ (EF nd)))))) (HG (EJ (EJ (EJ (EJ (EJ (EF nd))))))) (HG (EJ (EJ (EJ (EJ (EJ (EJ (EF nd)))))))) (HG (EJ (EJ (EJ (EJ (EJ (EJ (EJ (EF nd))))))))) (HG (EJ (EJ (EJ (EJ (EJ (EJ (EJ (EJ (EF nd)))))))))) (HG (EF (CB nd))) (HG (EJ (EF (CB nd)))) (HG (EJ (EJ (EF (CB nd))))) (HG (EJ (EJ (EJ (EF (CB nd)))))) (HG (EJ (EJ (EJ (EJ (EF (CB nd))))))) (HG (EJ (EJ (EJ (EJ (EJ (EF (CB nd)))))))) (HG (EJ (EJ (EJ (EJ (EJ (EJ (EF (CB nd))))))))) (HG (EJ (EJ (EJ (EJ (EJ (EJ (EJ (EF (CB nd)))))))))) (HG (EF (CB (CB nd)))) (HG (EJ (EF (CB (CB nd))))) (HG (EJ (EJ (EF (CB (CB nd)))))) (HG (EJ (EJ (EJ (EF (CB (CB nd))))))) (HG (EJ (EJ (EJ (EJ (EF (CB (CB nd)))))))) (HG (EJ (EJ (EJ (EJ (EJ (EF (CB (CB nd))))))))) (HG (EJ (EJ (EJ (EJ (EJ (EJ (EF (CB (CB nd)))))))))) (HG (EF (CB (CB (CB nd))))) (HG (EJ (EF (CB (CB (CB nd)))))) (HG (EJ (EJ (EF (CB (CB (CB nd))))))) (HG (EJ (EJ (EJ (EF (CB (CB (CB nd)))))))) (HG (EJ (EJ (EJ (EJ (EF (CB (CB (CB nd))))))))) (HG (EJ (EJ (EJ (EJ (EJ (EF (CB (CB (CB nd)))))))))) (HG (EF (CB (CB (CB (CB nd)))))) (HG (EJ (EF (CB (CB (CB (CB nd))))))) (HG (EJ (EJ (EF (CB (CB (CB (CB nd)))))))) (HG (EJ (EJ (EJ (EF (CB (CB (CB (CB nd))))))))) (HG (EJ (EJ (EJ (EJ (EF (CB (CB (CB (CB nd)))))))))) (HG (EF (CB (CB (CB (CB (CB nd))))))) (HG (EJ (EF (CB (CB (CB (CB (CB nd)))))))) (HG (EJ (EJ (EF (CB (CB (CB (CB (CB nd))))))))) (HG (EJ (EJ (EJ (EF (CB (CB (CB (CB (CB nd)))))))))) (HG (EF (CB (CB (CB (CB (CB (CB nd)))))))) (HG (EJ (EF (CB (CB (CB (CB (CB (CB nd))))))))) (HG (EJ (EJ (EF (CB (CB (CB (CB (CB (CB nd)))))))))) (HG (EF (CB (CB (CB (CB (CB (CB (CB nd))))))))) (HG (EJ (EF (CB (CB (CB (CB (CB (CB (CB nd)))))))))) (HG (EF (CB (CB (CB (CB (CB (CB (CB (CB nd))))))))))
theorem qN{a b c d e:AH}{l:AE AH}(nd:(a::b::c::d::e::l).Nodup):([a,b,c,d,e]:AE AH).Nodup:=(DP.mp (show([a,b,c,d,e]++l).Nodup from nd)).1
theorem BM{a b:AH}{l:AE AH}(h:a≠b)(t:a∉l):a∉b::l:=λz=>by
 cases z with
 |head=>exact h rfl
 |tail _ z=>exact t z
theorem GC{a:AH}:a∉([]:AE AH):=λz=>nomatch z
theorem ndm7{a0 a1 a2 a3 a4 a5 a6:AH}(n0_1:¬a0=a1)(n0_2:¬a0=a2)(n0_3:¬a0=a3)(n0_4:¬a0=a4)(n0_5:¬a0=a5)(n0_6:¬a0=a6)(n1_2:¬a1=a2)(n1_3:¬a1=a3)(n1_4:¬a1=a4)(n1_5:¬a1=a5)(n1_6:¬a1=a6)(n2_3:¬a2=a3)(n2_4:¬a2=a4)(n2_5:¬a2=a5)(n2_6:¬a2=a6)(n3_4:¬a3=a4)(n3_5:¬a3=a5)(n3_6:¬a3=a6)(n4_5:¬a4=a5)(n4_6:¬a4=a6)(n5_6:¬a5=a6):([a0,a1,a2,a3,a4,a5,a6]:AE AH).Nodup :=
 (DF.mpr ⟨(BM n0_1 (BM n0_2 (BM n0_3 (BM n0_4 (BM n0_5 (BM n0_6 GC)))))),(DF.mpr ⟨(BM n1_2 (BM n1_3 (BM n1_4 (BM n1_5 (BM n1_6 GC))))),(DF.mpr ⟨(BM n2_3 (BM n2_4 (BM n2_5 (BM n2_6 GC)))),(DF.mpr ⟨(BM n3_4 (BM n3_5 (BM n3_6 GC))),(DF.mpr ⟨(BM n4_5 (BM n4_6 GC)),(DF.mpr ⟨(BM n5_6 GC),(DF.mpr ⟨GC,NJ⟩)⟩)⟩)⟩)⟩)⟩)⟩)
theorem HD{a b:AH}{l:AE AH}(h:a∉l)(m:b∈l):a≠b:=λe=>h (e ▸ m)
theorem gT{a:AH}{own tabs:AE (AH×CY)}(h:∀q∈own,q.1≠a)(h2:∀q∈tabs,q.1≠a):a∉(own++tabs).map (·.1):=λz=>by
 obtain⟨r,hr,e⟩:=CO.mp z;rcases AT.mp hr with q|q
 ·exact h r q e
 ·exact h2 r q e
theorem mO{ds:AE (AX×DW)}(h:¬ds=[]):(!(AF ds).toArray.isEmpty)=BC:=by
 cases ds with
 |nil=>exact absurd rfl h
 |cons=>rfl
theorem ST{d a:AH}{o:CY}{news:AE (AH×CY)}(l:∀p∈news,p.1<d)(h:(a,o)∈news):a≠d:=AO (l _ h)
theorem SS{d a:AH}{o:CY}{news:AE (AH×CY)}(l:∀p∈news,p.1<d)(h:(a,o)∈news):d≠a:=AJ (l _ h)
theorem XX{α:Type}{R:α→Prop}{G:Prop}(h:∀a,R a→G):(∃a,R a)→G:=λe=>e.elim h
theorem VP{α0 α1:Type}{R:α0→α1→Prop}{G:Prop}(h:∀a0 a1,R a0 a1→G):(∃a0 a1,R a0 a1)→G:=XX λa=>XX (h a)
theorem fV{α0 α1 α2:Type}{R:α0→α1→α2→Prop}{G:Prop}(h:∀a0 a1 a2,R a0 a1 a2→G):(∃a0 a1 a2,R a0 a1 a2)→G:=XX λa=>VP (h a)
theorem uD{α0 α1 α2 α3:Type}{R:α0→α1→α2→α3→Prop}{G:Prop}(h:∀a0 a1 a2 a3,R a0 a1 a2 a3→G):(∃a0 a1 a2 a3,R a0 a1 a2 a3)→G:=XX λa=>fV (h a)
theorem Ca{α0 α1 α2 α3 α4:Type}{R:α0→α1→α2→α3→α4→Prop}{G:Prop}(h:∀a0 a1 a2 a3 a4,R a0 a1 a2 a3 a4→G):(∃a0 a1 a2 a3 a4,R a0 a1 a2 a3 a4)→G:=XX λa=>uD (h a)
theorem exi6{α0 α1 α2 α3 α4 α5:Type}{R:α0→α1→α2→α3→α4→α5→Prop}{G:Prop}(h:∀a0 a1 a2 a3 a4 a5,R a0 a1 a2 a3 a4 a5→G):(∃a0 a1 a2 a3 a4 a5,R a0 a1 a2 a3 a4 a5)→G:=XX λa=>Ca (h a)
theorem exi7{α0 α1 α2 α3 α4 α5 α6:Type}{R:α0→α1→α2→α3→α4→α5→α6→Prop}{G:Prop}(h:∀a0 a1 a2 a3 a4 a5 a6,R a0 a1 a2 a3 a4 a5 a6→G):(∃a0 a1 a2 a3 a4 a5 a6,R a0 a1 a2 a3 a4 a5 a6)→G:=XX λa=>exi6 (h a)
theorem exi8{α0 α1 α2 α3 α4 α5 α6 α7:Type}{R:α0→α1→α2→α3→α4→α5→α6→α7→Prop}{G:Prop}(h:∀a0 a1 a2 a3 a4 a5 a6 a7,R a0 a1 a2 a3 a4 a5 a6 a7→G):(∃a0 a1 a2 a3 a4 a5 a6 a7,R a0 a1 a2 a3 a4 a5 a6 a7)→G:=XX λa=>exi7 (h a)
theorem exs1{σ α0:Type}{R:σ→α0→Prop}{G:σ→Prop}(h:∀s a0,R s a0→G s):∀s,(∃a0,R s a0)→G s:=λs=>XX (h s)
theorem exs2{σ α0 α1:Type}{R:σ→α0→α1→Prop}{G:σ→Prop}(h:∀s a0 a1,R s a0 a1→G s):∀s,(∃a0 a1,R s a0 a1)→G s:=λs=>VP (h s)
theorem uF{σ α0 α1 α2:Type}{R:σ→α0→α1→α2→Prop}{G:σ→Prop}(h:∀s a0 a1 a2,R s a0 a1 a2→G s):∀s,(∃a0 a1 a2,R s a0 a1 a2)→G s:=λs=>fV (h s)
theorem exs4{σ α0 α1 α2 α3:Type}{R:σ→α0→α1→α2→α3→Prop}{G:σ→Prop}(h:∀s a0 a1 a2 a3,R s a0 a1 a2 a3→G s):∀s,(∃a0 a1 a2 a3,R s a0 a1 a2 a3)→G s:=λs=>uD (h s)
theorem exs8{σ α0 α1 α2 α3 α4 α5 α6 α7:Type}{R:σ→α0→α1→α2→α3→α4→α5→α6→α7→Prop}{G:σ→Prop}(h:∀s a0 a1 a2 a3 a4 a5 a6 a7,R s a0 a1 a2 a3 a4 a5 a6 a7→G s):∀s,(∃a0 a1 a2 a3 a4 a5 a6 a7,R s a0 a1 a2 a3 a4 a5 a6 a7)→G s:=λs=>exi8 (h s)
theorem OD{M:QV}{A:BQ}{m:kZ WG}{R:AG→Prop}{Q:WG→AG→Prop}{E:AC→AG→Prop}{s:AG}
  (h1:AI M A m (λf s'=>f=.next∧R s') E s) (h2:∀s',R s'→Q .next s'):AI M A m Q E s :=
 DI h1 (λ_ _⟨e,r⟩=>e ▸ h2 _ r) λ_ _ z=>z
theorem OB{x:AX}{K:CC}(h:x.length≤K)(hs:Bl K 16777216=BC):x.length≤DA:=AQ h (AQ (CP hs) (by rw[BI];exact CR _))
theorem OC:AW.length≤0:=CR _
end Mine
namespace Mine
open PySem.Calls
theorem HK{M:QV}{A:BQ}{α:Type}{m:kZ α}{Q:α→AG→Prop}{E:AC→AG→Prop}{s:AG}
  (h:∀(Q':α→AG→Prop)(E':AC→AG→Prop),(∀v s,Q v s→Q' v s)→(∀e s,E e s→E' e s)→AI M A m Q' E' s):AI M A m Q E s :=
 h Q E (λ_ _ z=>z) (λ_ _ z=>z)
end Mine
namespace Mine

local macro_rules | `(tactic| o_law)=>`(tactic| refine holds_law (by decide +kernel) λsaid=>?_)
open_top hd07 for PySem.Challenge.rw_dn0283_07
end Mine
namespace Mine
open PySem.Calls
section
variable{M:QV}{A:BQ}{R:GenEnd}{Y:tJ}{n:CC}{s₀:AG}{c:Code}{fs:AE Frame}{s:AG}{env:XH}
 {K:WG→kZ Fin} {H:AC→kZ Fin} {gd:CZ→CZ} {lv:AE AC→AE AC}
theorem HS{α β:Type}{m:kZ α}{f:α→kZ β}{K:β→kZ Fin}
  (h:AI M (A.over c fs) m (λa s'=>iP M A R Y n s₀ c ((f a).wrap K H gd lv) fs s') (λ_ _=>NF) s) :
  iP M A R Y n s₀ c ((m>>=f).wrap K H gd lv) fs s:=by
 rw[iQ,xI]
 exact seg_wrap (DI h (λ_ _ x=>x) λ_ _ x=>x.elim)
theorem IS{α:Type}{m:kZ α}{f:α→kZ Fin}
  (h:AI M (A.over c fs) m (λa s'=>iP M A R Y n s₀ c (f a) fs s') (λ_ _=>NF) s) :
  iP M A R Y n s₀ c (m>>=f) fs s:=seg_bind (DI h (λ_ _ x=>x) λ_ _ x=>x.elim)
theorem seg_If{test:Expr}{body orelse:AE cP}{pos:OP}
  (h:AI M (A.over c fs) (isTrue test env (eval test env)) (λb s'=>if b=BC then iP M A R Y n s₀ c ((EZ body env).wrap K H gd lv) fs s' else iP M A R Y n s₀ c ((EZ orelse env).wrap K H gd lv) fs s') (λ_ _=>NF) s) :
  iP M A R Y n s₀ c ((exec (.If test body orelse pos) env).wrap K H gd lv) fs s:=by
 show iP M A R Y n s₀ c ((PJ pos>>=λ_=>isTrue test env (eval test env)>>=λb=>if b=BC then EZ body env else EZ orelse env).wrap K H gd lv) fs s
 refine HS (EQ (HS (DI h (λb s' hb=>?_) λ_ _ x=>x)))
 cases b with
 |true=>rw[DJ rfl] at hb ⊢;exact hb
 |false=>rw[CA DE] at hb ⊢;exact hb
theorem fY{e:Expr}{ypos pos:OP}(hi:interactive env=AU)
  (h:AI M (A.over c fs) (eval e env) (λv s₁=>AI M (A.over c fs) (typeOf v) (λt s₂=>(t==.type "coroutine")=AU∧AI M (A.over c fs) (IY v) (λit s₃ =>
    ∀k p,(k (.ok (.ret .none))=K .next)→iP M A R Y n s₀ (.builtin "proto.yield_from" ⟨[it,.bool AU,.none],[]⟩) (M.den (.builtin "proto.yield_from" ⟨[it,.bool AU,.none],[]⟩))
     (.ret k BN (gd AU) (lv []) c p []::fs) s₃) (λ_ _=>NF) s₂) (λ_ _=>NF) s₁) (λ_ _=>NF) s) :
  iP M A R Y n s₀ c ((exec (.Expr (.YieldFrom e ypos) pos) env).wrap K H gd lv) fs s:=by
 rw[exec_Expr env _ pos hi rfl]
 show iP M A R Y n s₀ c ((PJ pos>>=λ_=>(eval e env>>=λv=>(PJ ypos>>=λ_=>yieldFrom env v))>>=λx =>
  dropValue (.YieldFrom e ypos) pos x).wrap K H gd lv) fs s
 refine HS (EQ ?_)
 rw[iQ,xI]
 refine HS (DI h (λv s₁ h₁=>?_) λ_ _ x=>x)
 refine HS (EQ ?_)
 unfold yieldFrom
 refine HS (DI h₁ (λt s₂ h₂=>?_) λ_ _ x=>x)
 rw[h₂.1,CA DE]
 refine HS (CI (DI h₂.2 (λit s₃ h₃=>?_) λ_ _ x=>x))
 refine seg_call λp=>h₃ _ p ?_;rfl
theorem Do{target iter:Expr}{body orelse:AE cP}{pos:OP}(hfold:∀x,HJ iter env x=pure x)
  (h:AI M (A.over c fs) (eval iter env) (λx s₁=>AI M (A.over c fs) (IY x) (λit s₂ =>
    ∀k p,(k (.ok .next)=K .next)→iP M A R Y n s₀ (.forLoop target it body orelse env) (M.den (.forLoop target it body orelse env))
     (.ret k BN (gd AU) (lv []) c p []::fs) s₂) (λ_ _=>NF) s₁) (λ_ _=>NF) s) :
  iP M A R Y n s₀ c ((exec (.For target iter body orelse pos) env).wrap K H gd lv) fs s:=by
 show iP M A R Y n s₀ c ((PJ pos>>=λ_=>eval iter env>>=λy=>HJ iter env y>>=λx=>PJ iter.pos>>=λ_=>holding [x] (IY x)>>=λit=>runOwn (.forLoop target it body orelse env) env).wrap K H gd lv) fs s
 refine HS (EQ (HS (DI h (λx s₁ h₁=>?_) λ_ _ x=>x)))
 rw[hfold]
 refine HS (Wp (HS (EQ (HS (CI (DI h₁ (λit s₂ h₂=>?_) λ_ _ x=>x))))))
 exact seg_call λp=>h₂ _ p rfl
end
section
variable{prog:BH}{w:BU}{A:BQ}{R:GenEnd}{Y:tJ}{n:CC}{s₀:AG}{fs:AE Frame}{s:AG}{env:XH}
theorem aV{x:AX}{px:OP}{it:AC}{body:AE cP}
  (h:AI (BE prog w) (A.over (.forLoop (.Name x px) it body [] env) fs) (OT it) (λr s₁=>match r with
   |none=>∀c',iP (BE prog w) A R Y n s₀ c' (leafOf (.ok .next)) fs s₁
   |some v=>AI (BE prog w) (A.over (.forLoop (.Name x px) it body [] env) fs) (assign (.Name x px) env v) (λ_ s₂=>∀K' H',(K' GI=.pure (.again (.forLoop (.Name x px) it body [] env))) →
     iP (BE prog w) A R Y n s₀ (.forLoop (.Name x px) it body [] env) ((EZ body env).wrap K' H' id id) fs s₂) (λ_ _=>NF) s₁) (λ_ _=>NF) s) :
  iP (BE prog w) A R Y n s₀ (.forLoop (.Name x px) it body [] env) ((BE prog w).den (.forLoop (.Name x px) it body [] env)) fs s:=by
 show iP _ A R Y n s₀ _ ((forTurn (.Name x px) it body [] env).onRaise (λx=>do Ax x env;rO x)) fs s;unfold forTurn;rw[kZ.onRaise_eq_wrap]
 refine HS (EQ (HS (wpAny_onRaise (DI h (λr s₁ h₁=>?_) λ_ _ z=>z.elim))))
 cases r with
 |none =>
  dsimp only at h₁ ⊢;refine Ay rfl ?_;exact h₁ _
 |some v =>
  dsimp only at h₁ ⊢
  refine HS (Wp (HS (DI h₁ (λ_ s₂ h₂=>?_) λ_ _ z=>z)))
  rw[iQ,xI];exact h₂ _ _ rfl
end
end Mine
namespace Mine
open PySem.Calls
theorem xV:bS table "proto.yield_from"=AK IE.«proto.yield_from»:=WR (by kernel_rfl)
theorem xR{prog:BH}{w:BU}{id:String}{b:IE}(h:bS table id=AK b)(args:Args):(BE prog w).den (.builtin id args)=b args:=by
 show(match bS table id with|some b=>b args|none=>unsupported ((withoutEnding? id "#data").getD id))=_;rw[h]
theorem xS{prog:BH}{w:BU}(args:Args):(BE prog w).den (.builtin "proto.yield_from" args)=IE.«proto.yield_from» args:=xR xV args
theorem qJ:YV (.type "list_iterator") "close"=pure BN:=by rw[KI,HM];kernel_rfl
theorem nV{M:QV}{A:BQ}{E:AC→AG→Prop}{s:AG}{it:AH}{o:CY}{b:CZ}{Q:SI→AG→Prop}(ho:s.heap.get? it=AK o)(hc:o.cls=.type "list_iterator")(h:Q () s):AI M A (rW (.ref it) b) Q E s:=by
 unfold rW
 refine Wb (YX ho ?_)
 rw[hc];exact Wp h
section
variable{prog:BH}{w:BU}{A:BQ}{R:GenEnd}{Y:tJ}{n:CC}{s₀:AG}{fs:AE Frame}{s:AG}
theorem nQ{it l:AH}{i:CC}{items:CE AC}{x:AC}(hfs:Gx fs=BN)(hfg:fs.any xC=AU)
  (hit:s.heap.IsListIter it l i) (hl:s.heap.IsList l items) (hx:items[i]?=AK x)
  (h:∀h',h'.IsListIter it l (i+1)→IF it s.heap h'→∀kap:Resume→AG→Prop,
   (∀s'':AG,(∃o,s''.heap.get? it=AK o∧o.cls=.type "list_iterator") →
    iP (BE prog w) A R Y n s'' (.builtin "proto.yield_from" ⟨[.ref it,.bool AU,.none],[]⟩) ((BE prog w).den (.builtin "proto.yield_from" ⟨[.ref it,.bool AU,.none],[]⟩)) fs s''→kap (.send .none) s'') →
   Y n s₀ x { s with heap:=h' } kap) :
  iP (BE prog w) A R Y (n+1) s₀ (.builtin "proto.yield_from" ⟨[.ref it,.bool AU,.none],[]⟩) ((BE prog w).den (.builtin "proto.yield_from" ⟨[.ref it,.bool AU,.none],[]⟩)) fs s:=by
 rw[xS];obtain⟨o,ho,hc,hd⟩:=id hit;obtain⟨ol,hol,_,nl,hdl⟩:=hl;unfold IE.«proto.yield_from»
 refine IS (Wp (a:=DD) ?_)
 refine IS (QQ (CI ?_))
 rw[CA DE,DJ (show(DD==DD)=BC from rfl)]
 refine Wb (JA (Wb (LR (name:=AA "__next__") hit.typeIs TY
  (FM TY hit.typeIs Gh ?_ (Gt _)))))
 show AI _ _ (field (.ref it) 0>>=_) _ _ s
 refine Wb (OX ho hd (x:=.ref l) rfl ?_)
 show AI _ _ (if (AR l==DD)=BC then _ else _) _ _ s;rw[CA (show ¬((AR l==DD)=BC) from DE)];show AI _ _ (field (.ref it) 1>>=_) _ _ s
 refine Wb (OX ho hd (x:=.int i 0) rfl ?_)
 show AI _ _ (seqItems? (.ref l)>>=_) _ _ s
 refine Wb (UC hol hdl ?_)
 simp only[FF,hx]
 have I':(s.heap.update it (xG λx=>x.setIfInBounds 1 (JU ((i:EE)+1)))).IsListIter it l (i+1) :=
  ⟨_,IT _ ho (CY.isFreed_of_fields (Gp hd _)),(CY.cls_mapFields ..).trans hc,by rw[Gp hd];simp[JU]⟩
 refine Wb (wpAny_setField ho hd (by simp) (Wp ⟨x,rfl,Wp ?_⟩))
 obtain⟨o',ho',hc',hd'⟩:=id I';refine IS ?_;refine MD (T:="list_iterator") ⟨o',ho',hc'⟩ ?_;dsimp only;rw[qJ]
 refine IS (Wp (IS (Wp ?_)))
 refine IS (nV ho' hc' ?_)
 refine seg_yield hfs rfl hfg ?_;refine h _ I' (DR ..) _ λs'' hs'' hseg=>?_;obtain⟨o2,ho2,hc2⟩:=hs''
 refine IS (Wp (IS (nV ho2 hc2 ?_)))
 dsimp only
 refine IS (Wp (a:=DD) ?_)
 exact Ay (LZ _ (by decide +kernel)) hseg
theorem rA{it l:AH}{i:CC}{items:CE AC}(hh:(A.over (.builtin "proto.yield_from" ⟨[.ref it,.bool AU,.none],[]⟩) fs).handled=BN)
  (hit:s.heap.IsListIter it l i) (hl:s.heap.IsList l items) (hx:items[i]?=BN)
  (h:∀h' c',LX it s.heap h'→s.heap.objs.size≤h'.objs.size→iP (BE prog w) A R Y n s₀ c' (leafOf (.ok (.ret .none))) fs { s with heap:=h' }) :
  iP (BE prog w) A R Y n s₀ (.builtin "proto.yield_from" ⟨[.ref it,.bool AU,.none],[]⟩) ((BE prog w).den (.builtin "proto.yield_from" ⟨[.ref it,.bool AU,.none],[]⟩)) fs s:=by
 rw[xS];obtain⟨o,ho,hc,hd⟩:=id hit;obtain⟨ol,hol,_,nl,hdl⟩:=hl;unfold IE.«proto.yield_from»
 refine IS (Wp (a:=DD) ?_)
 refine IS (QQ (CI ?_))
 rw[CA DE,DJ (show(DD==DD)=BC from rfl)]
 refine Wb (JA (Wb (LR (name:=AA "__next__") hit.typeIs TY
  (FM TY hit.typeIs Gh ?_ (Gt _)))))
 show AI _ _ (field (.ref it) 0>>=_) _ _ s
 refine Wb (OX ho hd (x:=.ref l) rfl ?_)
 show AI _ _ (if (AR l==DD)=BC then _ else _) _ _ s;rw[CA (show ¬((AR l==DD)=BC) from DE)];show AI _ _ (field (.ref it) 1>>=_) _ _ s
 refine Wb (OX ho hd (x:=.int i 0) rfl ?_)
 show AI _ _ (seqItems? (.ref l)>>=_) _ _ s
 refine Wb (UC hol hdl ?_)
 simp only[FF,hx]
 refine Wb (JA (Wb (wpAny_setField ho hd (by simp) ?_)))
 show AI _ _ (Cx (.type "StopIteration") []>>=_) _ _ _;refine Wb ?_;simp only[Cx,NP]
 refine Wb (GX ?_ (by size_fits))
 refine Wb (m:=PH _ _) (KW (a:=DD) (by first|rfl|(simp only[PH];rfl)) ?_)
 refine GX ?_ (by size_fits)
 unfold Fs;dsimp only
 refine Wb (Al ?_)
 rw[Gj,hh]
 refine Wb (Wp (Fw ?_))
 have he:=CH ((s.heap.update it (xG λx=>x.setIfInBounds 0 DD)).push { cls:=JT "tuple",data:=Data.seq #[] }) (o:={ cls:=JT "StopIteration",data:=Data.fields (#[AR (s.heap.update it (xG λx=>x.setIfInBounds 0 DD)).objs.size,DD,DD,DD,BY AU,DD]++ownMembersOf (JT "StopIteration") []) }) rfl;refine IS ?_;unfold IE.Generator.endsTheTurnAsAValue IE.Generator.isStopAndMetaclass
 refine Wb (Wb (MD (T:="StopIteration") ⟨_,he,rfl⟩ ?_))
 dsimp only;rw[uQ]
 refine Wb (Wp (Wb (Wp (Wp ?_))))
 refine Wp ?_;dsimp only
 refine IS (JA ?_)
 refine IS (OX he rfl (x:=.none) rfl ?_)
 exact h _ _ (((DR ..).extBut.push _).push _) (by rw[FT,FT,(DR ..).1];exact(Nl λhn1=>fk [_] (.e (.a (.a (.s V0) K1) K1) V0 K0) rfl hn1))
end
end Mine
namespace Mine
open PySem.Calls
noncomputable def UJ(o:CY):CZ:=o.cls==.type "list_iterator"||o.cls==.type "list_reverseiterator"
def RJ(B:AH)(h h':CW):Prop:=∀b o,h.get? b=AK o→(b<B∨(b≠B∧UJ o=AU))→h'.get? b=AK o
theorem RJ.refl(B:AH)(h:CW):RJ B h h:=λ_ _ e _=>e
theorem RJ.trans{B:AH}{h h' h'':CW}(x:RJ B h h')(y:RJ B h' h''):RJ B h h'':=λb o e c=>y b o (x b o e c) c
structure Rel (B:AH) (s s':AG):Prop where
 heap:RJ B s.heap s'.heap
 os:s'.os=s.os
 gens:s'.gens=s.gens
theorem Rel.refl(B:AH)(s:AG):Rel B s s:=⟨RJ.refl _ _,rfl,rfl⟩
theorem Rel.trans{B:AH}{s s' s'':AG}(x:Rel B s s')(y:Rel B s' s''):Rel B s s'':=⟨x.heap.trans y.heap,y.os.trans x.os,y.gens.trans x.gens⟩
def Priv(B:AH)(priv:AE (AH×CY)):Prop:=∀p∈priv,B≤p.1∧(p.1=B∨UJ p.2=BC)
noncomputable def LS(B stk:AH)(lvs:AE (AH×CE AC))(h:CW):Prop :=
 stk≠B∧h.IsList stk (lvs.map λp=>.ref p.1).toArray∧∀p∈lvs,p.1≠B∧h.IsList p.1 p.2∧(p.2.size:EE)<2 ^ 63
theorem LS.same{B stk:AH}{lvs:AE (AH×CE AC)}{h h':CW}(x:LS B stk lvs h)(y:RJ B h h'):LS B stk lvs h':=by
 have one:∀a its,a≠B→h.IsList a its→h'.IsList a its:=λa its ha⟨o,ho,hc,hd⟩=>⟨o,y a o ho (.inr ⟨ha,by unfold UJ;rw[hc];rfl⟩),hc,hd⟩;exact⟨x.1,one _ _ x.1 x.2.1,λp hp=>⟨(x.2.2 p hp).1,one _ _ (x.2.2 p hp).1 (x.2.2 p hp).2.1,(x.2.2 p hp).2.2⟩⟩
noncomputable def comes(lvs:AE (AH×CE AC)):AE AC:=(lvs.reverse.map λp=>p.2.toList).flatten
noncomputable def YP(B:AH)(RO:CW→Prop)(items:AE AC):tJ:=λn s₀ v s' kap =>
 (∃rest,rest.length=n∧(v::rest) <:+ items)∧Rel B s₀ s' ∧
 ∃priv,Priv B priv∧(∀p∈priv,s'.heap.get? p.1=AK p.2)∧∀s'':AG,(∀p∈priv,s''.heap.get? p.1=AK p.2)→RO s''.heap→kap (.send .none) s''
noncomputable def RP(B:AH):CC→AG→AG→Prop:=λn s₀ s'=>n=0∧Rel B s₀ s'
theorem CW.Ns.at_{h h':CW}{a:AH}{m:AX→AM AC}{o:CY}(x:h.Ns a m)(e:h.get? a=AK o)(e':h'.get? a=AK o):h'.Ns a m:=by
 obtain⟨o₁,es,ep,ho,r⟩:=x;rw[e] at ho;cases ho;exact⟨o,es,ep,e',r⟩
section
variable{prog:BH}{w:BU}{A:BQ}{s₀ s:AG}{B stk Il l Ir:AH}{lvs:AE (AH×CE AC)}{its:CE AC}{m:AX→AM AC}
theorem vN{k:FE→kZ Fin}{lv:AE AC}{c1:Code}{p1:OP}{fs:AE Frame}{below:AE AC}{oB oR:CY}{items:AE AC}(hh:(A.over (.builtin "proto.yield_from" ⟨[.ref Il,.bool AU,.none],[]⟩) (.ret k BN AU lv c1 p1 []::fs)).handled=BN)
  (hfs:Gx fs=BN) (hfg:fs.any xC=AU) (hl:(l,its)∈lvs) (hIl:B<Il) (hIr:B<Ir) (hne:Ir≠Il) (hRi:UJ oR=BC)
  (done:∀s₀ s:AG,Rel B s₀ s→LS B stk lvs s.heap→s.heap.get? B=AK oB→s.heap.get? Ir=AK oR →
   iP (BE prog w) A (λn s₀ r s₁=>r=.ok (.ret .none)∧RP B n s₀ s₁) (YP B (LS B stk lvs) items) below.length s₀ c1 (k (.ok (.ret .none))) fs s) :
  ∀(r:AE AC)(j:CC),its.toList.drop j=r→(r++below) <:+ items→∀s₀ s:AG,Rel B s₀ s→LS B stk lvs s.heap→s.heap.get? B=AK oB→s.heap.get? Ir=AK oR→s.heap.IsListIter Il l j →
   iP (BE prog w) A (λn s₀ r s₁=>r=.ok (.ret .none)∧RP B n s₀ s₁) (YP B (LS B stk lvs) items) (r++below).length s₀ (.builtin "proto.yield_from" ⟨[.ref Il,.bool AU,.none],[]⟩) ((BE prog w).den (.builtin "proto.yield_from" ⟨[.ref Il,.bool AU,.none],[]⟩)) (.ret k BN AU lv c1 p1 []::fs) s:=by
 intro r
 induction r with
 |nil =>
  intro j hj hsuf s₀ s hrel hst hB hR hit
  have hx:its[j]?=BN:=by
   rw[← FY]
   exact EM (AE.drop_eq_nil_iff.mp hj)
  refine rA hh hit (hst.2.2 _ hl).2.1 hx λh' c' he _=>seg_leaf (.ok (.ret .none)) ?_
  have sm:RJ B s.heap h':=λb o e c=>he b o (λq=>by
   subst q;obtain⟨o',ho',hc',_⟩:=hit;rw[e] at ho';cases ho';rcases c with c|c
   ·exact absurd hIl (fO.mpr (EU c))
   ·have:=c.2;unfold UJ at this;rw[hc'] at this;cases this) e
  refine done _ _ (hrel.trans ⟨sm,rfl,rfl⟩) (hst.same sm) (he _ _ (AO hIl) hB) (he _ _ hne hR)
 |cons v r ih =>
  intro j hj hsuf s₀ s hrel hst hB hR hit
  have hlt:j<its.toList.length:=by
   rcases JC j its.toList.length with q|q
   ·exact q
   ·rw[OZ q] at hj;cases hj
  have hcons:=KA hlt;rw[hj] at hcons
  have hx:its[j]?=AK v:=by
   rw[← FY,BL hlt];exact BW AK (fL hcons).1.symm
  have hr:=(fL hcons).2.symm;refine nQ (n:=(r++below).length) (by simp[Gx,hfs]) (by simp[xC,hfg]) hit (hst.2.2 _ hl).2.1 hx λh' hit' hsb kap hkap=>?_
  have sm:RJ B s.heap h':=λb o e c=>(hsb.2 b (λq=>by
   subst q;obtain⟨o',ho',hc',_⟩:=hit;rw[e] at ho';cases ho';rcases c with c|c
   ·exact absurd hIl (fO.mpr (EU c))
   ·have:=c.2;unfold UJ at this;rw[hc'] at this;cases this)).trans e
  obtain⟨oI,hoI,hcI,hdI⟩:=hit';refine⟨⟨r++below,rfl,hsuf⟩,hrel.trans ⟨sm,rfl,rfl⟩,[(B,oB),(Ir,oR),(Il,oI)],?_,?_,λs'' hp hRO=>hkap s'' ⟨oI,hp (Il,oI) (by k_mem),hcI⟩ ?_⟩
  ·intro p hp
   simp only[AP,AE.mem_nil_iff,OJ] at hp;rcases hp with rfl|rfl|rfl
   ·exact⟨CR _,.inl rfl⟩
   ·exact⟨EU hIr,.inr hRi⟩
   ·exact⟨EU hIl,.inr (by unfold UJ;rw[hcI];rfl)⟩
  ·intro p hp
   simp only[AP,AE.mem_nil_iff,OJ] at hp;rcases hp with rfl|rfl|rfl
   ·exact(hsb.2 _ (AO hIl)).trans hB
   ·exact(hsb.2 _ hne).trans hR
   ·exact hoI
  ·exact ih (j+1) hr ((AE.suffix_cons v (r++below)).trans hsuf) s'' s'' (Rel.refl _ _) hRO (hp (B,oB) (by k_mem)) (hp (Ir,oR) (by k_mem)) ⟨oI,hp (Il,oI) (by k_mem),hcI,hdI⟩
end
end Mine
namespace Mine
open PySem.Calls
theorem aT{B I:AH}{h h':CW}(hI:B<I)(ho:∃o,h.get? I=AK o∧UJ o=BC)(he:LX I h h'):RJ B h h':=λb o e c=>he b o (λq=>by
 subst q;obtain⟨o',ho',hc'⟩:=ho;rw[e] at ho';cases ho';rcases c with c|c
 ·exact absurd hI (fO.mpr (EU c))
 ·rw[hc'] at c;cases c.2) e
theorem bT{B:AH}{h h':CW}(he:IF B h h'):RJ B h h':=λb o e c=>(he.2 b (λq=>by
 subst q;rcases c with c|c
 ·exact absurd c (QJ _)
 ·exact c.1 rfl)).trans e
theorem VE{B:AH}{h:CW}(o:CY):RJ B h (h.push o):=λ_ _ e _=>AV _ e
theorem bR{lvs:AE (AH×CE AC)}{i:CC}{p:AH×CE AC}(h:lvs[i]?=AK p):comes (lvs.take (i+1))=p.2.toList++comes (lvs.take i):=by
 unfold comes;rw[UW,h];simp
section
variable{prog:BH}{w:BU}{A:BQ}{B stk Ir:AH}{lvs:AE (AH×CE AC)}
theorem qZ{env:XH}{px p1 p2 p3 p4 p5:OP}{k:FE→kZ Fin}{lv:AE AC}{c0:Code}{p0:OP}{items:AE AC}
  (hB:env.locals=B) (hk:env.scope.kind=.function) (hl:env.kindOf "namespaces"=AK .local) (hi:interactive env=AU)
  (hp:(env.scope.kind==.class||(env.scope.kind==.module&&env.locals !=env.globals))=AU)
  (hh:A.handled=BN) (hIr:B<Ir)
  (done:∀s₀ s:AG,Rel B s₀ s→iP (BE prog w) A (λn s₀ r s₁=>r=.ok (.ret .none)∧RP B n s₀ s₁) (YP B (LS B stk lvs) items) 0 s₀ c0 (k (.ok .next)) [] s) :
  ∀(i:CC),i≤lvs.length→(comes (lvs.take i)) <:+ items→∀(s₀ s:AG)(m:AX→AM AC),Rel B s₀ s→LS B stk lvs s.heap→s.heap.Ns B m→s.heap.IsRevIter Ir stk ((i:EE)-1) →
   iP (BE prog w) A (λn s₀ r s₁=>r=.ok (.ret .none)∧RP B n s₀ s₁) (YP B (LS B stk lvs) items) (comes (lvs.take i)).length s₀
    (.forLoop (.Name "namespaces" px) (.ref Ir) [.If (.Name "namespaces" p1) [.Expr (.YieldFrom (.Name "namespaces" p2) p3) p4] [] p5] [] env)
    ((BE prog w).den (.forLoop (.Name "namespaces" px) (.ref Ir) [.If (.Name "namespaces" p1) [.Expr (.YieldFrom (.Name "namespaces" p2) p3) p4] [] p5] [] env)) [.ret k BN AU lv c0 p0 []] s:=by
 subst hB;intro i
 induction i with
 |zero =>
  intro _ _ s₀ s m hrel hst hns hit
  refine aV (Fv hh hit λh' he=>?_)
  intro c'
  refine seg_leaf (.ok .next) (done _ _ (hrel.trans ⟨aT hIr ?_ he,rfl,rfl⟩))
  obtain⟨o,ho,hc,_⟩:=hit;exact⟨o,ho,by unfold UJ;rw[hc];rfl⟩
 |succ i ih =>
  intro hi' hsuf s₀ s m hrel hst hns hit;have hlt:i<lvs.length:=hi';obtain⟨p,hp'⟩:∃p,lvs[i]?=AK p:=⟨_,BL hlt⟩;have hmem:p∈lvs:=GR hp'
  have hit0:s.heap.IsRevIter Ir stk (i:EE):=by
   have:(((i+1:CC):EE)-1)=(i:EE):=by lia
   rw[this] at hit;exact hit
  have hItI:∃o,s.heap.get? Ir=AK o∧UJ o=BC:=by
   obtain⟨o,ho,hc,_⟩:=hit;exact⟨o,ho,by unfold UJ;rw[hc];rfl⟩
  rw[bR hp'] at hsuf ⊢
  refine aV (Fb hit0 hst.2.1 (x:=.ref p.1) (by rw[FI,DH,hp'];rfl) λh₁ hit₁ hsb₁=>?_)
  have sm₁:RJ env.locals s.heap h₁:=aT hIr hItI hsb₁.extBut;have hst₁:=hst.same sm₁
  have hns₁:h₁.Ns env.locals m:=hns.extBut hsb₁.extBut (AO hIr)
  refine FP (EN hl hns₁ (λh₂ hns₂ hsb₂=>?_) hp)
  intro K' H' hK';have sm₂:RJ env.locals h₁ h₂:=bT hsb₂;have hst₂:=hst₁.same sm₂;have hit₂:h₂.IsRevIter Ir stk ((i:EE)-1):=hit₁.at λo e=>(hsb₂.2 Ir (AJ hIr)).trans e
  refine vM (seg_If (isTrue_plain (wJ (RG hk hl hns₂ (by rw[DJ rfl]) ?_))))
  refine IJ (hst₂.2.2 p hmem).2.1 (hst₂.2.2 p hmem).2.2 ?_
  cases hemp:p.2.isEmpty with
  |true =>
   rw[CA (by decide)];refine fM ?_;show iP _ _ _ _ _ _ _ ((EZ [] env).wrap K' H' id id) _ _;refine fM ?_;rw[hK'];refine Ay rfl ?_
   have hnil:p.2.toList=[]:=by simpa using hemp
   rw[hnil,DB] at hsuf ⊢;exact ih (EU hlt) hsuf _ _ _ (hrel.trans ⟨sm₁.trans sm₂,rfl,rfl⟩) hst₂ hns₂ hit₂
  |false =>
   rw[DJ (by decide)]
   refine vM (fY hi (wJ (RG hk hl hns₂ (by rw[DJ rfl]) ?_)))
   refine MD (T:="list") (hst₂.2.2 p hmem).2.1.typeIs ⟨by decide +kernel,?_⟩;refine VK (hst₂.2.2 p hmem).2.1 ?_;intro k' p' hk';obtain⟨oB,esB,epB,hoB,rB⟩:=id hns₂;obtain⟨oR,hoR,hcR,hdR⟩:=id hit₂;have hsz:env.locals<h₂.objs.size:=BS hoB;refine vN (oB:=oB) (oR:=oR) (below:=comes (lvs.take i)) ?hh rfl rfl hmem hsz hIr (AO (BS hoR)) (by unfold UJ;rw[hcR];rfl) ?_ _ 0 rfl hsuf _ _ (hrel.trans ⟨(sm₁.trans sm₂).trans (VE _),rfl,rfl⟩) (hst₂.same (VE _)) (AV _ hoB) (AV _ hoR) ⟨_,CH _ rfl,rfl,rfl⟩
   case hh=>exact hh
   intro s₀' s' hrel' hst' hB' hR';rw[hk'];show iP _ _ _ _ _ _ _ ((EZ [] env).wrap _ H' id id) _ _;refine fM ?_;show iP _ _ _ _ _ _ _ ((EZ [] env).wrap K' H' id id) _ _;refine fM ?_;rw[hK'];refine Ay rfl ?_;exact ih (EU hlt) ((AE.suffix_append _ _).trans hsuf) _ _ _ hrel' hst' (CW.Ns.at_ hns₂ hoB hB') ⟨oR,hR',hcR,hdR⟩
theorem eQ{env:XH}{px p1 p2 p3 p4 p5:OP}{k:FE→kZ Fin}{lv:AE AC}{c0:Code}{p0:OP}{s₀ s:AG}{m:AX→AM AC}
  (hB:env.locals=B) (hk:env.scope.kind=.function) (hl:env.kindOf "namespaces"=AK .local) (hi:interactive env=AU)
  (hp:(env.scope.kind==.class||(env.scope.kind==.module&&env.locals !=env.globals))=AU)
  (hh:A.handled=BN) (hIr:B<Ir) (hrel:Rel B s₀ s) (hst:LS B stk lvs s.heap) (hns:s.heap.Ns B m) (hit:s.heap.IsRevIter Ir stk ((lvs.length:EE)-1))
  (done:∀s₀ s:AG,Rel B s₀ s→iP (BE prog w) A (λn s₀ r s₁=>r=.ok (.ret .none)∧RP B n s₀ s₁) (YP B (LS B stk lvs) (comes lvs)) 0 s₀ c0 (k (.ok .next)) [] s) :
   iP (BE prog w) A (λn s₀ r s₁=>r=.ok (.ret .none)∧RP B n s₀ s₁) (YP B (LS B stk lvs) (comes lvs)) (comes lvs).length s₀
    (.forLoop (.Name "namespaces" px) (.ref Ir) [.If (.Name "namespaces" p1) [.Expr (.YieldFrom (.Name "namespaces" p2) p3) p4] [] p5] [] env)
    ((BE prog w).den (.forLoop (.Name "namespaces" px) (.ref Ir) [.If (.Name "namespaces" p1) [.Expr (.YieldFrom (.Name "namespaces" p2) p3) p4] [] p5] [] env)) [.ret k BN AU lv c0 p0 []] s:=by
 have e:=qZ (px:=px) (p1:=p1) (p2:=p2) (p3:=p3) (p4:=p4) (p5:=p5) (p0:=p0) (lv:=lv) hB hk hl hi hp hh hIr done lvs.length (CR _) (by rw[kX];exact AE.suffix_refl _) s₀ s m hrel hst hns hit;rw[kX] at e;exact e
end
end Mine
namespace Mine
open PySem.Calls
section
variable{prog:BH}{w:BU}{A:BQ}{E:AC→AG→Prop}{s:AG}
theorem mQ{a:AH}{g n:CC}{gs:Ff}{P:CC→AG→AG→Prop}{Y:tJ}{Q:AM AC→AG→Prop}(hh:A.handled=BN)
  (hl:s.heap.NoLimit) (zq:A.depth<FX) (hg:s.heap.IsGen a g) (hgs:s.gens[g]?=AK gs)
  (hgo:gs.Goes (BE prog w) A.in1 (λn s₀ r s₁=>r=.ok (.ret .none)∧P n s₀ s₁) Y n (.send .none) (s.setGen g .running))
  (hY:∀v s₁ gs',gs'.bare=BC→Y (n-1) (s.setGen g .running) v s₁ (λr' s''=>match n with
    |0=>NF
    |m+1=>gs'.Goes (BE prog w) A.in1 (λn s₀ r s₁=>r=.ok (.ret .none)∧P n s₀ s₁) Y m r' s'')→Q (AK v) (s₁.setGen g gs'))
  (hP:∀s₁,P n (s.setGen g .running) s₁→∀h',(∀b o,s₁.heap.get? b=AK o→h'.get? b=AK o)→Q BN { s₁.setGen g .finished with heap:=h' }) :
  AI (BE prog w) A (OT (.ref a)) Q E s:=by
 unfold OT
 refine Wb (QQ (LR (name:="__next__") hg.typeIs slot_gen_next
  (FM slot_gen_next hg.typeIs entry_gen_next ?_ (args_gen_next _))))
 show AI _ A.in1 (wM (.ref a) (.send .none)) _ _ s;unfold wM
 refine Wb (CI (wpAny_genNumber hg (Wb (wpAny_genState hgs ?_))))
 cases gs with
 |running=>exact hgo.elim
 |finished=>exact hgo.elim
 |_ =>
  refine Wb (wpAny_roomToWake hl zq ?_)
  show AI _ A.in1 (.resume g (.send .none) [] _) _ _ s
  refine wpAny_resumeQ hgs hgo (λx s₁ hx=>?_) (λv s₁ gs' hb hv=>?_)
  ·obtain⟨rfl,hp⟩:=hx
   show AI _ A.in1 (Cx (.type "StopIteration") []>>=_) _ _ _;refine Wb ?_;unfold Cx NP;dsimp only
   refine Wb (GX ?_ (by size_fits))
   refine Wb (m:=PH _ _) (KW (a:=.none) (by first|rfl|(simp only[PH];rfl)) ?_)
   refine GX ?_ (by size_fits)
   simp only[Fs]
   refine Wb (Wb (Al ?_))
   rw[Gj,hh];refine Fw ?_
   refine Wb (IZ (T:="StopIteration") (b:=BC) ⟨_,CH _ rfl,rfl⟩ uQ ?_)
   exact Wp (hP s₁ hp _ λb o hb=>AV _ (AV _ hb))
  ·exact Wp ⟨v,rfl,Wp (hY v s₁ gs' hb hv)⟩
noncomputable def GenAt(prog:BH)(w:BU)(A:BQ)(B stk:AH)(lvs:AE (AH×CE AC))(gn:CC)(rem:AE AC)(priv:AE (AH×CY))(gens:CE Ff):Prop :=
 rem <:+ comes lvs∧Priv B priv∧∃gs,gens[gn]?=AK gs∧gs.bare=BC∧∀s'':AG,(∀p∈priv,s''.heap.get? p.1=AK p.2)→LS B stk lvs s''.heap →
  gs.Goes (BE prog w) A.in1 (λn s₀ r s₁=>r=.ok (.ret .none)∧RP B n s₀ s₁) (YP B (LS B stk lvs) (comes lvs)) rem.length (.send .none) s''
theorem QK{gens:CE Ff}{i:CC}{x:Ff}(h:BP gens)(hx:x.bare=BC):BP (gens.setIfInBounds i x):=by
 intro y hy;rcases CE.mem_or_eq_of_mem_setIfInBounds hy with q|q
 ·exact h y q
 ·rw[q];exact hx
theorem oT{α:Type}{l:AE α}{v v':α}{r r':AE α}(h:(v::r) <:+ l)(h':(v'::r') <:+ l)(hl:r.length=r'.length):v=v'∧r=r':=by
 obtain⟨t,ht⟩:=h;obtain⟨t',ht'⟩:=h';have e:t++v::r=t'++v'::r':=ht.trans ht'.symm
 have zf:t.length=t'.length:=by
  have:=BW EG e;simp only[BD,CD] at this
  exact(DG (Nl λhn2=>fk [_,_,_,_] (.e V0 V1 (.e (.a V2 (.s V1)) (.a V3 (.s V0)) (.e (.s V3) V2 K0))) rfl (Es hl) (El this) hn2) (Nl λhn3=>fk [_,_,_,_] (.e V0 V1 (.e (.a V2 (.s V1)) (.a V3 (.s V0)) (.e (.s V3) V2 K0))) rfl (El hl) (Es this) hn3))
 have:=AE.append_inj e zf;exact⟨(fL this.2).1,(fL this.2).2⟩
noncomputable def dD(w:BU)(A:BQ)(s:AG)(prog:BH)(E:AC→AG→Prop)(a B stk:AH)(lvs:AE (AH×CE AC))(gn:CC)(v:AC)(rem:AE AC)(priv:AE (AH×CY))(Q:AM AC→AG→Prop):Prop :=
 ∀(hh:A.handled=BN)(hl:s.heap.NoLimit)(zq:A.depth<FX)(hg:s.heap.IsGen a gn)(G:GenAt prog w A B stk lvs gn (v::rem) priv s.gens)(hp:∀p∈priv,s.heap.get? p.1=AK p.2)(hst:LS B stk lvs s.heap)(hb:BP s.gens)(h:∀s' priv',GenAt prog w A B stk lvs gn rem priv' s'.gens→(∀p∈priv',s'.heap.get? p.1=AK p.2)→RJ B s.heap s'.heap→s'.os=s.os→BP s'.gens→Q (AK v) s'),AI (BE prog w) A (OT (.ref a)) Q E s
theorem yH:∀{a b c d e f g h i j k l m n},dD a b c d e f g h i j k l m n:=by
 refine @(BK (GM KF)<|@(MU DM<|let_mvar%?n:=(λw A s prog E a B stk lvs gn v rem priv Q=>?_:∀a b c d e f g h i j k l m n,dD a b c d e f g h i j k l m n);?n _ _ _ _ _ _ _ _ _ _ _ _ _ _))
 intro hh hl zq hg G hp hst hb h;obtain⟨hsuf,hpr,gs,hgs,hbare,hgo⟩:=G
 refine mQ hh hl zq hg hgs (hgo (s.setGen gn .running) hp hst) (λv' s₁ gs' hb' hY=>?_) (λs₁ hP=>?_)
 ·obtain⟨⟨rest,zf,hsuf'⟩,hrel,priv',hpr',hin',hgo'⟩:=hY
  have hlen':rest.length=rem.length:=by simpa using zf
  obtain⟨rfl,rfl⟩:=oT hsuf hsuf' hlen'.symm;have hgens:s₁.gens=s.gens.setIfInBounds gn .running:=hrel.gens
  have hlt:gn<s.gens.size:=by
   rcases JC gn s.gens.size with q|q
   ·exact q
   ·rw[CE.getElem?_eq_none q] at hgs;cases hgs
  refine h (s₁.setGen gn gs') priv' ⟨(AE.suffix_cons v rem).trans hsuf,hpr',gs',?_,hb',λs'' h1 h2=>hgo' s'' h1 h2⟩ hin' hrel.heap hrel.os ?_
  ·show(s₁.gens.setIfInBounds gn gs')[gn]?=AK gs'
   rw[CE.getElem?_setIfInBounds_self_of_lt];rw[hgens];simpa using hlt
  ·show BP (s₁.gens.setIfInBounds gn gs')
   refine QK ?_ hb';rw[hgens];exact QK hb rfl
 ·obtain⟨h0,_⟩:=hP
  cases h0
noncomputable def gL(w:BU)(A:BQ)(s:AG)(prog:BH)(E:AC→AG→Prop)(a B stk:AH)(lvs:AE (AH×CE AC))(gn:CC)(priv:AE (AH×CY))(Q:AM AC→AG→Prop):Prop :=
 ∀(hh:A.handled=BN)(hl:s.heap.NoLimit)(zq:A.depth<FX)(hg:s.heap.IsGen a gn)(G:GenAt prog w A B stk lvs gn [] priv s.gens)(hp:∀p∈priv,s.heap.get? p.1=AK p.2)(hst:LS B stk lvs s.heap)(hb:BP s.gens)(h:∀s',RJ B s.heap s'.heap→s'.os=s.os→BP s'.gens→Q BN s'),AI (BE prog w) A (OT (.ref a)) Q E s
theorem Cg:∀{a b c d e f g h i j k l},gL a b c d e f g h i j k l:=by
 refine @(BK (GM KF)<|@(QZ DM<|let_mvar%?n:=(λw A s prog E a B stk lvs gn priv Q=>?_:∀a b c d e f g h i j k l,gL a b c d e f g h i j k l);?n _ _ _ _ _ _ _ _ _ _ _ _))
 intro hh hl zq hg G hp hst hb h;obtain⟨hsuf,hpr,gs,hgs,hbare,hgo⟩:=G
 refine mQ hh hl zq hg hgs (hgo (s.setGen gn .running) hp hst) (λv' s₁ gs' hb' hY=>?_) (λs₁ hP h' hk=>?_)
 ·obtain⟨_,hrel,priv',_,hin',hgo'⟩:=hY
  exact(hgo' s₁ hin' (hst.same hrel.heap)).elim
 ·obtain⟨_,hrel⟩:=hP
  refine h _ (λb o e c=>hk b o (hrel.heap b o e c)) hrel.os ?_
  show BP (s₁.gens.setIfInBounds gn .finished)
  refine QK ?_ rfl;rw[hrel.gens];exact QK hb rfl
noncomputable def dE(w:BU)(A:BQ)(s:AG)(prog:BH)(R:FE→AG→Prop)(K:Frag)(g:CW)(name qual:AX)(params:WE)(scope:KO)(dV kV doc pm cdv ct oc:AC)(an od:AM AH)(osl:CE (AM AC))(f:AH)(args:Args)(binds:AE (AX×AC))(px p1 p2 p3 p4 p5 p6 p7 p8 p9:OP)(stk:AH)(lvs:AE (AH×CE AC)):Prop :=
 ∀(hk:∀b o,g.get? b=AK o→s.heap.get? b=AK o)(X:K.In g)(hlim:g.NoLimit)(hb:BP s.gens)(hh:A.handled=BN)(ho:K.lookup f=AK ⟨oc,od,.func (uH name qual params [.For (.Name "namespaces" px) (.Call (.Name "_reversed" p6) [.Name "ns_stack" p7] [] p8) [.If (.Name "namespaces" p1) [.Expr (.YieldFrom (.Name "namespaces" p2) p3) p4] [] p5] [] p9] scope dV kV doc pm an cdv ct),osl⟩) (hcd:Bt K cdv qual=BC) (zq:A.depth<FX) (zj:rV s (uH name qual params [.For (.Name "namespaces" px) (.Call (.Name "_reversed" p6) [.Name "ns_stack" p7] [] p8) [.If (.Name "namespaces" p1) [.Expr (.YieldFrom (.Name "namespaces" p2) p3) p4] [] p5] [] p9] scope dV kV doc pm an cdv ct) args binds) (hloc:∀y∈binds,scope.names.lookup y.1=AK .local) (hm1:binds.reverse.lookup (AA "_reversed")=AK (JT "reversed")) (hm2:binds.reverse.lookup (AA "ns_stack")=AK (AR stk)) (hst:s.heap.IsList stk (lvs.map λp=>AR p.1).toArray) (hlv:∀p∈lvs,s.heap.IsList p.1 p.2∧(p.2.size:EE)<2 ^ 63) (h:∀h' tk priv,(∀b o,s.heap.get? b=AK o→h'.get? b=AK o)→s.heap.objs.size<h'.objs.size→h'.IsGen (s.heap.objs.size+1) s.gens.size→h'.objs.size=s.heap.objs.size+2 →
   ∀gens',BP gens'→GenAt prog w A s.heap.objs.size stk lvs s.gens.size (comes lvs) priv gens'→(∀p∈priv,h'.get? p.1=AK p.2)→(∀p∈priv,p.1=s.heap.objs.size)→LS s.heap.objs.size stk lvs h' →
   R (.ok (.ret (.ref (s.heap.objs.size+1)))) { s with heap:=h',gens:=gens',toks:=tk }) (hgen:scope.isGenerator=BC) (hco:scope.isCoroutine=AU) (hkd:scope.kind=.function) (hl1:(GZ qual scope s.heap.objs.size f cdv).kindOf "namespaces"=AK .local) (hl2:(GZ qual scope s.heap.objs.size f cdv).kindOf "_reversed"=AK .local) (hl3:(GZ qual scope s.heap.objs.size f cdv).kindOf "ns_stack"=AK .local) (hcell:∀x∈scope.names,x.2≠.cell),DV (BE prog w) A (.call (.ref f) args) R s
theorem jD:∀a b c d e f g h i j k l m n o p q r s t u v w x y z a1 b1 c1 d1 e1 f1 g1 h1 i1 j1,dE a b c d e f g h i j k l m n o p q r s t u v w x y z a1 b1 c1 d1 e1 f1 g1 h1 i1 j1:=by
 refine BK (GM KF)<|BK DM<|BK DM<|BK DM<|QZ DM<|let_mvar%?n:=(λw A s prog R K g name qual params scope dV kV doc pm cdv ct oc an od osl f args binds px p1 p2 p3 p4 p5 p6 p7 p8 p9 stk lvs=>?_:∀a b c d e f g h i j k l m n o p q r s t u v w x y z a1 b1 c1 d1 e1 f1 g1 h1 i1 j1,dE a b c d e f g h i j k l m n o p q r s t u v w x y z a1 b1 c1 d1 e1 f1 g1 h1 i1 j1);?n _ _ _ _ _ _ _ _ _ _ _ _ _ _ _ _ _ _ _ _ _ _ _ _ _ _ _ _ _ _ _ _ _ _ _ _
 intro hk X hlim hb hh ho hcd zq zj hloc hm1 hm2 hst hlv h hgen hco hkd hl1 hl2 hl3 hcell
 refine codeAny_call_generator zq ((X.keeps hk) _ _ ho) rfl hco hgen rfl (Gv (X.keeps hk) hcd) (zj _ _ _ _ ?_)
 refine RH hcell hloc (λh₀ hns₀ hsb₀=>⟨(hlim.keeps hk).fresh _ hsb₀,?_⟩) hkd
 have keep₀:∀b o,s.heap.get? b=AK o→h₀.get? b=AK o:=λb o e=>hsb₀.extBut b o (AO (BS e)) (AV _ e)
 have size₀:h₀.objs.size=s.heap.objs.size+1:=by rw[hsb₀.1,FT]
 have keep₁:∀(o':CY)b o,s.heap.get? b=AK o→(h₀.push o').get? b=AK o:=λo' b o e=>AV _ (keep₀ b o e)
 have stack₁:∀o':CY,LS s.heap.objs.size stk lvs (h₀.push o'):=λo'=>by
  have one:∀a its,s.heap.IsList a its→a≠s.heap.objs.size∧(h₀.push o').IsList a its:=λa its⟨o,ho,r⟩=>⟨AO (BS ho),o,keep₁ o' a o ho,r⟩;exact⟨(one _ _ hst).1,(one _ _ hst).2,λp hp=>⟨(one _ _ (hlv p hp).1).1,(one _ _ (hlv p hp).1).2,(hlv p hp).2⟩⟩
 obtain⟨oB,esB,epB,hoB,rB⟩:=id hns₀;rw[show h₀.objs.size=s.heap.objs.size+1 from size₀]
 refine h _ _ [(s.heap.objs.size,oB)] (keep₁ _) (by rw[FT,size₀];exact(Nt λhn1=>fk [_] (.e (.a (.s V0) K1) V0 K0) rfl hn1)) ⟨_,_,_,by rw[← size₀];exact CH _ rfl,rfl,rfl,rfl⟩ (by rw[FT,size₀]) _ ?_ ?_ ?_ ?_ (stack₁ _)
 ·intro y hy
  rcases CE.mem_push.mp hy with q|q
  ·exact hb y q
  ·rw[q];rfl
 ·refine⟨AE.suffix_refl _,?_,_,CE.getElem?_push_size ..,rfl,λs'' hp hS=>⟨rfl,?_⟩⟩
  ·intro p hp
   rcases BB.mp hp with rfl;exact⟨CR _,.inl rfl⟩
  ·have hns'':s''.heap.Ns s.heap.objs.size (λx=>binds.reverse.lookup x):=CW.Ns.at_ hns₀ hoB (hp _ (BB.mpr rfl))
   have hpl:((GZ qual scope s.heap.objs.size f cdv).scope.kind==.class||((GZ qual scope s.heap.objs.size f cdv).scope.kind==.module&&(GZ qual scope s.heap.objs.size f cdv).locals !=(GZ qual scope s.heap.objs.size f cdv).globals))=AU:=by
    show(scope.kind==.class||(scope.kind==.module&&_))=AU;rw[hkd];rfl
   refine seg_func (vM (Do (λ_=>rfl) ?_))
   refine PySem.Call_name1 rfl (wJ (RG hkd hl2 hns'' hm1 (PySem.callWith_type1 (wJ (RG hkd hl3 hns'' hm2 ?_)))))
   refine call_reversed_list hS.2.1 ?_;refine cC ⟨_,CH _ rfl,rfl,rfl⟩ ?_;intro k p hk'
   have zf:((AE.map (λp=>AR p.1) lvs).toArray.size:EE)-1=(lvs.length:EE)-1:=by simp
   refine eQ (m:=λx=>binds.reverse.lookup x) rfl hkd hl1 (by show(scope.kind==.module&&_)=AU;rw[hkd];rfl) hpl hh (CW.Ns.lt hns'') ⟨VE _,rfl,rfl⟩ (hS.same (VE _)) (hns''.push _) ⟨_,CH _ rfl,rfl,by rw[zf];rfl⟩ ?_;intro s₀ s₁ hr;rw[hk'];exact seg_end (.ok (.ret .none)) ⟨rfl,rfl,hr⟩
 ·intro p hp
  rcases BB.mp hp with rfl;exact AV _ hoB
 ·intro p hp
  rcases BB.mp hp with rfl;rfl
theorem yI{R:FE→AG→Prop}{K:Frag}{g:CW}{name qual:AX}{params:WE}{scope:KO}{dV kV doc pm cdv ct oc:AC}{an od:AM AH}{osl:CE (AM AC)}{f:AH}{args:Args}{binds:AE (AX×AC)}
  {px p1 p2 p3 p4 p5 p6 p7 p8 p9:OP} {stk:AH} {lvs:AE (AH×CE AC)}
  (hk:∀b o,g.get? b=AK o→s.heap.get? b=AK o) (X:K.In g) (hlim:g.NoLimit) (hb:BP s.gens) (hh:A.handled=BN)
  (ho:K.lookup f=AK ⟨oc,od,.func (uH name qual params [.For (.Name "namespaces" px) (.Call (.Name "_reversed" p6) [.Name "ns_stack" p7] [] p8) [.If (.Name "namespaces" p1) [.Expr (.YieldFrom (.Name "namespaces" p2) p3) p4] [] p5] [] p9] scope dV kV doc pm an cdv ct),osl⟩) (hcd:Bt K cdv qual=BC) (zq:A.depth<FX)
  (zj:rV s (uH name qual params [.For (.Name "namespaces" px) (.Call (.Name "_reversed" p6) [.Name "ns_stack" p7] [] p8) [.If (.Name "namespaces" p1) [.Expr (.YieldFrom (.Name "namespaces" p2) p3) p4] [] p5] [] p9] scope dV kV doc pm an cdv ct) args binds) (hloc:∀y∈binds,scope.names.lookup y.1=AK .local)
  (hm1:binds.reverse.lookup (AA "_reversed")=AK (JT "reversed")) (hm2:binds.reverse.lookup (AA "ns_stack")=AK (AR stk))
  (hst:s.heap.IsList stk (lvs.map λp=>.ref p.1).toArray) (hlv:∀p∈lvs,s.heap.IsList p.1 p.2∧(p.2.size:EE)<2 ^ 63)
  (h:∀h' tk priv,(∀b o,s.heap.get? b=AK o→h'.get? b=AK o)→s.heap.objs.size<h'.objs.size→h'.IsGen (s.heap.objs.size+1) s.gens.size→h'.objs.size=s.heap.objs.size+2 →
   ∀gens',BP gens'→GenAt prog w A s.heap.objs.size stk lvs s.gens.size (comes lvs) priv gens'→(∀p∈priv,h'.get? p.1=AK p.2)→(∀p∈priv,p.1=s.heap.objs.size)→LS s.heap.objs.size stk lvs h' →
   R (.ok (.ret (.ref (s.heap.objs.size+1)))) { s with heap:=h',gens:=gens',toks:=tk })
  (hgen:scope.isGenerator=BC:=by rfl) (hco:scope.isCoroutine=AU:=by rfl) (hkd:scope.kind=.function:=by rfl)
  (hl1:(GZ qual scope s.heap.objs.size f cdv).kindOf "namespaces"=AK .local:=by rfl) (hl2:(GZ qual scope s.heap.objs.size f cdv).kindOf "_reversed"=AK .local:=by rfl) (hl3:(GZ qual scope s.heap.objs.size f cdv).kindOf "ns_stack"=AK .local:=by rfl)
  (hcell:∀x∈scope.names,x.2≠.cell:=by decide):DV (BE prog w) A (.call (.ref f) args) R s:=jD w A s prog R K g name qual params scope dV kV doc pm cdv ct oc an od osl f args binds px p1 p2 p3 p4 p5 p6 p7 p8 p9 stk lvs hk X hlim hb hh ho hcd zq zj hloc hm1 hm2 hst hlv h hgen hco hkd hl1 hl2 hl3 hcell
end
end Mine
namespace Mine
open PySem.Calls
noncomputable abbrev wd(hs:CC→EE)(tk:CC→DW)(c2 c3 c4 c5 c6 c7 c8 c13:AC)(wr da de ns pm pr:AH)(rs rd:CZ)(ig:EE):AE DictEntry :=
 [⟨hs 0,.str "_write" (tk 0),.ref wr⟩,⟨hs 1,.str "_data" (tk 1),.ref da⟩,⟨hs 2,.str "_with_comments" (tk 2),c2⟩,⟨hs 3,.str "_strip_text" (tk 3),c3⟩,
  ⟨hs 4,.str "_exclude_attrs" (tk 4),c4⟩,⟨hs 5,.str "_exclude_tags" (tk 5),c5⟩,⟨hs 6,.str "_rewrite_prefixes" (tk 6),c6⟩,⟨hs 7,.str "_qname_aware_tags" (tk 7),c7⟩,
  ⟨hs 8,.str "_find_qname_aware_attrs" (tk 8),c8⟩,⟨hs 9,.str "_declared_ns_stack" (tk 9),.ref de⟩,⟨hs 10,.str "_ns_stack" (tk 10),.ref ns⟩,⟨hs 11,.str "_prefix_map" (tk 11),.ref pm⟩,
  ⟨hs 12,.str "_preserve_space" (tk 12),.ref pr⟩,⟨hs 13,.str "_pending_start" (tk 13),c13⟩,⟨hs 14,.str "_root_seen" (tk 14),.bool rs⟩,⟨hs 15,.str "_root_done" (tk 15),.bool rd⟩,
  ⟨hs 16,.str "_ignored_depth" (tk 16),.int ig (tk 17)⟩]
noncomputable abbrev DO(its:CE AC):CY:={ cls:=.type "tuple",data:=.seq its }
end Mine
namespace Mine
open PySem.Calls
open PySem.Builtin PySem.Builtin.Str PySem.Builtin.Int
section
variable{prog:BH}{w:BU}{A:BQ}{E:AC→AG→Prop}{s:AG}{h₀:CW}{L:AH}{m:AX→AM AC}{news:AE (AH×CY)}
theorem nP(x y:AX)(t u k:DW):∃raising:kZ Fin,«str.rsplit» ⟨[.str x t,.str y u,.int 1 k],[]⟩ =
  (if (decide (x.length<y.length)||decide (strKind x<strKind y))=BC then(do rule "str.rsplit.sep-cannot-occur";ret (← JL [.str x t])) else
   if (y.length==0)=BC then raising else
   if (BC&&(NQ x y 1).isEmpty)=BC then(do rule "str.rsplit.same-object";ret (← JL [.str x t])) else
   (do ret (← JL (← (MC x (NQ x y 1) y.length).mapM mkStr)))):=⟨_,rfl⟩
noncomputable def cutR(x y a b:AX):CZ:=!(decide (x.length<y.length)||decide (strKind x<strKind y))&&!(y.length==0)&&!(NQ x y 1).isEmpty&&MC x (NQ x y 1) y.length==[a,b]
noncomputable def gX(w:BU)(A:BQ)(s:AG)(prog:BH)(E:AC→AG→Prop)(h₀:CW)(L:AH)(m:AX→AM AC)(news:AE (AH×CY))(x y a b:AX)(t u k:DW)(Q:AC→AG→Prop):Prop :=
 ∀(hF:Fr h₀ L s.heap m)(N:AY h₀ L s.heap news)(hc:cutR x y a b=BC)(hsz:x.length≤DA)(h:∀h' t1 t2 tk,Fr h₀ L h' m→AY h₀ L h' ((s.heap.objs.size,listOf #[.str a t1,.str b t2] 0)::news)→Q (.ref s.heap.objs.size) { s with heap:=h',toks:=tk }),AI (BE prog w) A (DK (.builtin "str.rsplit") [.str x t,.str y u,.int 1 k]) Q E s
theorem Dm:∀{a b c d e f g h i j k l m n o p q},gX a b c d e f g h i j k l m n o p q:=by
 refine @(BK (GM KF)<|@(BK DM<|@(HF DM<|let_mvar%?n:=(λw A s prog E h₀ L m news x y a b t u k Q=>?_:∀a b c d e f g h i j k l m n o p q,gX a b c d e f g h i j k l m n o p q);?n _ _ _ _ _ _ _ _ _ _ _ _ _ _ _ _ _)))
 intro hF N hc hsz h;unfold cutR at hc;simp only[NT,iF,TT] at hc;obtain⟨⟨⟨h1,h2⟩,h3⟩,h4⟩:=hc;obtain⟨raising,htree⟩:=nP x y t u k
 refine FM F.slot_str_rsplit (UB _ _ _) F.entry_str_rsplit ?_ (F.args_str_rsplit_3 _ _ _)
 rw[htree,h1,h2,h3,h4];show AI _ _ (do ret (← JL (← [a,b].mapM mkStr))) _ _ s
 have hab:∀p∈[a,b],p.length≤DA:=λp hp=>by
  rw[← h4] at hp;simp only[MC,CO] at hp;obtain⟨⟨i,j⟩,_,rfl⟩:=hp;exact AQ (strSub_length_le ..) hsz
 refine Wb (wpAny_mapM_mkStr _ _ _ hab (Wb (HC (Wp ⟨_,rfl,?_⟩) (by show 2≤DA;decide))))
 exact h _ _ _ _ (Fr.pushS hF _) (AY.push hF N _)
noncomputable def MH(prog:BH)(w:BU)(o:CY)(S:AX→CZ)(n:CC):Prop :=
 ∃es ep t,o.ExactSet∧o.data=.set es ep t∧ElemsOf (strKind prog w) es.toList∧(∀k,S k=BC↔∃e∈es.toList,(strKind prog w).is k e.2=BC)∧es.size<XC∧t.fits es.size=BC∧es.size=n
theorem MH.at{h:CW}{a:AH}{o:CY}{S:AX→CZ}{n:CC}(x:MH prog w o S n)(ho:h.get? a=AK o):h.SetOf (strKind prog w) a S n :=
 x.elim λes x=>x.elim λep x=>x.elim λt x=>⟨o,es,ep,t,ho,x⟩
theorem MH.of{h:CW}{a:AH}{S:AX→CZ}{n:CC}(x:h.SetOf (strKind prog w) a S n):∃o,h.get? a=AK o∧MH prog w o S n :=
 x.elim λo x=>x.elim λes x=>x.elim λep x=>x.elim λt x=>⟨o,x.1,es,ep,t,x.2⟩
theorem vQ{a:AH}{o:CY}{S:AX→CZ}{n:CC}{y:AX}{ty:DW}{Q:AC→AG→Prop}(N:AY h₀ L s.heap news)(hm:(a,o)∈news)(hS:MH prog w o S n)
  (h:Q (.bool (!S y)) { s with toks:=s.toks+1 }):AI (BE prog w) A (LO .NotIn (.str y ty) (.ref a)) Q E s :=
 wpAny_notInSet_of (knd:=strKind prog w) (k:=y) (by simp[EL,JD]) rfl (hS.at (N _ hm).1) h
noncomputable def gY(w:BU)(A:BQ)(s:AG)(prog:BH)(E:AC→AG→Prop)(h₀:CW)(L:AH)(m:AX→AM AC)(news:AE (AH×CY))(a:AH)(o:CY)(S:AX→CZ)(n:CC)(y:AX)(ty:DW)(news':CY→AE (AH×CY))(Q:AC→AG→Prop):Prop :=
 ∀(hF:Fr h₀ L s.heap m)(N:AY h₀ L s.heap news)(hm:(a,o)∈news)(hS:MH prog w o S n)(hn:n<4000)(hU:∀o',Upd a o o' news (news' o'))(h:∀h' o',Fr h₀ L h' m→AY h₀ L h' (news' o')→MH prog w o' (λk=>S k||decide (k=y)) (if S y then n else n+1)→Q .none { s with heap:=h',toks:=s.toks+1 }),AI (BE prog w) A (DK (.builtin "set.add") [.ref a,.str y ty]) Q E s
theorem sT:∀{a b c d e f g h i j k l m n o p q},gY a b c d e f g h i j k l m n o p q:=by
 refine @(BK (GM KF)<|@(BK DM<|@(HF DM<|let_mvar%?n:=(λw A s prog E h₀ L m news a o S n y ty news' Q=>?_:∀a b c d e f g h i j k l m n o p q,gY a b c d e f g h i j k l m n o p q);?n _ _ _ _ _ _ _ _ _ _ _ _ _ _ _ _ _)))
 intro hF N hm hS hn hU h;refine call_set_add (knd:=strKind prog w) (k:=y) (by simp[EL,JD]) rfl (hS.at (N _ hm).1) (by unfold XC;exact(Nt λhn1=>fk [_] (.e (.s V0) (.k 4000) (.e (.k 4096) (.s V0) K0)) rfl hn hn1)) λh' hsb hS'=>?_;obtain⟨o',ho',hO'⟩:=MH.of hS';obtain⟨pre,post,e1,e2,n1,n2⟩:=(hU o').split;refine h h' o' (Fr.change hF hsb (N _ hm).2.1 (N _ hm).2.2) ?_ hO';rw[e2];rw[e1] at N;intro p hp;rcases AT.mp hp with q|q
 ·have P:=N p (Ml _ q);exact⟨(hsb.2 _ (n1 p q)).trans P.1,P.2⟩
 ·rcases AP.mp q with rfl|q
  ·exact⟨ho',(N (a,o) (by simp)).2⟩
  ·have P:=N p (Mr _ (.tail _ q));exact⟨(hsb.2 _ (n2 p q)).trans P.1,P.2⟩
end
end Mine
namespace Mine
open PySem.Calls
section
variable{prog:BH}{w:BU}{A:BQ}{E:AC→AG→Prop}{s:AG}{h₀:CW}{L:AH}{m:AX→AM AC}{news:AE (AH×CY)}
theorem AY.ext{h h':CW}(N:AY h₀ L h news)(he:LX h.objs.size h h'):AY h₀ L h' news :=
 λp hp=>⟨he _ _ (AO (BS (N p hp).1)) (N p hp).1,(N p hp).2⟩
theorem lF{name:AX}{scope:KO}{a:AH}{cd:AC}{x1 x2:AX}{p1 p2 pos:OP}{k:CC}{t:AH}{v1 v2:AC}{Q:SI→AG→Prop}(hF:Fr h₀ L s.heap m)(N:AY h₀ L s.heap news)(ht:WI s.heap t #[v1,v2])(hh:A.handled=BN)
  (h:∀h' tk,Fr h₀ L h' (λy=>if y=x2 then AK v2 else if y=x1 then AK v1 else m y)→AY h₀ L h' news→Q () { s with heap:=h',toks:=tk })
  (hk:scope.kind=.function:=by rfl) (hl1:(GZ name scope L a cd).kindOf x1=AK .local:=by rfl) (hl2:(GZ name scope L a cd).kindOf x2=AK .local:=by rfl) :
  AI (BE prog w) A (assign (.Tuple [.Name x1 p1,.Name x2 p2] k pos) (GZ name scope L a cd) (.ref t)) Q E s:=by
 rw[WM]
 refine Wb (EQ ?_)
 show AI _ _ (unpack (.ref t) [(AU,assign (.Name x1 p1) (GZ name scope L a cd)),(AU,assign (.Name x2 p2) (GZ name scope L a cd))]) _ _ _;unfold unpack
 refine Wb (CI ?_)
 refine VJ (items:=#[v1,v2]) hh ht λh' he=>?_
 have hF':Fr h₀ L h' m:=kR hF he (CR _)
 have N':AY h₀ L h' news:=AY.ext N he;show AI _ _ (do holding [v2] (assign (.Name x1 p1) (GZ name scope L a cd) v1);do holding [] (assign (.Name x2 p2) (GZ name scope L a cd) v2);pure ()) _ _ _
 refine Wb (CI (EO (stN hF' N' (λh2 F2 N2=>?_) hk hl1)))
 refine Wb (CI (EO (stN F2 N2 (λh3 F3 N3=>?_) hk hl2)))
 exact Wp (h h3 _ F3 N3)
theorem vG{elts:AE Expr}{k:CC}{pos:OP}{a b:AH}{gn:CC}{Q:SI→AG→Prop}(hg:s.heap.IsGen a gn)(h:Q () s):AI (BE prog w) A (MK (.Tuple elts k pos) (.ref a) (.ref b)) Q E s:=by
 obtain⟨o,nm,qn,ho,hc,hd,_⟩:=hg;unfold MK
 refine Wb (YX ho ?_)
 rw[hc,hd];exact Wp h
inductive All2 {α β:Type} (P:α→β→Prop):AE α→AE β→Prop
 |nil:All2 P [] []
 |cons {a:α} {b:β} {l:AE α} {r:AE β}:P a b→All2 P l r→All2 P (a::l) (b::r)
theorem All2.length{α β:Type}{P:α→β→Prop}{l:AE α}{r:AE β}(h:All2 P l r):l.length=r.length:=by
 induction h with
 |nil=>rfl
 |cons _ _ ih=>simp[ih]
theorem All2.mono{α β:Type}{P P':α→β→Prop}(hP:∀a b,P a b→P' a b){l:AE α}{r:AE β}(h:All2 P l r):All2 P' l r:=by
 induction h with
 |nil=>exact .nil
 |cons x _ ih=>exact .cons (hP _ _ x) ih
theorem All2.append{α β:Type}{P:α→β→Prop}{l l':AE α}{r r':AE β}(h:All2 P l r)(h':All2 P l' r'):All2 P (l++l') (r++r'):=by
 induction h with
 |nil=>exact h'
 |cons x _ ih=>exact .cons x ih
def KM(h:CW)(v:AC)(q:AX×AX):Prop:=∃t t1 t2,v=.ref t∧WI h t #[.str q.1 t1,.str q.2 t2]
theorem KM.keeps{h h':CW}(hk:∀b o,h.get? b=AK o→h'.get? b=AK o){v:AC}{q:AX×AX}(x:KM h v q):KM h' v q :=
 x.imp λ_ x=>x.imp λ_ x=>x.imp λ_ x=>x.imp_right λx=>x.imp λ_ x=>x.imp_left (hk _ _)
def cK(o:CY)(gn:CC):Prop:=∃nm qn,o.cls=.type "generator"∧o.data=.fields #[.int gn 0,nm,qn]∧o.slots=#[]
theorem cK.at{h:CW}{a gn:CC}{o:CY}(x:cK o gn)(ho:h.get? a=AK o):h.IsGen a gn:=let ⟨nm,qn,h1,h2,h3⟩:=x;⟨o,nm,qn,ho,h1,h2,h3⟩
theorem yG{R:FE→AG→Prop}{K:Frag}{os:CU}{name qual:AX}{params:WE}{scope:KO}{dV kV doc pm cdv ct oc:AC}{an od:AM AH}{osl:CE (AM AC)}{f:AH}{args:Args}{binds:AE (AX×AC)}
  {px p1 p2 p3 p4 p5 p6 p7 p8 p9:OP} {stk:AH} {lvs:AE (AH×CE AC)}
  (hF:Fr h₀ L s.heap m) (N:AY h₀ L s.heap news) (X:K.In h₀) (hlim:h₀.NoLimit) (hos:s.os=os) (hb:BP s.gens) (hh:A.handled=BN)
  (ho:K.lookup f=AK ⟨oc,od,.func (uH name qual params [.For (.Name "namespaces" px) (.Call (.Name "_reversed" p6) [.Name "ns_stack" p7] [] p8) [.If (.Name "namespaces" p1) [.Expr (.YieldFrom (.Name "namespaces" p2) p3) p4] [] p5] [] p9] scope dV kV doc pm an cdv ct),osl⟩) (hcd:Bt K cdv qual=BC) (zq:A.depth<FX)
  (zj:rV s (uH name qual params [.For (.Name "namespaces" px) (.Call (.Name "_reversed" p6) [.Name "ns_stack" p7] [] p8) [.If (.Name "namespaces" p1) [.Expr (.YieldFrom (.Name "namespaces" p2) p3) p4] [] p5] [] p9] scope dV kV doc pm an cdv ct) args binds) (hloc:∀y∈binds,scope.names.lookup y.1=AK .local)
  (hm1:binds.reverse.lookup (AA "_reversed")=AK (JT "reversed")) (hm2:binds.reverse.lookup (AA "ns_stack")=AK (AR stk))
  (hst:s.heap.IsList stk (lvs.map λp=>.ref p.1).toArray) (hlv:∀p∈lvs,s.heap.IsList p.1 p.2∧(p.2.size:EE)<2 ^ 63)
  (h:∀(s':AG)B ga gn oG priv,Fr h₀ L s'.heap m→AY h₀ L s'.heap ((ga,oG)::(news++priv))→cK oG gn→s'.os=os→BP s'.gens→GenAt prog w A B stk lvs gn (comes lvs) priv s'.gens→stk≠B→(∀p∈lvs,p.1≠B) →
   (∀p∈news,p.1<B)→L<B→ga=B+1→(∀p∈priv,p.1=B)→R (.ok (.ret (.ref ga))) s')
  (hgen:scope.isGenerator=BC) (hco:scope.isCoroutine=AU) (hkd:scope.kind=.function)
  (hl1:(GZ qual scope s.heap.objs.size f cdv).kindOf "namespaces"=AK .local) (hl2:(GZ qual scope s.heap.objs.size f cdv).kindOf "_reversed"=AK .local) (hl3:(GZ qual scope s.heap.objs.size f cdv).kindOf "ns_stack"=AK .local)
  (hcell:∀x∈scope.names,x.2≠.cell):DV (BE prog w) A (.call (.ref f) args) R s:=by
 refine yI (g:=h₀) hF.keep X hlim hb hh ho hcd zq zj hloc hm1 hm2 hst hlv (λh' tk priv hk hlt hg hsz gens' hb' G hp hpB hS=>?_) hgen hco hkd hl1 hl2 hl3 hcell;obtain⟨oL,esL,epL,hL,rL⟩:=hF.ns;have hLB:L<s.heap.objs.size:=BS hL;obtain⟨oG,nm,qn,hoG,g1,g2,g3⟩:=hg
 have hnew:∀a,s.heap.objs.size≤a→h₀.get? a=BN:=λa ha=>by
  cases e:h₀.get? a with
  |none=>rfl
  |some o=>exact absurd (CJ (BS (hF.keep _ _ e)) ha) (QJ _)
 refine h { s with heap:=h',gens:=gens',toks:=tk } s.heap.objs.size (s.heap.objs.size+1) s.gens.size oG priv ⟨⟨oL,esL,epL,hk _ _ hL,rL⟩,λb o e=>hk _ _ (hF.keep b o e),hF.above⟩ ?_ ⟨nm,qn,g1,g2,g3⟩ hos hb' G hS.1 (λp hp=>(hS.2.2 p hp).1) (λp hp=>BS (N p hp).1) hLB rfl hpB
 ·intro p hp'
  rcases AP.mp hp' with rfl|hp'
  ·exact⟨hoG,AJ (CX hLB),hnew _ (QW _)⟩
  ·rcases AT.mp hp' with q|q
   ·exact⟨hk _ _ (N p q).1,(N p q).2⟩
   ·exact⟨hp p q,by rw[hpB p q];exact AJ hLB,hnew _ (ET (hpB p q).symm)⟩
end
end Mine
namespace Mine
open PySem.Calls
noncomputable abbrev Pr:=AX×AX
noncomputable def scan(uri:AX):AE Pr→AE AX→AM AX×AE AX
 |[],seen=>(BN,seen)
 |q::r,seen=>if q.1=uri∧q.2∉seen then(AK q.2,seen) else scan uri r (q.2::seen)
noncomputable def find(uri:AX):AE Pr→AM AX
 |[]=>BN
 |q::r=>if q.1=uri then AK q.2 else find uri r
noncomputable def full(p tag:AX):AX:=if p=AW then tag else p++":"++tag
noncomputable def qn(decl ns:AE Pr)(uri tag:AX):AM (AX×AM Pr) :=
 match scan uri decl [] with
 |(AK p,_)=>AK (full p tag,BN)
 |(BN,seen)=>if uri=AW∧AW∉seen then AK (tag,BN) else match find uri ns with
  |some p=>AK (full p tag,AK (uri,p))
  |none=>if uri=AW then AK (tag,BN) else BN
noncomputable def eA(q uri tag:AX):CZ :=
 match LJ q BN (AK 1)=="{" with
 |true=>cutR (LJ q (AK 1) BN) "}" uri tag
 |false=>uri==AW&&tag==q
end Mine
namespace Mine
open PySem.Calls
section
variable{prog:BH}{w:BU}{A:BQ}{E:AC→AG→Prop}{s:AG}{h₀:CW}{L:AH}{m:AX→AM AC}{news:AE (AH×CY)}
noncomputable def UT(w:BU)(A:BQ)(s:AG)(prog:BH)(E:AC→AG→Prop)(l:AH)(v1 v2:AC)(Q:AE AC→AG→Prop):Prop :=
 ∀(hh:A.handled=BN)(hl:s.heap.IsList l #[v1,v2])(hQ:∀h',LX s.heap.objs.size s.heap h'→Q [v1,v2] { s with heap:=h' }),AI (BE prog w) A (pL (.ref l) 2 BN) Q E s
theorem kJ:∀{a b c d e f g h i},UT a b c d e f g h i:=by
 refine @(BK (GM KF)<|@(HF DM<|let_mvar%?n:=(λw A s prog E l v1 v2 Q=>?_:∀a b c d e f g h i,UT a b c d e f g h i);?n _ _ _ _ _ _ _ _ _))
 intro hh hl hQ
 have hlt:l≠s.heap.objs.size:=by obtain⟨o,ho,_⟩:=hl;exact AO (BS ho)
 unfold pL;refine Wb ?_;unfold notIterableAtAll
 refine Wb (rU hl.typeIs slot_list_iter.lookup (Wp ?_))
 simp only[IV,WX]
 refine Wb (CI (VK hl ?_))
 have hl0:=hl.push { cls:=.type "list_iterator",data:=.fields #[.ref l,.int 0 0] }
 refine Wb (CI ?_)
 show AI _ _ (OT _>>=_) _ _ _
 refine Wb (PL (i:=0) ⟨_,CH _ rfl,rfl,rfl⟩ hl0 (x:=v1) rfl λh₁ it₁ sb₁=>?_)
 have hl1:h₁.IsList l #[v1,v2]:=hl0.extBut sb₁.extBut hlt
 refine Wb (CI ?_)
 show AI _ _ (OT _>>=_) _ _ _
 refine Wb (PL it₁ hl1 (x:=v2) rfl λh₂ it₂ sb₂=>?_)
 have hl2:h₂.IsList l #[v1,v2]:=hl1.extBut sb₂.extBut hlt
 refine Wb (CI (Wp (Wp (Wp ?_))))
 rw[CA (show ¬([v1,v2].length<2) from QJ 2)]
 refine Wb (CI (ZZ hh it₂ hl2 rfl λh₃ he₃=>?_))
 simp only[AM.isSome_none,IV,WX]
 exact Wp (hQ h₃ λb o hb e=>he₃ b o hb (sb₂.extBut b o hb (sb₁.extBut b o hb (AV _ e))))
theorem ZK{name:AX}{scope:KO}{a:AH}{cd:AC}{x1 x2:AX}{p1 p2 pos:OP}{k:CC}{t:AH}{v1 v2:AC}{Q:SI→AG→Prop}(hF:Fr h₀ L s.heap m)(N:AY h₀ L s.heap news)(ht:s.heap.IsList t #[v1,v2])(hh:A.handled=BN)
  (h:∀h' tk,Fr h₀ L h' (λy=>if y=x2 then AK v2 else if y=x1 then AK v1 else m y)→AY h₀ L h' news→Q () { s with heap:=h',toks:=tk })
  (hk:scope.kind=.function:=by rfl) (hl1:(GZ name scope L a cd).kindOf x1=AK .local:=by rfl) (hl2:(GZ name scope L a cd).kindOf x2=AK .local:=by rfl) :
  AI (BE prog w) A (assign (.Tuple [.Name x1 p1,.Name x2 p2] k pos) (GZ name scope L a cd) (.ref t)) Q E s:=by
 rw[WM]
 refine Wb (EQ ?_)
 show AI _ _ (unpack (.ref t) [(AU,assign (.Name x1 p1) (GZ name scope L a cd)),(AU,assign (.Name x2 p2) (GZ name scope L a cd))]) _ _ _;unfold unpack
 refine Wb (CI ?_)
 refine kJ hh ht λh' he=>?_
 have hF':Fr h₀ L h' m:=kR hF he (CR _)
 have N':AY h₀ L h' news:=AY.ext N he;show AI _ _ (do holding [v2] (assign (.Name x1 p1) (GZ name scope L a cd) v1);do holding [] (assign (.Name x2 p2) (GZ name scope L a cd) v2);pure ()) _ _ _
 refine Wb (CI (EO (stN hF' N' (λh2 F2 N2=>?_) hk hl1)))
 refine Wb (CI (EO (stN F2 N2 (λh3 F3 N3=>?_) hk hl2)))
 exact Wp (h h3 _ F3 N3)
theorem AY.sub{h:CW}{news':AE (AH×CY)}(N:AY h₀ L h news)(hs:∀p∈news',p∈news):AY h₀ L h news':=λp hp=>N p (hs p hp)
theorem m2_eq{a b:AX}{v1 v2 p q:AM AC}{m0:AX→AM AC}:(λy=>if y=a then v2 else if y=b then v1 else if y=a then p else if y=b then q else m0 y)=(λy=>if y=a then v2 else if y=b then v1 else m0 y):=by
 funext y
 by_cases h1:y=a
 ·simp[h1]
 ·by_cases h2:y=b<;>simp[h1,h2]
theorem Cs{a b:AX}{m0:AX→AM AC}(ha:m0 a=BN)(hb:m0 b=BN):m0=(λy=>if y=a then BN else if y=b then BN else m0 y):=by
 funext y
 by_cases h1:y=a
 ·simp[h1,ha]
 ·by_cases h2:y=b
  ·simp[h2,hb]
  ·simp[h1,h2]
theorem jV{led:CZ}:MH prog w { cls:=.type "set",data:=.set #[] 0 (.fresh 0 0 led) } (λ_=>AU) 0 :=
 ⟨#[],0,_,⟨rfl,rfl,rfl⟩,rfl,λe he=>by simp at he,λk=>by simp,by decide,by rfl,rfl⟩
theorem MH.congr{o:CY}{S S':AX→CZ}{n:CC}(x:MH prog w o S n)(h:∀k,S k=S' k):MH prog w o S' n:=(funext h:S=S') ▸ x
theorem DX{h h':CW}(hk:∀b o,h.get? b=AK o→h'.get? b=AK o){a:AH}{its:CE AC}(x:h.IsList a its):h'.IsList a its:=let ⟨o,ho,r⟩:=x;⟨o,hk _ _ ho,r⟩
theorem AY.same{B:AH}{h h':CW}(N:AY h₀ L h news)(hs:RJ B h h')(hn:∀p∈news,p.1<B∨(p.1≠B∧UJ p.2=AU)):AY h₀ L h' news:=λp hp=>⟨hs _ _ (N p hp).1 (hn p hp),(N p hp).2⟩
theorem Fr.same{B:AH}{h h':CW}(hF:Fr h₀ L h m)(hs:RJ B h h')(hB:L<B):Fr h₀ L h' m:=by
 obtain⟨oL,es,ep,hL,r⟩:=hF.ns;exact⟨⟨oL,es,ep,hs _ _ hL (.inl hB),r⟩,λb o e=>hs _ _ (hF.keep b o e) (.inl (CJ (BS e) (AQ hF.above (EU hB)))),hF.above⟩
theorem AY.priv{B:AH}{h:CW}{priv:AE (AH×CY)}(hF:Fr h₀ L h m)(hB:L<B)(hP:Priv B priv)(hp:∀p∈priv,h.get? p.1=AK p.2):AY h₀ L h priv:=λp q=>by
 have hb:=(hP p q).1;refine⟨hp p q,AJ (CJ hB hb),?_⟩
 cases e:h₀.get? p.1 with
 |none=>rfl
 |some o=>exact absurd (CJ (BS e) (AQ hF.above (AQ (EU hB) hb))) (QJ _)
theorem AY.app{h:CW}{a b:AE (AH×CY)}(x:AY h₀ L h a)(y:AY h₀ L h b):AY h₀ L h (a++b):=λp hp=>(AT.mp hp).elim (x p) (y p)
end
end Mine
namespace Mine
open PySem.Calls
noncomputable abbrev mm(x1 x2:AX)(m0:AX→AM AC)(p u:AM AC):AX→AM AC:=λy=>if y=x2 then p else if y=x1 then u else m0 y
theorem AY.drop2{h₀ h:CW}{L:AH}{a b c d e:AH×CY}{rest:AE (AH×CY)}(N:AY h₀ L h (a::b::c::d::e::rest)):AY h₀ L h [a,c,d,e]:=AY.sub N (Fc (.head _) (Fc (.tail _ (.tail _ (.head _))) (Fc (.tail _ (.tail _ (.tail _ (.head _)))) (Fc (.tail _ (.tail _ (.tail _ (.tail _ (.head _))))) (BA _)))))
theorem AY.drop3{h₀ h:CW}{L:AH}{a b c d e f:AH×CY}{rest:AE (AH×CY)}(N:AY h₀ L h (a::b::c::d::e::f::rest)):AY h₀ L h [a,b,d,e,f]:=AY.sub N (Fc (.head _) (Fc (.tail _ (.head _)) (Fc (.tail _ (.tail _ (.tail _ (.head _)))) (Fc (.tail _ (.tail _ (.tail _ (.tail _ (.head _))))) (Fc (.tail _ (.tail _ (.tail _ (.tail _ (.tail _ (.head _)))))) (BA _))))))
theorem zG{decl ns:AE Pr}{uri tag p:AX}{seen:AE AX}(h:scan uri decl []=(AK p,seen)):qn decl ns uri tag=AK (full p tag,BN):=by unfold qn;rw[h]
theorem qn_plain{decl ns:AE Pr}{uri tag:AX}{seen:AE AX}(h:scan uri decl []=(BN,seen))(hu:uri=AW∧AW∉seen):qn decl ns uri tag=AK (tag,BN):=by unfold qn;rw[h];exact DJ hu
theorem cI{decl ns:AE Pr}{uri tag p:AX}{seen:AE AX}(h:scan uri decl []=(BN,seen))(hu:¬(uri=AW∧AW∉seen))(hf:find uri ns=AK p):qn decl ns uri tag=AK (full p tag,AK (uri,p)):=by unfold qn;rw[h];simp only[CA hu,hf]
theorem qn_none{decl ns:AE Pr}{uri tag:AX}{seen:AE AX}(h:scan uri decl []=(BN,seen))(hu:¬(uri=AW∧AW∉seen))(hf:find uri ns=BN):qn decl ns uri tag=if uri=AW then AK (tag,BN) else BN:=by unfold qn;rw[h];simp only[CA hu,hf]
theorem YT{p:AX}(h:(p.length:EE)=0):p=AW:=by
 have h':p.cps.size=0:=by have:(p.cps.size:EE)=0:=h;lia
 have:p.cps=#[]:=kM h';cases p;simp only at this;rw[this];rfl
theorem full_nil{p tag:AX}(h:(p.length:EE)=0):full p tag=tag:=by unfold full;rw[DJ (YT h)]
theorem dB{p tag:AX}(h:(p.length:EE)≠0):full p tag=AW++p++":"++tag:=by
 unfold full;rw[CA (λe=>h (by rw[e];rfl)),AX.empty_append]
section
variable{prog:BH}{w:BU}{A:BQ}{E:AC→AG→Prop}{s:AG}
theorem PN{value slice:Expr}{l:AH}{vs:AE AC}{v:AC}{t:DW}{Q:AC→AG→Prop}(hl:s.heap.IsList l (vs++[v]).toArray)(h:Q v s)
  (hs:subscripted slice AU (.ref l) (.int (-1) t)=operate [.ref l,.int (-1) t] (SO (.ref l) (.int (-1) t)):=by with_unfolding_all rfl) :
  AI (BE prog w) A (BZ value slice (.ref l) (.int (-1) t)) Q E s:=by
 refine vY hl.typeIs slot_list_getitem.lookup (wpAny_getItem_list_neg hl (by decide) ?_ (by decide) ?_ h) hs
 ·simp only[CG,BD,CD,GA];lia
 ·have e:(-1+((vs++[v]).toArray.size:EE)).toNat=vs.length:=by simp only[CG,BD,CD,GA];lia
  rw[e,FI,NH (CR _)];simp
end
section
variable{prog:BH}{w:BU}{A:BQ}{s:AG}{g:CW}{L:AH}{os:CU}
inductive GenJ (w:BU) (A:BQ) (prog:BH) (g:CW) (L:AH) (os:CU) (x1:AX) (x2:AX) (m0:AX→AM AC) (B:AH) (stk:AH) (ga:AH) (gn:CC) (lvs:AE (AH×CE AC)) (oG:CY) (J:AE Pr→AE (AH×CY)→Prop) (k:CC) (s1:AG):Prop
 |mk (rem:AE AC) (ps:AE Pr) (own:AE (AH×CY)) (priv:AE (AH×CY)) (p':AM AC) (u':AM AC) (h0:k=rem.length) (h1:J ps own) (h2:Fr g L s1.heap (mm x1 x2 m0 p' u')) (h3:AY g L s1.heap ((ga,oG)::(own++priv))) (h4:All2 (KM g) rem ps) (h5:GenAt prog w A B stk lvs gn rem priv s1.gens) (h6:s1.os=os) (h7:BP s1.gens):GenJ w A prog g L os x1 x2 m0 B stk ga gn lvs oG J k s1
noncomputable def gJ(w:BU)(A:BQ)(s:AG)(prog:BH)(g:CW)(L:AH)(os:CU)(name:AX)(scope:KO)(a:AH)(cd:AC)(x1 x2:AX)(q1 q2 pos:OP)(kk:CC)(body:AE cP)(R:FE→AG→Prop)(m0:AX→AM AC)(B stk ga:AH)(gn:CC)(lvs:AE (AH×CE AC))(oG:CY)(ps:AE Pr)(own priv:AE (AH×CY))(rem:AE AC)(p' u':AM AC):Prop :=
 ∀(J:AE Pr→AE (AH×CY)→Prop)(hh:A.handled=BN)(zq:A.depth<FX)(hlim:g.NoLimit)(hG:cK oG gn)(hga:ga=B+1)(hLB:L<B)(hstack:∀(h:CW)ps own,(∀b o,g.get? b=AK o→h.get? b=AK o)→AY g L h own→J ps own→LS B stk lvs h)(hown:∀ps own,J ps own→∀p∈own,p.1<B∨(p.1≠B∧UJ p.2=AU))(step:∀(s1:AG)(q:Pr)t1 t2 ps own rest,J (q::ps) own→Fr g L s1.heap (mm x1 x2 m0 (AK (.str q.2 t2)) (AK (.str q.1 t1)))→AY g L s1.heap (own++rest)→(∀p∈rest,B≤p.1)→s1.os=os→BP s1.gens →
   AI (BE prog w) A (EZ body (GZ name scope L a cd)) (λf s3=>match f with
    |.next|.cont=>∃own' p' u',J ps own'∧Fr g L s3.heap (mm x1 x2 m0 p' u')∧AY g L s3.heap (own'++rest)∧s3.os=os∧s3.gens=s1.gens
    |.brk=>R (.ok .next) s3
    |.ret v=>R (.ok (.ret v)) s3) (SU (BE prog w) A (GZ name scope L a cd) λe s'=>R (.error e) s') s1)(done:∀(s1:AG)own p' u',J [] own→Fr g L s1.heap (mm x1 x2 m0 p' u')→AY g L s1.heap own→s1.os=os→BP s1.gens→R (.ok .next) s1)(hJ:J ps own)(hF:Fr g L s.heap (mm x1 x2 m0 p' u'))(N:AY g L s.heap ((ga,oG)::(own++priv)))(hps:All2 (KM g) rem ps)(G:GenAt prog w A B stk lvs gn rem priv s.gens)(hos:s.os=os)(hb:BP s.gens)(hk:scope.kind=.function)(hl1:(GZ name scope L a cd).kindOf x1=AK .local)(hl2:(GZ name scope L a cd).kindOf x2=AK .local),DV (BE prog w) A (.forLoop (.Tuple [.Name x1 q1,.Name x2 q2] kk pos) (.ref ga) body [] (GZ name scope L a cd)) R s
theorem lV:∀a b c d e f g h i j k l m n o p q r s t u v w x y z a1 b1 c1 d1 e1 f1,gJ a b c d e f g h i j k l m n o p q r s t u v w x y z a1 b1 c1 d1 e1 f1:=by
 refine BK (GM KF)<|BK DM<|BK DM<|BK DM<|let_mvar%?n:=(λw A s prog g L os name scope a cd x1 x2 q1 q2 pos kk body R m0 B stk ga gn lvs oG ps own priv rem p' u'=>?_:∀a b c d e f g h i j k l m n o p q r s t u v w x y z a1 b1 c1 d1 e1 f1,gJ a b c d e f g h i j k l m n o p q r s t u v w x y z a1 b1 c1 d1 e1 f1);?n _ _ _ _ _ _ _ _ _ _ _ _ _ _ _ _ _ _ _ _ _ _ _ _ _ _ _ _ _ _ _ _
 intro J hh zq hlim hG hga hLB hstack hown step done hJ hF N hps G hos hb hk hl1 hl2;refine SA (λk s1=>GenJ w A prog g L os x1 x2 m0 B stk ga gn lvs oG J k s1) ?_ rem.length ⟨rem,ps,own,priv,p',u',rfl,hJ,hF,N,hps,G,hos,hb⟩;rintro k s1 ⟨rem,ps,own,priv,p',u',rfl,hJ,hF,N,hps,G,hos,hb⟩
 have Nown:AY g L s1.heap own:=AY.sub N λp hp=>.tail _ (Ml _ hp)
 have hgen:s1.heap.IsGen ga gn:=hG.at (N _ (.head _)).1;have hpriv:∀p∈priv,s1.heap.get? p.1=AK p.2:=λp hp=>(N p (.tail _ (Mr _ hp))).1;have hst:LS B stk lvs s1.heap:=hstack _ _ _ hF.keep Nown hJ;have hgaB:ga<B∨(ga≠B∧UJ oG=AU):=.inr ⟨by rw[hga];exact CC.succ_ne_self B,by obtain⟨_,_,hc,_⟩:=hG;unfold UJ;rw[hc];rfl⟩
 cases hps with
 |nil =>
  refine Cg hh (hlim.keeps hF.keep) zq hgen G hpriv hst hb λs2 hs hos2 hb2=>?_;dsimp only;refine Wp ?_;exact done s2 own p' u' hJ (Fr.same hF hs hLB) (AY.same Nown hs (hown _ _ hJ)) (hos2.trans hos) hb2
 |@cons v q rem ps hv hps =>
  refine yH hh (hlim.keeps hF.keep) zq hgen G hpriv hst hb λs2 priv2 G2 hp2 hs hos2 hb2=>?_;dsimp only;have F2:=Fr.same hF hs hLB
  have N2:AY g L s2.heap ((ga,oG)::(own++priv2)):=λp hp=>by
   rcases AP.mp hp with rfl|hp
   ·exact AY.same (AY.sub N (news':=[(ga,oG)]) λp hp=>by rw[BB.mp hp];exact .head _) hs (λp hp=>by rw[BB.mp hp];exact hgaB) _ (.head _)
   ·exact AY.app (AY.same Nown hs (hown _ _ hJ)) (AY.priv F2 hLB G2.2.1 hp2) p hp
  obtain⟨t,t1,t2,rfl,ht⟩:=hv;refine vG (hG.at (N2 _ (.head _)).1) ?_;have ht2:WI s2.heap t #[.str q.1 t1,.str q.2 t2]:=let ⟨o,ho,r⟩:=ht;⟨o,F2.keep _ _ ho,r⟩;refine lF F2 N2 ht2 hh (λh3 tk3 F3 N3=>?_) hk hl1 hl2;rw[m2_eq] at F3
  have N3':AY g L h3 (own++((ga,oG)::priv2)):=AY.sub N3 λp hp=>by
   rcases AT.mp hp with z|z
   ·exact .tail _ (Ml _ z)
   ·rcases AP.mp z with rfl|z
    ·exact .head _
    ·exact .tail _ (Mr _ z)
  refine DI (step { s2 with heap:=h3,toks:=tk3 } q t1 t2 ps own ((ga,oG)::priv2) hJ F3 N3' ?_ (hos2.trans hos) hb2) (λf s4 h4=>?_) λ_ _ z=>z
  ·intro p hp
   rcases AP.mp hp with rfl|hp
   ·rw[hga];exact QW _
   ·exact(G2.2.1 p hp).1
  ·cases f with
   |brk=>exact h4
   |ret v=>exact h4
   |_ =>
    obtain⟨own',p'',u'',hJ',F4,N4,hos4,hg4⟩:=h4;refine⟨rem.length,CM _,rem,ps,own',priv2,p'',u'',rfl,hJ',F4,?_,hps,?_,hos4,?_⟩
    ·exact AY.sub N4 λp hp=>by
      rcases AP.mp hp with rfl|hp
      ·exact Mr _ (.head _)
      ·rcases AT.mp hp with z|z
       ·exact Ml _ z
       ·exact Mr _ (.tail _ z)
    ·rw[hg4];exact G2
    ·rw[hg4];exact hb2
theorem sF{name:AX}{scope:KO}{a:AH}{cd:AC}{x1 x2:AX}{q1 q2 pos:OP}{kk:CC}{body:AE cP}{R:FE→AG→Prop}{m0:AX→AM AC}
  {B stk ga:AH} {gn:CC} {lvs:AE (AH×CE AC)} {oG:CY} (J:AE Pr→AE (AH×CY)→Prop)
  (hh:A.handled=BN) (zq:A.depth<FX) (hlim:g.NoLimit) (hG:cK oG gn) (hga:ga=B+1) (hLB:L<B)
  (hstack:∀(h:CW)ps own,(∀b o,g.get? b=AK o→h.get? b=AK o)→AY g L h own→J ps own→LS B stk lvs h)
  (hown:∀ps own,J ps own→∀p∈own,p.1<B∨(p.1≠B∧UJ p.2=AU))
  (step:∀(s1:AG)(q:Pr)t1 t2 ps own rest,J (q::ps) own→Fr g L s1.heap (mm x1 x2 m0 (AK (.str q.2 t2)) (AK (.str q.1 t1)))→AY g L s1.heap (own++rest)→(∀p∈rest,B≤p.1)→s1.os=os→BP s1.gens →
   AI (BE prog w) A (EZ body (GZ name scope L a cd)) (λf s3=>match f with
    |.next|.cont=>∃own' p' u',J ps own'∧Fr g L s3.heap (mm x1 x2 m0 p' u')∧AY g L s3.heap (own'++rest)∧s3.os=os∧s3.gens=s1.gens
    |.brk=>R (.ok .next) s3
    |.ret v=>R (.ok (.ret v)) s3) (SU (BE prog w) A (GZ name scope L a cd) λe s'=>R (.error e) s') s1)
  (done:∀(s1:AG)own p' u',J [] own→Fr g L s1.heap (mm x1 x2 m0 p' u')→AY g L s1.heap own→s1.os=os→BP s1.gens→R (.ok .next) s1)
  {ps:AE Pr} {own priv:AE (AH×CY)} {rem:AE AC} {p' u':AM AC} (hJ:J ps own) (hF:Fr g L s.heap (mm x1 x2 m0 p' u')) (N:AY g L s.heap ((ga,oG)::(own++priv))) (hps:All2 (KM g) rem ps) (G:GenAt prog w A B stk lvs gn rem priv s.gens) (hos:s.os=os) (hb:BP s.gens)
  (hk:scope.kind=.function:=by rfl) (hl1:(GZ name scope L a cd).kindOf x1=AK .local:=by rfl) (hl2:(GZ name scope L a cd).kindOf x2=AK .local:=by rfl) :
  DV (BE prog w) A (.forLoop (.Tuple [.Name x1 q1,.Name x2 q2] kk pos) (.ref ga) body [] (GZ name scope L a cd)) R s:=lV w A s prog g L os name scope a cd x1 x2 q1 q2 pos kk body R m0 B stk ga gn lvs oG ps own priv rem p' u' J hh zq hlim hG hga hLB hstack hown step done hJ hF N hps G hos hb hk hl1 hl2
end
end Mine
namespace Mine
open PySem.Calls
noncomputable def LV(c r x:AX):AX:=if (OU x c 0 x.length 1).isEmpty=BC then x else Txt.replace x c r
theorem gO(k:AX)(v:AC)(l:AE (AX×AC)):(λy=>DY y ((k,v)::l))=(λy=>if y=k then AK v else DY y l):=by
 funext y;rw[NV]
 by_cases q:y=k
 ·subst q;simp
 ·rw[CA q]
  have:(y==k)=AU:=by simpa using q
  rw[this]
theorem m1_eq{a:AX}{v p:AM AC}{m0:AX→AM AC}:(λy=>if y=a then v else if y=a then p else m0 y)=(λy=>if y=a then v else m0 y):=by
 funext y
 by_cases h1:y=a<;>simp[h1]
theorem QL{c r x:AX}{n k:CC}(hx:x.length≤n)(hr:r.length≤k):(LV c r x).length≤n+(n+1)*k:=by
 unfold LV;have h1:(x.length+1)*r.length≤(n+1)*k:=CC.mul_le_mul (by exact(Nl λhn1=>fk [_,_] (.e V0 V1 (.e (.a (.s V1) K1) (.s V0) K0)) rfl hx hn1)) hr;split
 ·exact(Nl λhn1=>fk [_,_,_] (.e V0 V1 (.e (.a (.a V1 V2) K1) V0 K0)) rfl hx hn1)
 ·unfold Txt.replace
  split
  ·exact(Nl λhn1=>fk [_,_,_] (.e V0 V1 (.e (.a (.a V1 V2) K1) V0 K0)) rfl hx hn1)
  ·have g1:=Ej x c 0 x.length (x.length+1)
   have gy:(Ha c (IE.Str.partsBetween x (OU x c 0 x.length (x.length+1)) c.length)).length=x.length:=by rw[tK]
   rw[size_glued,dQ,Gn] at gy;rw[size_glued,dQ,Gn];have g2:(OU x c 0 x.length (x.length+1)).length*r.length≤(x.length+1)*r.length:=Fj _ g1
   exact(Nl λhn1=>fk [_,_,_,_,_,_,_] (.e V0 V1 (.e V2 V3 (.e (.a V4 V5) V0 (.e V6 V2 (.e (.a (.a V1 V3) K1) (.a V4 V6) K0))))) rfl hx h1 (El gy) g2 hn1)
section
variable{prog:BH}{w:BU}{A:BQ}{E:AC→AG→Prop}{s:AG}{h₀:CW}{L:AH}{m0:AX→AM AC}{news:AE (AH×CY)}
theorem MP{name:AX}{scope:KO}{a:AH}{cd:AC}{c r x:AX}{t:DW}{k1 k2 k3:CC}{p1 p2 p3 p4 p5 p6 p7 p8 p9 p10 p11:OP}{Q:WG→AG→Prop}
  (hF:Fr h₀ L s.heap (λy=>if y="text" then AK (.str x t) else m0 y)) (N:AY h₀ L s.heap news) (htk:0<s.toks) (hx:x.length≤1048576) (hr:r.length≤14) (hcr:(c==r)=AU)
  (h:∀h' t' k,Fr h₀ L h' (λy=>if y="text" then AK (.str (LV c r x) t') else m0 y)→AY h₀ L h' news→Q .next { s with heap:=h',toks:=k+1 })
  (hbase:attributeBase (.Name "text" p5) "replace" (GZ name scope L a cd) (eval (.Name "text" p5) (GZ name scope L a cd))=eval (.Name "text" p5) (GZ name scope L a cd):=by rfl) (hline:(p6.endLine==p9.line)=BC:=by rfl)
  (hk:scope.kind=.function:=by rfl) (hl:(GZ name scope L a cd).kindOf "text"=AK .local:=by rfl) :
  AI (BE prog w) A (exec (.If (.Compare (.Constant (.str c) k1 p1) [.In] [.Name "text" p2] p3) [.Assign [.Name "text" p4] (.Call (.Attribute (.Name "text" p5) "replace" p6) [.Constant (.str c) k2 p7,.Constant (.str r) k3 p8] [] p9) p10] [] p11) (GZ name scope L a cd)) Q E s:=by
 refine Fu (wpAny_isTrue_Compare1 (TI (ld hF rfl (in_str (Hs ?_)) hk hl)))
 unfold LV at h
 cases hc:(OU x c 0 x.length 1).isEmpty with
 |true =>
  rw[hc] at h
  exact Wp (h s.heap t s.toks hF N)
 |false =>
  rw[hc] at h;rw[DJ (show(!AU)=BC from rfl)]
  refine BR (wpAny_Assign_Name ?_)
  refine Call_method2 hbase rfl hline (ld hF rfl ⟨"str","str.replace",F.plainAttrs_str,F.slot_str_replace,F.type_str_replace,UB _ _ _,(λ_ e=>nomatch e),?_⟩ hk hl)
  refine Ba rfl (Fe (TJ (TI (TJ (TI (Hb ?_))))))
  refine SC.replaceW (by show s.toks+1≠0;exact(λhn1=>fk [_] (.e (.s V0) K0 K0) rfl (El hn1))) (by show s.toks+1+1≠0;exact(λhn1=>fk [_] (.e (.a (.s V0) K1) K0 K0) rfl (El hn1))) (by show s.toks+1≠s.toks+1+1;exact(λhn1=>fk [_] (.e (.a (.s V0) K1) (.s V0) K0) rfl (Es hn1))) hcr hx hr λt' k=>?_;refine stN hF N (λh' F' N'=>?_) hk hl;rw[m1_eq] at F'
  exact Wp (h h' t' k F' N')
end
end Mine
namespace Mine
open PySem.Calls
noncomputable abbrev DZ(out:AH):CY:={ cls:=.type "builtin_function_or_method",data:=.fields #[.builtin "list.append",.ref out] }
theorem rD:Gd "list.append"=AK ⟨.oneArg,"list.append","append",.self,[⟨"object",.posOnly,BC⟩]⟩:=by kernel_rfl
theorem UK:builtinKind "list.append"=AK .method:=by kernel_rfl
theorem mH:pE "list.append"="append":=by decide +kernel
theorem gC:Ap.contains "list.append"=AU:=by decide +kernel
theorem bX:mA (.type "list") (.type "module")=pure AU:=by rw[LP];kernel_rfl
theorem lY:(bY (pE "list")++bY "."++bY "append":String)="list.append":=by decide +kernel
theorem lE(a v:AC):Bind.checkArgs "list.append" ⟨.oneArg,"list.append","append",.self,[⟨"object",.posOnly,BC⟩]⟩ ⟨[a,v],[]⟩=pure ():=by kernel_rfl
theorem zU:Gd "str.join"=AK ⟨.oneArg,"str.join","join",.self,[⟨"iterable",.posOnly,BC⟩]⟩:=by kernel_rfl
theorem uV:builtinKind "str.join"=AK .method:=by kernel_rfl
theorem uX:pE "str.join"="join":=by decide +kernel
theorem pA:Ap.contains "str.join"=AU:=by decide +kernel
theorem fF:mA (.type "str") (.type "module")=pure AU:=by rw[LP];kernel_rfl
theorem uL:(bY (pE "str")++bY "."++bY "join":String)="str.join":=by decide +kernel
theorem tL(a v:AC):Bind.checkArgs "str.join" ⟨.oneArg,"str.join","join",.self,[⟨"iterable",.posOnly,BC⟩]⟩ ⟨[a,v],[]⟩=pure ():=by kernel_rfl
section
variable{prog:BH}{w:BU}{A:BQ}{E:AC→AG→Prop}{s:AG}{h₀:CW}{L:AH}{m:AX→AM AC}{news news':AE (AH×CY)}
noncomputable def VS(w:BU)(A:BQ)(s:AG)(prog:BH)(E:AC→AG→Prop)(l:AH)(its:CE AC)(v:AC)(Q:SI→AG→Prop):Prop :=
 ∀(hl:s.heap.IsList l its)(h:Q () s),AI (BE prog w) A (PG "list.append" ⟨[.ref l,v],[]⟩) Q E s
theorem lL:∀{a b c d e f g h i},VS a b c d e f g h i:=by
 refine @(BK (GM KF)<|@(HF DM<|let_mvar%?n:=(λw A s prog E l its v Q=>?_:∀a b c d e f g h i,VS a b c d e f g h i);?n _ _ _ _ _ _ _ _ _))
 intro hl h;unfold PG;rw[rD,UK];dsimp only;rw[CA (by decide)]
 refine Wb (IZ hl.typeIs bX ?_)
 rw[gC,mH];rw[CA (by decide)];obtain⟨o,ho,hc,n,hd⟩:=hl;refine Wb ?_;unfold isType
 refine Wb (wpAny_loadPart ho ?_)
 rw[hd];refine Wp ?_;dsimp only;rw[CA (by decide)]
 refine Wb (MD (T:="list") ⟨o,ho,hc⟩ ?_)
 dsimp only;rw[lY,lE];exact Wp h
theorem lK{wr out:AH}{its:CE AC}{n:CC}{v:AC}{Q:AC→AG→Prop}(hw:s.heap.get? wr=AK (DZ out))(ho:s.heap.get? out=AK (listOf its n))(hsz:its.size≤DA)
  (h:∀h',IF out s.heap h'→h'.get? out=AK (listOf (its.push v) (n+1))→Q .none { s with heap:=h' }) :
  AI (BE prog w) A (DK (.ref wr) [v]) Q E s:=by
 refine QF (pY ?_)
 show AI _ _ (Hi (.ref wr) ⟨[v],[]⟩) _ _ _
 delta Hi;dsimp only
 refine Wb (YX hw ?_)
 show AI _ _ (PG "list.append" ⟨[.ref out,v],[]⟩>>=λ_=>again (.builtin "list.append" ⟨[.ref out,v],[]⟩)) _ _ _
 refine Wb (lL ⟨_,ho,rfl,_,rfl⟩ (Wp ⟨LZ _ (by decide +kernel),?_⟩))
 refine IN entry_list_append ?_;show AI _ _ (Az out (·.push v)>>=λ_=>ret .none) _ _ s;refine Wb ?_
 refine ZD ho rfl (Wp (h _ (DR ..) ?_))
 rw[IT _ ho (by rw[pK];rfl),pK]
theorem OG{wr out:AH}{its:CE AC}{n:CC}{v:AC}{Q:AC→AG→Prop}(hF:Fr h₀ L s.heap m)(N:AY h₀ L s.heap news)(hw:(wr,DZ out)∈news)(U:Upd out (listOf its n) (listOf (its.push v) (n+1)) news news')(hsz:its.size≤DA)
  (h:∀h',Fr h₀ L h' m→AY h₀ L h' news'→Q .none { s with heap:=h' }):AI (BE prog w) A (DK (.ref wr) [v]) Q E s:=by
 obtain⟨pre,post,rfl,rfl,a,b⟩:=U.split
 have z:=N (out,listOf its n) (AT.mpr (.inr (.head _)))
 exact lK (N _ hw).1 z.1 hsz λh' hs ho'=>h h' (hF.change hs z.2.1 z.2.2) (news_set N a b hs ho')
noncomputable def PQ(w:BU)(A:BQ)(s:AG)(prog:BH)(E:AC→AG→Prop)(x:AX)(t:DW)(v:AC)(Q:SI→AG→Prop):Prop :=
 ∀(h:Q () s),AI (BE prog w) A (PG "str.join" ⟨[.str x t,v],[]⟩) Q E s
theorem ZL:∀{a b c d e f g h i},PQ a b c d e f g h i:=by
 refine @(BK (GM KF)<|@(HF DM<|let_mvar%?n:=(λw A s prog E x t v Q=>?_:∀a b c d e f g h i,PQ a b c d e f g h i);?n _ _ _ _ _ _ _ _ _))
 intro h;unfold PG;rw[zU,uV];dsimp only;rw[CA (by decide)]
 refine Wb (IZ (UB _ _ _) fF ?_)
 rw[pA,uX];rw[CA (by decide)];refine Wb ?_;unfold isType
 refine Wb (Wp (Wp ?_))
 rw[CA (by decide)]
 refine Wb (MD (T:="str") (UB _ _ _) ?_)
 dsimp only;rw[uL,tL];exact Wp h
theorem tP{b l:AH}{x:AX}{t:DW}{ds:AE (AX×DW)}{Q:AC→AG→Prop}(hb:s.heap.get? b=AK { cls:=.type "builtin_function_or_method",data:=.fields #[.builtin "str.join",.str x t] })
  (hl:s.heap.IsList l (AF ds).toArray) (hok:PZ x (ds.map (·.1))=BC) (h:∀t' k,Q (.str (FW x (ds.map (·.1))) t') { s with toks:=k }) :
  AI (BE prog w) A (DK (.ref b) [.ref l]) Q E s:=by
 unfold PZ at hok;rw[iF] at hok
 refine QF (pY ?_)
 show AI _ _ (Hi (.ref b) ⟨[.ref l],[]⟩) _ _ _;unfold Hi;dsimp only
 refine Wb (YX hb ?_)
 show AI _ _ (PG "str.join" ⟨[.str x t,.ref l],[]⟩>>=λ_=>again (.builtin "str.join" ⟨[.str x t,.ref l],[]⟩)) _ _ _
 refine Wb (ZL (Wp ⟨LZ _ (by decide +kernel),?_⟩))
 refine IN F.entry_str_join ?_;rw[KJ (by decide +kernel)];refine Gi x t l ds hok prog w A (wants Q E) s ⟨hl,post_join ds ⟨joinFit_length hok,?_⟩⟩;exact h
end
end Mine
namespace Mine
open PySem.Calls PySem.Builtin PySem.Builtin.List
theorem HX{c:Prop}[PY c]{a b:Prop}(h1:c→a)(h2:¬c→b):if c then a else b:=by
 by_cases h:c
 ·rw[DJ h];exact h1 h
 ·rw[CA h];exact h2 h
noncomputable abbrev nW:CY:={ cls:=.type "slice",data:=.fields #[.none,.none,.none] }
theorem ZS:YV (.type "slice") "__index__"=pure BN:=by rw[KI,HM];kernel_rfl
section
variable{prog:BH}{w:BU}{A:BQ}{E:AC→AG→Prop}{s:AG}{h₀:CW}{L:AH}{m:AX→AM AC}{news:AE (AH×CY)}
theorem letGo_{M:QV}{l:AE AC}{Q:SI→AG→Prop}(h:Q () s):AI M A (letGo l) Q E s:=by
 induction l with
 |nil=>exact Wp h
 |cons a r ih=>unfold letGo;exact Wb (CI (wpAny_point ih))
theorem wH{M:QV}{l:AH}{its:CE AC}{n:CC}{f:CE AC→CE AC}{Q:SI→AG→Prop}(hl:s.heap.get? l=AK (listOf its n))(hz:its.size≤DA)(hf:f its=#[])
  (h:∀h' n',IF l s.heap h'→h'.get? l=AK (listOf #[] n')→Q () { s with heap:=h' }):AI M A (Az l f) Q E s:=by
 have e:ED f (listOf its n)=listOf #[] (if (f its).size==its.size then n else n+1):=by unfold ED;simp only[hf]
 refine ZD hl rfl (h _ (if (f its).size==its.size then n else n+1) (DR ..) ?_) hz (by rw[hf];exact EH _)
 rw[IT _ hl (by rw[e];rfl),e]
noncomputable def gG(w:BU)(A:BQ)(s:AG)(prog:BH)(E:AC→AG→Prop)(l sl:AH)(its:CE AC)(n:CC)(Q:SI→AG→Prop):Prop :=
 ∀(hl:s.heap.get? l=AK (listOf its n))(hs:s.heap.get? sl=AK nW)(hz:its.size≤DA)(h:∀h' n',IF l s.heap h'→h'.get? l=AK (listOf #[] n')→Q () { s with heap:=h' }),AI (BE prog w) A (delItem (.ref l) (.ref sl)) Q E s
theorem Bw:∀{a b c d e f g h i j},gG a b c d e f g h i j:=by
 refine @(BK (GM KF)<|@(UF DM<|let_mvar%?n:=(λw A s prog E l sl its n Q=>?_:∀a b c d e f g h i j,gG a b c d e f g h i j);?n _ _ _ _ _ _ _ _ _ _))
 intro hl hs hz h;refine wpAny_delItem_slot ⟨_,hl,rfl⟩ (by decide) Fy ?_
 refine FM Fy ⟨_,hl,rfl⟩ F.entry_list_delitem ?_ (F.args_list_delitem_2 _ _)
 unfold IE.«list.__delitem__»
 refine Wb (KW (a:=(.ref l,[.ref sl])) rfl ?_)
 dsimp only;refine Wb ?_;unfold listSubscript?
 refine Wb (rU (T:="slice") ⟨_,hs,rfl⟩ ZS ?_)
 refine Wp ?_;dsimp only
 refine Wb (MD (T:="slice") ⟨_,hs,rfl⟩ ?_)
 rw[CA (by decide +kernel)];refine Wb ?_;unfold listSliceParts;dsimp only
 refine Wb (OX hs rfl (x:=.none) rfl ?_)
 rw[DJ (by decide)]
 refine Wb (Wp ?_)
 rw[CA (by decide)]
 refine Wb (OX hs rfl (x:=.none) rfl ?_)
 refine Wb (Wp ?_)
 refine Wb (OX hs rfl (x:=.none) rfl ?_)
 refine Wb (Wp (Wp ?_))
 refine Wb (m:=listItems _) (Wb (UC hl rfl (Wp ?_)))
 refine Wb (KW (a:=((0:EE),(its.size:EE),(1:EE))) rfl ?_)
 refine Wb (JA (Wb ?_))
 refine wH hl hz (BW PD (AE.filterMap_eq_nil_iff.mpr λx hx=>DJ ?_)) λh' n' hsb ho=>?_
 ·have hlt:x.2<its.toList.length:=by
   obtain⟨a,i⟩:=x;have:=AE.mem_zipIdx hx
   exact(Nt λhn1=>fk [_,_] (.e (.s V0) (.a K0 V1) (.e V1 V0 K0)) rfl this.2.1 hn1)
  show(if (1:EE)>0 then decide ((0:EE)≤(x.2:EE))&&decide ((x.2:EE)<(its.size:EE))&&(((x.2:EE)-0) % 1==0) else _)=BC;rw[DJ (by decide)]
  have:(x.2:EE)<(its.size:EE):=by
   rw[GV] at hlt;omega
  simp[this,EE.emod_one]
 ·exact Wb (letGo_ (Wp ⟨_,rfl,h h' n' hsb ho⟩))
noncomputable def aF(w:BU)(A:BQ)(s:AG)(prog:BH)(E:AC→AG→Prop)(h₀:CW)(L:AH)(m:AX→AM AC)(news:AE (AH×CY))(l:AH)(its:CE AC)(n:CC)(news':CC→AE (AH×CY))(Q:SI→AG→Prop):Prop :=
 ∀(hF:Fr h₀ L s.heap m)(N:AY h₀ L s.heap news)(U:∀n',Upd l (listOf its n) (listOf #[] n') news (news' n'))(hz:its.size≤DA)(h:∀h' n',Fr h₀ L h' m→AY h₀ L h' (news' n')→Q () { s with heap:=h' }),AI (BE prog w) A (delItem (.ref l) (.ref s.heap.objs.size)) Q E { s with heap:=s.heap.push nW }
theorem tY:∀{w A s prog E h₀ L m news l its n news' Q},aF w A s prog E h₀ L m news l its n news' Q:=by
 refine @(BK (GM KF)<|@(MU DM<|let_mvar%?n:=(λw A s prog E h₀ L m news l its n news' Q=>?_:∀a b c d e f g h i j k l m n,aF a b c d e f g h i j k l m n);?n _ _ _ _ _ _ _ _ _ _ _ _ _ _))
 intro hF N U hz h;obtain⟨pre,post,e1,_,_,_⟩:=(U 0).split
 have z:=N (l,listOf its n) (by rw[e1];exact AT.mpr (.inr (.head _)))
 refine Bw (AV _ z.1) (CH _ rfl) hz λh' n' hsb ho'=>?_;obtain⟨pre,post,e1,e2,a,b⟩:=(U n').split;refine h h' n' (Fr.change (Fr.pushS hF _) hsb z.2.1 z.2.2) ?_;rw[e2];rw[e1] at N;exact news_set (λp hp=>⟨AV _ (N p hp).1,(N p hp).2⟩) a b hsb ho'
def pN(q:AH)(h:CW):Prop:=∃id self,h.get? q=AK { cls:=.type "builtin_function_or_method",data:=.fields #[.builtin id,self] }
theorem IC{M:QV}{env:XH}{pos:OP}{first:AE AC}{Q:AC→AG→Prop}{q:AH}{e:Expr}{rest:AE Expr}(h:AI M A (spliced (backTo pos (XF (e::rest) env))) (λvs s₁=>pN q s₁.heap∧AI M A (DK (.ref q) (first++vs)) Q E s₁) E s)
  (he:XF (e::rest) env=(AU,eval e env)::XF rest env:=by rfl) (hplain:(backTo pos (XF rest env)).any (·.1)=AU:=by rfl) :
  AI M A (IH pos (.ref q) first (backTo pos (XF (e::rest) env)) []) Q E s:=by
 rw[he] at h ⊢
 refine callWith_of (P:=pN q) (by show((AU||(backTo pos (XF rest env)).any (·.1))||false)=AU;rw[hplain];rfl) (λh X=>?_) (evalArgs_plain h)
 obtain⟨id,self,ho⟩:=X;exact⟨.machine,.inr (.inl rfl),(Looks.ld (part:=BN) ho).andThen .now⟩
end
end Mine
namespace Mine
open PySem.Calls
theorem jM:¬(!BC)=BC:=by decide
theorem Fr.to{g:CW}{L:AH}{h:CW}{m m':AX→AM AC}(F:Fr g L h m)(e:m=m'):Fr g L h m':=e ▸ F
theorem Cr{a:AX}{v v':AM AC}{m0:AX→AM AC}:(λy=>if y=a then v else if y=a then v' else m0 y)=(λy=>if y=a then v else m0 y):=by
 funext y
 by_cases h1:y=a
 ·simp[h1]
 ·simp[h1]
noncomputable def JG(pv:CZ)(x:AX):AX:=match pv with|true=>x|false=>Au x
theorem rJ(pv:CZ)(x:AX):(JG pv x).length≤x.length:=by
 cases pv with
 |true=>exact CR _
 |false =>
  show(Au x).length≤x.length;unfold Au Txt.stripBy;split
  ·exact CR _
  ·exact le_strSub _ _ _
end Mine
namespace Mine
open PySem.Calls
theorem GD{M:QV}{A:BQ}{f:AC}{args:AE AC}{Q:AC→AG→Prop}{E:AC→AG→Prop}{g:CW}{L:AH}{m:AX→AM AC}{news:AE (AH×CY)}{s:AG}{os:CU}(own rest:AE (AH×CY))(F:Fr g L s.heap m)(N:AY g L s.heap news)(hos:s.os=os)(hb:BP s.gens)
  (h1:∀p∈own,p∈news) (h2:∀p∈rest,p∈news) (h3:∀p∈rest,p.1∉own.map (·.1))
  (h:∀g₂,Ok g₂ os own s→(∀b o,g.get? b=AK o→g₂.get? b=AK o)→(∀p∈rest,g₂.get? p.1=AK p.2)→(∀s' own',Ok g₂ os own' s'→Fr g L s'.heap m∧AY g L s'.heap (own'++rest)∧s'.os=os∧BP s'.gens) →
   DV M A (.call f ⟨args,[]⟩) (λr s'=>match r with|.ok (.ret v)=>Q v s'|.ok _=>NF|.error e=>E e s') s):AI M A (DK f args) Q E s:=by
 obtain⟨a,b,c,d⟩:=fE (own:=own) (rest:=rest) F N hos hb h1 h2 h3
 exact QF (h _ a b c d)
theorem VA{x:AX}(h:((x.length:EE) !=0)=BC):x≠AW:=λe=>by rw[e] at h;revert h;decide
theorem RK{x:AX}(h:¬((x.length:EE) !=0)=BC):x=AW:=YT (by simpa using h)
noncomputable def OI(x:AX):AX:=LV "\r" "&#xD;" (LV ">" "&gt;" (LV "<" "&lt;" (LV "&" "&amp;" x)))
noncomputable def RD(x:AX):AX:=LV "\r" "&#xD;" (LV "\n" "&#xA;" (LV "\t" "&#x9;" (LV "\"" "&quot;" (LV "<" "&lt;" (LV "&" "&amp;" x)))))
noncomputable def JE(rs:CZ)(D:AX):AE AX:=if rs=BC∧D≠AW then [OI D] else []
theorem cZ{rs:CZ}{D:AX}(h:D=AW∨rs=AU):JE rs D=[]:=by
 unfold JE;refine CA λz=>?_;rcases h with h|h
 ·exact z.2 h
 ·rw[h] at z;exact DE z.1
theorem lR{rs:CZ}{D:AX}(h:D≠AW)(hr:rs=BC):JE rs D=[OI D]:=DJ ⟨hr,h⟩
theorem IL{rs pv:CZ}:JE rs (JG pv (FW AW (([]:AE (AX×DW)).map (·.1))))=[]:=by
 refine cZ (.inl ?_)
 cases pv with
 |true=>rfl
 |false=>exact(by decide +kernel:Au (FW AW [])=AW)
theorem RE{n:CC}(h:n≤DA):(n:EE)<2 ^ 63:=by
 rw[BI] at h
 have:(2:EE) ^ 63=9223372036854775808:=by decide
 lia
theorem OQ(rs:CZ)(D:AX):(JE rs D).length≤1:=by
 unfold JE;split
 ·exact CR _
 ·exact EH _
theorem eH{ol ol2:AE (AX×DW)}{l:AE AX}(e:ol2.map (·.1)=ol.map (·.1)++l)(hl:l.length≤9)(ho:ol.length≤5000):(AF ol2).toArray.size≤DA:=by
 have h:=BW EG e;simp only[AN,BD] at h;rw[BI];simp only[AF,CG,AN]
 exact(Nl λhn1=>fk [_,_,_] (.e V0 (.k 9) (.e V1 (.k 5000) (.e V2 (.a V1 V0) (.e (.s (.k 16777216)) V2 K0)))) rfl hl ho (El h) hn1)
theorem mG(p:AE AC)(y:AC):kl_last (p++[y])=AK (p,y):=by
 induction p with
 |nil=>rfl
 |cons a p ih =>
  cases p with
  |nil=>rfl
  |cons b p=>simp only[DQ,kl_last] at ih ⊢;rw[ih]
theorem nG{prog:BH}{w:BU}{A:BQ}{E:AC→AG→Prop}{s:AG}{h₀:CW}{L D:AH}{m:AX→AM AC}{news news':AE (AH×CY)}{p:AE AC}{y:AC}{n:CC}{Q:AC→AG→Prop}(F:Fr h₀ L s.heap m)(N:AY h₀ L s.heap news)(U:Upd D (listOf (p++[y]).toArray n) (listOf p.toArray (n+1)) news news')
  (hz:p.length+1≤DA) (h:∀h',Fr h₀ L h' m→AY h₀ L h' news'→Q y { s with heap:=h' }):AI (BE prog w) A (DK (.builtin "list.pop") [.ref D]) Q E s :=
 kl_pop F N (mG p y) U (by simp only[BD,CD,GA];exact hz) h
theorem YL{uri p:AX}:∀{l:AE Pr}{seen seen':AE AX},scan uri l seen=(AK p,seen')→(uri,p)∈l
 |[],_,_,h=>by simp[scan] at h
 |q::r,seen,_,h=>by
  unfold scan at h;split at h
  ·rename_i c
   injection h with h1 h2;injection h1 with h1;rw[← h1,← c.1];exact .head _
  ·exact .tail _ (YL h)
theorem XY{uri p:AX}:∀{l:AE Pr},find uri l=AK p→(uri,p)∈l
 |[],h=>by simp[find] at h
 |q::r,h=>by
  unfold find at h;split at h
  ·rename_i c
   injection h with h1;rw[← h1,← c];exact .head _
  ·exact .tail _ (XY h)
theorem lZ{p tag:AX}(hp:p.length≤200)(ht:tag.length≤200):(full p tag).length≤500:=by
 unfold full;split
 ·exact(Nl λhn1=>fk [_] (.e V0 (.k 200) (.e (.s (.k 500)) V0 K0)) rfl ht hn1)
 ·rw[size_cat,size_cat];have:(AA ":").length=1:=rfl;exact(Nl λhn1=>fk [_,_,_] (.e V0 (.k 200) (.e V1 (.k 200) (.e V2 K1 (.e (.s (.k 500)) (.a (.a V0 V2) V1) K0)))) rfl hp ht (El this) hn1)
noncomputable def nK(decl ns:AE Pr)(uri tag txt:AX)(o:AM Pr):Prop :=
 ∀(h:qn decl ns uri tag=AK (txt,o))(hd:∀q∈decl,q.2.length≤200)(hn:∀q∈ns,q.2.length≤200)(ht:tag.length≤200),txt.length≤500
theorem zH:∀{a b c d e f},nK a b c d e f:=by
 refine @(MU DM<|let_mvar%?n:=(λdecl ns uri tag txt o=>?_:∀a b c d e f,nK a b c d e f);?n _ _ _ _ _ _)
 intro h hd hn ht;unfold qn at h;split at h
 ·rename_i p _ e
  injection h with h;injection h with h _;rw[← h];exact lZ (hd _ (YL e)) ht
 ·split at h
  ·injection h with h;injection h with h _;rw[← h];exact(Nl λhn1=>fk [_] (.e V0 (.k 200) (.e (.s (.k 500)) V0 K0)) rfl ht hn1)
  ·split at h
   ·rename_i p e
    injection h with h;injection h with h _;rw[← h];exact lZ (hn _ (XY e)) ht
   ·split at h
    ·injection h with h;injection h with h _;rw[← h];exact(Nl λhn1=>fk [_] (.e V0 (.k 200) (.e (.s (.k 500)) V0 K0)) rfl ht hn1)
    ·cases h
theorem GN(ol:AE (AX×DW))(x:AX)(t:DW):(AF (ol++[(x,t)])).toArray=(AF ol).toArray.push (.str x t):=by
 unfold AF;simp
end Mine
namespace Mine
open PySem.Calls
section
variable{prog:BH}{w:BU}{A:BQ}{E:AC→AG→Prop}{s:AG}{h₀:CW}{L d:AH}{m:AX→AM AC}{news:AE (AH×CY)}{g:CY→AE (AH×CY)}{o:CY}{q:AE (AX×(AX×DW))}
noncomputable def HY(prog:BH)(w:BU)(o:CY)(q:AE (AX×(AX×DW))):Prop :=
 o.IsDictOf (strKind prog w) (q.map λp=>(p.1,.str p.2.1 p.2.2))∧∃D,Gg PyData.str (q.map λp=>(p.1,.str p.2.1 p.2.2)) D
theorem yC{kvs:AE (AX×AC)}{D:AE (PyData×PyData)}(h:Gg PyData.str kvs D):D.length=kvs.length:=by
 induction h<;>simp_all
theorem UN{k v:AX}{tk t:DW}{Q:SI→AG→Prop}(F:Fr h₀ L s.heap m)(N:AY h₀ L s.heap news)(U:UpdF d o news g)(hd:HY prog w o q)(hk:k∉q.map (·.1))(hz:q.length≤100)
  (h:∀h' o' tk',Fr h₀ L h' m→AY h₀ L h' (g o')→HY prog w o' (q++[(k,(v,t))])→Q () { s with heap:=h',toks:=tk' }):AI (BE prog w) A (YN (.ref d) (.str k tk) (.str v t)) Q E s:=by
 obtain⟨h1,D,h2⟩:=hd
 have e:stored (q.map λp=>(p.1,.str p.2.1 p.2.2)) k (.str v t)=(q++[(k,(v,t))]).map λp=>(p.1,.str p.2.1 p.2.2):=by
  unfold stored;rw[CA,BF]
  ·rfl
  ·intro hc
   simp only[AE.any_map,AE.any_eq_true,Function.comp,HI] at hc;obtain⟨p,hp,he⟩:=hc
   exact hk (he ▸ BV hp)
 refine setItem_K PyProof.V.same_str (YS _ _ _ _) (PyProof.V.Flat.str _ _) F N U h1 h2 (λh' o' F' N' a b=>?_) ?_
 ·rw[e] at a b
  exact h h' o' _ F' N' ⟨a,_,b⟩
 ·rw[yC h2,AN,BI];exact AQ hz (by decide)
theorem mP{env:XH}{pos:OP}{Q:AC→AG→Prop}(F:Fr h₀ L s.heap m)(N:AY h₀ L s.heap news)(hbig:h₀.NoLimit)
  (k:∀d h' o,Fr h₀ L h' m→AY h₀ L h' ((d,o)::news)→(∀p∈news,p.1<d)→(d==FB)=AU→HY prog w o []→Q (.ref d) { s with heap:=h' }):AI (BE prog w) A (eval (.Dict [] [] pos) env) Q E s :=
 newDict_K F N hbig λd h' o F' N' l lo a b _ _=>k d h' o F' N' l lo ⟨a,_,b⟩
theorem HY.at(hd:HY prog w o q)(e:s.heap.get? d=AK o):s.heap.DictOf (strKind prog w) d (q.map λp=>(p.1,.str p.2.1 p.2.2)):=let ⟨es,ep,r⟩:=hd.1;⟨o,es,ep,e,r⟩
theorem ZY{k:AX}:(k∉q.map (·.1)∧JY (q.map λp=>(p.1,EW p.2.1 p.2.2)) k=BN)∨∃v t,(k,(v,t))∈q∧JY (q.map λp=>(p.1,EW p.2.1 p.2.2)) k=AK (.str v t):=by
 induction q with
 |nil=>exact .inl ⟨GK,rfl⟩
 |cons a r ih =>
  obtain⟨k',v',t'⟩:=a
  by_cases e:k'=k
  ·subst e
   exact .inr ⟨v',t',.head _,by simp[JY]⟩
  ·have ev:JY (((k',v',t')::r).map λp=>(p.1,EW p.2.1 p.2.2)) k=JY (r.map λp=>(p.1,EW p.2.1 p.2.2)) k:=by
    simp[JY,pO,e]
   rw[ev];rcases ih with⟨h1,h2⟩|⟨v,t,h1,h2⟩
   ·exact .inl ⟨λz=>(AP.mp z).elim (λz=>e z.symm) h1,h2⟩
   ·exact .inr ⟨v,t,.tail _ h1,h2⟩
theorem in_S{k:AX}{tk:DW}{Q:AC→AG→Prop}(hds:(d==FB)=AU)(e:s.heap.get? d=AK o)(hd:HY prog w o q)(h:Q (.bool (decide (k∈q.map (·.1)))) { s with toks:=s.toks+1 }):AI (BE prog w) A (LO .In (.str k tk) (.ref d)) Q E s:=by
 refine wpAny_in_of (YS _ _ _ _) hds (hd.at e).mapOf ?_;rcases ZY (q:=q) (k:=k) with⟨h1,h2⟩|⟨v,t,h1,h2⟩
 ·rw[h2];rw[CF h1] at h;exact h
 ·rw[h2];rw[CN (BV (f:=(·.1)) h1)] at h;exact h
theorem jO{k:AX}{tk:DW}{Q:AC→AG→Prop}(hds:(d==FB)=AU)(e:s.heap.get? d=AK o)(hd:HY prog w o q)(h:Q (.bool (!decide (k∈q.map (·.1)))) { s with toks:=s.toks+1 }):AI (BE prog w) A (LO .NotIn (.str k tk) (.ref d)) Q E s:=by
 refine wpAny_notIn_of (YS _ _ _ _) hds (hd.at e).mapOf ?_;rcases ZY (q:=q) (k:=k) with⟨h1,h2⟩|⟨v,t,h1,h2⟩
 ·rw[h2];rw[CF h1] at h;exact h
 ·rw[h2];rw[CN (BV (f:=(·.1)) h1)] at h;exact h
theorem Ad{k:AX}{t:DW}{Q:AC→AG→Prop}{value slice:EK}(e:s.heap.get? d=AK o)(hd:HY prog w o q)(hk:k∈q.map (·.1))(h:∀v t',(k,(v,t'))∈q→Q (.str v t') { s with toks:=s.toks+1 })
  (hs:subscripted slice AU (.ref d) (.str k t)=operate [.ref d,.str k t] (SO (.ref d) (.str k t)):=by with_unfolding_all rfl):AI (BE prog w) A (BZ value slice (.ref d) (.str k t)) Q E s:=by
 rcases ZY (q:=q) (k:=k) with⟨h1,h2⟩|⟨v,t',h1,h2⟩
 ·exact absurd hk h1
 ·exact vY (hd.at e).typeIs Hp.lookup (wpAny_getItem_of (YS _ _ _ _) (hd.at e).mapOf h2 (h v t' h1)) hs
theorem Er{Q:AC→AG→Prop}(hds:(d==FB)=AU)(e:s.heap.get? d=AK o)(hd:HY prog w o q)(hz:q.length≤100)(h:Q (.int (q.length:CC) (s.toks+1)) { s with toks:=s.toks+1+1 }):AI (BE prog w) A (DK (.builtin "len") [.ref d]) Q E s:=by
 refine PySem.call_len_dict hds (hd.at e) ?_ (by rw[AN];exact h)
 have:(2:EE) ^ 63=9223372036854775808:=by decide
 rw[AN];omega
end
theorem AY.drop2m{h₀ h:CW}{L:AH}{a b c d e f:AH×CY}{rest:AE (AH×CY)}(N:AY h₀ L h (a::b::c::d::e::f::rest)):AY h₀ L h [a,c,d,e,f]:=AY.sub N (Fc (.head _) (Fc (.tail _ (.tail _ (.head _))) (Fc (.tail _ (.tail _ (.tail _ (.head _)))) (Fc (.tail _ (.tail _ (.tail _ (.tail _ (.head _))))) (Fc (.tail _ (.tail _ (.tail _ (.tail _ (.tail _ (.head _)))))) (BA _))))))
theorem AY.drop3m{h₀ h:CW}{L:AH}{a b c d e f k:AH×CY}{rest:AE (AH×CY)}(N:AY h₀ L h (a::b::c::d::e::f::k::rest)):AY h₀ L h [a,b,d,e,f,k]:=AY.sub N (Fc (.head _) (Fc (.tail _ (.head _)) (Fc (.tail _ (.tail _ (.tail _ (.head _)))) (Fc (.tail _ (.tail _ (.tail _ (.tail _ (.head _))))) (Fc (.tail _ (.tail _ (.tail _ (.tail _ (.tail _ (.head _)))))) (Fc (.tail _ (.tail _ (.tail _ (.tail _ (.tail _ (.tail _ (.head _))))))) (BA _)))))))
noncomputable abbrev Ep{g:CW}{L:AH}{h:CW}{m:AX→AM AC}(_:Fr g L h m):AX→AM AC:=m
theorem exs6{σ α0 α1 α2 α3 α4 α5:Type}{R:σ→α0→α1→α2→α3→α4→α5→Prop}{G:σ→Prop}(h:∀s a0 a1 a2 a3 a4 a5,R s a0 a1 a2 a3 a4 a5→G s):∀s,(∃a0 a1 a2 a3 a4 a5,R s a0 a1 a2 a3 a4 a5)→G s:=λs=>exi6 (h s)
end Mine
namespace Mine
open PySem.Calls
theorem ZU{g:CW}{os:CU}{own rest:AE (AH×CY)}{s:AG}(H:Ok g os own s)(r:∀p∈rest,g.get? p.1=AK p.2){a b:AH}{o o':CY}(ha:(a,o)∈own)(hb:(b,o')∈rest):a≠b:=λe=>by
 have h1:=(H.own _ ha).2;have h2:=r _ hb;rw[e] at h1;rw[h1] at h2;cases h2
section
variable{hs:CC→EE}{tk:CC→DW}{c2 c3 c4 c5 c6 c7 c8 c13:AC}{wr da de ns pm pr:AH}{rs rd:CZ}{ig:EE}{n:CC}{h:EE}{k:AC}{b:CZ}
theorem put_rd:(putL "_root_done" h k (.bool b) (wd hs tk c2 c3 c4 c5 c6 c7 c8 c13 wr da de ns pm pr rs rd ig),putN "_root_done" (wd hs tk c2 c3 c4 c5 c6 c7 c8 c13 wr da de ns pm pr rs rd ig) n)=(wd hs tk c2 c3 c4 c5 c6 c7 c8 c13 wr da de ns pm pr rs b ig,n):=rfl
theorem put_rs:(putL "_root_seen" h k (.bool b) (wd hs tk c2 c3 c4 c5 c6 c7 c8 c13 wr da de ns pm pr rs rd ig),putN "_root_seen" (wd hs tk c2 c3 c4 c5 c6 c7 c8 c13 wr da de ns pm pr rs rd ig) n)=(wd hs tk c2 c3 c4 c5 c6 c7 c8 c13 wr da de ns pm pr b rd ig,n):=rfl
end
end Mine
namespace Mine
open PySem.Calls
section
variable{prog:BH}{w:BU}{A:BQ}{E:AC→AG→Prop}{s:AG}
theorem Cj{α:Type}{M:QV}{c:CZ}{a b:kZ α}{Q:α→AG→Prop}(hc:c=AU)(h:AI M A b Q E s):AI M A (if c=BC then a else b) Q E s:=by
 subst hc;exact h
theorem mJ:YV (.type "list") "append"=pure (AK (.builtin "list.append")):=by rw[KI,HM];kernel_rfl
theorem yT:YV (.type "method_descriptor") "__get__"=pure (AK (.builtin "method_descriptor.__get__")):=by rw[KI,HM];kernel_rfl
theorem yU:YV (.type "method_descriptor") "__set__"=pure BN:=by rw[KI,HM];kernel_rfl
theorem yS:YV (.type "method_descriptor") "__delete__"=pure BN:=by rw[KI,HM];kernel_rfl
theorem vS:Slot "method_descriptor" "__get__" "method_descriptor.__get__" :=
 .of (owner:="method_descriptor") (n:="__get__") (by rw[KI,HM];kernel_rfl) (by decide +kernel) (by decide +kernel) (by decide +kernel)
  (by first|exact .inl (by decide +kernel)|exact .inr (by decide +kernel)) (by rw[LP];kernel_rfl)
theorem qB:bS table "method_descriptor.__get__"=AK IE.«method_descriptor.__get__»:=WR (by kernel_rfl)
theorem tN(a b c:AC):Bp "method_descriptor.__get__" ⟨[a,b,c],[]⟩:=by unfold Bp;kernel_rfl
theorem oZ:typeOf (.builtin "list.append")=pure (.type "method_descriptor"):=by show builtinType _=_;rw[builtinType_eq_fast];kernel_rfl
theorem sub_list_list:mA (.type "list") (.type "list")=pure BC:=by rw[LP];kernel_rfl
theorem zJ{l:AH}{P:TD→AG→Prop}(hT:s.TypeIs (.ref l) "list")(h:P (.done (.ret (.ref s.heap.objs.size))) { s with heap:=s.heap.push (DZ l) }) :
  AI (BE prog w) A (IE.«method_descriptor.__get__» ⟨[.builtin "list.append",.ref l,.type "list"],[]⟩) P E s:=by
 unfold IE.«method_descriptor.__get__»
 refine Wb (KW (a:=(.builtin "list.append",AK (.ref l),AK (.type "list"))) (by first|rfl|kernel_rfl) ?_)
 dsimp only;rw[CA (by decide +kernel)];refine Wb ?_;refine Wb ?_;refine KW (a:=(AA "append",.type "list")) (by first|rfl|kernel_rfl) ?_;dsimp only
 refine Wb (IZ hT sub_list_list ?_)
 refine Cj rfl ?_
 exact Wp (Wb (GX (Wp h)))
noncomputable def VR(w:BU)(A:BQ)(s:AG)(prog:BH)(E:AC→AG→Prop)(l:AH)(its:CE AC)(n:CC)(Q:AC→AG→Prop):Prop :=
 ∀(ho:s.heap.get? l=AK (listOf its n))(h:∀tk,Q (.ref s.heap.objs.size) { s with heap:=s.heap.push (DZ l),toks:=tk }),AI (BE prog w) A (Hj (.ref l) "append" BC) Q E s
theorem lH:∀{a b c d e f g h i},VR a b c d e f g h i:=by
 refine @(BK (GM KF)<|@(HF DM<|let_mvar%?n:=(λw A s prog E l its n Q=>?_:∀a b c d e f g h i,VR a b c d e f g h i);?n _ _ _ _ _ _ _ _ _))
 intro ho h;obtain⟨hp,g,d,tk,os⟩:=s;have hT:∀tk',(⟨hp,g,d,tk',os⟩:AG).TypeIs (.ref l) "list":=λ_=>⟨_,ho,rfl⟩;have f3:=VM.lookup
 have f4:=VM.bind (.ref l)
 have f5:=am_list_getattr_none;have f6:=mJ;unfold Hj getAttrBy
 repeat (any_goals(first|assumption|exact hT _|((with_reducible show AI _ _ (DK (.builtin "list.__getattribute__") _ _) _ _ _);refine FM VM (hT _) am_entry_list_getattribute ?_ (F.args_list_getattribute_2 _ _))|wp_step))
 rw[UK];have f7:=yT;have f8:=yU;have f9:=yS
 repeat (any_goals(first|assumption|exact hT _|((with_reducible show AI _ _ (DK (.builtin "method_descriptor.__get__") _ _) _ _ _);refine FM vS oZ qB (zJ (hT _) ⟨_,rfl,?_⟩) (tN _ _ _))|wp_step|rw[UK]))
 refine⟨_,rfl,?_⟩
 repeat (any_goals(first|assumption|exact h _|wp_step))
theorem fR{h₀:CW}{L:AH}{m:AX→AM AC}{news:AE (AH×CY)}{l:AH}{its:CE AC}{n:CC}{Q:AC→AG→Prop}(F:Fr h₀ L s.heap m)(N:AY h₀ L s.heap news)(hm:(l,listOf its n)∈news)
  (h:∀x h' tk,Fr h₀ L h' m→AY h₀ L h' ((x,DZ l)::news)→(∀p∈news,p.1<x)→Q (.ref x) { s with heap:=h',toks:=tk }):AI (BE prog w) A (Hj (.ref l) "append" BC) Q E s :=
 lH (N _ hm).1 λtk=>h _ _ tk (Fr.pushS F _) (AY.push F N _) λp hp=>BS (N p hp).1
end
end Mine
namespace Mine
open PySem.Calls
noncomputable abbrev IM(P:Params)(l:AE ((AX×DW)×(AX×DW))):AE DictEntry:=l.map λp=>⟨PyData.keyHash P p.1.1,.str p.1.1 p.1.2,.str p.2.1 p.2.2⟩
noncomputable abbrev OF(l:AE ((AX×DW)×(AX×DW))):AE (AX×AC):=l.map λp=>(p.1.1,.str p.2.1 p.2.2)
section
variable{prog:BH}{w:BU}{A:BQ}{E:AC→AG→Prop}{s:AG}{h₀:CW}{L:AH}{m:AX→AM AC}{news:AE (AH×CY)}
theorem oF:∀l:AE ((AX×DW)×(AX×DW)),Pairs (strKind prog w) (IM w.params l) (OF l)
 |[]=>.nil
 |p::l=>.cons (YS _ _ _ _) rfl (oF l)
theorem VH{l:AE ((AX×DW)×(AX×DW))}{n:CC}(hn:(l.map (·.1.1)).Nodup):(CK (IM w.params l) n).IsDictOf (strKind prog w) (OF l):=by
 refine⟨_,n,⟨rfl,rfl,rfl⟩,rfl,?_,oF l,?_⟩
 ·intro e he
  simp only[AE.mem_toArray,CO] at he;obtain⟨p,_,rfl⟩:=he;exact⟨p.1.1,YS _ _ _ _,rfl⟩
 ·rw[GG];exact hn
theorem YQ{d:AH}{l:AE ((AX×DW)×(AX×DW))}{n:CC}{pl:kZ CZ}{Q:AC×AE AC→AG→Prop}(hd:s.heap.get? d=AK (CK (IM w.params l) n))(h:Q (.builtin "dict.items",[.ref d]) s) :
  AI (BE prog w) A (WW (.ref d) "items" pl) Q E s :=
 Hk ⟨_,hd,rfl⟩ Aq Ar PySem.F.type_dict_items (λa e=>by cases e;exact⟨_,hd,rfl⟩) h
theorem nZ{d:AH}{l:AE ((AX×DW)×(AX×DW))}{n:CC}{Q:AC→AG→Prop}(F:Fr h₀ L s.heap m)(N:AY h₀ L s.heap news)(hd:s.heap.get? d=AK (CK (IM w.params l) n))(hn:(l.map (·.1.1)).Nodup)(lo:(d==FB)=AU)
  (h:∀(D:AH)h',Fr h₀ L h' m→AY h₀ L h' ((D,{ cls:=.type "dict_items",data:=.fields #[.ref d] })::news)→(∀q∈news,q.1<D)→(∀b o,s.heap.get? b=AK o→h'.get? b=AK o)→Q (.ref D) { s with heap:=h' }) :
  AI (BE prog w) A (DK (.builtin "dict.items") [.ref d]) Q E s:=by
 have hD:s.heap.DictOf (strKind prog w) d (OF l):=MF.mpr ⟨_,hd,VH hn⟩;exact call_meetsIn Ar hD.typeIs PySem.F.entry_dict_items (PySem.F.args_dict_items_1 _) (meets_dict_items (strKind prog w) d lo) ⟨⟨_,hD⟩,h _ _ (F.push _) (AY.push F N _) (λq hq=>BS (N q hq).1) (λb o e=>AV _ e)⟩
theorem sX{k:AX}{v:AC}(h:(strKind prog w).is k v=BC):∃t,v=.str k t:=by
 cases v<;>simp[EL,JD] at h;exact⟨_,by rw[h]⟩
abbrev gE(q:AH×CY)(p:(AX×DW)×(AX×DW)):Prop:=∃t,q.2=DO #[.str p.1.1 t,.str p.2.1 p.2.2]
theorem Ag{h:CW}:∀(as:AE AH)(l:AE ((AX×DW)×(AX×DW))),as.length=l.length →
  (∀(j:CC)(a:AH),as[j]?=AK a→∃key k x,(OF l)[j]?=AK (k,x)∧(strKind prog w).is k key=BC∧h.get? a=AK { cls:=.type "tuple",data:=.seq #[key,x] }) →
  ∃tl:AE (AH×CY),tl.map (·.1)=as∧All2 gE tl l∧∀q∈tl,h.get? q.1=AK q.2
 |[],[],_,_=>⟨[],rfl,.nil,λ_ hq=>nomatch hq⟩
 |[],_::_,hl,_=>by simp at hl
 |_::_,[],hl,_=>by simp at hl
 |a::as,p::l,hl,hp=>by
  obtain⟨key,k,x,e1,e2,e3⟩:=hp 0 a rfl
  obtain⟨tl,f1,f2,f3⟩:=Ag as l (by simpa using hl) λj b hj=>by
   obtain⟨key',k',x',g1,g2,g3⟩:=hp (j+1) b (by simpa using hj)
   exact⟨key',k',x',by simpa using g1,g2,g3⟩
  obtain⟨t,rfl⟩:=sX e2;simp only[OF,EC,GJ,IG,Prod.mk.injEq] at e1;obtain⟨rfl,rfl⟩:=e1
  exact⟨(a,_)::tl,by rw[EC,f1],.cons ⟨t,rfl⟩ f2,λq hq=>by
   rcases AP.mp hq with rfl|hq
   ·exact e3
   ·exact f3 q hq⟩
theorem Du{v d:AH}{l:AE ((AX×DW)×(AX×DW))}{n:CC}{Q:AC→AG→Prop}(hh:A.handled=BN)(F:Fr h₀ L s.heap m)(N:AY h₀ L s.heap news)(hd:s.heap.get? d=AK (CK (IM w.params l) n))(hn:(l.map (·.1.1)).Nodup)(hz:l.length≤DA)
  (hv:(v,{ cls:=.type "dict_items",data:=.fields #[.ref d] })∈news)
  (h:∀(B:AH)tl c h' tk,All2 gE tl l→(tl.map (·.1)).Pairwise (·<·)→(∀q∈tl,B<q.1)→(∀q∈news,q.1<B)→Fr h₀ L h' m→AY h₀ L h' (tl++(B,listOf (tl.map λq=>.ref q.1).toArray c)::news)→Q (.ref B) { s with heap:=h',toks:=tk }) :
  AI (BE prog w) A (DK (.type "list") [.ref v]) Q E s:=by
 obtain⟨ep,hat⟩:=KdkAt.of (VH (prog:=prog) (w:=w) (n:=n) hn)
 refine kdx_call (knd:=strKind prog w) (kvs:=OF l) (ep:=ep) hh ⟨_,(N _ hv).1,rfl,rfl⟩ (hat.dictAt hd) (by rw[AN];exact hz) λh' tk acc c as hk hS hl hG hacc=>?_;obtain⟨tl,rfl,f2,f3⟩:=Ag (h:=h') as l (by rw[hl,AN]) hG.pairs
 have ea:acc=(tl.map λq=>.ref q.1).toArray:=by rw[← bJ (xs:=acc),hacc,GG];rfl
 subst ea;refine h _ tl c h' tk f2 hG.rise (λq hq=>hG.above _ (BV hq)) (λq hq=>BS (N q hq).1) (F.keeps hk) λq hq=>?_;rcases AT.mp hq with hq|hq
 ·exact⟨f3 q hq,kdx_fresh F (EU (hG.above _ (BV hq)))⟩
 ·rcases AP.mp hq with rfl|hq
  ·exact⟨hS,kdx_fresh F (CR _)⟩
  ·exact⟨hk _ _ (N q hq).1,(N q hq).2⟩
theorem All2.uncons{α β:Type}{P:α→β→Prop}{l:AE α}{b:β}{r:AE β}(h:All2 P l (b::r)):∃a l',l=a::l'∧P a b∧All2 P l' r:=by
 cases h with|cons p q=>exact⟨_,_,rfl,p,q⟩
theorem All2.unnil{α β:Type}{P:α→β→Prop}{l:AE α}(h:All2 P l ([]:AE β)):l=[]:=by
 cases h;rfl
end
end Mine
namespace Mine
open PySem.Calls
theorem qH(t:NL)(es:CE (EE×AC))(h:EE)(x:AC):(Gw t es h x).2.1.led=t.led:=by
 unfold Gw;split
 ·dsimp only
  unfold Gr;split<;>rfl
 ·rfl
noncomputable def YJ(t t':NL)(hs:CE EE)(n:CC)(od:CE CC):Prop :=
 ∀(h:t.relaid hs n=AK (t',od)),t'.led=t.led∧t'.plain=t.plain
theorem eM:∀{a b c d e},YJ a b c d e:=by
 refine @(RA DM<|let_mvar%?n:=(λt t' hs n od=>?_:∀a b c d e,YJ a b c d e);?n _ _ _ _ _)
 intro h;unfold NL.relaid NL.laid at h
 cases e:Hg (TR n-1) hs with
 |none=>rw[e] at h;cases h
 |some ow=>rw[e] at h;cases h;exact⟨rfl,rfl⟩
theorem jS(t:NL)(es:CE (EE×AC))(n:CC):(TV t es n).2.1.led=t.led∧(t.plain=AU→(TV t es n).2.1.plain=AU):=by
 unfold TV;split
 ·rename_i t' od e
  dsimp only;split
  ·exact⟨(eM e).1,λh=>(eM e).2.trans h⟩
  ·exact⟨rfl,λ_=>rfl⟩
 ·exact⟨rfl,λ_=>rfl⟩
noncomputable def unS:AC→AX×DW
 |.str x t=>(x,t)
 |_=>(AW,0)
theorem Dy(l:AE (AX×DW)):(AF l).map unS=l:=by
 unfold AF;rw[GG]
 conv=>rhs;rw[← pG l]
 exact Gb λp _=>rfl
theorem mZ{vs:AE AC}{l:AE (AX×DW)}(h:vs.Perm (AF l)):∃l1,vs=AF l1∧l1.Perm l:=by
 refine⟨vs.map unS,?_,?_⟩
 ·unfold AF;rw[GG]
  conv=>lhs;rw[← pG vs]
  refine Gb λv hv=>?_
  obtain⟨p,_,rfl⟩:=CO.mp (show v∈l.map λp=>.str p.1 p.2 from h.mem_iff.mp hv)
  rfl
 ·have:=h.map unS
  rwa [Dy] at this
theorem Ci(j:CC):Bo #[] j=AU:=by unfold Bo;simp
def aA(t:NL):Prop:=7≤t.mask∧t.dummies=#[]
theorem jI(t:NL)(es:CE (EE×AC))(h:EE)(x:AC)(c:aA t):aA (Gw t es h x).2.1:=by
 unfold Gw;split
 ·dsimp only
  unfold Gr;split
  ·refine⟨c.1,?_⟩
   show(if Bo t.dummies _ then _ else t.dummies)=#[];rw[c.2,Ci];rfl
  ·refine⟨?_,rfl⟩
   show 7≤4*_+4;unfold NL.insertAt;simp only[Gz,pM]
   exact(Nl λhn1=>fk [_,_] (.e (.a (.a (.m 4 (.a (.s V0) V1)) (.k 4)) K1) (.k 7) K0) rfl hn1)
 ·refine⟨?_,rfl⟩
  show 7≤4*_+4
  exact(Nl λhn1=>fk [_] (.e (.a (.a (.m 4 (.s V0)) (.k 4)) K1) (.k 7) K0) rfl hn1)
theorem jX(n:CC):8≤TR n:=by
 have go:∀f k,8≤k→8≤Ei n f k:=by
  intro f
  induction f with
  |zero=>intro k hk;exact hk
  |succ f ih =>
   intro k hk;unfold Ei;split
   ·exact ih _ (by exact(Nl λhn1=>fk [_] (.c 2 (.k 8) V0 (.e (.a (.w V0 2) K1) (.k 8) K0)) rfl hk hn1))
   ·exact hk
 exact go 64 8 (CR _)
theorem jR{t t':NL}{hs:CE EE}{n:CC}{od:CE CC}(h:t.relaid hs n=AK (t',od)):aA t':=by
 unfold NL.relaid NL.laid at h;have:=jX n
 cases e:Hg (TR n-1) hs with
 |none=>rw[e] at h;cases h
 |some ow=>rw[e] at h;cases h;exact⟨by show 7≤TR n-1;exact(Nl λhn1=>fk [_,_] (.e (.k 8) V0 (.e (.s V1) (.k 7) (.e V0 (.s V1) K0))) rfl this hn1 Ln.sba),rfl⟩
theorem eO(t:NL)(es:CE (EE×AC))(n:CC)(hz:0<es.size):aA (TV t es n).2.1:=by
 unfold TV;split
 ·rename_i t' od e
  dsimp only;split
  ·exact jR e
  ·exact⟨by show 7≤4*_+4;exact(Nl λhn1=>fk [_] (.c 4 (.s K0) V0 (.e (.a (.a (.m 4 V0) (.k 4)) K1) (.k 7) K0)) rfl hz hn1),rfl⟩
 ·exact⟨by show 7≤4*_+4;exact(Nl λhn1=>fk [_] (.c 4 (.s K0) V0 (.e (.a (.a (.m 4 V0) (.k 4)) K1) (.k 7) K0)) rfl hz hn1),rfl⟩
def MI(prog:BH)(w:BU)(o:CY)(ks:AE AX):Prop:=∃es ep t l,o.ExactSet∧o.data=.set es ep t∧ElemsOf (strKind prog w) es.toList∧es.toList.map (·.2)=AF l∧(l.map (·.1)).Perm ks∧t.fits es.size=BC ∧
 t.led=(!w.params.followText "set-order")∧(ks≠[]→t.plain=AU)∧aA t
section
variable{prog:BH}{w:BU}{A:BQ}{E:AC→AG→Prop}{s:AG}{h₀:CW}{L:AH}{m:AX→AM AC}{news:AE (AH×CY)}
theorem MI.size{es:CE (EE×AC)}{l:AE (AX×DW)}{ks:AE AX}(h1:es.toList.map (·.2)=AF l)(h2:(l.map (·.1)).Perm ks):es.size=ks.length:=by
 have:=BW EG h1;rw[AN,GV] at this;rw[this];unfold AF;rw[AN,← h2.length_eq,AN]
theorem oY(led:CZ)(h:led=(!w.params.followText "set-order")):MI prog w { cls:=.type "set",dict:=BN,data:=.set #[] 0 (.fresh 0 0 led) } [] :=
 ⟨#[],0,_,[],⟨rfl,rfl,rfl⟩,rfl,λe he=>by simp at he,rfl,.rfl,by rfl,h,λz=>absurd rfl z,CR _,rfl⟩
theorem fD{a:AH}{o:CY}{es es':CE (EE×AC)}{ep:CC}{t t':NL}{Q:SI→AG→Prop}(ho:s.heap.get? a=AK o)(hd:o.data=.set es ep t)(hz:es'.size<XC)
  (h:∀h',IF a s.heap h'→h'.get? a=AK { o with data:=.set es' (ep+1) t' }→Q () { s with heap:=h' }):AI (BE prog w) A (storeSet a es' t') Q E s:=by
 refine wpAny_storeSet_of ho hd (h _ (DR ..) ?_) (fits_of_scanBound hz)
 have:=IT (CY.putSet es' t') ho (by rw[putSet_of es' t' hd];rfl)
 rw[putSet_of es' t' hd] at this;exact this
noncomputable def bF(w:BU)(A:BQ)(s:AG)(prog:BH)(E:AC→AG→Prop)(a:AH)(o:CY)(ks:AE AX)(y:AX)(ty:DW)(Q:CZ→AG→Prop):Prop :=
 ∀(ho:s.heap.get? a=AK o)(hT:MI prog w o ks)(hy:y∉ks)(hz:ks.length<100)(h:∀h' o',IF a s.heap h'→h'.get? a=AK o'→MI prog w o' (y::ks)→Q BC { s with heap:=h' }),AI (BE prog w) A (YM a (.str y ty) ((strKind prog w).hash y)) Q E s
theorem ZX:∀{w A s prog E a o ks y ty Q},bF w A s prog E a o ks y ty Q:=by
 refine @(BK (GM KF)<|@(OY DM<|let_mvar%?n:=(λw A s prog E a o ks y ty Q=>?_:∀a b c d e f g h i j k,bF a b c d e f g h i j k);?n _ _ _ _ _ _ _ _ _ _ _))
 intro ho hT hy hz h;obtain⟨es,ep,t,l,hex,hd,hel,hl,hp,hf,hled,hpl,hcl⟩:=hT;have hsz:es.size=ks.length:=MI.size hl hp;have hsb:XC=4096:=rfl
 have hb:es.size<XC:=by exact(Nt λhn1=>fk [_,_,_] (.e (.s V0) (.k 100) (.e V1 V0 (.e (.k 4096) V2 (.e V2 V1 K0)))) rfl hz (El hsz) (Es hsb) hn1)
 have hkey:(strKind prog w).is y (.str y ty)=BC:=by simp[EL,JD]
 unfold YM vO
 refine CI (Wb (GY ho hd hf ?_))
 dsimp only;rw[byScan_of (knd:=strKind prog w) rfl hb hel];simp only[↓reduceIte];unfold setAddByScan;refine Wb ?_
 refine Wb (JA ?_)
 refine Wb (wpAny_setScan_of hkey ho hd hf hel ?_)
 have hnf:xD (λe=>(strKind prog w).is y e.2) es.toList=BN:=by
  refine wQ.mpr λe he=>?_
  have hm:e.2∈AF l:=by rw[← hl];exact BV he
  obtain⟨p,hpm,e2⟩:=CO.mp hm
  have hne:p.1≠y:=λz=>hy (hp.mem_iff.mp (z ▸ BV hpm))
  rw[← e2]
  cases hc:(strKind prog w).is y (.str p.1 p.2) with
  |false=>rfl
  |true=>exact absurd ((strKind prog w).inj _ p.1 y (by simp[EL,JD]) hc) hne
 rw[hnf];dsimp only
 have hperm:=layNew_perm t es ((strKind prog w).hash y) (.str y ty)
 have hfits:=layNew_fits t es ((strKind prog w).hash y) (.str y ty)
 have hl1:=qH t es ((strKind prog w).hash y) (.str y ty)
 have hc1:=jI t es ((strKind prog w).hash y) (.str y ty) hcl;generalize hL:Gw t es ((strKind prog w).hash y) (.str y ty)=LL at hperm hfits hl1 hc1 ⊢;obtain⟨es1,t1,wasDummy,gave⟩:=LL;dsimp only at hperm hfits hl1 hc1 ⊢;rw[MR] at hperm
 have hgw:∀(b:CZ){s₁:AG}{Q':SI→AG→Prop},Q' () s₁→AI (BE prog w) A (match b with|true=>rule "set.scan.the-table-gave-way" |false=>pure ()) Q' E s₁ :=
  λb s₁ Q' hq=>by cases b<;>first|exact Wp hq|exact JA hq
 have hel1:ElemsOf (strKind prog w) es1.toList:=(hel.push hkey rfl).perm hperm
 have hp1:(es1.toList.map (·.2)).Perm (AF (l++[(y,ty)])):=by
  have:=hperm.map (·.2)
  rw[BF,hl] at this;unfold AF at this ⊢;rw[BF];exact this
 have hsz1:es1.size=ks.length+1:=by rw[← GV,hperm.length_eq,BD,GV,hsz];rfl
 have fin:∀(es2:CE (EE×AC))(t2:NL)(e2:CC),es2.toList.Perm es1.toList→t2.fits es2.size=BC→t2.led=t.led→t2.plain=AU→aA t2→MI prog w { o with data:=.set es2 e2 t2 } (y::ks):=by
  intro es2 t2 e2 hp2 hf2 hl2 hpl2 hc2
  obtain⟨l2,hl2a,hl2b⟩:=mZ ((hp2.map (·.2)).trans hp1)
  refine⟨es2,e2,t2,l2,hex,rfl,hel1.perm hp2,hl2a,?_,hf2,hl2.trans hled,λ_=>hpl2,hc2⟩
  have:=hl2b.map (·.1)
  rw[BF] at this;refine this.trans ?_;refine(PX).trans ?_;exact hp.cons y
 have tail:∀(t2:NL),t2.fits es1.size=BC→t2.led=t.led→t2.plain=AU→aA t2→AI (BE prog w) A (do
    storeSet a es1 t2
    if (!wasDummy&&t2.tooFull)=BC then do
      (match (TV t2 es1 (NM es1.size)).2.2 with|true=>rule "set.scan.the-table-gave-way" |false=>pure ())
      storeSet a (TV t2 es1 (NM es1.size)).1 (TV t2 es1 (NM es1.size)).2.1
      pure (AK BC)
     else pure (AK BC)) (λr s'=>AI (BE prog w) A (match r with|some added=>pure added|none=>vO a (.str y ty) ((strKind prog w).hash y) 99999) Q E s') E s:=by
  intro t2 hf2 hl2 hpl2 hc2
  refine Wb (fD ho hd (by exact(Nt λhn1=>fk [_,_,_] (.e (.s V0) (.k 100) (.e (.k 4096) V1 (.e V2 (.s V0) (.e V1 V2 K0)))) rfl hz (Es hsb) (El hsz1) hn1)) λh1 hs1 ho1=>?_)
  split
  ·have hp2:=relayAll_perm t2 es1 (NM es1.size)
   have hfr:=relayAll_fits t2 es1 (NM es1.size)
   have hlr:=jS t2 es1 (NM es1.size)
   refine Wb (hgw _ ?_)
   have hsz2:(TV t2 es1 (NM es1.size)).1.size=es1.size:=by rw[← GV,hp2.length_eq,GV]
   refine Wb (fD ho1 rfl (by rw[hsz2];exact(Nt λhn1=>fk [_,_,_] (.e (.s V0) (.k 100) (.e (.k 4096) V1 (.e V2 (.s V0) (.e V1 V2 K0)))) rfl hz (Es hsb) (El hsz1) hn1)) λh2 hs2 ho2=>?_)
   exact Wp (Wp (h h2 _ (hs1.trans hs2) ho2 (fin _ _ _ hp2 hfr (hlr.1.trans hl2) (hlr.2 hpl2) (eO _ _ _ (by exact(Nt λhn1=>fk [_,_] (.e (.s V0) V1 (.e V1 K0 K0)) rfl (Es hsz1) hn1))))))
  ·exact Wp (Wp (h h1 _ hs1 ho1 (fin _ _ _ .rfl hf2 hl2 hpl2 hc2)))
 refine Wb (hgw _ ?_)
 have hby:=hashByValue_scannable (x:=.str y ty) 8 rfl;split
 ·rw[hby]
  refine Wb (Wp ?_)
  exact tail { t1 with plain:=AU } (NL.fits_plain_off hfits) hl1 rfl hc1
 ·rename_i hpf
  refine Wb (Wp ?_)
  exact tail t1 hfits hl1 (by simpa using hpf) hc1
end
end Mine
namespace Mine
open PySem.Calls
section
variable{prog:BH}{w:BU}{A:BQ}{E:AC→AG→Prop}{s:AG}{h₀:CW}{L:AH}{m:AX→AM AC}{news:AE (AH×CY)}
theorem sub_dict_set:mA (.type "dict") (.type "set")=pure AU:=by rw[LP];kernel_rfl
theorem bW:mA (.type "dict") (.type "frozenset")=pure AU:=by rw[LP];kernel_rfl
theorem tZ:bS table "set.update.loop"=AK IE.«set.update.loop»:=WR (by kernel_rfl)
theorem vK{t:NL}{n k:CC}(c:aA t)(hf:t.fits n=BC)(hn:n≤1)(hk:k≤3):t.roomFor k=BN:=by
 unfold NL.fits at hf;simp only[NT,TT] at hf;unfold NL.roomFor NL.fill;rw[c.2];have:=c.1;simp only[CE.size_empty,XK];rw[CA]
 exact(λhn1=>fk [_,_,_,_] (.c 5 V0 K1 (.c 5 V1 (.k 3) (.c 5 V2 V0 (.c 3 (.k 7) V3 (.e (.w V3 3) (.w (.a V2 V1) 5) K0))))) rfl hn hk (El hf.1) this hn1)
theorem iD{a:AH}{o:CY}{ks:AE AX}{y:AX}{ty:DW}{Q:CZ→AG→Prop}(ho:s.heap.get? a=AK o)(hT:MI prog w o ks)(hy:y∉ks)(hz:ks.length<100)
  (h:∀h' o' tk,IF a s.heap h'→h'.get? a=AK o'→MI prog w o' (y::ks)→Q BC { s with heap:=h',toks:=tk }) :
  AI (BE prog w) A (setAdd a (.str y ty)) Q E s:=by
 unfold setAdd
 refine CI (Wb (wpAny_pyHash_str ?_))
 exact ZX (s:={ s with toks:=s.toks+1 }) ho hT hy hz λh' o' a1 a2 a3=>h h' o' _ a1 a2 a3
theorem sW{a d:AH}{l:AE ((AX×DW)×(AX×DW))}{n:CC}{R:PUnit→AG→Prop}(hne:a≠d)(hnd:(l.map (·.1.1)).Nodup)(ks0:AE AX)(hdis:∀p∈l,p.1.1∉ks0)(hz:ks0.length+l.length<100)
  (body:CC→PUnit→kZ (ForInStep PUnit))
  (hb:∀(i:CC)(p:(AX×DW)×(AX×DW))(s:AG)(R':ForInStep PUnit→AG→Prop),s.heap.get? d=AK (CK (IM w.params l) n)→l[i]?=AK p →
   AI (BE prog w) A (YM a (.str p.1.1 p.1.2) ((strKind prog w).hash p.1.1)) (λ_ s'=>s'.heap.get? d=AK (CK (IM w.params l) n)∧R' (.yield ⟨⟩) s') E s→AI (BE prog w) A (body i ⟨⟩) R' E s) :
  ∀(k i:CC)(s:AG)(o:CY)(ks:AE AX),i+k=l.length→s.heap.get? a=AK o→MI prog w o ks→ks=((l.take i).map (·.1.1)).reverse++ks0→s.heap.get? d=AK (CK (IM w.params l) n) →
   (∀h' o',IF a s.heap h'→h'.get? a=AK o'→MI prog w o' ((l.map (·.1.1)).reverse++ks0)→R ⟨⟩ { s with heap:=h' }) →
   AI (BE prog w) A (forIn (AE.range' i k) PUnit.unit body) R E s
 |0,i,s,o,ks,hk,ho,hT,e,hd,h=>by
  rw[AE.range'_zero,bN];refine Wp ?_;subst e
  have:l.take i=l:=PB (by exact(Nl λhn1=>fk [_,_] (.e V0 (.a V1 K0) (.e (.s V1) V0 K0)) rfl (Es hk) hn1))
  rw[this] at hT;have:=h s.heap o ⟨rfl,λ_ _=>rfl⟩ ho hT;exact this
 |k+1,i,s,o,ks,hk,ho,hT,e,hd,h=>by
  rw[AE.range'_succ,YY]
  have hi:i<l.length:=by exact(Nt λhn1=>fk [_,_,_] (.e (.a V0 (.s V1)) V2 (.e V2 V0 K0)) rfl (El hk) hn1)
  have hp:l[i]?=AK l[i]:=BL hi
  have hnot:l[i].1.1∉ks:=by
   subst e;intro hm;rcases AT.mp hm with hm|hm
   ·rw[HV] at hm
    obtain⟨q,hq,eq⟩:=CO.mp hm;obtain⟨j,hj,ej⟩:=wR.mp hq
    have h1:(l.map (·.1.1))[j]'(by rw[AN];exact(Nt λhn1=>fk [_,_,_,_] (.e (.s V0) V1 (.e (.s V2) V3 (.e V3 V0 (.e V1 V2 K0)))) rfl hi hj (KB _ _) hn1))=(l.map (·.1.1))[i]'(by rw[AN];exact hi):=by
     rw[WK,WK,ej];exact eq
    have:=(AE.getElem_inj hnd).mp h1
    exact fk [_,_,_] (.e (.s V0) V1 (.e V2 V0 (.e V1 V2 K0))) rfl hj (Es this) (KB _ _)
   ·exact hdis _ (QA hi) hm
  refine Wb (hb i l[i] s _ hd hp ?_)
  refine ZX ho hT hnot ?_ λh' o' hs ho' hT'=>⟨?_,?_⟩
  ·subst e;simp only[BD,LG,AN,QB];exact(Nt λhn1=>fk [_,_,_,_] (.e (.a (.a V0 V1) K1) (.k 100) (.e (.s V2) V1 (.e V3 V2 (.e (.k 100) (.a V3 V0) K0)))) rfl hz hi (KB _ _) hn1)
  ·exact(hs.2 d (BG hne)).trans hd
  ·refine sW hne hnd ks0 hdis hz body hb k (i+1) _ o' (l[i].1.1::ks) (by exact(DG (Nl λhn2=>fk [_,_,_] (.e (.a V0 (.s V1)) V2 (.e (.s V2) (.a (.s V0) V1) K0)) rfl (El hk) hn2) (Nl λhn3=>fk [_,_,_] (.e V0 (.a V1 (.s V2)) (.e (.a (.a (.s V1) V2) K1) V0 K0)) rfl (Es hk) hn3))) ho' hT' ?_ ((hs.2 d (BG hne)).trans hd) λh2 o2 hs2 ho2 hT2=>?_
   ·subst e
    rw[UW,hp,Gq,BF,RY];rfl
   ·exact h h2 o2 (hs.trans hs2) ho2 hT2
noncomputable def aX(w:BU)(A:BQ)(s:AG)(prog:BH)(E:AC→AG→Prop)(a d:AH)(o:CY)(ks:AE AX)(l:AE ((AX×DW)×(AX×DW)))(n:CC)(Q:SI→AG→Prop):Prop :=
 ∀(hh:A.handled=BN)(ho:s.heap.get? a=AK o)(hT:MI prog w o ks)(hd:s.heap.get? d=AK (CK (IM w.params l) n))(hne:a≠d)(hnd:(l.map (·.1.1)).Nodup)(hdis:∀p∈l,p.1.1∉ks)(hk1:ks.length≤1)(hl:l.length≤3)(hsys:(d==FB)=AU)(h:∀h' o' tk,LX a s.heap h'→h'.get? a=AK o'→MI prog w o' ((l.map (·.1.1)).reverse++ks)→Q () { s with heap:=h',toks:=tk }),AI (BE prog w) A (setDisplayStar a (.ref d)) Q E s
theorem vW:∀{w A s prog E a d o ks l n Q},aX w A s prog E a d o ks l n Q:=by
 refine @(BK (GM KF)<|@(QZ DM<|let_mvar%?n:=(λw A s prog E a d o ks l n Q=>?_:∀a b c d e f g h i j k l,aX a b c d e f g h i j k l);?n _ _ _ _ _ _ _ _ _ _ _ _))
 intro hh ho hT hd hne hnd hdis hk1 hl hsys h;have hTd:s.TypeIs (.ref d) "dict":=⟨_,hd,rfl⟩;unfold setDisplayStar
 refine Wb (IZ hTd sub_dict_set ?_)
 dsimp only;rw[CA DE]
 refine Wb (IZ hTd bW ?_)
 refine Wb (LQ ?_)
 dsimp only;have hb:(BE prog w).w.params.followText "set-display-star-reads-storage"=w.params.followText "set-display-star-reads-storage":=rfl;rw[hb]
 cases hby:w.params.followText "set-display-star-reads-storage" with
 |false =>
  rw[CA DE];dsimp only;rw[CA DE]
  refine Wb (MD hTd ?_)
  rw[DJ (by decide)]
  refine Wb (JA ?_)
  rw[CA (by rw[hsys];decide)]
  refine Wb (wpAny_dictEpoch hd rfl ?_)
  refine Wb (Hr hd rfl ?_)
  obtain⟨es,ep,t,lv,hex,hdt,hel,hlv,hp,hf,hled,hpl,hcl⟩:=id hT;have hsz:es.size=ks.length:=MI.size hlv hp;refine Wb ?_;unfold setRoomFor
  refine Wb (GY ho hdt hf ?_)
  dsimp only;rw[vK hcl (hsz ▸ hf) hk1 (by simpa using hl)];refine Wp ?_;refine Wb ?_;rw[Std.Legacy.Range.forIn_eq_forIn_range']
  have hrs:([:(PD (IM w.params l)).size]:Std.Legacy.Range).size=l.length:=by simp[Std.Legacy.Range.size]
  rw[hrs]
  refine sW (n:=n) hne hnd ks hdis (by exact(Nt λhn1=>fk [_,_] (.e V0 K1 (.e V1 (.k 3) (.e (.k 100) (.a V0 V1) K0))) rfl hk1 hl hn1)) _ (λi p s' R' hd' hi hb'=>?_) l.length 0 s o ks (by exact(DG (Nl λhn2=>fk [_] (.e (.s V0) (.a K0 V0) K0) rfl hn2) (Nl λhn3=>fk [_] (.e (.a (.a K0 V0) K1) V0 K0) rfl hn3))) ho hT rfl hd λh' o' hs ho' hT'=>Wp (h h' o' s.toks hs.extBut ho' hT')
  refine Wb (Hr hd' rfl ?_)
  have he:(PD (IM w.params l))[i]?=AK ⟨PyData.keyHash w.params p.1.1,.str p.1.1 p.1.2,.str p.2.1 p.2.2⟩:=by
   rw[FI,DH,hi];rfl
  rw[he];dsimp only
  refine Wb (CI (Wb (DI hb' (λ_ s'' h''=>Wp ?_) λ_ _ z=>z)))
  refine Wb (wpAny_dictEpoch h''.1 rfl ?_)
  rw[CA (by simp)];exact Wp h''.2
 |true =>
  rw[DJ rfl];dsimp only
  have hzz3:=KdkAt.of (VH (prog:=prog) (w:=w) (n:=n) hnd);revert hzz3;refine XX ?_;with_reducible refine let_mvar%?zz1:=(λep=>?_:Fa _);HZ DM (UA:ES _ (type_of%?zz1)) (?zz1 _);intro hat
  have hD:=hat.dictAt hd
  refine Wb (wpAny_pyIter_dict hsys hD ?_)
  have hI:s.heap.objs.size≠a:=AJ (BS ho)
  have hId:s.heap.objs.size≠d:=AJ (BS hd)
  refine Wb (DI (Q:=λv s'=>∃h' o' tk,s'={ s with heap:=h',toks:=tk }∧LX a s.heap h'∧h'.get? a=AK o'∧MI prog w o' ((l.map (·.1.1)).reverse++ks)) (wL ?_) (λv s' hv=>?_) λ_ _ z=>z)
  rotate_left
  ·revert hv;refine fV ?_;with_reducible refine let_mvar%?zz2:=(λh' o' tk=>?_:PV _);FL DM (JN:ES _ (type_of%?zz2)) (?zz2 _ _ _);rintro⟨rfl,h1,h2,h3⟩
   exact Wp (h h' o' tk h1 h2 h3)
  refine codeAny_loop (LZ _ (by decide +kernel)) (λk s'=>∃h' o' tk i,s'={ s with heap:=h',toks:=tk }∧i+k=l.length∧LX a s.heap h'∧h'.get? a=AK o'∧MI prog w o' (((l.take i).map (·.1.1)).reverse++ks) ∧
   h'.IsKeyIter s.heap.objs.size d i (OF l).length ep) ?_ l.length ⟨_,o,s.toks,0,rfl,by exact(DG (Nl λhn2=>fk [_] (.e (.s V0) (.a K0 V0) K0) rfl hn2) (Nl λhn3=>fk [_] (.e (.a (.a K0 V0) K1) V0 K0) rfl hn3)),λb o' _ e=>AV _ e,AV _ ho,hT,⟨_,CH _ rfl,rfl,rfl⟩⟩
  with_reducible refine let_mvar%?zz3:=(λk s'=>?_:OV _);EV ⟨(default,{})⟩ (IP:ES _ (type_of%?zz3)) (?zz3 _ _);rintro⟨h',o',tk,i,rfl,hik,hx,ho',hT',hit⟩
  rw[xR tZ,KJ (by decide +kernel)];have hd':h'.get? d=AK (CK (IM w.params l) n):=hx d _ (BG hne) hd;have hD':=hat.dictAt hd';show AI _ _ (OT (.ref s.heap.objs.size)>>=_) _ _ _
  cases k with
  |zero =>
   refine Wb (wpAny_pyNext_dict_end hh hit hD' ?_ λh2 hx2=>?_)
   ·rw[EM];rw[AN];exact(Nl λhn1=>fk [_,_] (.e V0 (.a V1 K0) (.e (.s V1) V0 K0)) rfl (Es hik) hn1)
   ·refine Wp ⟨h2,o',tk,rfl,λb ob hb e=>?_,hx2 _ _ (BG hI) ho',?_⟩
    ·exact hx2 b ob (AO (BS e)) (hx b ob hb e)
    ·have:l.take i=l:=PB (by exact(Nl λhn1=>fk [_,_] (.e V0 (.a V1 K0) (.e (.s V1) V0 K0)) rfl (Es hik) hn1))
     rw[this] at hT';exact hT'
  |succ k =>
   have hi:i<l.length:=by exact(Nt λhn1=>fk [_,_,_] (.e (.a V0 (.s V1)) V2 (.e V2 V0 K0)) rfl (El hik) hn1)
   have hp:l[i]?=AK l[i]:=BL hi
   refine Wb (wpAny_pyNext_dict_item (k:=l[i].1.1) (v:=.str l[i].2.1 l[i].2.2) hit hD' ?_ λkey h2 hkey hit2 hs2=>?_)
   ·rw[DH,hp];rfl
   ·obtain⟨t,rfl⟩:=sX hkey
    dsimp only
    have hnot:l[i].1.1∉((l.take i).map (·.1.1)).reverse++ks:=by
     intro hm;rcases AT.mp hm with hm|hm
     ·rw[HV] at hm
      obtain⟨q,hq,eq⟩:=CO.mp hm;obtain⟨j,hj,ej⟩:=wR.mp hq
      have h1:(l.map (·.1.1))[j]'(by rw[AN];exact(Nt λhn1=>fk [_,_,_,_] (.e (.s V0) V1 (.e (.s V2) V3 (.e V3 V0 (.e V1 V2 K0)))) rfl hi hj (KB _ _) hn1))=(l.map (·.1.1))[i]'(by rw[AN];exact hi):=by
       rw[WK,WK,ej];exact eq
      have:=(AE.getElem_inj hnd).mp h1
      exact fk [_,_,_] (.e (.s V0) V1 (.e V2 V0 (.e V1 V2 K0))) rfl hj (Es this) (KB _ _)
     ·exact hdis _ (QA hi) hm
    refine Wb (CI (iD (s:={ s with heap:=h2,toks:=tk }) (hs2.extBut _ _ (BG hI) ho') hT' hnot (by simp only[BD,LG,AN,QB];exact(Nt λhn1=>fk [_,_,_] (.e V0 K1 (.e V1 (.k 3) (.e V2 V1 (.e (.k 100) (.a V2 V0) K0)))) rfl hk1 hl (QC _ _) hn1)) λh3 o3 tk3 hs3 ho3 hT3=>?_))
    refine Wp ⟨rfl,k,CM _,h3,o3,tk3,i+1,rfl,by exact(DG (Nl λhn2=>fk [_,_,_] (.e (.a V0 (.s V1)) V2 (.e (.s V2) (.a (.s V0) V1) K0)) rfl (El hik) hn2) (Nl λhn3=>fk [_,_,_] (.e V0 (.a V1 (.s V2)) (.e (.a (.a (.s V1) V2) K1) V0 K0)) rfl (Es hik) hn3)),λb ob hb e=>?_,ho3,?_,?_⟩
    ·exact hs3.extBut b ob hb (hs2.extBut b ob (AO (BS e)) (hx b ob hb e))
    ·rw[UW,hp,Gq,BF,RY];exact hT3
    ·obtain⟨oi,hoi,r⟩:=hit2
     exact⟨oi,hs3.extBut _ _ hI hoi,r⟩
theorem yY{Q:AC→AG→Prop}(h:∀o,MI prog w o []→Q (.ref s.heap.objs.size) { s with heap:=s.heap.push o }):AI (BE prog w) A (Cy (.type "set")) Q E s:=by
 unfold Cy TX
 refine Wb (Wb (LQ (Wp ?_)))
 dsimp only;simp only[newObj]
 exact Wb (wpAny_alloc (Wp (h _ (oY _ rfl))))
theorem PR{h h':CW}{a:AH}(F:Fr h₀ L h m)(hx:LX a h h')(hL:L≠a)(ha:h₀.get? a=BN):Fr h₀ L h' m:=by
 obtain⟨o,es,ep,e,r⟩:=F.ns;exact⟨⟨o,es,ep,hx _ _ hL e,r⟩,λb o e=>hx b o (λq=>by rw[q,ha] at e;cases e) (F.keep b o e),F.above⟩
noncomputable def eW(w:BU)(A:BQ)(s:AG)(prog:BH)(E:AC→AG→Prop)(h₀:CW)(L:AH)(m:AX→AM AC)(news:AE (AH×CY))(K:Frag)(env:XH)(e1 e2:EK)(pos ps:OP)(d:AH)(n:CC)(tag:AX)(tt:DW)(l:AE ((AX×DW)×(AX×DW)))(Q:AC→AG→Prop):Prop :=
 ∀(hh:A.handled=BN)(F:Fr h₀ L s.heap m)(N:AY h₀ L s.heap news)(X:K.In h₀)(hc:kdsCode K env.code=BC)(he1:∀(s':AG)(Q':AC→AG→Prop),Fr h₀ L s'.heap m→Q' (.str tag tt) s'→AI (BE prog w) A (eval e1 env) Q' E s')(he2:∀(s':AG)(Q':AC→AG→Prop),Fr h₀ L s'.heap m→Q' (.ref d) s'→AI (BE prog w) A (eval e2 env) Q' E s')(hd:s.heap.get? d=AK (CK (IM w.params l) n))(hnd:(l.map (·.1.1)).Nodup)(hdis:∀p∈l,p.1.1≠tag)(hl:l.length≤3)(hsys:(d==FB)=AU)(h:∀(D:AH)o h' tk,Fr h₀ L h' m→AY h₀ L h' ((D,o)::news)→(∀p∈news,p.1<D)→MI prog w o ((l.map (·.1.1)).reverse++[tag])→Q (.ref D) { s with heap:=h',toks:=tk })(hs1:XF [e1,.Starred e2 ps] env=[(AU,eval e1 env),(BC,eval e2 env)]),AI (BE prog w) A (eval (.Set [e1,.Starred e2 ps] 0 pos) env) Q E s
theorem jW:∀a b c d e f g h i j k l m n o p q r s t u,eW a b c d e f g h i j k l m n o p q r s t u:=by
 refine BK (GM KF)<|BK DM<|RA DM<|let_mvar%?n:=(λw A s prog E h₀ L m news K env e1 e2 pos ps d n tag tt l Q=>?_:∀a b c d e f g h i j k l m n o p q r s t u,eW a b c d e f g h i j k l m n o p q r s t u);?n _ _ _ _ _ _ _ _ _ _ _ _ _ _ _ _ _ _ _ _ _
 intro hh F N X hc he1 he2 hd hnd hdis hl hsys h hs1;rw[arm_eval_Set]
 refine Wb (EQ ?_)
 refine Wb (kds_main (X.keeps F.keep) hc λb=>?_)
 rw[hs1];unfold setDisplay;dsimp only;have hrd:displayRoad 0 [e1,.Starred e2 ps]=.oneByOne:=rfl;rw[hrd,CA (by decide)]
 refine Wb (yY λo hT=>?_)
 dsimp only
 have hD0:(s.heap.push o).get? s.heap.objs.size=AK o:=CH _ (by obtain⟨es,ep,t,l0,he,hd0,_⟩:=hT;cases o;simp only at hd0;subst hd0;rfl)
 have F1:=F.push (o:=o)
 refine Wb (CI ?_)
 show AI _ _ (evalAll [do let v ← eval e1 env;PJ pos;pure v]>>=_) _ _ _;unfold evalAll
 refine Wb (Wb (Wb (he1 _ _ F1 (Wb (EQ (Wp ?_))))))
 refine Wb (CI (Wp (Wp ?_)))
 refine Wb (CI ?_)
 rw[YY]
 refine Wb (Wb (Wb (iD (s:={ s with heap:=s.heap.push o }) hD0 hT (λz=>nomatch z) (by decide) λh1 o1 tk1 hs1' ho1 hT1=>?_)))
 refine Wp ?_;dsimp only;rw[bN];refine Wp ?_;rw[CA (by decide)];refine Wp ?_;show AI _ _ (forIn [(BC,(do let v ← eval e2 env;PJ pos;pure v:kZ AC))] PUnit.unit _>>=_) _ _ _;rw[YY];have hLD:L≠s.heap.objs.size:=AO F.ns.lt
 have hD₀:h₀.get? s.heap.objs.size=BN:=EA (AQ F.above (EU F.ns.lt))
 have F2:=PR F1 hs1'.extBut hLD hD₀
 have hdD:d≠s.heap.objs.size:=AO (BS hd)
 have hd1:h1.get? d=AK (CK (IM w.params l) n):=hs1'.extBut _ _ hdD (AV _ hd)
 refine Wb (Wb (Wb (Wb (he2 _ _ F2 (Wb (EQ (Wp ?_)))))))
 dsimp only;rw[DJ rfl]
 refine Wb (CI (vW (s:={ s with heap:=h1,toks:=tk1 }) hh ho1 hT1 hd1 (BG hdD) hnd (λp hp z=>hdis p hp (BB.mp z)) (CR _) hl hsys λh2 o2 tk2 hx2 ho2 hT2=>?_))
 refine Wp ?_;dsimp only;rw[bN]
 refine Wp (Wp (Wp ?_))
 refine h _ o2 h2 tk2 (PR F2 hx2 hLD hD₀) (λp hp=>?_) (λp hp=>BS (N p hp).1) hT2;rcases AP.mp hp with rfl|hp
 ·exact⟨ho2,BG hLD,hD₀⟩
 ·have hlt:=AO (BS (N p hp).1)
  exact⟨hx2 _ _ hlt (hs1'.extBut _ _ hlt (AV _ (N p hp).1)),(N p hp).2⟩
theorem zQ{K:Frag}{env:XH}{e1 e2:EK}{pos ps:OP}{d:AH}{n:CC}{tag:AX}{tt:DW}{l:AE ((AX×DW)×(AX×DW))}{Q:AC→AG→Prop}(hh:A.handled=BN)(F:Fr h₀ L s.heap m)(N:AY h₀ L s.heap news)(X:K.In h₀)(hc:kdsCode K env.code=BC)
  (he1:∀(s':AG)(Q':AC→AG→Prop),Fr h₀ L s'.heap m→Q' (.str tag tt) s'→AI (BE prog w) A (eval e1 env) Q' E s')
  (he2:∀(s':AG)(Q':AC→AG→Prop),Fr h₀ L s'.heap m→Q' (.ref d) s'→AI (BE prog w) A (eval e2 env) Q' E s')
  (hd:s.heap.get? d=AK (CK (IM w.params l) n)) (hnd:(l.map (·.1.1)).Nodup) (hdis:∀p∈l,p.1.1≠tag) (hl:l.length≤3) (hsys:(d==FB)=AU)
  (h:∀(D:AH)o h' tk,Fr h₀ L h' m→AY h₀ L h' ((D,o)::news)→(∀p∈news,p.1<D)→MI prog w o ((l.map (·.1.1)).reverse++[tag])→Q (.ref D) { s with heap:=h',toks:=tk })
  (hs1:XF [e1,.Starred e2 ps] env=[(AU,eval e1 env),(BC,eval e2 env)]:=by rfl) :
  AI (BE prog w) A (eval (.Set [e1,.Starred e2 ps] 0 pos) env) Q E s:=jW w A s prog E h₀ L m news K env e1 e2 pos ps d n tag tt l Q hh F N X hc he1 he2 hd hnd hdis hl hsys h hs1
end
end Mine
namespace Mine
open PySem.Calls
theorem WT{α:Type}:∀{l:AE α}{i:CC}(h:i<l.length),(l[i]::l.eraseIdx i).Perm l
 |[],_,h=>absurd h (CC.not_lt_zero _)
 |x::l,0,_=>.rfl
 |x::l,i+1,h=>by
  have hi:i<l.length:=by simpa using h
  show(l[i]::x::l.eraseIdx i).Perm (x::l)
  exact(tG ..).trans ((WT hi).cons x)
theorem sP{α:Type}(next:CC→CC):∀(f k:CC)(left:AE α)(out:CE α),left.length=f→(Dh next f k left out).toList.Perm (out.toList++left)
 |0,k,left,out,h=>by
  unfold Dh;rw[GQ h,CQ]
 |f+1,k,left,out,h=>by
  unfold Dh
  have hlt:next k % left.length<left.length:=CC.mod_lt _ (by exact(Nt λhn1=>fk [_,_] (.e (.s V0) V1 (.e V1 K0 K0)) rfl (Es h) hn1))
  rw[BL hlt];dsimp only;refine(sP next f (k+1) _ _ (by rw[tH hlt];exact(DG (Nl λhn2=>fk [_,_,_] (.e V0 (.s V1) (.e (.s V1) V2 (.e (.s V2) V0 K0))) rfl (El h) hn2 (ET (fP (Nl λhn3=>fk [_,_] (.e (.s V0) V1 (.e (.s V1) K1 K0)) rfl hlt hn3)))) (Nl λhn4=>fk [_,_,_] (.e (.s V0) V1 (.e (.s V2) V0 (.e V1 (.s V2) K0))) rfl (Es h) hn4 Ln.sba)))).trans ?_;rw[MR,BX];refine AE.Perm.append_left _ ?_;exact WT hlt
theorem vH{α:Type}(next:CC→CC)(xs:CE α):(OE next xs).toList.Perm xs.toList:=by
 have:=sP next xs.size 0 xs.toList #[] (by simp)
 simpa[OE] using this
section
variable{prog:BH}{w:BU}{A:BQ}{E:AC→AG→Prop}{s:AG}{h₀:CW}{L:AH}{m:AX→AM AC}{news:AE (AH×CY)}
theorem pX{M:QV}{src:Source}{n:CC}{Q:CC→AG→Prop}(hn:n≠0)(h:∀i,i<n→Q i { s with drawn:=s.drawn.bump src }):AI M A (choose src n) Q E s :=
 λΓ p _=>by
  have:Q (M.w.draws src (s.drawn.get src) % n) { s with drawn:=s.drawn.bump src }:=h _ (CC.mod_lt _ (CC.pos_of_ne_zero hn))
  exact⟨hn,this⟩
theorem gH{M:QV}{α:Type}:∀(n:CC)(xs:AE α)(s:AG)(Q:AE α→AG→Prop),xs.length=n→(∀ys d,ys.Perm xs→Q ys { s with drawn:=d })→AI M A (drawOrder n xs) Q E s
 |0,xs,s,Q,hl,h=>by
  rw[GQ hl] at h ⊢
  exact Wp (h [] s.drawn .rfl)
 |n+1,[],_,_,hl,_=>by simp at hl
 |n+1,x::xs,s,Q,hl,h=>by
  refine Wb (pX (by simp) λi hi=>?_)
  rw[BL hi];dsimp only
  refine Wb (gH n _ _ _ (by rw[tH hi];simp at hl ⊢;exact(DG (El hl) (Es hl))) λys d hp=>Wp ?_)
  exact h _ d ((hp.cons _).trans (WT hi))
theorem KV:Slot "set_iterator" "__next__" "set_iterator.__next__" :=
 .of (owner:="set_iterator") (n:="__next__") (by rw[KI,HM];kernel_rfl) (by decide +kernel) (by decide +kernel) (by decide +kernel)
  (by first|exact .inl (by decide +kernel)|exact .inr (by decide +kernel)) (by rw[LP];kernel_rfl)
theorem VU:bS table "set_iterator.__next__"=AK IE.«set_iterator.__next__»:=WR (by kernel_rfl)
theorem XQ(a:AC):Bp "set_iterator.__next__" ⟨[a],[]⟩:=by unfold Bp;kernel_rfl
theorem fU:bS table "set.__iter__"=AK IE.«frozenset.__iter__» :=
 entryFor_alias (id':="frozenset.__iter__") (by kernel_rfl) rfl (by decide +kernel) (by kernel_rfl)
theorem iT(a:AC):Bp "set.__iter__" ⟨[a],[]⟩:=by unfold Bp;kernel_rfl
theorem nR(a:AH):setDrawn a=(do let (es,_,t) ← setState a;let byText ← TX;return !byText&&(!t.plain&&decide (es.size>1))):=rfl
theorem eU(a:AH):setWalk a=(do
 let (es,epoch,t) ← setState a
 if ← TX then return OE ((← ask).params.setOrder a epoch) es
 if (!t.plain&&decide (es.size>1)) then return (← drawOrder es.size es.toList).toArray
 let _ ← (if !t.led&&decide (es.size>1) then unsupported "set:maker-not-led" else pure ():kZ SI)
 return es):=rfl
theorem SY(a:AH)(slot given epochThen:CC):setNext a slot given epochThen=(do
 let (es,epoch,t) ← setState a
 if ← TX then
  if epoch !=epochThen then unsupported "set_iterator.__next__:elements-changed"
  return ((← setWalk a)[given]?).map λe=>(e.2,slot)
 if (!t.plain&&decide (es.size>1)) then unsupported "set_iterator.__next__:the-table-is-plain-no-more"
 let _ ← (if !t.led&&!es.isEmpty then unsupported "set:maker-not-led" else pure ():kZ SI)
 let i:=TQ t.place slot
 return match es[i]?,t.place[i]? with
  |some (_,x),AK j=>AK (x,j+1)
  |_,_=>BN):=rfl
noncomputable abbrev eX(f:AC)(i:CC)(a:AH)(n ep:CC):CY:={ cls:=.type "set_iterator",data:=.fields #[f,.int i 0,.ref a,.int n 0,.int ep 0] }
inductive SCase (w:BU) (h:CW) (it a:AH) (vs:AE AC) (i:CC) (es:CE (EE×AC)) (ep:CC) (t:NL):Prop
 |t (h0:w.params.followText "set-order"=BC) (h1:vs=(OE (w.params.setOrder a ep) es).toList.map (·.2)) (h2:h.get? it=AK (eX (.int 0 0) i a es.size ep)):SCase w h it a vs i es ep t
 |u (tp:AH) (pl:AE CC) (h0:tp≠it) (h1:∀p∈pl,p<es.size) (h2:vs=pl.map (λp=>(es.getD p (0,.none)).2)) (h3:h.get? tp=AK { cls:=.type "tuple",data:=.seq (pl.map λ(i:CC)=>.int i 0).toArray }) (h4:h.get? it=AK (eX (.ref tp) i a es.size ep)):SCase w h it a vs i es ep t
 |o (h0:w.params.followText "set-order"=AU) (h1:t.led=BC) (e:EE×AC) (j:CC) (h2:es=#[e]) (h3:t.place=#[j]) (h4:vs=[e.2]) (h5:(i=0∧h.get? it=AK (eX (.int 0 0) 0 a es.size ep))∨(i=1∧h.get? it=AK (eX (.int ((j+1:CC):EE) 0) 1 a es.size ep))):SCase w h it a vs i es ep t
inductive SIt (w:BU) (h:CW) (it a:AH) (vs:AE AC) (i:CC):Prop
 |mk (o:CY) (es:CE (EE×AC)) (ep:CC) (t:NL) (h0:h.get? a=AK o) (h1:o.data=.set es ep t) (h2:t.fits es.size=BC) (h3:it≠a) (h4:SCase w h it a vs i es ep t):SIt w h it a vs i
theorem SIt.type{it a:AH}{vs:AE AC}{i:CC}(h:SIt w s.heap it a vs i):s.TypeIs (.ref it) "set_iterator":=by
 obtain⟨o,es,ep,t,_,_,_,_,⟨_,_,h⟩|⟨_,_,_,_,_,_,h⟩|⟨_,_,_,_,_,_,_,⟨_,h⟩|⟨_,h⟩⟩⟩:=h<;>exact⟨_,h,rfl⟩
theorem KG{b:CZ}{Q:CZ→AG→Prop}(hb:w.params.followText "set-order"=b)(h:Q b s):AI (BE prog w) A TX Q E s:=by
 unfold TX;subst hb
 exact Wb (LQ (Wp h))
theorem pR(j:CC):TQ #[j] 0=0:=by
 simp[TQ,Hf]
theorem pS(j:CC):TQ #[j] (j+1)=1:=by
 simp[TQ,Hf]
noncomputable def eY(w:BU)(A:BQ)(s:AG)(prog:BH)(E:AC→AG→Prop)(it a:AH)(vs:AE AC)(i:CC)(x:AC)(Q:AM AC→AG→Prop):Prop :=
 ∀(hit:SIt w s.heap it a vs i)(hx:vs[i]?=AK x)(hQ:∀h',SIt w h' it a vs (i+1)→IF it s.heap h'→Q (AK x) { s with heap:=h' }),AI (BE prog w) A (OT (.ref it)) Q E s
theorem zV:∀{w A s prog E it a vs i x Q},eY w A s prog E it a vs i x Q:=by
 refine @(BK (GM KF)<|@(OY DM<|let_mvar%?n:=(λw A s prog E it a vs i x Q=>?_:∀a b c d e f g h i j k,eY a b c d e f g h i j k);?n _ _ _ _ _ _ _ _ _ _ _))
 intro hit hx hQ;have hT:=hit.type;unfold OT
 refine Wb (QQ (LR (name:="__next__") hT KV (FM KV hT VU ?_ (XQ _))))
 unfold IE.«set_iterator.__next__»
 refine Wb (KW (a:=(.ref it,[])) rfl ?_)
 obtain⟨o,es,ep,t,ho,hd,hf,hne,⟨hby,hvs,hi⟩|⟨tp,pl,hnp,hpl,hvs,htp,hi⟩|⟨hby,hled,e,j,hes,hpl,hvs,⟨hi0,hi⟩|⟨hi0,hi⟩⟩⟩:=hit
 ·refine Wb (PK hi rfl ?_)
  dsimp only
  refine Wb (JO ho hd hf ?_)
  rw[CA (by simp)]
  try dsimp only
  rw[SY]
  refine Wb (Wb (GY ho hd hf ?_))
  dsimp only
  refine Wb (KG hby ?_)
  rw[DJ rfl,CA (by simp)];rw[eU]
  refine Wb (Wb (GY ho hd hf ?_))
  dsimp only
  refine Wb (KG hby ?_)
  rw[DJ rfl]
  refine Wb (LQ (Wp (Wp ?_)))
  have hw:((OE ((BE prog w).w.params.setOrder a ep) es)[((i:CC):EE).toNat]?).map (λe=>(e.2,((0:EE).toNat)))=AK (x,0):=by
   have h1:(OE (w.params.setOrder a ep) es).toList[i]?=((OE ((BE prog w).w.params.setOrder a ep) es)[((i:CC):EE).toNat]?):=by
    rw[FF,FY];rfl
   rw[hvs,DH] at hx;rw[← h1]
   cases hq:(OE (w.params.setOrder a ep) es).toList[i]? with
   |none=>rw[hq] at hx;cases hx
   |some e=>rw[hq] at hx;simp only[KC,IG] at hx ⊢;rw[hx];rfl
  rw[hw];dsimp only
  refine Wb (HT hi (by simp) λh1 he1 hs1=>?_)
  refine Wb (HT (s:={ s with heap:=h1 }) he1 (by simp) λh2 he2 hs2=>?_)
  refine Wp ⟨_,rfl,Wp (hQ h2 ⟨o,es,ep,t,?_,hd,hf,hne,.t hby hvs ?_⟩ (hs1.trans hs2))⟩
  ·exact(hs2.2 _ (BG hne)).trans ((hs1.2 _ (BG hne)).trans ho)
  ·rw[he2];simp[JU]
 ·refine Wb (PK hi rfl ?_)
  dsimp only
  refine Wb (JO ho hd hf ?_)
  rw[CA (by simp)]
  try dsimp only
  refine Wb (UC htp rfl ?_)
  dsimp only
  have hp:∃p,pl[i]?=AK p∧(es.getD p (0,.none)).2=x:=by
   rw[hvs,DH] at hx
   cases hq:pl[i]? with
   |none=>rw[hq] at hx;cases hx
   |some p=>rw[hq] at hx;simp only[KC,IG] at hx;exact⟨p,rfl,hx⟩
  obtain⟨p,hp1,hp2⟩:=hp
  have hlt:p<es.size:=hpl p (GR hp1)
  have hpi:((pl.map λ(i:CC)=>LM i 0).toArray)[((i:CC):EE).toNat]?=AK (.int p 0):=by
   rw[FF,FI,DH,hp1];rfl
  rw[hpi];dsimp only;unfold setNextDrawn
  refine Wb (Wb (GY ho hd hf ?_))
  dsimp only;rw[CA (by simp)]
  have hes:es[((p:CC):EE).toNat]?=AK (es.getD p (0,.none)):=by
   rw[FF];simp[CE.getD,hlt]
  rw[hes];dsimp only;rw[hp2];refine Wp ?_
  refine Wb (HT hi (by simp) λh1 he1 hs1=>?_)
  refine Wp ⟨_,rfl,Wp (hQ h1 ⟨o,es,ep,t,?_,hd,hf,hne,.u tp pl hnp hpl hvs ?_ ?_⟩ hs1)⟩
  ·exact(hs1.2 _ (BG hne)).trans ho
  ·exact(hs1.2 _ hnp).trans htp
  ·rw[he1];simp[JU]
 ·subst hi0
  refine Wb (PK hi rfl ?_)
  dsimp only
  refine Wb (JO ho hd hf ?_)
  rw[CA (by simp)]
  try dsimp only
  rw[SY]
  refine Wb (Wb (GY ho hd hf ?_))
  dsimp only
  refine Wb (KG hby ?_)
  rw[CA DE];rw[hes,hled,hpl];rw[CA (by simp)]
  refine Wb (Wp ?_)
  rw[show((0:EE).toNat)=0 from rfl,pR];refine Wp ?_;simp only[FI,GJ];rw[hvs] at hx;simp only[GJ,IG] at hx;rw[hx]
  refine Wb (HT hi (by simp) λh1 he1 hs1=>?_)
  refine Wb (HT (s:={ s with heap:=h1 }) he1 (by simp) λh2 he2 hs2=>?_)
  refine Wp ⟨_,rfl,Wp (hQ h2 ⟨o,es,ep,t,?_,hd,hf,hne,.o hby hled e j hes hpl hvs (.inr ⟨rfl,?_⟩)⟩ (hs1.trans hs2))⟩
  ·exact(hs2.2 _ (BG hne)).trans ((hs1.2 _ (BG hne)).trans ho)
  ·rw[he2];simp[JU]
 ·subst hi0
  rw[hvs] at hx;cases hx
noncomputable def aY(w:BU)(A:BQ)(s1:AG)(prog:BH)(E:AC→AG→Prop)(it:AH)(Q:AM AC→AG→Prop):Prop :=
 ∀(hh:A.handled=BN)(hQ:∀h',(∀b o,s1.heap.get? b=AK o→h'.get? b=AK o)→Q BN { s1 with heap:=h' }),AI (BE prog w) A.in1 (Cx (.type "StopIteration") []>>=λe=>Fs e)
   (λfin s'=>∃v,fin=TD.done (.ret v)∧AI (BE prog w) A (pure (AK v)) Q E s') (λe s'=>AI (BE prog w) A (do if ← isInstance e (.type "StopIteration") then pure BN else throw e) Q E s') s1
theorem ZW:∀{w A s1 prog E it Q},aY w A s1 prog E it Q:=by
 refine @(RB (GM KF)<|let_mvar%?n:=(λw A s1 prog E it Q=>?_:∀a b c d e f g,aY a b c d e f g);?n _ _ _ _ _ _ _)
 intro hh hQ;refine Wb ?_;simp only[Cx,NP]
 refine Wb (GX ?_ (by size_fits))
 refine Wb (m:=PH _ _) (KW (a:=.none) (by first|rfl|(simp only[PH];rfl)) ?_)
 refine GX ?_ (by size_fits)
 unfold Fs;(try dsimp only)
 refine Wb (Al ?_)
 rw[show A.in1.handled=BN from hh]
 refine Wb (Wp (Fw ?_))
 refine Wb (IZ (T:="StopIteration") (b:=BC) ⟨_,CH _ rfl,rfl⟩ uQ ?_)
 exact Wp (hQ _ λb o e=>AV _ (AV _ e))
noncomputable def gZ(w:BU)(A:BQ)(s:AG)(prog:BH)(E:AC→AG→Prop)(it a:AH)(vs:AE AC)(i:CC)(Q:AM AC→AG→Prop):Prop :=
 ∀(hh:A.handled=BN)(hit:SIt w s.heap it a vs i)(hx:vs[i]?=BN)(hQ:∀h',LX it s.heap h'→Q BN { s with heap:=h' }),AI (BE prog w) A (OT (.ref it)) Q E s
theorem Dr:∀{w A s prog E it a vs i Q},gZ w A s prog E it a vs i Q:=by
 refine @(BK (GM KF)<|@(UF DM<|let_mvar%?n:=(λw A s prog E it a vs i Q=>?_:∀a b c d e f g h i j,gZ a b c d e f g h i j);?n _ _ _ _ _ _ _ _ _ _))
 intro hh hit hx hQ;have hT:=hit.type;unfold OT
 refine Wb (QQ (LR (name:="__next__") hT KV (FM KV hT VU ?_ (XQ _))))
 unfold IE.«set_iterator.__next__»
 refine Wb (KW (a:=(.ref it,[])) rfl ?_)
 obtain⟨o,es,ep,t,ho,hd,hf,hne,⟨hby,hvs,hi⟩|⟨tp,pl,hnp,hpl,hvs,htp,hi⟩|⟨hby,hled,e,j,hes,hpl,hvs,⟨hi0,hi⟩|⟨hi0,hi⟩⟩⟩:=hit
 ·refine Wb (PK hi rfl ?_)
  dsimp only
  refine Wb (JO ho hd hf ?_)
  rw[CA (by simp)]
  try dsimp only
  rw[SY]
  refine Wb (Wb (GY ho hd hf ?_))
  dsimp only
  refine Wb (KG hby ?_)
  rw[DJ rfl,CA (by simp)];rw[eU]
  refine Wb (Wb (GY ho hd hf ?_))
  dsimp only
  refine Wb (KG hby ?_)
  rw[DJ rfl]
  refine Wb (LQ (Wp (Wp ?_)))
  have hw:(OE ((BE prog w).w.params.setOrder a ep) es)[((i:CC):EE).toNat]?=BN:=by
   have h1:(OE (w.params.setOrder a ep) es).toList[i]?=((OE ((BE prog w).w.params.setOrder a ep) es)[((i:CC):EE).toNat]?):=by
    rw[FF,FY];rfl
   rw[hvs,DH,XP] at hx;rw[← h1];exact hx
  rw[hw];simp only[pP]
  refine Wb (HT hi (by simp) λh1 he1 hs1=>?_)
  exact ZW (it:=it) (s1:={ s with heap:=h1 }) hh λh2 hk=>hQ h2 λb o hb e=>hk b o (hs1.extBut b o hb e)
 ·refine Wb (PK hi rfl ?_)
  dsimp only
  refine Wb (JO ho hd hf ?_)
  rw[CA (by simp)]
  try dsimp only
  refine Wb (UC htp rfl ?_)
  dsimp only
  have hpi:((pl.map λ(i:CC)=>LM i 0).toArray)[((i:CC):EE).toNat]?=BN:=by
   rw[hvs,DH,XP] at hx;rw[FF,FI,DH,hx];rfl
  rw[hpi];dsimp only
  refine Wb (HT hi (by simp) λh1 he1 hs1=>?_)
  refine Wb (HT (s:={ s with heap:=h1 }) he1 (by simp) λh2 he2 hs2=>?_)
  exact ZW (it:=it) (s1:={ s with heap:=h2 }) hh λh3 hk=>hQ h3 λb o hb e=>hk b o (hs2.extBut b o hb (hs1.extBut b o hb e))
 ·subst hi0
  rw[hvs] at hx;cases hx
 ·subst hi0
  refine Wb (PK hi rfl ?_)
  dsimp only
  refine Wb (JO ho hd hf ?_)
  rw[CA (by simp)]
  try dsimp only
  rw[SY]
  refine Wb (Wb (GY ho hd hf ?_))
  dsimp only
  refine Wb (KG hby ?_)
  rw[CA DE];rw[hes,hled,hpl];rw[CA (by simp)]
  refine Wb (Wp ?_)
  rw[FF,pS];refine Wp ?_;simp only[FI,WJ,AE.getElem?_nil]
  refine Wb (HT hi (by simp) λh1 he1 hs1=>?_)
  exact ZW (it:=it) (s1:={ s with heap:=h1 }) hh λh2 hk=>hQ h2 λb o hb e=>hk b o (hs1.extBut b o hb e)
end
end Mine
namespace Mine
open PySem.Calls
section
variable{prog:BH}{w:BU}{A:BQ}{E:AC→AG→Prop}{s:AG}{h₀:CW}{L:AH}{m:AX→AM AC}{news:AE (AH×CY)}
theorem qE{α:Type}(xs:CE α)(d:α):(NK xs.size).map (λi=>xs.getD i d)=xs.toList:=by
 refine AE.ext_getElem (by simp) λi h1 h2=>?_
 have:i<xs.size:=by simpa using h1
 simp[CE.getD,this]
noncomputable def bG(w:BU)(prog:BH)(o:CY)(ks:AE AX):Prop :=
 ∀(hT:MI prog w o ks),∃es ep t,o.data=.set es ep t∧t.fits es.size=BC∧t.led=(!w.params.followText "set-order")∧(ks≠[]→t.plain=AU)∧es.size=ks.length ∧
  ∀vs:AE AC,vs.Perm (es.toList.map (·.2))→∃l,vs=AF l∧(l.map (·.1)).Perm ks
theorem wG:∀{a b c d},bG a b c d:=by
 refine @(HF KF<|@(OY DM<|let_mvar%?n:=(λw prog o ks=>?_:∀a b c d,bG a b c d);?n _ _ _ _))
 intro hT;obtain⟨es,ep,t,l,hex,hd,hel,hl,hp,hf,hled,hpl,hcl⟩:=hT;refine⟨es,ep,t,hd,hf,hled,hpl,MI.size hl hp,λvs hv=>?_⟩;rw[hl] at hv;obtain⟨l1,e1,p1⟩:=mZ hv;exact⟨l1,e1,(p1.map (·.1)).trans hp⟩
noncomputable def dJ(w:BU)(A:BQ)(s:AG)(prog:BH)(E:AC→AG→Prop)(a:AH)(o:CY)(ks:AE AX)(Q:AC→AG→Prop):Prop :=
 ∀(ho:s.heap.get? a=AK o)(hc:o.cls=.type "set") (hT:MI prog w o ks) (hne:ks≠[]) (hz:ks.length<60) (h:∀(I:AH)l h' d,(l.map (·.1)).Perm ks→SIt w h' I a (AF l) 0→s.heap.objs.size≤I→(∀b o,s.heap.get? b=AK o→h'.get? b=AK o)→h'.objs.size=I+1→Q (.ref I) { s with heap:=h',drawn:=d }),AI (BE prog w) A (IY (.ref a)) Q E s
theorem yN:∀{w A s prog E a o ks Q},dJ w A s prog E a o ks Q:=by
 refine @(BK (GM KF)<|@(HF DM<|let_mvar%?n:=(λw A s prog E a o ks Q=>?_:∀a b c d e f g h i,dJ a b c d e f g h i);?n _ _ _ _ _ _ _ _ _))
 intro ho hc hT hne hz h;obtain⟨es,ep,t,hd,hf,hled,hpl,hsz,hperm⟩:=wG hT;have hTy:s.TypeIs (.ref a) "set":=⟨o,ho,hc⟩;have hlt:=BS ho
 refine wpAny_pyIter_slot hTy F.slot_set_iter (FM F.slot_set_iter hTy fU ?_ (iT _))
 unfold IE.«frozenset.__iter__»
 refine Wb (m:=IE.Frozenset.slot0 _ _) (KW (a:=a) rfl ?_)
 refine Wb (m:=IE.Frozenset.sizeOf _) (Wb (JO ho hd hf (Wp ?_)))
 rw[nR]
 refine Wb (Wb (GY ho hd hf ?_))
 dsimp only
 cases hby:w.params.followText "set-order" with
 |true =>
  refine Wb (KG hby (Wp ?_))
  simp only[CZ.not_true,CZ.false_and,IV,WX]
  refine Wb (Wp ?_)
  refine Wb (kL ho hd hf ?_)
  refine Wb (GX (Wp ⟨_,rfl,"set_iterator",_,⟨_,CH _ rfl,rfl⟩,KV.lookup,?_⟩))
  obtain⟨l,e,p⟩:=hperm _ ((vH (w.params.setOrder a ep) es).map (·.2))
  refine h _ l _ s.drawn p ⟨o,es,ep,t,AV _ ho,hd,hf,AJ hlt,.t hby e.symm ?_⟩ (CR _) (λb o e=>AV _ e) (FT ..)
  rw[CH _ rfl];simp[JU]
 |false =>
  refine Wb (KG hby (Wp ?_))
  rw[hpl hne];simp only[CZ.not_false,CZ.true_and,HI]
  by_cases h1:es.size>1
  ·rw[DJ h1]
   refine Wb (gH es.size (NK es.size) _ _ Hc λpl d hp=>?_)
   refine Wb (bZ ?_ (by rw[AN,hp.length_eq,Hc,BI];exact(Nl λhn1=>fk [_,_] (.e (.s V0) (.k 60) (.e V1 V0 (.e (.s (.k 16777216)) V1 K0))) rfl hz (El hsz) hn1)))
   refine Wb (kL (s:={ s with heap:=s.heap.push _,drawn:=d }) (AV _ ho) hd hf ?_)
   refine Wb (GX (Wp ⟨_,rfl,"set_iterator",_,⟨_,CH _ rfl,rfl⟩,KV.lookup,?_⟩))
   obtain⟨l,e,p⟩:=hperm (pl.map λp=>(es.getD p (0,.none)).2) (by
    have:=(hp.map λp=>(es.getD p (0,.none))).map (·.2)
    rw[qE,GG] at this
    exact this)
   refine h _ l _ d p ⟨o,es,ep,t,AV _ (AV _ ho),hd,hf,?_,.u s.heap.objs.size pl ?_ (λq hq=>?_) e.symm ?_ ?_⟩ ?_ (λb o e=>AV _ (AV _ e)) (FT ..)
   ·show(s.heap.push _).objs.size≠a
    rw[FT];exact AJ (CX hlt)
   ·show s.heap.objs.size≠(s.heap.push _).objs.size
    rw[FT];exact AO (CM _)
   ·exact NI.mp (hp.mem_iff.mp hq)
   ·exact AV _ (by rw[CH _ rfl];simp[JU])
   ·rw[CH _ rfl];simp[JU]
   ·rw[FT];exact(Nl λhn1=>fk [_] (.e (.a (.s V0) K1) V0 K0) rfl hn1)
  ·rw[CA h1]
   refine Wb (Wp ?_)
   refine Wb (kL ho hd hf ?_)
   refine Wb (GX (Wp ⟨_,rfl,"set_iterator",_,⟨_,CH _ rfl,rfl⟩,KV.lookup,?_⟩))
   have hes1:es.size=1:=by
    have:ks.length≠0:=λz=>hne (GQ z)
    lia
   obtain⟨e,he⟩:∃e,es=#[e]:=Ec.mp hes1
   obtain⟨j,hj⟩:∃j,t.place=#[j]:=by
    unfold NL.fits at hf;simp only[NT,TT] at hf;have h2:=hf.1;rw[hes1] at h2;exact Ec.mp h2
   obtain⟨l,e',p⟩:=hperm [e.2] (by rw[he];exact .rfl)
   refine h _ l _ s.drawn p ⟨o,es,ep,t,AV _ ho,hd,hf,AJ hlt,.o hby (by rw[hled,hby];rfl) e j he hj e'.symm (.inl ⟨rfl,?_⟩)⟩ (CR _) (λb o e=>AV _ e) (FT ..)
   rw[CH _ rfl];simp[JU]
theorem SIt.but{h h':CW}{it a c:AH}{vs:AE AC}{i:CC}{its:CE AC}{n:CC}(x:SIt w h it a vs i)(hc:h.get? c=AK (listOf its n))(hk:LX c h h'):SIt w h' it a vs i:=by
 obtain⟨o,es,ep,t,ho,hd,hf,hne,r⟩:=x
 have n1:a≠c:=λq=>by rw[q,hc] at ho;cases ho;cases hd
 have n2:∀{f k},h.get? it=AK (eX f k a es.size ep)→it≠c:=λe q=>by rw[q,hc] at e;exact absurd (BW Bn (HB e)) (by simp)
 refine⟨o,es,ep,t,hk _ _ n1 ho,hd,hf,hne,?_⟩;rcases r with⟨hby,hvs,hi⟩|⟨tp,pl,hnp,hpl,hvs,htp,hi⟩|⟨hby,hled,e,j,hes,hpl,hvs,hi⟩
 ·exact .t hby hvs (hk _ _ (n2 hi) hi)
 ·refine .u tp pl hnp hpl hvs (hk _ _ (λq=>?_) htp) (hk _ _ (n2 hi) hi)
  rw[q,hc] at htp;exact absurd (BW Bn (HB htp)) (by simp)
 ·exact .o hby hled e j hes hpl hvs (hi.imp (λz=>⟨z.1,hk _ _ (n2 z.2) z.2⟩) λz=>⟨z.1,hk _ _ (n2 z.2) z.2⟩)
noncomputable def dF(w:BU)(A:BQ)(s:AG)(prog:BH)(E:AC→AG→Prop)(a:AH)(Q:CZ→AG→Prop):Prop :=
 ∀(hT:s.TypeIs (.ref a) "set") (h:Q AU s),AI (BE prog w) A (rX (.ref a)) Q E s
theorem yK:∀{w A s prog E a Q},dF w A s prog E a Q:=by
 refine @(RB (GM KF)<|let_mvar%?n:=(λw A s prog E a Q=>?_:∀a b c d e f g,dF a b c d e f g);?n _ _ _ _ _ _ _)
 intro hT h;unfold rX
 refine Wb (rU hT PySem.F.slot_set_len.lookup ?_)
 generalize hid:("set.__len__":String)=id0
 wp_delta
 rw[show splitId id0=AK ("set","__len__") from by subst hid;decide +kernel];subst hid
 refine Wb (IZ (T:="set") (b:=BC) hT (by rw[LP];kernel_rfl) ?_)
 refine rT (λhab=>absurd hab (by decide)) (λ_=>?_)
 refine rT (λ_=>?_) (λhab=>absurd (by decide +kernel) hab)
 refine Wb (MD hT ?_)
 exact Wp h
noncomputable def cY(w:BU)(A:BQ)(s:AG)(prog:BH)(S I a:AH)(vs:AE AC)(R:FE→AG→Prop)(base:CW):Prop :=
 ∀(hh:A.handled=BN)(hz:vs.length≤60)(hR:∀s':AG,(∃h' tk n,s'={ s with heap:=h',toks:=tk }∧(∀b o,b≠S→b≠I→base.get? b=AK o→h'.get? b=AK o)∧h'.get? S=AK (listOf vs.toArray n))→R (.ok (.ret (.ref S))) s'),∀(k i:CC)(h:CW)(tk n:CC),i+k=vs.length→SIt w h I a vs i→h.get? S=AK (listOf (vs.take i).toArray n)→(∀b o,b≠S→b≠I→base.get? b=AK o→h.get? b=AK o) →
  DV (BE prog w) A (.builtin "list.extend.loop" ⟨[.ref S,.ref I,.ref S],[]⟩) R { s with heap:=h,toks:=tk }
theorem xY:∀{w A s prog S I a vs R base},cY w A s prog S I a vs R base:=by
 refine @(BK (GM KF)<|@(UF DM<|let_mvar%?n:=(λw A s prog S I a vs R base=>?_:∀a b c d e f g h i j,cY a b c d e f g h i j);?n _ _ _ _ _ _ _ _ _ _))
 intro hh hz hR;intro k
 induction k with
 |zero =>
  intro i h tk n hik hit hS hb;refine IN Fx ?_;rw[KJ cJ];show AI _ _ (OT (.ref I)>>=_) _ _ _
  have hIS:S≠I:=λq=>by
   obtain⟨o,es,ep,t,ho,hd,hf,hne,⟨_,_,e⟩|⟨_,_,_,_,_,_,e⟩|⟨_,_,_,_,_,_,_,⟨_,e⟩|⟨_,e⟩⟩⟩:=hit<;>(rw[← q,hS] at e;exact absurd (BW Bn (HB e)) (by simp))
  refine Wb (Dr (A:=A.in1) hh hit (EM (by exact(Nl λhn1=>fk [_,_] (.e V0 (.a V1 K0) (.e (.s V1) V0 K0)) rfl (Es hik) hn1))) λh2 hx=>?_)
  refine Wp (hR _ ⟨h2,tk,n,rfl,λb o h1 h3 e=>hx _ _ h3 (hb b o h1 h3 e),?_⟩)
  rw[hx _ _ hIS hS,PB (by exact(Nl λhn1=>fk [_,_] (.e V0 (.a V1 K0) (.e (.s V1) V0 K0)) rfl (Es hik) hn1))]
 |succ k ih =>
  intro i h tk n hik hit hS hb;refine IN Fx ?_;rw[KJ cJ];show AI _ _ (OT (.ref I)>>=_) _ _ _
  have hIS:S≠I:=λq=>by
   obtain⟨o,es,ep,t,ho,hd,hf,hne,⟨_,_,e⟩|⟨_,_,_,_,_,_,e⟩|⟨_,_,_,_,_,_,_,⟨_,e⟩|⟨_,e⟩⟩⟩:=hit<;>(rw[← q,hS] at e;exact absurd (BW Bn (HB e)) (by simp))
  have hi:i<vs.length:=by exact(Nt λhn1=>fk [_,_,_] (.e (.a V0 (.s V1)) V2 (.e V2 V0 K0)) rfl (El hik) hn1)
  refine Wb (zV (A:=A.in1) hit (BL hi) λh2 hit2 hs2=>?_)
  dsimp only;have hS2:=(hs2.2 _ hIS).trans hS
  refine Wb (KZ (s:={ s with heap:=h2,toks:=tk }) hS2 rfl ?_ (by rw[CG,BI];simp;exact(Nl λhn1=>fk [_,_] (.e V0 (.k 60) (.e V1 V0 (.e (.s (.k 16777216)) V1 K0))) rfl hz (QC _ _) hn1)) (by rw[pM,CG,BI];simp;exact(Nl λhn1=>fk [_,_] (.e V0 (.k 60) (.e V1 V0 (.e (.s (.k 16777216)) V1 K0))) rfl hz (QC _ _) hn1)))
  refine Wp ⟨VQ cJ _,?_⟩
  have e3:(h2.update S (ED (·.push vs[i]))).get? S=AK (listOf (vs.take (i+1)).toArray (n+1)):=by
   rw[IT _ hS2 (by rw[pK];rfl),pK,UW,BL hi];simp
  exact ih (i+1) _ tk (n+1) (by exact(DG (Nl λhn2=>fk [_,_,_] (.e (.a V0 (.s V1)) V2 (.e (.s V2) (.a (.s V0) V1) K0)) rfl (El hik) hn2) (Nl λhn3=>fk [_,_,_] (.e V0 (.a V1 (.s V2)) (.e (.a (.a (.s V1) V2) K1) V0 K0)) rfl (Es hik) hn3))) (hit2.but hS2 (DR ..).extBut) e3 λb o h1 h3 e=>(DR ..).extBut _ _ h1 (hs2.extBut _ _ h3 (hb b o h1 h3 e))
noncomputable def VT(w:BU)(A:BQ)(s:AG)(prog:BH)(E:AC→AG→Prop)(a:AH)(o:CY)(ks:AE AX)(Q:AE AC→AG→Prop):Prop :=
 ∀(hh:A.handled=BN)(ho:s.heap.get? a=AK o)(hc:o.cls=.type "set") (hT:MI prog w o ks) (hne:ks≠[]) (hz:ks.length<60) (h:∀l h' d tk,(l.map (·.1)).Perm ks→(∀b o,s.heap.get? b=AK o→h'.get? b=AK o)→Q (AF l) { s with heap:=h',drawn:=d,toks:=tk }),AI (BE prog w) A (collect (.ref a)) Q E s
theorem aB:∀{w A s prog E a o ks Q},VT w A s prog E a o ks Q:=by
 refine @(BK (GM KF)<|@(HF DM<|let_mvar%?n:=(λw A s prog E a o ks Q=>?_:∀a b c d e f g h i,VT a b c d e f g h i);?n _ _ _ _ _ _ _ _ _))
 intro hh ho hc hT hne hz h;have hlt:=BS ho;unfold collect
 refine Wb (wL (IN Fm ?_))
 show AI _ _ (do again (.builtin "list.__iadd__" ⟨[← JL [],.ref a],[]⟩)) _ _ s
 refine Wb (HC (Wp ⟨LZ _ (by decide +kernel),IN entry_list_iadd' ?_⟩))
 show AI _ _ (SB (.ref s.heap.objs.size) (.ref a) (.ref s.heap.objs.size)) _ _ { s with heap:=s.heap.push (EI "list" #[] 0) };unfold SB;have ho':(s.heap.push (EI "list" #[] 0)).get? a=AK o:=AV _ ho
 refine Wb (MD (T:="set") ⟨o,ho',hc⟩ ?_)
 have h1:xA (.ref s.heap.objs.size) (.ref a)=AU:=by
  simp only[xA,cS,ne_eq];exact AJ hlt
 have h2:(JT "set"==JT "list")=AU:=by decide
 have h3:(JT "set"==JT "tuple")=AU:=by decide
 simp only[h1,h2,h3,CZ.or_false,IV,WX]
 refine Wb (yN (s:={ s with heap:=s.heap.push (EI "list" #[] 0) }) ho' hc hT hne hz λI l hI d hp hit hge hk hsz=>?_)
 have hS1:hI.get? s.heap.objs.size=AK (listOf #[] 0):=hk _ _ (CH _ rfl)
 refine Wb (CI (yK (s:={ s with heap:=hI,drawn:=d }) ⟨o,hk _ _ ho',hc⟩ ?_))
 have hl:(AF l).length≤60:=by
  unfold AF;rw[AN,← AN (f:=(·.1)),hp.length_eq];exact(Nl λhn1=>fk [_] (.e (.s V0) (.k 60) (.e (.s (.k 60)) V0 K0)) rfl hz hn1)
 have hIlt:s.heap.objs.size<I:=by
  have:(s.heap.push (EI "list" #[] 0)).objs.size≤I:=hge;rw[FT] at this;exact this
 have fin:∀(h0:CW)(n:CC),(∀b o,b≠s.heap.objs.size→hI.get? b=AK o→h0.get? b=AK o)→h0.get? s.heap.objs.size=AK (listOf #[] n)→SIt w h0 I a (AF l) 0 →
   DV (BE prog w) A (.builtin "list.extend.loop" ⟨[.ref s.heap.objs.size,.ref I,.ref s.heap.objs.size],[]⟩)
    (λr s'=>match r with
     |.ok (.ret v)=>AI (BE prog w) A (match v with
      |.ref a=>do match (← load a).data with
       |.seq xs _=>pure xs.toList
       |_=>unsupported "internal:collect"
      |_=>unsupported "internal:collect") Q E s'
     |.ok _=>NF
     |.error e=>E e s') { s with heap:=h0,drawn:=d }:=by
  intro h0 n hb hS hit0
  refine xY (s:={ s with drawn:=d }) (base:=s.heap) hh hl (λs' hs'=>?_) (AF l).length 0 h0 s.toks n (by exact(DG (Nl λhn2=>fk [_] (.e (.s V0) (.a K0 V0) K0) rfl hn2) (Nl λhn3=>fk [_] (.e (.a (.a K0 V0) K1) V0 K0) rfl hn3))) hit0 hS λb o _ _ e=>hb b o (AO (BS e)) (hk _ _ (AV _ e))
  obtain⟨h',tk,n',rfl,hkk,hS'⟩:=hs'
  refine Wb (YX hS' ?_)
  show AI _ _ (pure ((AF l).toArray).toList) Q E _;refine Wp ?_;exact h l h' d tk hp λb o e=>hkk b o (AO (BS e)) (AO (AZ (BS e) hIlt)) e
 refine rT (λ_=>?_) (λ_=>Wp ⟨VQ wW _,fin _ 0 (λb o _ e=>e) hS1 hit⟩)
 refine Wb (JA ?_)
 refine Wb ?_;show AI _ _ (Az s.heap.objs.size (·.push .none)>>=λ_=>Az s.heap.objs.size (·.pop)) _ _ _
 refine Wb (ZD hS1 rfl ?_)
 have hS₂:=IT (ED (·.push .none)) hS1 rfl;refine ZD (hz:=by seq_fits) hS₂ rfl ?_;have hS₃:=IT (ED (·.pop)) hS₂ rfl;refine Wp ⟨VQ wW _,fin _ _ (λb o hb e=>?_) hS₃ ?_⟩
 ·exact(Bg _ _ (BG hb)).trans ((Bg _ _ (BG hb)).trans e)
 ·exact(hit.but hS1 (DR ..).extBut).but hS₂ (DR ..).extBut
end
end Mine
namespace Mine
open PySem.Calls
noncomputable def dK(r:CC→CC→CZ)(n:CC)(P:CE CC→CZ):KasT (CE CC)→CZ
 |.ret p=>P p
 |.ask i j k=>decide (i<n)&&decide (j<n)&&dK r n P (k (r i j))
theorem mD{r:CC→CC→CZ}{n:CC}{P:CE CC→CZ}{cmp:CC→CC→(CZ→AG→Prop)→AG→Prop}{G:CE CC→AG→Prop}{I:AG→Prop}
  (hc:∀i j C s,i<n→j<n→I s→(∀s',I s'→C (r i j) s')→cmp i j C s):∀(t:KasT (CE CC))(s:AG),dK r n P t=BC→I s→(∀p s',P p=BC→I s'→G p s')→t.kasWp cmp G s
 |.ret p,s,ho,hI,hG=>hG p s ho hI
 |.ask i j k,s,ho,hI,hG=>by
  simp only[dK,NT,HI] at ho;exact hc i j _ s ho.1.1 ho.1.2 hI λs' hI'=>mD hc (k (r i j)) s' ho.2 hI' hG
noncomputable def okP(f:AE CC)(n:CC)(p:CE CC):CZ:=p.toList.isPerm (NK n)&&decide ((p.toList.map λi=>f.getD i 0).Pairwise (·≤·))
noncomputable def vJ(f:AE CC)(i j:CC):CZ:=decide (f.getD i 0<f.getD j 0)
theorem small2:∀a b:Fin 2,dK (vJ [a,b]) 2 (okP [a,b] 2) (jG 2)=BC:=by decide +kernel
theorem small3:∀a b c:Fin 3,dK (vJ [a,b,c]) 3 (okP [a,b,c] 3) (jG 3)=BC:=by decide +kernel
theorem small4:∀a b c d:Fin 4,dK (vJ [a,b,c,d]) 4 (okP [a,b,c,d] 4) (jG 4)=BC:=by decide +kernel
theorem len2{α:Type}{l:AE α}(h:l.length=2):∃a b,l=[a,b]:=by
 cases l with
 |nil=>cases h
 |cons a l =>
  obtain⟨b,e⟩:=AE.length_eq_one_iff.mp (XM h)
  exact⟨a,b,BW _ e⟩
theorem len3{α:Type}{l:AE α}(h:l.length=3):∃a b c,l=[a,b,c]:=by
 cases l with
 |nil=>cases h
 |cons a l =>
  obtain⟨b,c,e⟩:=len2 (XM h)
  exact⟨a,b,c,BW _ e⟩
theorem Ds{n:CC}{f:AE CC}(h2:2≤n)(h4:n≤4)(hl:f.length=n)(hf:∀x∈f,x<n):dK (vJ f) n (okP f n) (jG n)=BC:=by
 rcases (by lia:n=2∨n=3∨n=4) with rfl|rfl|rfl
 ·obtain⟨a,b,rfl⟩:=len2 hl
  exact small2 ⟨a,hf a (.head _)⟩ ⟨b,hf b (.tail _ (.head _))⟩
 ·obtain⟨a,b,c,rfl⟩:=len3 hl
  exact small3 ⟨a,hf a (.head _)⟩ ⟨b,hf b (.tail _ (.head _))⟩ ⟨c,hf c (.tail _ (.tail _ (.head _)))⟩
 ·cases f with
  |nil=>cases hl
  |cons a f =>
   obtain⟨b,c,d,rfl⟩:=len3 (XM hl)
   exact small4 ⟨a,hf a (.head _)⟩ ⟨b,hf b (.tail _ (.head _))⟩ ⟨c,hf c (.tail _ (.tail _ (.head _)))⟩ ⟨d,hf d (.tail _ (.tail _ (.tail _ (.head _))))⟩
structure SLO {α:Type} (lt:α→α→CZ):Prop where
 irr:∀a,lt a a=AU
 tr:∀a b c,lt a b=BC→lt b c=BC→lt a c=BC
 tri:∀a b,lt a b=AU→lt b a=AU→a=b
theorem ZO{α:Type}{p q:α→CZ}(h:∀z,p z=BC→q z=BC):∀l:AE α,(l.filter p).length≤(l.filter q).length
 |[]=>CR _
 |x::l=>by
  have ih:=ZO h l
  cases hp:p x with
  |true=>rw[HU hp,HU (h x hp)];simp only[CD];exact(Nl λhn1=>fk [_,_] (.e V0 V1 (.e (.a (.s V1) K1) (.s V0) K0)) rfl ih hn1)
  |false =>
   rw[LH (by rw[hp];exact DE)]
   cases hq:q x with
   |true=>rw[HU hq];simp only[CD];exact(Nl λhn1=>fk [_,_] (.e V0 V1 (.e (.a (.s V1) K1) V0 K0)) rfl ih hn1)
   |false=>rw[LH (by rw[hq];exact DE)];exact ih
theorem ZP{α:Type}{p q:α→CZ}(h:∀z,p z=BC→q z=BC):∀{l:AE α}{x:α},x∈l→p x=AU→q x=BC→(l.filter p).length<(l.filter q).length
 |y::l,x,hx,h1,h2=>by
  rcases AP.mp hx with rfl|hx
  ·rw[LH (by rw[h1];exact DE),HU h2]
   have:=ZO h l
   simp only[CD];exact(Nt λhn1=>fk [_,_] (.e V0 V1 (.e (.s V1) V0 K0)) rfl this hn1)
  ·have ih:=ZP h hx h1 h2
   cases hp:p y with
   |true=>rw[HU hp,HU (h y hp)];simp only[CD];exact(Nt λhn1=>fk [_,_] (.e (.s V0) V1 (.e (.s V1) (.s V0) K0)) rfl ih hn1)
   |false =>
    rw[LH (by rw[hp];exact DE)]
    cases hq:q y with
    |true=>rw[HU hq];simp only[CD];exact(Nt λhn1=>fk [_,_] (.e (.s V0) V1 (.e (.s V1) V0 K0)) rfl ih hn1)
    |false=>rw[LH (by rw[hq];exact DE)];exact ih
noncomputable def rank{α:Type}(lt:α→α→CZ)(l:AE α)(x:α):CC:=(l.filter λy=>lt y x).length
theorem nM{α:Type}{lt:α→α→CZ}(S:SLO lt){l:AE α}{x y:α}(hx:x∈l):decide (rank lt l x<rank lt l y)=lt x y:=by
 cases h:lt x y with
 |true =>
  rw[HI];exact ZP (λz hz=>S.tr z x y hz h) hx (S.irr x) h
 |false =>
  rw[JK]
  refine fO.mpr (ZO (λz hz=>?_) l)
  cases h':lt y x with
  |true=>exact S.tr z y x hz h'
  |false=>rw[S.tri x y h h'];exact hz
theorem Dk{α:Type}{lt:α→α→CZ}(S:SLO lt){l:AE α}{x:α}(hx:x∈l):rank lt l x<l.length:=by
 have:=ZP (p:=λy=>lt y x) (q:=λ_=>BC) (λ_ _=>rfl) hx (S.irr x) rfl;rw[cM.mpr (λ_ _=>rfl)] at this;exact this
theorem SZ{α:Type}{lt:α→α→CZ}(S:SLO lt){l:AE α}(h2:2≤l.length)(h4:l.length≤4){cmp:CC→CC→(CZ→AG→Prop)→AG→Prop}{G:CE CC→AG→Prop}{I:AG→Prop}{s:AG}
  (hc:∀i j a b C s,l[i]?=AK a→l[j]?=AK b→I s→(∀s',I s'→C (lt a b) s')→cmp i j C s) (hI:I s)
  (hG:∀(p:CE CC)s',p.toList.Perm (NK l.length)→(∀(out:AE α),out=p.toList.filterMap (λi=>l[i]?)→out.Perm l∧out.Pairwise (λa b=>lt b a=AU))→I s'→G p s'):(jG l.length).kasWp cmp G s:=by
 have hf:∀x∈l.map (rank lt l),x<l.length:=λx hx=>by
  obtain⟨a,ha,rfl⟩:=CO.mp hx;exact Dk S ha
 have hget:∀i a,l[i]?=AK a→(l.map (rank lt l)).getD i 0=rank lt l a:=λi a h=>by
  rw[EX,DH,h];rfl
 refine mD (r:=vJ (l.map (rank lt l))) (λi j C s hi hj hI' hC=>?_) _ s (Ds (f:=l.map (rank lt l)) h2 h4 (AN ..) hf) hI λp s' hp hI'=>?_
 ·have ei:=BL hi
  have ej:=BL hj;refine hc i j _ _ C s ei ej hI' λs' hs'=>?_;have:=hC s' hs';unfold vJ at this;rw[hget _ _ ei,hget _ _ ej,nM S (QA hi)] at this;exact this
 ·unfold okP at hp
  rw[NT,AE.isPerm_iff,HI] at hp;obtain⟨hp1,hp2⟩:=hp;refine hG p s' hp1 (λout ho=>⟨?_,?_⟩) hI'
  ·rw[ho]
   have:=hp1.filterMap (λi=>l[i]?)
   rw[List.filterMap_getElem?_range_length] at this;exact this
  ·subst ho
   rw[AE.pairwise_filterMap];rw[Hd] at hp2;refine hp2.imp_of_mem λ{i j}hi hj hle a ha b hb=>?_;rw[hget _ _ ha,hget _ _ hb] at hle;rw[← nM S (GR hb),JK]
   exact(λhn1=>fk [_,_] (.e V0 V1 (.e (.s V1) V0 K0)) rfl hle hn1)
noncomputable def ins{α:Type}(lt:α→α→CZ)(x:α):AE α→AE α
 |[]=>[x]
 |y::l=>if lt y x=BC then y::ins lt x l else x::y::l
noncomputable def FJ{α:Type}(lt:α→α→CZ):AE α→AE α
 |[]=>[]
 |x::l=>ins lt x (FJ lt l)
theorem dH{α:Type}(lt:α→α→CZ)(x:α):∀l:AE α,(ins lt x l).Perm (x::l)
 |[]=>.rfl
 |y::l=>by
  unfold ins;split
  ·exact((dH lt x l).cons y).trans (tG ..)
  ·exact .rfl
theorem DU{α:Type}(lt:α→α→CZ):∀l:AE α,(FJ lt l).Perm l
 |[]=>.rfl
 |x::l=>(dH lt x _).trans ((DU lt l).cons x)
theorem dI{α:Type}{lt:α→α→CZ}(S:SLO lt)(x:α):∀l:AE α,l.Pairwise (λa b=>lt b a=AU)→(ins lt x l).Pairwise (λa b=>lt b a=AU)
 |[],_=>AE.pairwise_singleton ..
 |y::l,h=>by
  rw[IW] at h;unfold ins;split
  ·rename_i hyx
   rw[IW];refine⟨λz hz=>?_,dI S x l h.2⟩;rcases AP.mp ((dH lt x l).mem_iff.mp hz) with rfl|hz
   ·cases h':lt z y with
    |false=>rfl
    |true=>have:=S.tr _ _ _ hyx h';rw[S.irr] at this;cases this
   ·exact h.1 z hz
  ·rename_i hyx
   have hyx:lt y x=AU:=by simpa using hyx
   rw[IW];refine⟨λz hz=>?_,IW.mpr h⟩;rcases AP.mp hz with rfl|hz
   ·exact hyx
   ·cases h':lt z x with
    |false=>rfl
    |true =>
     have hzy:=h.1 z hz
     cases h2:lt y z with
     |true=>have:=S.tr _ _ _ h2 h';rw[hyx] at this;cases this
     |false=>rw[S.tri _ _ h2 hzy] at hyx;rw[hyx] at h';cases h'
theorem KR{α:Type}{lt:α→α→CZ}(S:SLO lt):∀l:AE α,(FJ lt l).Pairwise (λa b=>lt b a=AU)
 |[]=>.nil
 |x::l=>dI S x _ (KR S l)
theorem RF{α:Type}{lt:α→α→CZ}(S:SLO lt):∀{l l':AE α},l.Perm l'→l.Pairwise (λa b=>lt b a=AU)→l'.Pairwise (λa b=>lt b a=AU)→l=l'
 |[],l',p,_,_=>(AE.nil_perm.mp p).symm ▸ rfl
 |a::l,[],p,_,_=>by have:=p.length_eq;simp at this
 |a::l,b::l',p,h,h'=>by
  have hab:a=b:=by
   rw[IW] at h h'
   have h1:a∈b::l':=p.mem_iff.mp (.head _)
   have h2:b∈a::l:=p.mem_iff.mpr (.head _)
   rcases AP.mp h1 with e|h1
   ·exact e
   ·rcases AP.mp h2 with e|h2
    ·exact e.symm
    ·exact S.tri _ _ (h'.1 a h1) (h.1 b h2)
  subst hab;rw[RF S ((AE.perm_cons a).mp p) (IW.mp h).2 (IW.mp h').2]
theorem RN{α:Type}{lt:α→α→CZ}(S:SLO lt){l out:AE α}(p:out.Perm l)(h:out.Pairwise (λa b=>lt b a=AU)):out=FJ lt l :=
 RF S (p.trans (DU lt l).symm) h (KR S l)
end Mine
namespace Mine
open PySem.Calls
open PySem.Builtin PySem.Builtin.Str PySem.Builtin.Int
noncomputable def LA(a b:AX):CZ:=decide (a.cps.toList<b.cps.toList)
theorem Dv{a b:AX}(h:a.cps.toList=b.cps.toList):a=b:=by
 cases a;cases b;simp only at h;rw[WF.mp h]
theorem LB:SLO LA:=by
 refine⟨λa=>?_,λa b c h1 h2=>?_,λa b h1 h2=>?_⟩
 ·unfold LA;rw[JK];exact AE.lt_irrefl _
 ·unfold LA at *;rw[HI] at *;exact AE.lt_trans h1 h2
 ·unfold LA at *;rw[JK] at *
  exact Dv (AE.le_antisymm (AE.not_lt.mp h2) (AE.not_lt.mp h1))
noncomputable def lexLt:AE AX→AE AX→CZ
 |[],[]=>AU
 |[],_::_=>BC
 |_::_,[]=>AU
 |a::as,b::bs=>if a=b then lexLt as bs else LA a b
theorem gN:SLO lexLt:=by
 refine⟨λa=>?_,λa=>?_,λa=>?_⟩
 ·induction a with
  |nil=>rfl
  |cons a as ih=>unfold lexLt;rw[DJ rfl];exact ih
 ·induction a with
  |nil =>
   intro b c h1 h2
   cases c with
   |cons _ _=>rfl
   |nil=>cases b with
    |nil=>exact h1
    |cons _ _=>cases h2
  |cons a as ih =>
   intro b c h1 h2
   cases b with
   |nil=>cases h1
   |cons b bs =>
    cases c with
    |nil=>cases h2
    |cons c cs =>
     unfold lexLt at h1 h2 ⊢
     by_cases e1:a=b
     ·subst e1
      rw[DJ rfl] at h1
      by_cases e2:a=c
      ·subst e2
       rw[DJ rfl] at h2 ⊢;exact ih _ _ h1 h2
      ·rw[CA e2] at h2 ⊢;exact h2
     ·rw[CA e1] at h1
      by_cases e2:b=c
      ·subst e2
       rw[CA e1];exact h1
      ·rw[CA e2] at h2
       have h3:=LB.tr _ _ _ h1 h2;rw[CA (λe=>by rw[e,LB.irr] at h3;cases h3)];exact h3
 ·induction a with
  |nil =>
   intro b h1 h2
   cases b with
   |nil=>rfl
   |cons _ _=>cases h1
  |cons a as ih =>
   intro b h1 h2
   cases b with
   |nil=>cases h2
   |cons b bs =>
    unfold lexLt at h1 h2
    by_cases e1:a=b
    ·subst e1
     rw[DJ rfl] at h1 h2;rw[ih _ h1 h2]
    ·rw[CA e1] at h1
     rw[CA (BG e1)] at h2;exact absurd (LB.tri _ _ h1 h2) e1
theorem SLO.by{α β:Type}{lt:β→β→CZ}(S:SLO lt){f:α→β}(hf:∀a b,f a=f b→a=b):SLO (λa b=>lt (f a) (f b)) :=
 ⟨λa=>S.irr _,λa b c=>S.tr _ _ _,λa b h1 h2=>hf _ _ (S.tri _ _ h1 h2)⟩
noncomputable def JQ(x:AX):AE AX :=
 if (decide (x.length<(AA "}").length)||decide (LF x<LF "}"))=BC then [x]
 else if (occurrences x "}" 0 x.length 1).isEmpty=BC then [x] else MC x (occurrences x "}" 0 x.length 1) (AA "}").length
theorem VY(x:AX):glued "}" (JQ x)=x:=by
 have one:glued "}" [x]=x:=by cases x;rfl
 unfold JQ;split
 ·exact one
 ·split
  ·exact one
  ·exact tK ..
theorem jZ(a b:AX)(h:JQ a=JQ b):a=b:=by rw[← VY a,← VY b,h]
noncomputable def GH(a b:AX):CZ:=lexLt (JQ a) (JQ b)
theorem MW:SLO GH:=gN.by jZ
noncomputable def JZ(a b:AX×AX):CZ:=lexLt [a.1,a.2] [b.1,b.2]
theorem eJ:SLO JZ:=gN.by (f:=λa:AX×AX=>[a.1,a.2]) λa b h=>by
 obtain⟨a1,a2⟩:=a;obtain⟨b1,b2⟩:=b;simp only[MG,TS] at h;rw[h.1,h.2]
section
variable{prog:BH}{w:BU}{A:BQ}{E:AC→AG→Prop}{s:AG}{h₀:CW}{L:AH}{m:AX→AM AC}{news:AE (AH×CY)}
noncomputable def gQ(w:BU)(A:BQ)(s:AG)(prog:BH)(a b:AH)(xs ys:AE (AX×DW))(n k:CC)(R:FE→AG→Prop):Prop :=
 ∀(ha:s.heap.get? a=AK (listOf (AF xs).toArray n))(hb:s.heap.get? b=AK (listOf (AF ys).toArray k)),∀(f i:CC),xs.length+1≤f+i→i≤xs.length→i≤ys.length →
  R (.ok (.ret (.bool (lexLt ((xs.drop i).map (·.1)) ((ys.drop i).map (·.1)))))) s→AI (BE prog w) A.in1 (IE.«list.__eq__.loop» ⟨[.ref a,.ref b,JU i,JU 0],[]⟩)
   (λfin s'=>match fin with|.done f=>R (.ok f) s'|.again c'=>c'.quiet=BC∧DV (BE prog w) A c' R s') (λe s'=>R (.error e) s') s
theorem Cq:∀{a b c d e f g h i j k},gQ a b c d e f g h i j k:=by
 refine @(BK (GM KF)<|@(OY DM<|let_mvar%?n:=(λw A s prog a b xs ys n k R=>?_:∀a b c d e f g h i j k,gQ a b c d e f g h i j k);?n _ _ _ _ _ _ _ _ _ _ _))
 intro ha hb;intro f
 induction f with
 |zero=>intro i h1 h2;lia
 |succ f ih =>
  intro i h1 hx hy h;unfold IE.«list.__eq__.loop»
  refine Wb (JF ha rfl (Wb (JF hb rfl ?_)))
  have ea:(AF xs).toArray[((i:CC):EE).toNat]?=(xs[i]?).map λp=>.str p.1 p.2:=by
   rw[FF,FI];unfold AF;rw[DH]
  have eb:(AF ys).toArray[((i:CC):EE).toNat]?=(ys[i]?).map λp=>.str p.1 p.2:=by
   rw[FF,FI];unfold AF;rw[DH]
  rw[ea,eb]
  have zx:(AF xs).toArray.size=xs.length:=by simp[AF]
  have zy:(AF ys).toArray.size=ys.length:=by simp[AF]
  by_cases hxl:i<xs.length
  ·rw[BL hxl]
   rw[KA hxl] at h
   by_cases hyl:i<ys.length
   ·rw[BL hyl]
    rw[KA hyl] at h;simp only[EC,lexLt] at h
    rw[KC];(try dsimp only)
    refine Wb (pB ?_)
    by_cases he:xs[i].1=ys[i].1
    ·rw[DJ he] at h
     rw[DJ (by simpa using he)]
     have hc:((i:EE)+1)=((i+1:CC):EE):=by push_cast;rfl
     refine Wp ⟨VQ LY _,?_⟩;rw[hc];refine IN pI ?_;rw[KJ LY _];exact ih (i+1) (by exact(Nl λhn1=>fk [_,_,_] (.e (.s V0) (.a (.s V1) V2) (.e (.a (.a V1 (.s V2)) K1) (.s V0) K0)) rfl h1 hn1)) hxl hyl h
    ·rw[CA he] at h
     rw[CA (by simpa using he)]
     refine Wb (JF ha rfl (Wb (JF hb rfl ?_)))
     rw[ea,eb,BL hxl,BL hyl];simp only[KC]
     refine Wb (show AI _ _ (LO .Lt _ _) _ _ _ from lt_str (Wp h))
   ·rw[EM (by exact(BJ hyl))]
    rw[KC,pP];dsimp only
    refine Wb (JF ha rfl (Wb (JF hb rfl (Wp ?_))))
    rw[OZ (show ys.length≤i by exact(BJ hyl))] at h
    have:decide ((AF xs).toArray.size<(AF ys).toArray.size)=AU:=by rw[zx,zy,JK];exact(λhn1=>fk [_,_,_] (.e (.s V0) V1 (.e V2 V0 (.e (.s V1) V2 K0))) rfl hxl (BJ hyl) hn1)
    show R (.ok (.ret (.bool (decide ((AF xs).toArray.size<(AF ys).toArray.size))))) s;rw[this];exact h
  ·rw[EM (show xs.length≤i by exact(BJ hxl))]
   simp only[pP]
   refine Wb (JF ha rfl (Wb (JF hb rfl (Wp ?_))))
   show R (.ok (.ret (.bool (decide ((AF xs).toArray.size<(AF ys).toArray.size))))) s;rw[zx,zy];rw[OZ (show xs.length≤i by exact(BJ hxl))] at h
   by_cases hyl:i<ys.length
   ·rw[KA hyl] at h
    have:decide (xs.length<ys.length)=BC:=by rw[HI];exact(Nt λhn1=>fk [_,_,_] (.e V0 V1 (.e (.s V1) V2 (.e V2 V0 K0))) rfl (BJ hxl) hyl hn1)
    rw[this];exact h
   ·rw[OZ (show ys.length≤i by exact(BJ hyl))] at h
    have:decide (xs.length<ys.length)=AU:=by rw[JK];exact(λhn1=>fk [_,_,_] (.e V0 V1 (.e V2 V0 (.e (.s V1) V2 K0))) rfl hx (BJ hyl) hn1)
    rw[this];exact h
theorem Cp{a b:AH}{xs ys:AE (AX×DW)}{n k:CC}{R:FE→AG→Prop}(ha:s.heap.get? a=AK (listOf (AF xs).toArray n))(hb:s.heap.get? b=AK (listOf (AF ys).toArray k))
  (h:R (.ok (.ret (.bool (lexLt (xs.map (·.1)) (ys.map (·.1)))))) s):DV (BE prog w) A (.builtin "list.__eq__.loop" ⟨[.ref a,.ref b,JU 0,JU 0],[]⟩) R s:=by
 refine IN pI ?_;rw[KJ LY _];exact Cq ha hb (xs.length+1) 0 (by exact(Nl λhn1=>fk [_] (.e (.a (.a (.s V0) K0) K1) (.s V0) K0) rfl hn1)) (EH _) (EH _) h
noncomputable def dW(w:BU)(A:BQ)(s:AG)(prog:BH)(E:AC→AG→Prop)(a b:AH)(xs ys:AE (AX×DW))(n k:CC)(Q:CZ→AG→Prop):Prop :=
 ∀(hu:A.units<Av)(ha:s.heap.get? a=AK (listOf (AF xs).toArray n))(hb:s.heap.get? b=AK (listOf (AF ys).toArray k))(h:Q (lexLt (xs.map (·.1)) (ys.map (·.1))) s),AI (BE prog w) A (keyLt' oneType' (.ref a) (.ref b)) Q E s
theorem yW:∀{a b c d e f g h i j k l},dW a b c d e f g h i j k l:=by
 refine @(BK (GM KF)<|@(QZ DM<|let_mvar%?n:=(λw A s prog E a b xs ys n k Q=>?_:∀a b c d e f g h i j k l,dW a b c d e f g h i j k l);?n _ _ _ _ _ _ _ _ _ _ _ _))
 intro hu ha hb h;have hTa:s.TypeIs (.ref a) "list":=⟨_,ha,rfl⟩;have hTb:s.TypeIs (.ref b) "list":=⟨_,hb,rfl⟩;rw[keyLt'_oneType,oneLt'_eq];rw[DJ rfl]
 refine Wb (wpAny_cRoomFor hu ?_)
 refine Wb (wpAny_callSpecialIfBound?_slot hTa tC ?_)
 refine QF (Fk tC.plain F.entry_list_lt (tC.check _ _ _ _ _ _ _ _ hTa (F.args_list_lt_2 _ _) ?_))
 show AI _ _ (do
  if !(← isInstance (.ref b) (.type "list")) then return ← ret .notImplemented
  again (.builtin "list.__eq__.loop" ⟨[.ref a,.ref b,JU 0,JU 0],[]⟩)) _ _ _
 refine Wb (IZ hTb sub_list_list ?_)
 rw[CA (by decide)];refine Wp ⟨VQ LY _,?_⟩;refine Cp ha hb ?_;exact Hs h
end
end Mine
namespace Mine
open PySem.Calls
open PySem.Builtin PySem.Builtin.Str PySem.Builtin.Int
section
variable{prog:BH}{w:BU}{A:BQ}{E:AC→AG→Prop}{s:AG}{h₀:CW}{L:AH}{m:AX→AM AC}{news:AE (AH×CY)}
theorem rG(x y:AX)(t u k:DW):∃raising:kZ Fin,«str.split» ⟨[.str x t,.str y u,.int 1 k],[]⟩ =
  (if (decide (x.length<y.length)||decide (LF x<LF y))=BC then(do rule "str.split.sep-cannot-occur";ret (← JL [.str x t])) else
   if (y.length==0)=BC then raising else
   if (BC&&(occurrences x y 0 x.length 1).isEmpty)=BC then(do rule "str.split.same-object";ret (← JL [.str x t])) else
   (do ret (← JL (← (MC x (occurrences x y 0 x.length 1) y.length).mapM mkStr)))):=⟨_,rfl⟩
theorem gR:∀(ps:AE AX)(s:AG)(Q:AE AC→AG→Prop),(∀p∈ps,p.length≤DA)→(∀(l:AE (AX×DW))tk,l.map (·.1)=ps→Q (AF l) { s with toks:=tk })→AI (BE prog w) A (ps.mapM mkStr) Q E s
 |[],s,Q,_,h=>by rw[AE.mapM_nil];exact Wp (h [] s.toks rfl)
 |p::ps,s,Q,hz,h=>by
  rw[AE.mapM_cons]
  refine Wb (wpAny_mkStr ?_ (hz p (.head _)))
  refine Wb (gR ps _ _ (λq hq=>hz q (.tail _ hq)) λl tk hl=>Wp ?_)
  exact h ((p,s.toks)::l) tk (by rw[EC,hl])
theorem split1{x:AX}{t u k:DW}{Q:AC→AG→Prop}(hsz:x.length≤1000)
  (h:∀(l:AE (AX×DW))tk,l.map (·.1)=JQ x→Q (.ref s.heap.objs.size) { s with heap:=s.heap.push (listOf (AF l).toArray 0),toks:=tk }) :
  AI (BE prog w) A (DK (.builtin "str.split") [.str x t,.str (AA "}") u,.int 1 k]) Q E s:=by
 obtain⟨raising,htree⟩:=rG x (AA "}") t u k
 refine FM F.slot_str_split (UB _ _ _) F.entry_str_split ?_ (F.args_str_split_3 _ _ _)
 rw[htree];unfold JQ at h
 by_cases h1:(decide (x.length<(AA "}").length)||decide (LF x<LF (AA "}")))=BC
 ·rw[DJ h1] at h ⊢
  exact Wb (JA (Wb (HC (Wp ⟨_,rfl,h [(x,t)] s.toks rfl⟩))))
 ·rw[CA h1] at h ⊢
  rw[CA (by decide)]
  by_cases h2:(occurrences x (AA "}") 0 x.length 1).isEmpty=BC
  ·rw[DJ h2] at h
   rw[DJ (by rw[h2];rfl)]
   exact Wb (JA (Wb (HC (Wp ⟨_,rfl,h [(x,t)] s.toks rfl⟩))))
  ·rw[CA h2] at h
   rw[CA (by simpa using h2)]
   have hle:∀p∈MC x (occurrences x (AA "}") 0 x.length 1) (AA "}").length,p.length≤DA:=λp hp=>by
    simp only[MC,CO] at hp;obtain⟨⟨i,j⟩,_,rfl⟩:=hp
    exact AQ (strSub_length_le ..) (AQ hsz (by rw[BI];decide))
   refine Wb (gR _ _ _ hle λl tk hl=>?_)
   refine Wb (HC (Wp ⟨_,rfl,h l tk hl⟩) ?_)
   have:(AF l).length=(MC x (occurrences x (AA "}") 0 x.length 1) (AA "}").length).length:=by
    rw[← hl];simp[AF]
   rw[this,dQ,BI];have:=Ej x (AA "}") 0 x.length 1
   exact(Nl λhn1=>fk [_] (.e V0 K1 (.e (.s (.k 16777216)) (.s V0) K0)) rfl this hn1)
theorem const_int{M:QV}{env:XH}{i:EE}{k:CC}{pos:OP}{Q:AC→AG→Prop}(h:Q (.int i s.toks) { s with toks:=s.toks+1 }):AI M A (eval (.Constant (.int i) k pos) env) Q E s:=λ_ _ _=>h
noncomputable abbrev PM(p:OP):WE:={ posonlyargs:=[],args:=[{ arg:="n",annotation:=BN,pos:=p }],vararg:=BN,kwonlyargs:=[],kw_defaults:=[],kwarg:=BN,defaults:=[] }
noncomputable abbrev UZ(p1 p2 p3 p4 p5:OP):EK:=.Call (.Attribute (.Name "n" p1) "split" p2) [.Constant (.str "}") 0 p3,.Constant (.int 1) 0 p4] [] p5
noncomputable abbrev OR:KO:={ kind:=.function,names:=[("n",.local)],isGenerator:=AU,isCoroutine:=AU,more:=[] }
noncomputable def aM(w:BU)(A:BQ)(s:AG)(prog:BH)(f c':AH)(qual:AX)(pm ctv:AC)(p0 p1 p2 p3 p4 p5:OP)(x:AX)(tx:DW)(R:FE→AG→Prop):Prop :=
 ∀(zq:A.depth<FX)(hlim:s.heap.NoLimit)(ho:s.heap.get? f=AK (Ho "<lambda>" qual (PM p0) (UZ p1 p2 p3 p4 p5) OR [] pm c' ctv)) (hcd:s.heap.CodeRec (.ref c') qual) (hx:x.length≤1000) (hline:(p2.endLine==p5.line)=BC) (h:∀D l h' tk,l.map (·.1)=JQ x→(∀b o,s.heap.get? b=AK o→h'.get? b=AK o)→h'.get? D=AK (listOf (AF l).toArray 0)→s.heap.objs.size≤D→R (.ok (.ret (.ref D))) { s with heap:=h',toks:=tk }),DV (BE prog w) A (.call (.ref f) ⟨[.str x tx],[]⟩) R s
theorem uW:∀{a b c d e f g h i j k l m n o p q r},aM a b c d e f g h i j k l m n o p q r:=by
 refine @(BK (GM KF)<|@(BK DM<|@(UF DM<|let_mvar%?n:=(λw A s prog f c' qual pm ctv p0 p1 p2 p3 p4 p5 x tx R=>?_:∀a b c d e f g h i j k l m n o p q r,aM a b c d e f g h i j k l m n o p q r);?n _ _ _ _ _ _ _ _ _ _ _ _ _ _ _ _ _ _)))
 intro zq hlim ho hcd hx hline h;refine kla_callFunE zq ho rfl rfl rfl rfl hcd ?_;refine KW (a:=[(AA "n",EW x tx)]) rfl ?_;refine RH (show ∀x∈OR.names,x.2≠.cell by decide) (λy hy=>by rw[BB.mp hy];rfl) (λh₁ hns hsb=>⟨hlim.fresh _ hsb,?_⟩) rfl;show DV _ _ (.expr (UZ p1 p2 p3 p4 p5) (QE qual OR s.heap.objs.size f (.ref c') [])) _ _
 have hk₁:∀b o,s.heap.get? b=AK o→h₁.get? b=AK o:=λb o e=>hsb.extBut b o (AO (BS e)) (AV _ e)
 have hF:Fr s.heap s.heap.objs.size h₁ (λy=>([("n",.str x tx)]:AE (AX×AC)).reverse.lookup y):=⟨hns,hk₁,CR _⟩;refine kla_codeExpr ?_
 refine Call_method2 rfl rfl hline (Cu hF rfl ⟨"str","str.split",F.plainAttrs_str,F.slot_str_split,F.type_str_split,UB _ _ _,(λ_ e=>nomatch e),?_⟩ rfl rfl)
 refine Ba rfl (Fe (TJ (TI (TJ ?_))))
 refine const_int (Hb ?_)
 refine split1 hx λl tk hl=>?_;refine h _ l _ tk hl (λb o e=>AV _ (hk₁ b o e)) (CH _ rfl) ?_;exact EU hF.ns.lt
end
end Mine
namespace Mine
open PySem.Calls
theorem fH{d:AH}{o:CY}{post:AE (AH×CY)}(h2:∀p∈post,p.1≠d):∀{pre:AE (AH×CY)},(∀p∈pre,p.1≠d)→UpdF d o (pre++(d,o)::post) (λo'=>pre++(d,o')::post)
 |[],_=>.head h2
 |q::pre,h1=>.tail (h1 q (.head _)) (fH h2 λp hp=>h1 p (.tail _ hp))
theorem jH{α:Type}(l:AE α):katRev AU l=l:=rfl
noncomputable abbrev SQ(kl:AE (AH×AE (AX×DW))):AE (AH×CY):=kl.map λq=>(q.1,listOf (AF q.2).toArray 0)
theorem VC{α:Type}(l:AE α)(f:α→AC):∀p:AE CC,(∀i∈p,i<l.length)→(p.map λi=>(l.map f).getD i .none)=(p.filterMap (λi=>l[i]?)).map f
 |[],_=>rfl
 |i::p,h=>by
  have hi:i<l.length:=h i (.head _)
  have e:l[i]?=AK l[i]:=BL hi;rw[EC,VC l f p λj hj=>h j (.tail _ hj),cL,e];simp[EX,hi]
theorem UI{α β:Type}(l:AE α)(f:α→β)(p:AE CC):(p.filterMap (λi=>l[i]?)).map f=p.filterMap (λi=>(l.map f)[i]?):=by
 rw[AE.map_filterMap];congr 1;funext i;rw[DH]
section
variable{prog:BH}{w:BU}{A:BQ}{E:AC→AG→Prop}{s:AG}{h₀:CW}{L:AH}{m:AX→AM AC}{news:AE (AH×CY)}
structure LamIn (news:AE (AH×CY)) (f:AH):Prop where
 ex:∃qual p0 p1 p2 p3 p4 p5 pm c' ctv oc vs t,(f,Ho "<lambda>" qual (PM p0) (UZ p1 p2 p3 p4 p5) OR [] pm c' ctv)∈news∧(p2.endLine==p5.line)=BC∧(c',oc)∈news∧oc.data=.fields vs∧vs[1]?=AK (.str qual t)
noncomputable def gM(w:BU)(A:BQ)(s:AG)(prog:BH)(E:AC→AG→Prop)(h₀:CW)(L:AH)(m:AX→AM AC)(news:AE (AH×CY))(f:AH)(x:AX)(tx:DW)(Q:AC→AG→Prop):Prop :=
 ∀(hlim:h₀.NoLimit)(zq:A.depth<FX)(F:Fr h₀ L s.heap m)(N:AY h₀ L s.heap news)(X:LamIn news f)(hx:x.length≤1000)(h:∀D l h' tk,l.map (·.1)=JQ x→Fr h₀ L h' m→AY h₀ L h' ((D,listOf (AF l).toArray 0)::news)→(∀p∈news,p.1<D)→L<D→Q (.ref D) { s with heap:=h',toks:=tk }),AI (BE prog w) A (DK (.ref f) [.str x tx]) Q E s
theorem sJ:∀{w A s prog E h₀ L m news f x tx Q},gM w A s prog E h₀ L m news f x tx Q:=by
 refine @(BK (GM KF)<|@(RA DM<|let_mvar%?n:=(λw A s prog E h₀ L m news f x tx Q=>?_:∀a b c d e f g h i j k l m,gM a b c d e f g h i j k l m);?n _ _ _ _ _ _ _ _ _ _ _ _ _))
 intro hlim zq F N X hx h;obtain⟨qual,p0,p1,p2,p3,p4,p5,pm,c',ctv,oc,vs,t,hf,hl,hc,hd,hv⟩:=X.ex
 refine QF (uW zq (hlim.keeps F.keep) (N _ hf).1 ⟨c',oc,vs,t,rfl,(N _ hc).1,hd,hv⟩ hx hl λD l h' tk e hk hD hge=>?_)
 have hLD:L<D:=CJ F.ns.lt hge;refine h D l h' tk e (F.keeps hk) (λp hp=>?_) (λp hp=>CJ (BS (N p hp).1) hge) hLD;rcases AP.mp hp with rfl|hp
 ·exact⟨hD,AJ hLD,EA (AQ F.above (EU hLD))⟩
 ·exact⟨hk _ _ (N p hp).1,(N p hp).2⟩
theorem mF{f kS D:AH}{e1:CC}{Fin:AE AC→CC→AG→Prop}(hlim:h₀.NoLimit)(zq:A.depth<FX)(X:LamIn news f)(hDk:D≠kS)(hnk:∀p∈news,p.1≠kS)(l:AE (AX×DW))(hx:∀p∈l,p.1.length≤1000)
  (fin:∀kl e(s':AG),s'.gens=s.gens→s'.os=s.os→s'.drawn=s.drawn→kl.map (λq=>q.2.map (·.1))=l.map (λp=>JQ p.1)→(∀q∈kl,kS<q.1)→Fr h₀ L s'.heap m→AY h₀ L s'.heap (SQ kl++(kS,EI "list" (kl.map λq=>.ref q.1).toArray e)::(D,EI "list" #[] e1)::news)→Fin (kl.map λq=>.ref q.1) e s') :
  ∀(r l1:AE (AX×DW))(kl:AE (AH×AE (AX×DW)))(e:CC)(s':AG),l=l1++r→s'.gens=s.gens→s'.os=s.os→s'.drawn=s.drawn→kl.map (λq=>q.2.map (·.1))=l1.map (λp=>JQ p.1)→(∀q∈kl,kS<q.1)→Fr h₀ L s'.heap m →
   AY h₀ L s'.heap (SQ kl++(kS,EI "list" (kl.map λq=>.ref q.1).toArray e)::(D,EI "list" #[] e1)::news)→KatKeys prog w A h₀ L m kS (.ref f) Fin (AF r) (kl.map λq=>.ref q.1) e s'
 |[],l1,kl,e,s',hl,g1,g2,g3,hk,hlt,F,N=>by
  rw[CQ] at hl;subst hl
  exact KatKeys.nil (fin kl e s' g1 g2 g3 hk hlt F N)
 |(x,tx)::r,l1,kl,e,s',hl,g1,g2,g3,hk,hlt,F,N=>by
  refine KatKeys.cons ?_
  have X':LamIn (SQ kl++(kS,EI "list" (kl.map λq=>.ref q.1).toArray e)::(D,EI "list" #[] e1)::news) f:=by
   obtain⟨qual,p0,p1,p2,p3,p4,p5,pm,c',ctv,oc,vs,t,hf,r1,hc,r2⟩:=X.ex;exact⟨qual,p0,p1,p2,p3,p4,p5,pm,c',ctv,oc,vs,t,Mr _ (.tail _ (.tail _ hf)),r1,Mr _ (.tail _ (.tail _ hc)),r2⟩
  refine sJ hlim zq F N X' (hx (x,tx) (by rw[hl];simp)) λD' lk h' tk ek F' N' hltD _=>?_
  have hkD:kS<D':=hltD (kS,_) (Mr _ (.head _))
  have hne:∀p∈(D',listOf (AF lk).toArray 0)::SQ kl,p.1≠kS:=λp hp=>by
   rcases AP.mp hp with rfl|hp
   ·exact AJ hkD
   ·obtain⟨q,hq,rfl⟩:=CO.mp hp
    exact AJ (hlt q hq)
  have hpost:∀p∈(D,EI "list" #[] e1)::news,p.1≠kS:=λp hp=>by
   rcases AP.mp hp with rfl|hp
   ·exact hDk
   ·exact hnk p hp
  refine KatBack.intro F' N' (fH (pre:=(D',listOf (AF lk).toArray 0)::SQ kl) hpost hne) λh2 c2 F2 N2=>?_
  have e2:(kl.map λq=>AR q.1)++[AR D']=(kl++[(D',lk)]).map λq=>AR q.1:=by rw[BF];rfl
  rw[e2] at N2 ⊢;refine mF hlim zq X hDk hnk l hx fin r (l1++[(x,tx)]) (kl++[(D',lk)]) c2 _ (by rw[hl,BX];rfl) g1 g2 g3 ?_ ?_ F2 ?_
  ·rw[BF,BF,hk];simp[ek]
  ·intro q hq
   rcases AT.mp hq with hq|hq
   ·exact hlt q hq
   ·rw[BB.mp hq];exact hkD
  ·intro p hp
   refine N2 p ?_;rcases AT.mp hp with hp|hp
   ·unfold SQ at hp
    rw[BF] at hp;rcases AT.mp hp with hp|hp
    ·exact Ml _ (.tail _ hp)
    ·rw[BB.mp hp];exact Ml _ (.head _)
   ·exact Mr _ hp
noncomputable def YC(w:BU)(A:BQ)(s:AG)(prog:BH)(E:AC→AG→Prop)(h₀:CW)(L:AH)(m:AX→AM AC)(news:AE (AH×CY))(f D:AH)(n:CC)(l:AE (AX×DW))(P:TD→AG→Prop):Prop :=
 ∀(hlim:h₀.NoLimit)(zq:A.depth<FX)(hu:A.units<Av)(F:Fr h₀ L s.heap m)(N:AY h₀ L s.heap news)(X:LamIn news f)(ho:s.heap.get? D=AK (EI "list" (AF l).toArray n)) (hDL:D≠L) (hD0:h₀.get? D=BN) (hnD:∀p∈news,p.1≠D) (h2:2≤l.length) (h4:l.length≤4) (hx:∀p∈l,p.1.length≤1000) (h:∀(out:AE (AX×DW))c(s':AG),s'.gens=s.gens→s'.os=s.os→out.map (·.1)=FJ GH (l.map (·.1))→Fr h₀ L s'.heap m→AY h₀ L s'.heap ((D,listOf (AF out).toArray c)::news)→P (.done (.ret .none)) s'),AI (BE prog w) A (ksk_tree D (.ref f) AU) P E s
theorem qG:∀{w A s prog E h₀ L m news f D n l P},YC w A s prog E h₀ L m news f D n l P:=by
 refine @(BK (GM KF)<|@(MU DM<|let_mvar%?n:=(λw A s prog E h₀ L m news f D n l P=>?_:∀a b c d e f g h i j k l m n,YC a b c d e f g h i j k l m n);?n _ _ _ _ _ _ _ _ _ _ _ _ _ _))
 intro hlim zq hu F N X ho hDL hD0 hnD h2 h4 hx h
 have hvl:(AF l).length=l.length:=by simp[AF]
 refine kat_keyed (vs:=AF l) F N ho hDL hD0 hnD (by rw[hvl];exact h2) (by rw[hvl];exact(Nt λhn1=>fk [_] (.e V0 (.k 4) (.e (.k 64) V0 K0)) rfl h4 hn1)) λkS e1 h' F' N' hlt hltn=>?_;have hDk:D≠kS:=AO hlt
 have hnk:∀p∈news,p.1≠kS:=λp hp=>AO (hltn p hp)
 refine mF (s:={ s with heap:=h' }) (D:=D) (e1:=e1) hlim zq X hDk hnk l hx (λkl e s' g1 g2 g3 hk hgt F2 N2=>?_) l [] [] 0 _ rfl rfl rfl rfl rfl (λ_ z=>nomatch z) F' N'
 have hkl:kl.length=l.length:=by have:=BW EG hk;simpa using this
 refine kas_kind (vs:=kl.map λq=>.ref q.1) (T:=.type "list") (by rw[AN,hkl];exact h2) (λv hv=>?_) (by decide) (by decide) ?_
 ·obtain⟨q,hq,rfl⟩:=CO.mp hv
  have hq':=N2 (q.1,listOf (AF q.2).toArray 0) (Ml _ (BV hq))
  exact(Looks.ld hq'.1).andThen .now
 rw[hvl];have hlm:(l.map (·.1)).length=l.length:=AN ..;rw[← hlm];refine SZ MW (l:=l.map (·.1)) (I:=λs''=>s''=s') (by rw[hlm];exact h2) (by rw[hlm];exact h4) (λi j a b C s'' hi hj hI hC=>?_) rfl λp s'' hp hout hI=>?_
 ·subst hI
  have get:∀i a,(l.map (·.1))[i]?=AK a→∃q,q∈kl∧(katRev AU (kl.map λq=>AR q.1)).getD i DD=.ref q.1∧q.2.map (·.1)=JQ a:=by
   intro i a hi
   have hil:i<l.length:=by
    rcases JC i l.length with z|z
    ·exact z
    ·rw[EM (by rw[hlm];exact z)] at hi;cases hi
   have hik:i<kl.length:=by exact(Nt λhn1=>fk [_,_,_] (.e V0 V1 (.e (.s V2) V0 (.e V1 V2 K0))) rfl (Es hkl) hil hn1)
   refine⟨kl[i],QA hik,?_,?_⟩
   ·rw[jH,EX,DH,BL hik];rfl
   ·have h1:(kl.map (λq=>q.2.map (·.1)))[i]?=(l.map (λp=>JQ p.1))[i]?:=by rw[hk]
    rw[DH,DH,BL hik,BL hil] at h1;rw[DH,BL hil] at hi;simp only[KC,IG] at h1 hi;rw[h1,hi]
  obtain⟨q1,m1,e1',k1⟩:=get i a hi;obtain⟨q2,m2,e2',k2⟩:=get j b hj;unfold Hn;rw[e1',e2'];refine yW hu (N2 (q1.1,listOf (AF q1.2).toArray 0) (Ml _ (BV m1))).1 (N2 (q2.1,listOf (AF q2.2).toArray 0) (Ml _ (BV m2))).1 ?_;rw[k1,k2];exact hC _ rfl
 ·subst hI
  have hne:∀p∈SQ kl,p.1≠kS:=λp hp=>by
   obtain⟨q,hq,rfl⟩:=CO.mp hp
   exact AJ (hgt q hq)
  have hpost:∀p∈(D,EI "list" #[] e1)::news,p.1≠kS:=λp hp=>by
   rcases AP.mp hp with rfl|hp
   ·exact hDk
   ·exact hnk p hp
  refine KatFin.intro F2 N2 (fH hpost hne) λh3 c3 F3 N3=>?_
  have N3':AY h₀ L h3 ((D,EI "list" #[] e1)::news):=λp hp=>N3 p (Mr _ (.tail _ hp))
  refine Bi F3 N3' (.head hnD) λh5 c5 F5 N5=>?_
  have hin:∀i∈p.toList,i<l.length:=λi hi=>by
   have:=hp.mem_iff.mp hi;rw[hlm] at this;exact NI.mp this
  have ev:(p.toList.map λi=>(AF l).getD i .none)=AF (p.toList.filterMap λi=>l[i]?):=VC l (λp=>.str p.1 p.2) p.toList hin
  have N5':AY h₀ L h5 ((D,listOf (AF (p.toList.filterMap λi=>l[i]?)).toArray c5)::news):=by
   rw[← ev];exact N5
  obtain⟨o1,o2⟩:=hout _ rfl;refine h (p.toList.filterMap λi=>l[i]?) c5 { s'' with heap:=h5 } g1 g2 ?_ F5 N5';rw[UI];exact RN MW o1 o2
end
end Mine
namespace Mine
open PySem.Calls
section
variable{prog:BH}{w:BU}{A:BQ}{E:AC→AG→Prop}{s:AG}{h₀:CW}{L:AH}{m:AX→AM AC}{news:AE (AH×CY)}
theorem eP{σ:Type}{M:QV}{st:σ}{P:SI×σ→AG→Prop}(h:P ((),st) s):AI M A ((pure ():StateT σ kZ SI).run st) P E s:=by
 rw[StateT.run_pure];exact Wp h
noncomputable def aL(w:BU)(A:BQ)(s:AG)(prog:BH)(E:AC→AG→Prop)(h₀:CW)(L:AH)(m:AX→AM AC)(news:AE (AH×CY))(f D:AH)(n:CC)(x:AX)(tx:DW)(P:TD→AG→Prop):Prop :=
 ∀(hlim:h₀.NoLimit)(zq:A.depth<FX)(F:Fr h₀ L s.heap m)(N:AY h₀ L s.heap news)(X:LamIn news f)(ho:s.heap.get? D=AK (EI "list" #[.str x tx] n)) (hDL:D≠L) (hD0:h₀.get? D=BN) (hnD:∀p∈news,p.1≠D) (hx:x.length≤1000) (h:∀c(s':AG),s'.gens=s.gens→s'.os=s.os→Fr h₀ L s'.heap m→AY h₀ L s'.heap ((D,listOf #[.str x tx] c)::news)→P (.done (.ret .none)) s'),AI (BE prog w) A (ksk_tree D (.ref f) AU) P E s
theorem uS:∀{w A s prog E h₀ L m news f D n x tx P},aL w A s prog E h₀ L m news f D n x tx P:=by
 refine @(BK (GM KF)<|@(RB DM<|let_mvar%?n:=(λw A s prog E h₀ L m news f D n x tx P=>?_:∀a b c d e f g h i j k l m n o,aL a b c d e f g h i j k l m n o);?n _ _ _ _ _ _ _ _ _ _ _ _ _ _ _))
 intro hlim zq F N X ho hDL hD0 hnD hx h
 have s1:=DR s.heap D (ED λ_=>(#[]:CE AC))
 obtain⟨e1,ho1⟩:∃e1,(s.heap.update D (ED λ_=>(#[]:CE AC))).get? D=AK (EI "list" #[] e1):=⟨_,MJ ho λ_=>#[]⟩;have F1:=mE F s1 hDL hD0;have N1:=kas_news N s1 hnD;unfold ksk_tree
 refine Wb (JF ho rfl ?_)
 refine Wb (KZ ho rfl ?_ (by simp;rw[BI];exact(Nl λhn1=>fk [] (.e (.s (.k 16777216)) K1 K0) rfl hn1)) (EH _))
 refine Wb (VG ho1 rfl ?_)
 refine Wb (bZ ?_ (by simp;rw[BI];exact(Nl λhn1=>fk [] (.e (.s (.k 16777216)) K1 K0) rfl hn1)))
 refine Wb (HC ?_ (EH _))
 refine CI ?_;unfold ksk_rest
 refine Wb (JA ?_)
 rw[show(#[.str x tx]:CE AC)=[.str x tx].toArray from rfl,AE.forIn_toArray,YY]
 have F2:=(F1.push (o:=(EI "tuple" [.str x tx].toArray 0))).push (o:=(EI "list" #[] 0))
 generalize hkS:((s.heap.update D (ED λ_=>(#[]:CE AC))).push (EI "tuple" [.str x tx].toArray 0)).objs.size=kS
 have hkge:s.heap.objs.size≤kS:=by rw[← hkS,size_push',CW.size_update];exact QW _
 have hDk:D≠kS:=AO (CJ (BS ho) hkge)
 have hLk:L<kS:=CJ F.ns.lt hkge
 have hnk:∀p∈news,p.1≠kS:=λp hp=>AO (CJ (BS (N p hp).1) hkge)
 have hk0:h₀.get? kS=BN:=EA (AQ F.above (EU hLk))
 have hk2:(((s.heap.update D (ED λ_=>(#[]:CE AC))).push (EI "tuple" [.str x tx].toArray 0)).push (EI "list" #[] 0)).get? kS=AK (EI "list" #[] 0):=by rw[← hkS];exact CH _ rfl
 have N2:AY h₀ L (((s.heap.update D (ED λ_=>(#[]:CE AC))).push (EI "tuple" [.str x tx].toArray 0)).push (EI "list" #[] 0)) ((kS,EI "list" #[] 0)::(D,EI "list" #[] e1)::news):=λp hp=>by
  rcases AP.mp hp with rfl|hp
  ·exact⟨hk2,AJ hLk,hk0⟩
  ·rcases AP.mp hp with rfl|hp
   ·exact⟨AV _ (AV _ ho1),hDL,hD0⟩
   ·exact⟨AV _ (AV _ (N1 p hp).1),(N1 p hp).2⟩
 have X2:LamIn ((kS,EI "list" #[] 0)::(D,EI "list" #[] e1)::news) f:=by
  obtain⟨qual,p0,p1,p2,p3,p4,p5,pm,c',ctv,oc,vs,t,hf,r1,hc,r2⟩:=X.ex;exact⟨qual,p0,p1,p2,p3,p4,p5,pm,c',ctv,oc,vs,t,(.tail _ (.tail _ hf)),r1,(.tail _ (.tail _ hc)),r2⟩
 refine Wb (Wb (Wb (QQ (sJ (E:=λe s'=>_) hlim zq F2 N2 X2 hx λD' lk h' tk ek F' N' hltD hLD=>?_))))
 have nk:=N' (kS,EI "list" #[] 0) (.tail _ (.head _))
 have s3:=DR h' kS (ED (·.push (.ref D')))
 obtain⟨c2,hc2⟩:∃c2,(h'.update kS (ED (·.push (.ref D')))).get? kS=AK (EI "list" #[.ref D'] c2):=⟨_,MJ nk.1 (·.push (.ref D'))⟩;dsimp only
 refine Wb (KZ nk.1 rfl ?_ (EH _) (by simp))
 refine Wp ?_;dsimp only;rw[bN];refine Wp ?_
 refine Wb (JF hc2 rfl ?_)
 unfold ksk_end;dsimp only;rw[CA DE];rw[DJ (show([EW x tx].toArray).size<2 from CM 1)]
 refine Wb (Wp ?_)
 rw[DJ (show([EW x tx].toArray).size<2 from CM 1)]
 refine Wb (eP ?_)
 dsimp only;unfold ksk_tail;dsimp only;simp only[IV,WX]
 have hz:(arrOf (Gs general' (#[.ref D'].zip [.str x tx].toArray) #[] 7 BN)).map (·.2)=#[.str x tx]:=by
  show(#[AR D'].zip [EW x tx].toArray).map (·.2)=#[EW x tx];simp
 rw[hz]
 have s4:=DR (h'.update kS (ED (·.push (.ref D')))) kS (ED λ_=>(#[]:CE AC))
 refine Wb (KZ hc2 rfl ?_ (by simp;rw[BI];exact(Nl λhn1=>fk [] (.e (.s (.k 16777216)) K1 K0) rfl hn1)) (EH _))
 refine Wb (wpAny_letGo ?_)
 have nD:((h'.update kS (ED (·.push (.ref D')))).update kS (ED λ_=>(#[]:CE AC))).get? D=AK (EI "list" #[] e1) :=
  (s4.2 _ hDk).trans ((s3.2 _ hDk).trans (N' (D,EI "list" #[] e1) (.tail _ (.tail _ (.head _)))).1)
 refine Wb (VG nD rfl ?_)
 have s5:=DR ((h'.update kS (ED (·.push (.ref D')))).update kS (ED λ_=>(#[]:CE AC))) D (ED λ_=>(#[.str x tx]:CE AC))
 obtain⟨c5,hc5⟩:∃c5,(((h'.update kS (ED (·.push (.ref D')))).update kS (ED λ_=>(#[]:CE AC))).update D (ED λ_=>(#[.str x tx]:CE AC))).get? D=AK (listOf #[.str x tx] c5):=⟨_,MJ nD λ_=>#[.str x tx]⟩
 refine Wb (KZ nD rfl ?_ (EH _) (show(1:CC)≤DA+1 from YZ 1 _))
 simp only[UX,IV,WX];refine Wp ?_;refine h c5 _ rfl rfl (mE (mE (mE F' s3 (AJ hLk) hk0) s4 (AJ hLk) hk0) s5 hDL hD0) λp hp=>?_;rcases AP.mp hp with rfl|hp
 ·exact⟨hc5,hDL,hD0⟩
 ·exact⟨(s5.2 _ (hnD p hp)).trans ((s4.2 _ (hnk p hp)).trans ((s3.2 _ (hnk p hp)).trans (N' p (.tail _ (.tail _ (.tail _ hp)))).1)),(N p hp).2⟩
noncomputable def YO(w:BU)(A:BQ)(s:AG)(prog:BH)(E:AC→AG→Prop)(h₀:CW)(L:AH)(m:AX→AM AC)(news:AE (AH×CY))(f a:AH)(oS:CY)(ks:AE AX)(Q:AC→AG→Prop):Prop :=
 ∀(hh:A.handled=BN)(hlim:h₀.NoLimit)(zq:A.depth<FX)(hu:A.units+2<Av)(F:Fr h₀ L s.heap m)(N:AY h₀ L s.heap news)(X:LamIn news f)(hm:(a,oS)∈news)(hT:MI prog w oS ks)(h1:1≤ks.length)(h4:ks.length≤4)(hx:∀k∈ks,k.length≤1000)(h:∀(D:AH)(out:AE (AX×DW))c(s':AG),s'.gens=s.gens→s'.os=s.os→out.map (·.1)=FJ GH ks→(∀p∈news,p.1<D)→Fr h₀ L s'.heap m→AY h₀ L s'.heap ((D,listOf (AF out).toArray c)::news)→Q (.ref D) s'),AI (BE prog w) A (DK (.builtin "sorted") [.ref a] [("key",.ref f)]) Q E s
theorem rF:∀{w A s prog E h₀ L m news f a oS ks Q},YO w A s prog E h₀ L m news f a oS ks Q:=by
 refine @(BK (GM KF)<|@(MU DM<|let_mvar%?n:=(λw A s prog E h₀ L m news f a oS ks Q=>?_:∀a b c d e f g h i j k l m n,YO a b c d e f g h i j k l m n);?n _ _ _ _ _ _ _ _ _ _ _ _ _ _))
 intro hh hlim zq hu F N X hm hT h1 h4 hx h
 have hne:ks≠[]:=λe=>by rw[e] at h1;simp at h1
 have hcS:oS.cls=.type "set":=by obtain⟨_,_,_,_,he,_⟩:=hT;exact he.1
 refine call_function_entry_kw Fo Dj By (ksk_s1 _ _) ?_;unfold IE.«sorted»
 refine Wb (m:=Gu "sorted" 1 1 _) (Wp ?_)
 refine Wb (aB (A:=A.in1) hh (N _ hm).1 hcS hT hne (by exact(Nt λhn1=>fk [_] (.e V0 (.k 4) (.e (.k 60) V0 K0)) rfl h4 hn1)) λl h' d tk hp hk=>?_)
 have hll:l.length=ks.length:=by rw[← AN (f:=(·.1)),hp.length_eq]
 refine Wb (HC ?_ (by simp[AF];rw[BI];exact(Nl λhn1=>fk [_,_] (.e V0 (.k 4) (.e V1 V0 (.e (.s (.k 16777216)) V1 K0))) rfl h4 (El hll) hn1)))
 have F1:Fr h₀ L (h'.push (EI "list" (AF l).toArray 0)) m:=(F.keeps hk).push _;have hLD:L<h'.objs.size:=(F.keeps hk).ns.lt
 have hD0:h₀.get? h'.objs.size=BN:=EA (AQ F.above (EU hLD))
 have hnD:∀p∈news,p.1<h'.objs.size:=λp hp=>BS (hk _ _ (N p hp).1)
 have N1:AY h₀ L (h'.push (EI "list" (AF l).toArray 0)) news:=λp hp=>⟨AV _ (hk _ _ (N p hp).1),(N p hp).2⟩;have hoD:(h'.push (EI "list" (AF l).toArray 0)).get? h'.objs.size=AK (EI "list" (AF l).toArray 0):=CH _ rfl
 have hxl:∀p∈l,p.1.length≤1000:=λp hp'=>hx _ (hp.mem_iff.mp (BV hp'))
 refine Wb (CI (wpAny_call_entry_kw bU ⟨_,hoD,rfl⟩ ZC ?body (ksk_l1 _ _)))
 show AI (BE prog w) A.in1.in1 (IE.«list.sort» ⟨[.ref h'.objs.size],[("key",.ref f)]⟩) _ _ { s with heap:=h'.push (EI "list" (AF l).toArray 0),drawn:=d,toks:=tk };rw[ksk_t1]
 have hsort:FJ GH (l.map (·.1))=FJ GH ks:=RN MW ((DU _ _).trans hp) (KR MW _)
 rcases l with _|⟨⟨x,tx⟩,_|⟨p2,r⟩⟩
 ·rw[GA] at hll;lia
 ·
  refine uS (s:={ s with heap:=h'.push (EI "list" (AF [(x,tx)]).toArray 0),drawn:=d,toks:=tk }) hlim zq F1 N1 X hoD (AJ hLD) hD0 (λp hp=>AO (hnD p hp)) (hxl (x,tx) (.head _)) λc s' g1 g2 F2 N2=>⟨_,rfl,Wp ⟨_,rfl,?_⟩⟩;exact h _ [(x,tx)] c s' g1 g2 (by rw[← hsort];rfl) hnD F2 N2
 ·
  refine qG (s:={ s with heap:=h'.push (EI "list" (AF ((x,tx)::p2::r)).toArray 0),drawn:=d,toks:=tk }) (l:=(x,tx)::p2::r) hlim zq (by show A.units+1+1<Av;exact(Nt λhn1=>fk [_,_] (.e (.a (.a V0 (.k 2)) K1) V1 (.e V1 (.a (.s V0) K1) K0)) rfl hu hn1)) F1 N1 X hoD (AJ hLD) hD0 (λp hp=>AO (hnD p hp)) (by simp) (by rw[hll];exact h4) hxl λout c s' g1 g2 ho F2 N2=>⟨_,rfl,Wp ⟨_,rfl,?_⟩⟩;exact h _ out c s' g1 g2 (by rw[← hsort];exact ho) hnD F2 N2
end
end Mine
namespace Mine
open PySem.Calls
def GP(news:AE (AH×CY))(v:AC)(q:Pr):Prop:=∃a t1 t2,v=.ref a∧(a,DO #[.str q.1 t1,.str q.2 t2])∈news
theorem GP.mono{news news':AE (AH×CY)}(hs:∀p∈news,p∈news'){v:AC}{q:Pr}(x:GP news v q):GP news' v q:=let ⟨a,t1,t2,e,hm⟩:=x;⟨a,t1,t2,e,hs _ hm⟩
theorem All2.get{α β:Type}{P:α→β→Prop}{l:AE α}{r:AE β}(h:All2 P l r):∀{i:CC}{b:β},r[i]?=AK b→∃a,l[i]?=AK a∧P a b:=by
 induction h with
 |nil=>intro i b hb;simp at hb
 |cons x _ ih =>
  intro i b hb
  cases i with
  |zero=>simp only[GJ,IG] at hb ⊢;exact⟨_,rfl,hb ▸ x⟩
  |succ i=>simp only[WJ] at hb ⊢;exact ih hb
theorem All2.pick{α β:Type}{P:α→β→Prop}{l:AE α}{r:AE β}(h:All2 P l r):∀p:AE CC,(∀i∈p,i<r.length)→All2 P (p.filterMap λi=>l[i]?) (p.filterMap λi=>r[i]?)
 |[],_=>.nil
 |i::p,hp=>by
  have hi:=hp i (.head _)
  obtain⟨a,ea,pa⟩:=h.get (BL hi)
  rw[cL,cL,ea,BL hi]
  exact .cons pa (All2.pick h p λj hj=>hp j (.tail _ hj))
section
variable{prog:BH}{w:BU}{A:BQ}{E:AC→AG→Prop}{s:AG}{h₀:CW}{L:AH}{m:AX→AM AC}{news:AE (AH×CY)}
theorem dM{h:CW}:∀{vs:AE AC}{qs:AE Pr},All2 (GP news) vs qs→(∀p∈news,h.get? p.1=AK p.2)→∃fs:AE AC,KatTups h vs fs∧fs.length=vs.length∧∀v∈fs,∃x t,v=.str x t
 |_,_,.nil,_=>⟨[],.nil,rfl,λ_ z=>nomatch z⟩
 |_,_,.cons (b:=q) hx r,hn=>by
  obtain⟨a,t1,t2,e,hm⟩:=hx;obtain⟨fs,k,hl,hf⟩:=dM r hn;subst e;refine⟨.str q.1 t1::fs,.cons (hn _ hm) rfl rfl rfl k,by simp[hl],λv hv=>?_⟩;rcases AP.mp hv with rfl|hv
  ·exact⟨_,_,rfl⟩
  ·exact hf v hv
noncomputable def dX(w:BU)(A:BQ)(s:AG)(prog:BH)(E:AC→AG→Prop)(news:AE (AH×CY))(v1 v2:AC)(q1 q2:Pr)(Q:CZ→AG→Prop):Prop :=
 ∀(N:∀p∈news,s.heap.get? p.1=AK p.2)(h1:GP news v1 q1)(h2:GP news v2 q2)(h:Q (JZ q1 q2) s),AI (BE prog w) A (keyLt' (tuples' BC) v1 v2) Q E s
theorem yX:∀{a b c d e f g h i j k},dX a b c d e f g h i j k:=by
 refine @(BK (GM KF)<|@(OY DM<|let_mvar%?n:=(λw A s prog E news v1 v2 q1 q2 Q=>?_:∀a b c d e f g h i j k,dX a b c d e f g h i j k);?n _ _ _ _ _ _ _ _ _ _ _))
 intro N h1 h2 h;obtain⟨a,t1,t2,rfl,m1⟩:=h1;obtain⟨b,u1,u2,rfl,m2⟩:=h2;refine kat_lt (N _ m1) rfl (N _ m2) rfl ?_;unfold JZ lexLt at h
 refine kat_cons (pB ?_)
 by_cases e1:q1.1=q2.1
 ·rw[DJ e1] at h
  rw[CN e1]
  refine kat_yes (kat_cons (pB ?_))
  unfold lexLt at h
  by_cases e2:q1.2=q2.2
  ·rw[DJ e2] at h
   rw[CN e2]
   refine kat_yes (kat_nil ?_)
   exact h
  ·rw[CA e2] at h
   rw[CF e2];refine kat_no ?_
   exact kat_one _ _ (lt_str h)
 ·rw[CA e1] at h
  rw[CF e1];refine kat_no ?_;exact oneLt_str h
noncomputable def aW(w:BU)(A:BQ)(s:AG)(prog:BH)(h₀:CW)(L:AH)(m:AX→AM AC)(news:AE (AH×CY))(D:AH)(e1:CC)(vs:AE AC)(qs:AE Pr)(C:AG→Prop):Prop :=
 ∀(F:Fr h₀ L s.heap m)(N:AY h₀ L s.heap ((D,EI "list" #[] e1)::news)) (hnD:∀p∈news,p.1≠D) (hp:All2 (GP news) vs qs) (h2:2≤vs.length) (h4:vs.length≤4) (h:∀out c h',All2 (GP news) out (FJ JZ qs)→Fr h₀ L h' m→AY h₀ L h' ((D,listOf (PD out) c)::news)→C { s with heap:=h' }),AI (BE prog w) A (keyKind' vs.toArray) (λκ s'=>(jG vs.length).kasWp (Hn prog w A κ vs) (λp s''=>KasFin h₀ L m D e1 (p.toList.map λi=>vs.getD i .none) C s'') s') (λ_ _=>NF) s
theorem vU:∀{a b c d e f g h i j k l m},aW a b c d e f g h i j k l m:=by
 refine @(BK (GM KF)<|@(RA DM<|let_mvar%?n:=(λw A s prog h₀ L m news D e1 vs qs C=>?_:∀a b c d e f g h i j k l m,aW a b c d e f g h i j k l m);?n _ _ _ _ _ _ _ _ _ _ _ _ _))
 intro F N hnD hp h2 h4 h;have hn:∀p∈news,s.heap.get? p.1=AK p.2:=λp hp=>(N p (.tail _ hp)).1;obtain⟨fs,k,hl,hf⟩:=dM hp hn;refine kat_kind k (by exact(Nt λhn1=>fk [_,_] (.e (.k 2) V0 (.e V0 V1 (.e V1 K0 K0))) rfl h2 (Es hl) hn1)) (T:=.type "str") (λv hv=>?_) (by decide) ?_
 ·obtain⟨x,t,rfl⟩:=hf v hv
  exact .now
 have hql:qs.length=vs.length:=hp.length.symm;rw[← hql];refine SZ eJ (l:=qs) (I:=λs''=>s''=s) (by exact(Nl λhn1=>fk [_,_] (.e (.k 2) V0 (.e V0 V1 (.e (.s V1) (.k 2) K0))) rfl h2 (Es hql) hn1)) (by exact(Nl λhn1=>fk [_,_] (.e V0 (.k 4) (.e V1 V0 (.e (.s (.k 4)) V1 K0))) rfl h4 (El hql) hn1)) (λi j a b C' s'' hi hj hI hC=>?_) rfl λp s'' hpp hout hI=>?_
 ·subst hI
  obtain⟨v1,ev1,p1⟩:=hp.get hi;obtain⟨v2,ev2,p2⟩:=hp.get hj;unfold Hn;rw[EX,EX,ev1,ev2]
  exact yX hn p1 p2 (hC _ rfl)
 ·subst hI
  have hin:∀i∈p.toList,i<qs.length:=λi hi=>NI.mp (hpp.mem_iff.mp hi)
  have ev:=VC vs id p.toList λi hi=>hql ▸ hin i hi;rw[pG,pG] at ev;refine Bi F N (.head hnD) λh5 c5 F5 N5=>?_;rw[ev] at N5;obtain⟨o1,o2⟩:=hout _ rfl;refine h _ c5 h5 ?_ F5 N5;rw[← RN eJ o1 o2];exact hp.pick p.toList hin
end
end Mine
namespace Mine
open PySem.Calls
theorem aK{α:Type}(lt:α→α→CZ){l:AE α}(h:l.length<2):FJ lt l=l:=by
 cases l with
 |nil=>rfl
 |cons a l =>
  cases l with
  |nil=>rfl
  |cons b l=>exact absurd h (fO.mpr (YZ 2 l.length))
section
variable{prog:BH}{w:BU}{A:BQ}{E:AC→AG→Prop}{s:AG}{h₀:CW}{L:AH}{m:AX→AM AC}{news:AE (AH×CY)}
noncomputable def VW(w:BU)(A:BQ)(s:AG)(prog:BH)(E:AC→AG→Prop)(h₀:CW)(L:AH)(m:AX→AM AC)(news:AE (AH×CY))(D:AH)(n:CC)(vs:AE AC)(qs:AE Pr)(P:TD→AG→Prop):Prop :=
 ∀(F:Fr h₀ L s.heap m)(N:AY h₀ L s.heap ((D,listOf vs.toArray n)::news))(hnD:∀p∈news,p.1≠D)(hp:All2 (GP news) vs qs)(h4:vs.length≤4)(h:∀out c h',All2 (GP news) out (FJ JZ qs)→Fr h₀ L h' m→AY h₀ L h' ((D,listOf (PD out) c)::news)→P (.done (.ret .none)) { s with heap:=h' }),AI (BE prog w) A (IE.«list.sort» ⟨[.ref D],[]⟩) P E s
theorem aN:∀{w A s prog E h₀ L m news D n vs qs P},VW w A s prog E h₀ L m news D n vs qs P:=by
 refine @(BK (GM KF)<|@(MU DM<|let_mvar%?n:=(λw A s prog E h₀ L m news D n vs qs P=>?_:∀a b c d e f g h i j k l m n,VW a b c d e f g h i j k l m n);?n _ _ _ _ _ _ _ _ _ _ _ _ _ _))
 intro F N hnD hp h4 h
 have nD:=N (D,listOf vs.toArray n) (.head _)
 have Nr:AY h₀ L s.heap news:=λp hp=>N p (.tail _ hp)
 by_cases h2:vs.length<2
 ·have hql:qs.length<2:=by rw[← hp.length];exact h2
  have s1:=DR s.heap D (ED λ_=>(#[]:CE AC))
  obtain⟨e1,ho1⟩:∃e1,(s.heap.update D (ED λ_=>(#[]:CE AC))).get? D=AK (EI "list" #[] e1):=⟨_,MJ nD.1 λ_=>#[]⟩;have F1:=mE F s1 nD.2.1 nD.2.2;have N1:=kas_news Nr s1 hnD;rw[list_sort_plain]
  refine Wb (JF nD.1 rfl ?_)
  refine Wb (KZ nD.1 rfl ?_ (by rw[CG,BI];exact(Nl λhn1=>fk [_] (.e (.s V0) (.k 2) (.e (.s (.k 16777216)) V0 K0)) rfl h2 hn1)) (EH _))
  refine Wb (VG ho1 rfl ?_)
  refine Wb (bZ ?_ (by show vs.length≤_;rw[BI];exact(Nl λhn1=>fk [_] (.e (.s V0) (.k 2) (.e (.s (.k 16777216)) V0 K0)) rfl h2 hn1)))
  refine Wb (HC ?_ (EH _))
  refine CI ?_;dsimp only
  have h2':vs.toArray.size<2:=by rw[CG];exact h2
  rw[DJ h2',DJ h2']
  refine Wb (Wp ?_)
  refine Wb (eP ?_)
  dsimp only
  have hz:(arrOf (Gs general' (vs.toArray.zip vs.toArray) #[] 7 BN)).map (·.2)=vs.toArray:=by
   show(vs.toArray.zip vs.toArray).map (·.2)=vs.toArray;apply WF.mp;rw[CE.toList_map,ksk_zip];show(vs.zip vs).map (·.2)=vs;rw[AE.map_snd_zip (CR _)]
  rw[hz]
  have ho6:=AV (EI "list" #[] 0) (AV (EI "tuple" vs.toArray 0) ho1)
  refine Wb (VG ho6 rfl ?_)
  have s5:=DR (((s.heap.update D (ED λ_=>(#[]:CE AC))).push (EI "tuple" vs.toArray 0)).push (EI "list" #[] 0)) D (ED λ_=>vs.toArray)
  obtain⟨c5,hc5⟩:∃c5,((((s.heap.update D (ED λ_=>(#[]:CE AC))).push (EI "tuple" vs.toArray 0)).push (EI "list" #[] 0)).update D (ED λ_=>vs.toArray)).get? D=AK (listOf vs.toArray c5):=⟨_,MJ ho6 λ_=>vs.toArray⟩
  refine Wb (KZ ho6 rfl ?_ (EH _) (by rw[CG,BI];exact(Nl λhn1=>fk [_] (.e (.s V0) (.k 2) (.e (.a (.s (.k 16777216)) K1) V0 K0)) rfl h2 hn1)))
  simp only[UX,IV,WX];refine Wp ?_;refine h vs c5 _ (by rw[aK _ hql];exact hp) (mE ((F1.push _).push _) s5 nD.2.1 nD.2.2) λp hp=>?_;rcases AP.mp hp with rfl|hp
  ·exact⟨hc5,nD.2⟩
  ·exact⟨(s5.2 _ (hnD p hp)).trans (AV _ (AV _ (N1 p hp).1)),(N1 p hp).2⟩
 ·refine kat_list_sort (vs:=vs) (news:=news) F Nr nD.1 nD.2.1 nD.2.2 hnD (by exact(BJ h2)) (by exact(Nt λhn1=>fk [_] (.e V0 (.k 4) (.e (.k 64) V0 K0)) rfl h4 hn1)) λe1 h' F' N'=>?_
  exact vU F' N' hnD hp (by exact(BJ h2)) h4 λout c h'' ho F2 N2=>h out c h'' ho F2 N2
theorem pU{D:AH}{n:CC}{vs:AE AC}{qs:AE Pr}{Q:AC→AG→Prop}(F:Fr h₀ L s.heap m)(N:AY h₀ L s.heap ((D,listOf vs.toArray n)::news))(hnD:∀p∈news,p.1≠D)(hp:All2 (GP news) vs qs)(h4:vs.length≤4)
  (h:∀out c h',All2 (GP news) out (FJ JZ qs)→Fr h₀ L h' m→AY h₀ L h' ((D,listOf (PD out) c)::news)→Q .none { s with heap:=h' }) :
  AI (BE prog w) A (DK (.builtin "list.sort") [.ref D]) Q E s:=by
 refine FM bU ⟨_,(N _ (.head _)).1,rfl⟩ ZC (aN F N hnD hp h4 λout c h' ho F' N'=>⟨_,rfl,h out c h' ho F' N'⟩) (tM _)
theorem qF{S v d:AH}{l:AE ((AX×DW)×(AX×DW))}{n c₀:CC}{R:FE→AG→Prop}(hh:A.handled=BN)(hv:s.heap.get? v=AK { cls:=.type "dict_items",data:=.fields #[.ref d] })(hd:s.heap.get? d=AK (CK (IM w.params l) n))(hn:(l.map (·.1.1)).Nodup)(hz:l.length≤60)
  (hSv:S≠v) (hSd:d≠S) (hS:s.heap.get? S=AK { cls:=.type "list",data:=.seq #[] c₀ })
  (h:∀tl h' tk c,All2 gE tl l→(tl.map (·.1)).Pairwise (·<·)→(∀q∈tl,s.heap.objs.size<q.1∧h'.get? q.1=AK q.2)→(∀b o,b≠S→s.heap.get? b=AK o→h'.get? b=AK o)→h'.get? S=AK (listOf (tl.map λq=>.ref q.1).toArray c)→R (.ok (.ret (.ref S))) { s with heap:=h',toks:=tk }) :
  DV (BE prog w) A (.builtin "list.__iadd__" ⟨[.ref S,.ref v],[]⟩) R s:=by
 obtain⟨ep,hat⟩:=KdkAt.of (VH (prog:=prog) (w:=w) (n:=n) hn)
 refine IN entry_list_iadd' ?_;show AI _ A.in1 (SB (.ref S) (.ref v) (.ref S)) _ _ s
 refine kdx_extend (knd:=strKind prog w) (kvs:=OF l) (ep:=ep) hh ⟨_,hv,rfl,rfl⟩ (hat.dictAt hd) S hSv hSd _ c₀ hS (λh' tk acc c as hk hS hl hG hacc=>?_) (by rw[AN,BI];exact(Nl λhn1=>fk [_] (.e V0 (.k 60) (.e (.s (.k 16777216)) V0 K0)) rfl hz hn1))
 obtain⟨tl,rfl,f2,f3⟩:=Ag (h:=h') as l (by rw[hl,AN]) hG.pairs
 have ea:acc=(tl.map λq=>.ref q.1).toArray:=by rw[← bJ (xs:=acc),hacc,GG];rfl
 subst ea;exact h tl h' tk c f2 hG.rise (λq hq=>⟨hG.above _ (BV hq),f3 q hq⟩) hk hS
theorem fS{v d:AH}{l:AE ((AX×DW)×(AX×DW))}{n:CC}{Q:AE AC→AG→Prop}(hh:A.handled=BN)(hv:s.heap.get? v=AK { cls:=.type "dict_items",data:=.fields #[.ref d] })(hd:s.heap.get? d=AK (CK (IM w.params l) n))(hn:(l.map (·.1.1)).Nodup)(hz:l.length≤60)
  (h:∀tl h' tk,All2 gE tl l→(tl.map (·.1)).Pairwise (·<·)→(∀q∈tl,s.heap.objs.size<q.1∧h'.get? q.1=AK q.2)→(∀b o,s.heap.get? b=AK o→h'.get? b=AK o)→Q (tl.map λq=>.ref q.1) { s with heap:=h',toks:=tk }) :
  AI (BE prog w) A (collect (.ref v)) Q E s:=by
 unfold collect
 refine Wb (wL (IN Fm ?_))
 show AI _ _ (do again (.builtin "list.__iadd__" ⟨[← JL [],.ref v],[]⟩)) _ _ s
 refine Wb (HC (Wp ⟨LZ _ (by decide +kernel),?_⟩))
 refine qF (s:={ s with heap:=s.heap.push (EI "list" #[] 0) }) hh (AV _ hv) (AV _ hd) hn hz (AJ (BS hv)) (AO (BS hd)) (CH _ rfl) λtl h' tk c f2 h2 h3 hk hS=>?_;dsimp only
 refine Wb (YX hS ?_)
 show AI _ _ (pure (tl.map λq=>.ref q.1).toArray.toList) Q E _
 refine Wp (h tl h' tk f2 h2 (λq hq=>⟨?_,(h3 q hq).2⟩) λb o e=>hk b o (AO (BS e)) (AV _ e))
 have:=(h3 q hq).1;have z:(s.heap.push (EI "list" #[] 0)).objs.size=s.heap.objs.size+1:=FT ..;exact AZ (by show s.heap.objs.size<(s.heap.push (EI "list" #[] 0)).objs.size;rw[z];exact CM _) this
theorem aQ:∀{tl:AE (AH×CY)}{l:AE ((AX×DW)×(AX×DW))},All2 gE tl l→All2 (GP tl) (tl.map λq=>.ref q.1) (l.map λp=>(p.1.1,p.2.1))
 |_,_,.nil=>.nil
 |_,_,.cons (a:=q) (b:=p) x r=>.cons (x.elim λt e=>⟨q.1,t,p.2.2,rfl,by rw[← e];exact .head _⟩) ((aQ r).mono λ_ _ z=>z.mono λ_ hp=>.tail _ hp)
noncomputable def UO(w:BU)(A:BQ)(s:AG)(prog:BH)(E:AC→AG→Prop)(h₀:CW)(L:AH)(m:AX→AM AC)(news:AE (AH×CY))(v d:AH)(l:AE ((AX×DW)×(AX×DW)))(n:CC)(Q:AC→AG→Prop):Prop :=
 ∀(hh:A.handled=BN)(F:Fr h₀ L s.heap m)(N:AY h₀ L s.heap news)(hv:s.heap.get? v=AK { cls:=.type "dict_items",data:=.fields #[.ref d] }) (hd:s.heap.get? d=AK (CK (IM w.params l) n)) (hn:(l.map (·.1.1)).Nodup) (hz:l.length≤4) (h:∀(B:AH)tl out c h' tk,All2 gE tl l→(tl.map (·.1)).Nodup→(∀q∈tl,q.1<B)→(∀p∈news,∀q∈tl,p.1<q.1)→(∀p∈news,p.1<B)→All2 (GP (tl++news)) out (FJ JZ (l.map λp=>(p.1.1,p.2.1)))→Fr h₀ L h' m→AY h₀ L h' ((B,listOf (PD out) c)::(tl++news))→Q (.ref B) { s with heap:=h',toks:=tk }),AI (BE prog w) A (DK (.builtin "sorted") [.ref v]) Q E s
theorem jY:∀{w A s prog E h₀ L m news v d l n Q},UO w A s prog E h₀ L m news v d l n Q:=by
 refine @(BK (GM KF)<|@(MU DM<|let_mvar%?n:=(λw A s prog E h₀ L m news v d l n Q=>?_:∀a b c d e f g h i j k l m n,UO a b c d e f g h i j k l m n);?n _ _ _ _ _ _ _ _ _ _ _ _ _ _))
 intro hh F N hv hd hn hz h;refine wN Fo Dj By (args_sorted1 _) ?_;unfold IE.«sorted»
 refine Wb (m:=Gu "sorted" 1 1 _) (Wp ?_)
 refine Wb (fS (A:=A.in1) hh hv hd hn (by exact(Nl λhn1=>fk [_] (.e V0 (.k 4) (.e (.s (.k 60)) V0 K0)) rfl hz hn1)) λtl h' tk h1 h2 h3 hk=>?_)
 have htl:tl.length=l.length:=h1.length
 refine Wb (HC ?_ (by rw[AN,BI];exact(Nl λhn1=>fk [_,_] (.e V0 (.k 4) (.e V1 V0 (.e (.s (.k 16777216)) V1 K0))) rfl hz (El htl) hn1)))
 have hLs:L<s.heap.objs.size:=F.ns.lt;have hLD:L<h'.objs.size:=(F.keeps hk).ns.lt
 have fresh:∀a,L<a→h₀.get? a=BN:=λa ha=>EA (AQ F.above (EU ha))
 have F1:Fr h₀ L (h'.push (EI "list" (tl.map λq=>.ref q.1).toArray 0)) m:=(F.keeps hk).push _;have hlt:∀q∈tl,q.1<h'.objs.size:=λq hq=>BS (h3 q hq).2
 have N1:AY h₀ L (h'.push (EI "list" (tl.map λq=>.ref q.1).toArray 0)) ((h'.objs.size,listOf (tl.map λq=>.ref q.1).toArray 0)::(tl++news)):=λp hp=>by
  rcases AP.mp hp with rfl|hp
  ·exact⟨CH _ rfl,AJ hLD,fresh _ hLD⟩
  ·rcases AT.mp hp with hp|hp
   ·have hLq:L<p.1:=AZ hLs (h3 p hp).1
    exact⟨AV _ (h3 p hp).2,AJ hLq,fresh _ hLq⟩
   ·exact⟨AV _ (hk _ _ (N p hp).1),(N p hp).2⟩
 have hnD:∀p∈tl++news,p.1≠h'.objs.size:=λp hp=>by
  rcases AT.mp hp with hp|hp
  ·exact AO (hlt p hp)
  ·exact AO (BS (hk _ _ (N p hp).1))
 have hpn:=aQ h1
 refine Wb (CI (FM bU ⟨_,(N1 _ (.head _)).1,rfl⟩ ZC ?_ (tM _)))
 refine aN (s:={ s with heap:=h'.push (EI "list" (tl.map λq=>.ref q.1).toArray 0),toks:=tk }) F1 N1 hnD (hpn.mono λ_ _ z=>z.mono λ_ hp=>Ml _ hp) (by rw[AN];exact(Nl λhn1=>fk [_,_] (.e V0 (.k 4) (.e V1 V0 (.e (.s (.k 4)) V1 K0))) rfl hz (El htl) hn1)) λout c h2' ho F2 N2=>⟨_,rfl,Wp ⟨_,rfl,?_⟩⟩;refine h _ tl out c h2' tk h1 (h2.imp λz=>AO z) hlt (λp hp q hq=>AZ (BS (N p hp).1) (h3 q hq).1) (λp hp=>BS (hk _ _ (N p hp).1)) ho F2 N2
end
end Mine
namespace Mine
open PySem.Calls
open PyProof.Rows.LCg
section
variable{prog:BH}{w:BU}{A:BQ}{E:AC→AG→Prop}{s:AG}{h₀:CW}{L:AH}{m:AX→AM AC}{news:AE (AH×CY)}{env:XH}{os:CU}
theorem pZ{e target:EK}{ipos:OP}{emit:kZ SI}{it acc:AC}{cenv:XH}{R:FE→AG→Prop}(I:CC→AG→Prop)
  (hq:(Code.compLoop e 0 it acc cenv).quiet=BC)
  (hden:∀(s:AG)(Q:TD→AG→Prop)(E':AC→AG→Prop),AI (BE prog w) A ((Fl e 0 it acc cenv).onRaise (λx=>do Ax x cenv;rO x)) Q E' s→AI (BE prog w) (A.under (.compLoop e 0 it acc cenv)) ((BE prog w).den (.compLoop e 0 it acc cenv)) Q E' s)
  (ht:Fl e 0 it acc cenv=(PJ ipos>>=λ_=>OT it>>=λr=>match r with
   |none=>pure (.done .next)
   |some v=>MK target it v>>=λ_=>assign target cenv v>>=λ_=>emit>>=λ_=>again (.compLoop e 0 it acc cenv)))
  (turn:∀n s,I n s→AI (BE prog w) A (OT it) (λr s₁=>match r with
   |none=>R (.ok .next) s₁
   |some v=>AI (BE prog w) A (MK target it v) (λ_ s₂=>AI (BE prog w) A (assign target cenv v) (λ_ s₃=>AI (BE prog w) A emit (λ_ s₄=>∃m,m<n∧I m s₄)
     (SU (BE prog w) A cenv λe s'=>R (.error e) s') s₃) (SU (BE prog w) A cenv λe s'=>R (.error e) s') s₂) (SU (BE prog w) A cenv λe s'=>R (.error e) s') s₁) (SU (BE prog w) A cenv λe s'=>R (.error e) s') s)
  (n:CC) (h:I n s):DV (BE prog w) A (.compLoop e 0 it acc cenv) R s:=by
 refine codeAny_loop hq I (λn s hI=>hden _ _ _ ?_) n h;refine wpAny_noted ?_;rw[ht]
 refine Wb (EQ (Wb (DI (turn n s hI) (λr s₁ h₁=>?_) λ_ _ h'=>h')))
 cases r with
 |none=>exact Wp h₁
 |some v =>
  exact Wb (DI h₁ (λ_ s₂ h₂=>Wb (DI h₂ (λ_ s₃ h₃=>Wb (DI h₃ (λ_ s₄ h₄=>Wp ⟨rfl,h₄⟩) λ_ _ h'=>h')) λ_ _ h'=>h')) λ_ _ h'=>h')
inductive CmpJ (h₀:CW) (L:AH) (m:AX→AM AC) (os:CU) (ax:AH) (its:CE AC) (J:AH→AE AC→AE (AH×CY)→Prop) (I:AH) (k:CC) (s':AG):Prop
 |mk (i:CC) (rem:AE AC) (own:AE (AH×CY)) (mC:AX→AM AC) (h0:k=rem.length) (h1:its.toList.drop i=rem) (h2:i+rem.length=its.size) (h3:J (I+1) rem own) (h4:Fr h₀ L s'.heap m) (h5:AY h₀ L s'.heap own) (h6:(∀p∈own,p.1≠I∧p.1≠I+1+1)) (h7:s'.heap.Ns (I+1+1) mC) (h8:s'.heap.IsListIter I ax i) (h9:s'.os=os) (h10:BP s'.gens):CmpJ h₀ L m os ax its J I k s'
noncomputable def SN(w:BU)(A:BQ)(s:AG)(prog:BH)(E:AC→AG→Prop)(h₀:CW)(L:AH)(m:AX→AM AC)(env:XH)(os:CU)(e target:EK)(ipos:OP)(scope:KO)(cl:AE (AX×AH))(newAcc:kZ AC)(o0:CY)(emit:AH→AH→kZ SI)(ax:AH)(its:CE AC)(news:AE (AH×CY))(RR:AC→AH→FE→AG→Prop)(J:AH→AE AC→AE (AH×CY)→Prop)(B:AE (AH×CY)→AC→(AX→AM AC)→Prop):Prop :=
 ∀(hacc:∀(s:AG)(Q:AC→AG→Prop),Q (.ref s.heap.objs.size) { s with heap:=s.heap.push o0 }→AI (BE prog w) A newAcc Q E s)(ho0:CY.isFreed o0=AU)(hst:∀(I D C:AH)(R:FE→AG→Prop)(s:AG),DV (BE prog w) A (.compLoop e 0 (.ref I) (.ref D) (EY scope cl C env)) R s →
   AI (BE prog w) A (IY (.ref I)) (λit' s'=>DV (BE prog w) A (.compLoop e 0 it' (.ref D) (EY scope cl C env)) R s') (SU (BE prog w) A (EY scope cl C env) λx s'=>R (.error x) s') s→DV (BE prog w) A (.compStart e 0 (.ref I) (.ref D) (EY scope cl C env)) R s)(hq:∀I D C,(Code.compLoop e 0 (.ref I) (.ref D) (EY scope cl C env)).quiet=BC)(hden:∀(I D C:AH)(s:AG)(Q:TD→AG→Prop)(E':AC→AG→Prop),AI (BE prog w) A ((Fl e 0 (.ref I) (.ref D) (EY scope cl C env)).onRaise (λx=>do Ax x (EY scope cl C env);rO x)) Q E' s→AI (BE prog w) (A.under (.compLoop e 0 (.ref I) (.ref D) (EY scope cl C env))) ((BE prog w).den (.compLoop e 0 (.ref I) (.ref D) (EY scope cl C env))) Q E' s)(ht:∀I D C,Fl e 0 (.ref I) (.ref D) (EY scope cl C env)=(PJ ipos>>=λ_=>OT (.ref I)>>=λr=>match r with
   |none=>pure (.done .next)
   |some v=>MK target (.ref I) v>>=λ_=>assign target (EY scope cl C env) v>>=λ_=>emit D C>>=λ_=>again (.compLoop e 0 (.ref I) (.ref D) (EY scope cl C env))))(hown:∀(I:AH)(i:CC)(v:AC)(s:AG)(Q:SI→AG→Prop)(E':AC→AG→Prop),s.heap.IsListIter I ax i→v∈its.toList→Q () s→AI (BE prog w) A (MK target (.ref I) v) Q E' s)(hasg:∀(s1:AG)(v:AC)(rem:AE AC)(own:AE (AH×CY))(D C:AH)(mC:AX→AM AC)(Q:SI→AG→Prop)(E':AC→AG→Prop),J D (v::rem) own→(∀b o,h₀.get? b=AK o→s1.heap.get? b=AK o)→(∀p∈own,s1.heap.get? p.1=AK p.2)→s1.heap.Ns C mC →
   (∀h' tk m₂,h'.Ns C m₂→B own v m₂→(∀b o,b≠C→s1.heap.get? b=AK o→h'.get? b=AK o)→Q () { s1 with heap:=h',toks:=tk })→AI (BE prog w) A (assign target (EY scope cl C env) v) Q E' s1)(hcell:∀y∈scope.names,y.2≠.cell)(hkind:scope.kind=.function)(hh:A.handled=BN)(F:Fr h₀ L s.heap m)(N:AY h₀ L s.heap news)(hos:s.os=os)(hb:BP s.gens)(hsrc0:RZ h₀ ax its news)(hsz:its.size≤DA)(hJ0:∀D,(∀p∈news,p.1<D)→J D its.toList ((D,o0)::news))(hsrc:∀D rem own,J D rem own→RZ h₀ ax its own)(step:∀(s1:AG)D v rem own I oI C oC m₂(E':AC→AG→Prop),J D (v::rem) own→tI oC m₂→B own v m₂→Fr h₀ L s1.heap m→AY h₀ L s1.heap ((I,oI)::(C,oC)::own)→(∀p∈own,p.1≠I∧p.1≠C)→I≠C→s1.os=os→BP s1.gens →
   AI (BE prog w) A (emit D C) (λ_ s3=>∃own',J D rem own'∧Fr h₀ L s3.heap m∧AY h₀ L s3.heap ((I,oI)::(C,oC)::own')∧(∀p∈own',p.1≠I∧p.1≠C)∧s3.os=os∧BP s3.gens) E' s1)(fin:∀(s1:AG)D C own mC,J D [] own→Fr h₀ L s1.heap m→AY h₀ L s1.heap own→s1.heap.Ns C mC→h₀.get? C=BN→C≠L→(∀p∈own,p.1≠C)→s1.os=os→BP s1.gens→RR (.ref D) C (.ok .next) s1),AI (BE prog w) A (IY (.ref ax)) (λit s₂=>AI (BE prog w) A newAcc (λacc s₃=>AI (BE prog w) A (TU scope env.globals cl [] env.qual BN .none (AK env)) (λcenv s₄ =>
   DV (BE prog w) A (.compStart e 0 it acc { cenv with scope:=relabel scope env }) (RR acc cenv.locals) s₄) E s₃) E s₂) E s
theorem cT:∀a b c d e f g h i j k l m n o p q r s t u v w x,SN a b c d e f g h i j k l m n o p q r s t u v w x:=by
 refine BK (GM KF)<|BK DM<|BK DM<|let_mvar%?n:=(λw A s prog E h₀ L m env os e target ipos scope cl newAcc o0 emit ax its news RR J B=>?_:∀a b c d e f g h i j k l m n o p q r s t u v w x,SN a b c d e f g h i j k l m n o p q r s t u v w x);?n _ _ _ _ _ _ _ _ _ _ _ _ _ _ _ _ _ _ _ _ _ _ _ _
 intro hacc ho0 hst hq hden ht hown hasg hcell hkind hh F N hos hb hsrc0 hsz hJ0 hsrc step fin;have hl:=hsrc0.list F.keep N
 have hlt:ax<s.heap.objs.size:=by obtain⟨_,e,_⟩:=hl;exact BS e
 refine VK hl ?_;generalize hIeq:s.heap.objs.size=I;have hI1:(s.heap.push { cls:=.type "list_iterator",data:=.fields #[.ref ax,.int 0 0] }).IsListIter I ax 0:=⟨_,by rw[← hIeq];exact CH _ rfl,rfl,rfl⟩;have up1:∀b o,s.heap.get? b=AK o→(s.heap.push { cls:=.type "list_iterator",data:=.fields #[.ref ax,.int 0 0] }).get? b=AK o:=λb o e=>AV _ e
 have hz1:(s.heap.push { cls:=.type "list_iterator",data:=.fields #[.ref ax,.int 0 0] }).objs.size=I+1:=by rw[FT,hIeq]
 generalize s.heap.push { cls:=.type "list_iterator",data:=.fields #[.ref ax,.int 0 0] }=H1 at hI1 up1 hz1;refine hacc _ _ ?_;dsimp only;rw[hz1]
 have hD2:(H1.push o0).get? (I+1)=AK o0:=by rw[← hz1];exact CH _ ho0
 have up2:∀b o,H1.get? b=AK o→(H1.push o0).get? b=AK o:=λb o e=>AV _ e
 have hz2:(H1.push o0).objs.size=I+1+1:=by rw[FT,hz1]
 generalize H1.push o0=H2 at hD2 up2 hz2;refine RH hcell (by intro y hy;simp at hy) (λh₁ hns₁ hsb₁=>?_) hkind;dsimp only at hns₁ hsb₁ ⊢;rw[hz2] at hns₁ hsb₁ ⊢
 have up3:∀b o,H2.get? b=AK o→h₁.get? b=AK o:=λb o e=>hsb₁.extBut b o (AO (by have:=BS e;rw[hz2] at this;exact this)) (AV _ e)
 have up:∀b o,s.heap.get? b=AK o→h₁.get? b=AK o:=λb o e=>up3 b o (up2 b o (up1 b o e))
 have hLI:L<I:=by rw[← hIeq];exact F.ns.lt
 have fresh₀:∀a,L<a→h₀.get? a=BN:=λa ha=>EA (AQ F.above (EU ha))
 have hI0:=fresh₀ I hLI
 have hD0:=fresh₀ (I+1) (CX hLI)
 have hC0:=fresh₀ (I+1+1) (CX (CX hLI))
 have hIC:I≠I+1+1:=AO (CX (CM _))
 have hCL:I+1+1≠L:=AJ (CX (CX hLI))
 have hIL:I≠L:=AJ hLI
 have hnI:∀p∈news,p.1<I:=λp hp=>by rw[← hIeq];exact BS (N p hp).1
 have hj0:=hJ0 (I+1) λp hp=>CX (hnI p hp)
 have hi1:h₁.IsListIter I ax 0:=by obtain⟨o,ho,r⟩:=hI1;exact⟨o,up3 _ _ (up2 _ _ ho),r⟩
 have loop:DV (BE prog w) A (.compLoop e 0 (.ref I) (.ref (I+1)) (EY scope cl (I+1+1) env)) (RR (.ref (I+1)) (I+1+1)) { s with heap:=h₁,toks:=s.toks+([]:AE (AX×AC)).length }:=by
  refine pZ (target:=target) (ipos:=ipos) (emit:=emit (I+1) (I+1+1)) (λk s'=>CmpJ h₀ L m os ax its J I k s') (hq _ _ _) (hden _ _ _) (ht _ _ _) ?_ its.size
   ⟨0,its.toList,(I+1,o0)::news,_,by simp,rfl,by simp,hj0,F.keeps up,λp hp=>?_,λp hp=>?_,hns₁,hi1,hos,hb⟩
  ·rintro k s' ⟨i,rem,own,mC,rfl,hrem,zf,hJ,F',N',off,hns,hit,hos',hb'⟩
   have hl':s'.heap.IsList ax its:=(hsrc _ _ _ hJ).list F'.keep N'
   cases rem with
   |nil =>
    refine ZZ hh hit hl' ?_ λh₂ he₂=>?_
    ·have:its.size≤i:=by simp at zf;exact(Es zf)
     simp;exact this
    ·dsimp only
     refine fin _ (I+1) (I+1+1) own mC hJ (PR F' he₂ (BG hIL) hI0) (λp hp=>⟨he₂ _ _ (off p hp).1 (N' p hp).1,(N' p hp).2⟩) ?_ hC0 hCL (λp hp=>(off p hp).2) hos' hb';obtain⟨o,es,ep,e,r⟩:=hns;exact⟨o,es,ep,he₂ _ _ (BG hIC) e,r⟩
   |cons v rem =>
    have hlt':i<its.size:=by simp at zf;exact(Nt λhn1=>fk [_,_,_] (.e (.a V0 (.s V1)) V2 (.e V2 V0 K0)) rfl (El zf) hn1)
    have hget:its[i]?=AK v:=by
     rw[← FY];have:=BW (·[0]?) hrem;simp only[TO,XK,GJ] at this;exact this
    refine PL hit hl' hget λh₂ hit₂ hs₂=>?_;dsimp only
    have hmem:v∈its.toList:=by rw[← FY] at hget;exact GR hget
    refine hown I (i+1) v _ _ _ hit₂ hmem ?_;have F₂:=PR F' hs₂.extBut (BG hIL) hI0;have N₂:AY h₀ L h₂ own:=λp hp=>⟨hs₂.extBut _ _ (off p hp).1 (N' p hp).1,(N' p hp).2⟩
    have hns₂:h₂.Ns (I+1+1) mC:=by
     obtain⟨o,es,ep,e,r⟩:=hns;exact⟨o,es,ep,hs₂.extBut _ _ (BG hIC) e,r⟩
    refine hasg _ v rem own (I+1) (I+1+1) mC _ _ hJ F₂.keep (λp hp=>(N₂ p hp).1) hns₂ λh₃ tk₃ m₂ hns₃ hB hk₃=>?_;obtain⟨oI,heI,hcI,hdI⟩:=id hit₂;obtain⟨oC,heC,hoC⟩:=ns_obj hns₃;have F₃:Fr h₀ L h₃ m:=PR F₂ (λb o hb e=>hk₃ b o hb e) (BG hCL) hC0
    have N₃:AY h₀ L h₃ ((I,oI)::(I+1+1,oC)::own):=λp hp=>by
     rcases AP.mp hp with rfl|hp
     ·exact⟨hk₃ _ _ hIC heI,hIL,hI0⟩
     ·rcases AP.mp hp with rfl|hp
      ·exact⟨heC,hCL,hC0⟩
      ·exact⟨hk₃ _ _ (off p hp).2 (N₂ p hp).1,(N₂ p hp).2⟩
    refine DI (step { s' with heap:=h₃,toks:=tk₃ } (I+1) v rem own I oI (I+1+1) oC m₂ _ hJ hoC hB F₃ N₃ off hIC hos' hb') (λ_ s₄ h₄=>?_) λ_ _ z=>z;obtain⟨own',hJ',F₄,N₄,off₄,hos₄,hb₄⟩:=h₄;refine⟨rem.length,CM _,i+1,rem,own',m₂,rfl,?_,by simp at zf ⊢;exact(DG (Nl λhn2=>fk [_,_,_] (.e (.a V0 (.s V1)) V2 (.e (.s V2) (.a (.s V0) V1) K0)) rfl (El zf) hn2) (Nl λhn3=>fk [_,_,_] (.e V0 (.a V1 (.s V2)) (.e (.a (.a (.s V1) V2) K1) V0 K0)) rfl (Es zf) hn3)),hJ',F₄,λp hp=>N₄ p (.tail _ (.tail _ hp)),off₄,hoC.ns (N₄ (I+1+1,oC) (.tail _ (.head _))).1,⟨oI,(N₄ (I,oI) (.head _)).1,hcI,hdI⟩,hos₄,hb₄⟩;rw[← TN,hrem];rfl
  ·rcases AP.mp hp with rfl|hp
   ·exact⟨up3 _ _ hD2,AJ (CX hLI),hD0⟩
   ·exact⟨up _ _ (N p hp).1,(N p hp).2⟩
  ·rcases AP.mp hp with rfl|hp
   ·exact⟨AJ (CM _),AO (CM _)⟩
   ·exact⟨AO (hnI p hp),AO (CX (CX (hnI p hp)))⟩
 exact hst _ _ _ _ _ loop (wpAny_pyIter_listiter (s:={ s with heap:=h₁,toks:=s.toks+([]:AE (AX×AC)).length }) hi1 loop)
theorem WP{w A s prog E h₀ L m env os e target ipos scope cl newAcc o0 emit ax its news RR}(J)(B):SN w A s prog E h₀ L m env os e target ipos scope cl newAcc o0 emit ax its news RR J B:=cT _ _ _ _ _ _ _ _ _ _ _ _ _ _ _ _ _ _ _ _ _ _ _ _
end
end Mine
namespace Mine
open PySem.Calls
open PyProof.Rows.LCg
section
variable{prog:BH}{w:BU}{A:BQ}{E:AC→AG→Prop}{s:AG}{h₀:CW}{L:AH}{m:AX→AM AC}{news:AE (AH×CY)}{env:XH}{os:CU}
noncomputable def dP(w:BU)(A:BQ)(s:AG)(prog:BH)(E:AC→AG→Prop)(h₀:CW)(L:AH)(m:AX→AM AC)(news:AE (AH×CY))(env:XH)(os:CU)(elt iter:EK)(x x₂:AX)(px px₂ tp pos:OP)(k:CC)(scope:KO)(cl:AE (AX×AH))(ax:AH)(its:CE AC)(RR:AC→AH→FE→AG→Prop):Prop :=
 ∀(J:AE AC→AE AC→AE (AH×CY)→Prop)(hcell:∀y∈scope.names,y.2≠.cell)(hkind:scope.kind=.function)(hx:scope.names.lookup x=AK .local)(hx₂:scope.names.lookup x₂=AK .local)(hxx:x≠x₂)(hh:A.handled=BN)(F:Fr h₀ L s.heap m)(N:AY h₀ L s.heap news)(hos:s.os=os)(hb:BP s.gens)(hsrc0:RZ h₀ ax its news)(hsz:its.size≤DA)(hJ0:J its.toList [] news)(hsrc:∀rem ys own,J rem ys own→RZ h₀ ax its own)(hpair:∀v rem ys own,J (v::rem) ys own→∃q,GP own v q)(href:∀v∈its.toList,∃a,v=.ref a)(step:∀(s1:AG)D v rem ys own I oI C oC m₂(q:Pr)t1 t2(E':AC→AG→Prop),J (v::rem) ys own→(∃a,v=.ref a∧(a,DO #[.str q.1 t1,.str q.2 t2])∈own)→tI oC m₂→m₂ x=AK (.str q.1 t1)→m₂ x₂=AK (.str q.2 t2)→Fr h₀ L s1.heap m→AY h₀ L s1.heap ((I,oI)::(C,oC)::(D,lst ys)::own)→Off3 I C D own→I≠C→D≠I→D≠C→s1.os=os→BP s1.gens →
   AI (BE prog w) A (eval elt (EY scope cl C env)) (λy s3=>∃own',J rem (ys++[y]) own'∧Fr h₀ L s3.heap m∧AY h₀ L s3.heap ((I,oI)::(C,oC)::(D,lst ys)::own')∧Off3 I C D own'∧s3.os=os∧BP s3.gens) E' s1)(fin:∀(s1:AG)D C ys own mC,J [] ys own→Fr h₀ L s1.heap m→AY h₀ L s1.heap ((D,lst ys)::own)→(∀p∈own,p.1≠D)→s1.heap.Ns C mC→h₀.get? C=BN→C≠L→D≠C→(∀p∈own,p.1≠C)→s1.os=os→BP s1.gens→RR (.ref D) C (.ok .next) s1),AI (BE prog w) A (IY (.ref ax)) (λit s₂=>AI (BE prog w) A (JL []) (λacc s₃=>AI (BE prog w) A (TU scope env.globals cl [] env.qual BN .none (AK env)) (λcenv s₄ =>
   DV (BE prog w) A (.compStart (.ListComp elt [⟨.Tuple [.Name x px,.Name x₂ px₂] k tp,iter,[],0⟩] scope pos) 0 it acc { cenv with scope:=relabel scope env }) (RR acc cenv.locals) s₄) E s₃) E s₂) E s
theorem mI:∀{w A s prog E h₀ L m news env os elt iter x x₂ px px₂ tp pos k scope cl ax its RR},dP w A s prog E h₀ L m news env os elt iter x x₂ px px₂ tp pos k scope cl ax its RR:=by
 refine @(BK (GM KF)<|@(BK DM<|@(BK DM<|@(HF DM<|let_mvar%?n:=(λw A s prog E h₀ L m news env os elt iter x x₂ px px₂ tp pos k scope cl ax its RR=>?_:∀a b c d e f g h i j k l m n o p q r s t u v w x y,dP a b c d e f g h i j k l m n o p q r s t u v w x y);?n _ _ _ _ _ _ _ _ _ _ _ _ _ _ _ _ _ _ _ _ _ _ _ _ _))))
 intro J hcell hkind hx hx₂ hxx hh F N hos hb hsrc0 hsz hJ0 hsrc hpair href step fin
 refine WP (o0:=lst []) (target:=.Tuple [.Name x px,.Name x₂ px₂] k tp) (ipos:=iter.pos) (emit:=λD C=>eval elt (EY scope cl C env)>>=λx=>DK (.builtin "list.append") [.ref D,x]>>=λ_=>pure ())
  (λD rem own=>∃ys own0,own=(D,lst ys)::own0∧ys.length+rem.length=its.size∧(∀p∈own0,p.1≠D)∧J rem ys own0)
  (λown v m₂=>∃(q:Pr)(t1 t2:DW),(∃a,v=.ref a∧(a,DO #[.str q.1 t1,.str q.2 t2])∈own)∧m₂ x=AK (.str q.1 t1)∧m₂ x₂=AK (.str q.2 t2))
  (λs Q h=>HC h) rfl (λI D C R s h1 h2=>Bs h1 h2) (λ_ _ _=>rfl) (λ_ _ _ _ _ _ z=>z) (λ_ _ _=>rfl) ?_ ?_ hcell hkind hh F N hos hb hsrc0 hsz ?_ ?_ ?_ ?_
 ·intro I i v s1 Q E' hit hv hq
  obtain⟨a,rfl⟩:=href v hv;exact QG hit hq
 ·rintro s1 v rem own D C mC Q E' ⟨ys,own0,rfl,hl,hne,hJ⟩ hk ho hns h
  obtain⟨q,a,t1,t2,rfl,hm⟩:=hpair v rem ys own0 hJ;refine fQ hh ⟨_,ho _ (.tail _ hm),rfl,_,rfl⟩ rfl rfl λh₅ he=>?_;have he':∀b o,s1.heap.get? b=AK o→h₅.get? b=AK o:=λb o e=>he b o (AO (BS e)) e
  refine MA (FP (EN (KU hx) (hns.at' λo e=>he' _ o e) (λh₆ hn₆ hs₆=>?_) (by simp[EY,relabel,hkind])))
  refine MA (FP (EN (KU hx₂) hn₆ (λh₃ hn₃ hs₃=>?_) (by simp[EY,relabel,hkind])))
  refine iU ?_
  exact h h₃ _ _ hn₃ ⟨q,t1,t2,⟨a,rfl,.tail _ hm⟩,by simp[hxx],by simp⟩ λb o hb e=>hs₃.extBut b o hb (hs₆.extBut b o hb (he' b o e))
 ·intro D hD
  exact⟨[],news,rfl,by simp,λp hp=>AO (hD p hp),hJ0⟩
 ·rintro D rem own ⟨ys,own0,rfl,_,_,hJ⟩
  rcases hsrc _ _ _ hJ with z|⟨o,hm,r⟩
  ·exact .inl z
  ·exact .inr ⟨o,.tail _ hm,r⟩
 ·rintro s1 D v rem own I oI C oC m₂ E' ⟨ys,own0,rfl,hl,hne,hJ⟩ hC ⟨q,t1,t2,⟨a,rfl,hm⟩,b1,b2⟩ F1 N1 off hIC ho1 hb1
  have hm0:(a,DO #[.str q.1 t1,.str q.2 t2])∈own0:=by
   rcases AP.mp hm with e|z
   ·exact absurd (BW (λp:AH×CY=>p.2.cls) e) (by simp)
   ·exact z
  have hD:=off (D,lst ys) (.head _)
  refine Wb (DI (step s1 D (.ref a) rem ys own0 I oI C oC m₂ q t1 t2 E' hJ ⟨a,rfl,hm0⟩ hC b1 b2 F1 N1 (Off3.of λp hp=>⟨(off p (.tail _ hp)).1,(off p (.tail _ hp)).2,hne p hp⟩) hIC hD.1 hD.2 ho1 hb1) (λy s3 h3=>?_) λ_ _ z=>z)
  obtain⟨own',hJ',F3,N3,off3,ho3,hb3⟩:=h3
  have zD:=N3 (D,lst ys) (.tail _ (.tail _ (.head _)))
  refine Wb (append_at (hsz:=by show ys.toArray.size≤DA;rw[CG];simp at hl;exact(Nl λhn1=>fk [_,_,_,_] (.e V0 V1 (.e (.a V2 (.s V3)) V0 (.e (.s V1) V2 K0))) rfl hsz (El hl) hn1)) zD.1 λh₅ hs₅ hD₅=>Wp ?_)
  have o3:=off3.mem;refine⟨(D,lst (ys++[y]))::own',⟨ys++[y],own',rfl,by simp at hl ⊢;exact(DG (Nl λhn2=>fk [_,_,_] (.e (.a V0 (.s V1)) V2 (.e (.s V2) (.a (.s V0) V1) K0)) rfl (El hl) hn2) (Nl λhn3=>fk [_,_,_] (.e V0 (.a V1 (.s V2)) (.e (.a (.a (.s V1) V2) K1) V0 K0)) rfl (Es hl) hn3)),λp hp=>(o3 p hp).2.2,hJ'⟩,F3.change hs₅ zD.2.1 zD.2.2,λp hp=>?_,λp hp=>?_,ho3,hb3⟩
  ·rcases AP.mp hp with rfl|hp
   ·have z:=N3 (I,oI) (.head _)
    exact⟨hs₅.extBut _ _ (BG hD.1) z.1,z.2⟩
   ·rcases AP.mp hp with rfl|hp
    ·have z:=N3 (C,oC) (.tail _ (.head _))
     exact⟨hs₅.extBut _ _ (BG hD.2) z.1,z.2⟩
    ·rcases AP.mp hp with rfl|hp
     ·exact⟨hD₅.trans (BW AK (lst_snoc ys y)),zD.2⟩
     ·have z:=N3 p (.tail _ (.tail _ (.tail _ hp)))
      exact⟨hs₅.extBut _ _ (o3 p hp).2.2 z.1,z.2⟩
  ·rcases AP.mp hp with rfl|hp
   ·exact hD
   ·exact⟨(o3 p hp).1,(o3 p hp).2.1⟩
 ·rintro s1 D C own mC ⟨ys,own0,rfl,hl,hne,hJ⟩ F1 N1 hns hC0 hCL hoC ho1 hb1
  exact fin s1 D C ys own0 mC hJ F1 N1 hne hns hC0 hCL (hoC _ (.head _)) (λp hp=>hoC p (.tail _ hp)) ho1 hb1
end
end Mine
namespace Mine
open PySem.Calls
open PySem.Builtin PySem.Builtin.Str PySem.Builtin.Int
noncomputable def cutName(q:AX):AX×AX :=
 match LJ q BN (AK 1)=="{" with
 |true=>match MC (LJ q (AK 1) BN) (NQ (LJ q (AK 1) BN) "}" 1) (AA "}").length with
  |[a,b]=>(a,b)
  |_=>(AW,q)
 |false=>(AW,q)
noncomputable def OS(q:AX):CZ:=eA q (cutName q).1 (cutName q).2&&decide (q.length≤200)&&decide ((cutName q).1.length≤200)&&decide ((cutName q).2.length≤200)
noncomputable abbrev Parsed:=AX×AX×AX
noncomputable def declare(lower ns:AE Pr):AE AX→AE Pr→AE (AX×Parsed)→AE Pr×AE (AX×Parsed)
 |[],lv,ps=>(lv,ps)
 |n::r,lv,ps=>match qn (lv++lower) ns (cutName n).1 (cutName n).2 with
  |some (txt,BN)=>declare lower ns r lv (ps++[(n,txt,(cutName n).2,(cutName n).1)])
  |some (txt,AK q)=>declare lower ns r (lv++[q]) (ps++[(n,txt,(cutName n).2,(cutName n).1)])
  |none=>(lv,ps)
def known(ns:AE Pr)(uri:AX):Prop:=uri=AW∨find uri ns≠BN
theorem nJ{decl ns:AE Pr}{uri tag:AX}(h:known ns uri):qn decl ns uri tag≠BN:=by
 unfold qn;split
 ·simp
 ·split
  ·simp
  ·rename_i hu
   cases hf:find uri ns with
   |some p=>simp
   |none =>
    rcases h with h|h
    ·simp[h]
    ·exact absurd hf h
noncomputable def LD(q:Pr):Pr:=(if q.2=AW then "xmlns" else "xmlns:"++q.2,q.1)
noncomputable def WN(ps:AE (AX×Parsed))(a:Pr):Pr:=match ps.lookup a.1 with
 |some p=>(if p.2.2=AW then p.2.1 else p.1,a.2)
 |none=>a
noncomputable def IX(lv:AE Pr)(ps:AE (AX×Parsed))(attrs:AE Pr):AE Pr:=FJ JZ (lv.map LD)++(FJ JZ attrs).map (WN ps)
noncomputable def KY(a:Pr):AX:=" "++a.1++"=\""++RD a.2++"\""
noncomputable def VI(ps:AE (AX×Parsed))(tag:AX):AX:=match ps.lookup tag with
 |some p=>p.1
 |none=>AW
noncomputable def KH(lv:AE Pr)(ps:AE (AX×Parsed))(tag:AX)(attrs:AE Pr):AE AX :=
 [AA "<"++VI ps tag]++(if IX lv ps attrs=[] then [] else [FW AW ((IX lv ps attrs).map KY)])++[AA ">"]
noncomputable abbrev nY:AX:="{http://www.w3.org/XML/1998/namespace}space"
noncomputable def JI(pv:CZ)(attrs:AE Pr):CZ:=match attrs.lookup nY with
 |some b=>if b=AW then pv else decide (b="preserve")
 |none=>pv
end Mine
namespace Mine
open PySem.Calls
noncomputable def gI(w:BU)(A:BQ)(s:AG)(prog:BH)(g:CW)(os:CU)(own:AE (AH×CY))(K:Frag)(p:BH)(zw:AE AX)(zt:ER→AM AC)(mg mb:AX→AM AC)(R:FE→AG→Prop)(name qual:AX)(params:WE)(body:AE cP)(scope:KO)(dV kV doc pm cdv ct oc:AC)(an od:AM AH)(osl:CE (AM AC))(f:AH)(args:Args)(binds:AE (AX×AC)):Prop :=
 ∀(m0:AX→AM AC)(H:Ok g os own s)(X:K.In g)(T:VO p zw zt mg mb g)(ho:K.lookup f=AK ⟨oc,od,.func (uH name qual params body scope dV kV doc pm an cdv ct),osl⟩)(hcd:Bt K cdv qual=BC)(zq:A.depth<FX)(zj:rV s (uH name qual params body scope dV kV doc pm an cdv ct) args binds)(hkind:∀n,∀x∈binds,scope.names.lookup x.1=AK .local∨(scope.names.lookup x.1=AK .cell∧((cellsFrom n scope.names []).lookup x.1).isSome=BC))(hnd:((cellsFrom 0 scope.names []).map (·.1)).Nodup)(hm:∀L',bindL (Bz qual scope L' f cdv).kindOf binds (λ_=>BN)=m0)(h:∀L' h₁ tk cells,Fr g L' h₁ m0→AY g L' h₁ (cells++own)→CellsAre (bindC (Bz qual scope L' f cdv).kindOf binds λ_=>BN) (cellsFrom (L'+1) scope.names []) cells→(∀p∈own,p.1<L') →
   AI (BE prog w) (A.deeper (Bz qual scope L' f cdv)) (EZ body (Bz qual scope L' f cdv))
    (λfl s'=>LeaveM g os R (match fl with|.ret v=>v|_=>.none) s')
    (λe s'=>AI (BE prog w) (A.deeper (Bz qual scope L' f cdv)) (leaving (Bz qual scope L' f cdv) e) (λ_ s''=>R (.error e) s'') (λe' s''=>R (.error e') s'') s')
    { s with heap:=h₁,toks:=tk })(hco:scope.isCoroutine=AU)(hgen:scope.isGenerator=AU)(hk:scope.kind=.function),DV (BE prog w) A (.call (.ref f) args) R s
theorem Bx:∀{a b c d e f g h i j k l m n o p q r s t u v w x y z a1 b1 c1 d1 e1 f1},gI a b c d e f g h i j k l m n o p q r s t u v w x y z a1 b1 c1 d1 e1 f1:=by
 refine @(BK (GM KF)<|@(BK DM<|@(BK DM<|@(BK DM<|let_mvar%?n:=(λw A s prog g os own K p zw zt mg mb R name qual params body scope dV kV doc pm cdv ct oc an od osl f args binds=>?_:∀a b c d e f g h i j k l m n o p q r s t u v w x y z a1 b1 c1 d1 e1 f1,gI a b c d e f g h i j k l m n o p q r s t u v w x y z a1 b1 c1 d1 e1 f1);?n _ _ _ _ _ _ _ _ _ _ _ _ _ _ _ _ _ _ _ _ _ _ _ _ _ _ _ _ _ _ _ _))))
 intro m0 H X T ho hcd zq zj hkind hnd hm h hco hgen hk
 refine codeAny_call_function zq ((X.keeps H.keep) _ _ ho) rfl hco hgen rfl (Gv (X.keeps H.keep) hcd) (zj _ _ _ _ ?_)
 refine wpAny_newFunctionEnv_cells hk (hkind _) λenv' he s' x=>?_;subst he;refine⟨(T.nolimit.keeps H.keep).keeps x.toInCall.keep,codeAny_func ?_⟩;obtain⟨h₁,tk,rfl,_⟩:=x.done;have hk₁:=x.toInCall.keep;obtain⟨cells,NC,Y⟩:=Cl.news (h₀:=s.heap) (CR _) λn c hm=>⟨x.cell n c (lookup_of_mem_nodup (cellsFrom_names scope.names 0 (s.heap.objs.size+1) [] [] rfl ▸ hnd) hm),x.above n c hm⟩
 have F0:Fr g s.heap.objs.size h₁ m0:=by
  rw[← hm s.heap.objs.size];exact⟨x.toInCall.ns,λb o e=>hk₁ b o (H.keep b o e),H.size⟩
 refine DI (h s.heap.objs.size h₁ tk cells F0 (λp hp=>?_) Y (λp hp=>BS (H.own p hp).1)) (λfl s' hl=>?_) λ_ _ y=>y
 ·rcases AT.mp hp with hp|hp
  ·refine⟨(NC p hp).1,(NC p hp).2.1,?_⟩
   cases q:g.get? p.1 with
   |none=>rfl
   |some o=>have:=H.keep _ _ q;rw[(NC p hp).2.2] at this;cases this
  ·exact⟨hk₁ _ _ (H.own p hp).1,AO (BS (H.own p hp).1),(H.own p hp).2⟩
 ·obtain⟨L',m',news',F',N',hos',hb',k⟩:=hl
  exact k (mX F' N' hos' hb')
noncomputable def PO(P:AH)(pos:OP)(qual:AX)(tabs:AE (AH×CY)):Prop :=
 tabs=[(P,NS #[])]∨∃c' oc vs t,tabs=[(P,NS #[JU pos.line,JU pos.col,.ref c']),(c',oc)]∧oc.data=.fields vs∧vs[1]?=AK (.str qual t)
section
variable{prog:BH}{w:BU}{A:BQ}{E:AC→AG→Prop}{s:AG}{h₀:CW}{L:AH}{m:AX→AM AC}{rest:AE (AH×CY)}
theorem Ai:As ([]:AE AC):=by simp[As]
theorem Aj{a b:CC}{v:AC}:As [JU a,JU b,v]:=by simp[As,JU]
noncomputable def dO(w:BU)(A:BQ)(s:AG)(prog:BH)(E:AC→AG→Prop)(h₀:CW)(L:AH)(m:AX→AM AC)(rest:AE (AH×CY))(p:BH)(zw:AE AX)(zt:ER→AM AC)(mg mb:AX→AM AC)(a c P:AH)(cn:AX)(cs:KO)(ccd:AC)(cl:AE (AX×AH))(qual:AX)(p0 p1 p2 p3 p4 p5 pos:OP)(tabs:AE (AH×CY))(Q:AC→AG→Prop):Prop :=
 ∀(F:Fr h₀ L s.heap m)(N:AY h₀ L s.heap (tabs++rest))(T:VO p zw zt mg mb h₀)(C:kP h₀ c P)(hcd:ccd=.ref c)(hT:PO P pos qual tabs)(hne:∀q∈rest,q.1≠P)(hline:(p2.endLine==p5.line)=BC)(hcl:QD OR (QE cn cs L a ccd cl)=pure [])(hq:(QE cn cs L a ccd cl).qual++"<lambda>"=qual) (hdef:defaultsOf (PM p0) (QE cn cs L a ccd cl)=([],[])) (h:∀f zp nl h' tk,PO P pos qual zp→LamIn (nl++(zp++rest)) f→(∀q∈nl,∀r∈zp++rest,q.1≠r.1)→(∀r∈rest,∀q∈nl++zp,q.1=P∨r.1<q.1∨(q∈tabs))→Fr h₀ L h' m→AY h₀ L h' (nl++(zp++rest))→Q (.ref f) { s with heap:=h',toks:=tk }),AI (BE prog w) A (eval (.Lambda (PM p0) (UZ p1 p2 p3 p4 p5) OR pos) (QE cn cs L a ccd cl)) Q E s
theorem yR:∀{w A s prog E h₀ L m rest p zw zt mg mb a c P cn cs ccd cl qual p0 p1 p2 p3 p4 p5 pos tabs Q},dO w A s prog E h₀ L m rest p zw zt mg mb a c P cn cs ccd cl qual p0 p1 p2 p3 p4 p5 pos tabs Q:=by
 refine @(BK (GM KF)<|@(BK DM<|@(BK DM<|@(RB DM<|let_mvar%?n:=(λw A s prog E h₀ L m rest p zw zt mg mb a c P cn cs ccd cl qual p0 p1 p2 p3 p4 p5 pos tabs Q=>?_:∀a b c d e f g h i j k l m n o p q r s t u v w x y z a1 b1 c1 d1 e1,dO a b c d e f g h i j k l m n o p q r s t u v w x y z a1 b1 c1 d1 e1);?n _ _ _ _ _ _ _ _ _ _ _ _ _ _ _ _ _ _ _ _ _ _ _ _ _ _ _ _ _ _ _))))
 intro F N T C hcd hT hne hline hcl hq hdef h;refine kla_eval hdef ?_;rcases hT with rfl|⟨c',oc,vs,t,rfl,hd,hv⟩
 ·refine kla_nest (g:=λo=>(P,o)::rest) F N T C hcd (.head hne) Ai rfl hcl λf c' oc vs t ctv h' tk F' N' hd hv hlt hlf=>?_
  rw[← hq] at *;refine h f [(P,NS #[JU pos.line,JU pos.col,.ref c']),(c',oc)] [(f,Ho "<lambda>" ((QE cn cs L a ccd cl).qual++"<lambda>") (PM p0) (UZ p1 p2 p3 p4 p5) OR [] ((mg "__name__").getD .none) c' ctv)] h' tk (.inr ⟨c',oc,vs,t,rfl,hd,hv⟩) ⟨_,p0,p1,p2,p3,p4,p5,_,c',ctv,oc,vs,t,.head _,hline,by k_mem,hd,hv⟩ ?_ ?_ F' ?_
  ·intro q hq' r hr
   rw[BB.mp hq'];have hcf:∀r∈(P,NS #[])::rest,r.1<f:=λr hr=>AZ (hlt r hr) hlf;simp only[DQ,DB,AP] at hr;rcases hr with rfl|rfl|hr
   ·exact AJ (hcf (P,NS #[]) (.head _))
   ·exact AJ hlf
   ·exact AJ (hcf r (.tail _ hr))
  ·intro r hr q hq'
   simp only[DQ,DB,AP,GK,OJ] at hq';rcases hq' with rfl|rfl|rfl
   ·exact .inr (.inl (AZ (hlt r (.tail _ hr)) hlf))
   ·exact .inl rfl
   ·exact .inr (.inl (hlt r (.tail _ hr)))
  ·intro q hq'
   refine N' q ?_;simp only[DQ,DB,AP] at hq' ⊢;rcases hq' with h1|h1|h1|h1
   ·exact .inl h1
   ·exact .inr (.inr (.inl h1))
   ·exact .inr (.inl h1)
   ·exact .inr (.inr (.inr h1))
 ·refine kla_hit (c':=c') F N T C hcd (.head _) Aj (by simp[codeAmong,JU]) hcl λf ctv h' tk F' N' hlt=>?_
  rw[← hq] at *;refine h f [(P,NS #[JU pos.line,JU pos.col,.ref c']),(c',oc)] [(f,Ho "<lambda>" ((QE cn cs L a ccd cl).qual++"<lambda>") (PM p0) (UZ p1 p2 p3 p4 p5) OR [] ((mg "__name__").getD .none) c' ctv)] h' tk (.inr ⟨c',oc,vs,t,rfl,hd,hv⟩) ⟨_,p0,p1,p2,p3,p4,p5,_,c',ctv,oc,vs,t,.head _,hline,by k_mem,hd,hv⟩ ?_ ?_ F' N'
  ·intro q hq' r hr
   rw[BB.mp hq']
   exact AJ (hlt r hr)
  ·intro r hr q hq'
   rcases AT.mp hq' with z|z
   ·rw[BB.mp z];exact .inr (.inl (hlt r (Mr _ hr)))
   ·exact .inr (.inr z)
end
end Mine
namespace Mine
open PySem.Calls
theorem zI{decl ns:AE Pr}{uri tag txt:AX}{q:Pr}(h:qn decl ns uri tag=AK (txt,AK q)):q∈ns:=by
 unfold qn at h;split at h
 ·injection h with h;injection h with _ h;cases h
 ·split at h
  ·injection h with h;injection h with _ h;cases h
  ·split at h
   ·rename_i p e
    injection h with h;injection h with _ h;injection h with h;rw[← h];exact XY e
   ·split at h
    ·injection h with h;injection h with _ h;cases h
    ·cases h
theorem MB{lower ns:AE Pr}{n:AX}{r:AE AX}{lv:AE Pr}{ps:AE (AX×Parsed)}{txt:AX}{o:AM Pr}(h:qn (lv++lower) ns (cutName n).1 (cutName n).2=AK (txt,o)) :
  declare lower ns (n::r) lv ps=declare lower ns r (lv++o.toList) (ps++[(n,txt,(cutName n).2,(cutName n).1)]):=by
 rw[declare,h]
 cases o with
 |none=>simp
 |some q=>simp
theorem aD(lower ns:AE Pr):∀(l1 l2:AE AX)(lv:AE Pr)(ps:AE (AX×Parsed)),(∀n∈l1,known ns (cutName n).1) →
  declare lower ns (l1++l2) lv ps=declare lower ns l2 (declare lower ns l1 lv ps).1 (declare lower ns l1 lv ps).2
 |[],l2,lv,ps,_=>by rw[DB,declare]
 |n::l1,l2,lv,ps,h=>by
  rw[DQ]
  have hk:=nJ (decl:=lv++lower) (tag:=(cutName n).2) (h n (.head _))
  cases e:qn (lv++lower) ns (cutName n).1 (cutName n).2 with
  |none=>exact absurd e hk
  |some z =>
   obtain⟨txt,o⟩:=z;rw[MB e,MB e]
   exact aD lower ns l1 l2 _ _ λm hm=>h m (.tail _ hm)
theorem KE(lower ns:AE Pr):∀(l:AE AX)(lv:AE Pr)(ps:AE (AX×Parsed)),(∀n∈l,known ns (cutName n).1) →
  (declare lower ns l lv ps).2.map (·.1)=ps.map (·.1)++l∧(∀q∈(declare lower ns l lv ps).1,q∈lv∨q∈ns)∧(declare lower ns l lv ps).1.length≤lv.length+l.length
 |[],lv,ps,_=>⟨by simp[declare],λq hq=>.inl hq,by simp[declare]⟩
 |n::l,lv,ps,h=>by
  unfold declare
  have hk:=nJ (decl:=lv++lower) (tag:=(cutName n).2) (h n (.head _))
  split
  ·obtain⟨a,b,c⟩:=KE lower ns l lv (ps++[(n,_,(cutName n).2,(cutName n).1)]) λm hm=>h m (.tail _ hm)
   refine⟨?_,b,?_⟩
   ·rw[a];simp
   ·simp only[CD];exact(Nl λhn1=>fk [_,_,_] (.e V0 (.a V1 V2) (.e (.a (.a V1 (.s V2)) K1) V0 K0)) rfl c hn1)
  ·rename_i txt q e
   obtain⟨a,b,c⟩:=KE lower ns l (lv++[q]) (ps++[(n,txt,(cutName n).2,(cutName n).1)]) λm hm=>h m (.tail _ hm)
   refine⟨?_,?_,?_⟩
   ·rw[a];simp
   ·intro r hr
    rcases b r hr with z|z
    ·rcases AT.mp z with z|z
     ·exact .inl z
     ·rw[BB.mp z];exact .inr (zI e)
    ·exact .inr z
   ·simp only[CD,BD,GA] at c ⊢;exact(Nl λhn1=>fk [_,_,_] (.e V0 (.a (.a V1 (.s K0)) V2) (.e (.a (.a V1 (.s V2)) K1) V0 K0)) rfl c hn1)
  ·rename_i e;exact absurd e hk
theorem lN{lower ns:AE Pr}{n:AX}{lv:AE Pr}{ps:AE (AX×Parsed)}{txt:AX}{o:AM Pr}(h:qn (lv++lower) ns (cutName n).1 (cutName n).2=AK (txt,o)) :
  declare lower ns [n] lv ps=(lv++o.toList,ps++[(n,txt,(cutName n).2,(cutName n).1)]):=by
 rw[MB h,declare]
def ON(tups:AE (AH×CY))(kv:AX×AC)(p:AX×Parsed):Prop:=kv.1=p.1∧∃a t1 t2 t3,kv.2=.ref a∧(a,DO #[.str p.2.1 t1,.str p.2.2.1 t2,.str p.2.2.2 t3])∈tups
theorem ON.mono{news news':AE (AH×CY)}(hs:∀p∈news,p∈news'){v:AX×AC}{q:AX×Parsed}(x:ON news v q):ON news' v q:=x.imp_right λx=>x.imp λ_ x=>x.imp λ_ x=>x.imp λ_ x=>x.imp λ_ x=>x.imp_right (hs _)
theorem All2.snoc{α β:Type}{P:α→β→Prop}{l:AE α}{r:AE β}{a:α}{b:β}(h:All2 P l r)(x:P a b):All2 P (l++[a]) (r++[b]):=h.append (.cons x .nil)
theorem MZ{q:AX}(h:OS q=BC):eA q (cutName q).1 (cutName q).2=BC∧q.length≤200∧(cutName q).1.length≤200∧(cutName q).2.length≤200:=by
 unfold OS at h;simp only[NT,HI] at h;exact⟨h.1.1.1,h.1.1.2,h.1.2,h.2⟩
theorem ON.find{tups:AE (AH×CY)}:∀{kvs:AE (AX×AC)}{ps:AE (AX×Parsed)},All2 (ON tups) kvs ps→∀{k:AX}{p:Parsed},ps.lookup k=AK p→∃a t1 t2 t3,JY kvs k=AK (.ref a)∧(a,DO #[.str p.1 t1,.str p.2.1 t2,.str p.2.2 t3])∈tups
 |_,_,.nil,k,p,h=>by simp at h
 |_,_,.cons (a:=kv) (b:=q) hx r,k,p,h=>by
  obtain⟨e,a,t1,t2,t3,e2,hm⟩:=hx;obtain⟨k1,v1⟩:=kv;obtain⟨k2,p2⟩:=q;simp only at e e2 hm;subst e e2;rw[NV] at h
  by_cases hk:k=k1
  ·subst hk
   simp only[beq_self_eq_true] at h;injection h with h;subst h;exact⟨a,t1,t2,t3,by simp[JY],hm⟩
  ·have:(k==k1)=AU:=by simpa using hk
   rw[this] at h;obtain⟨a',u1,u2,u3,e3,hm3⟩:=ON.find r h;refine⟨a',u1,u2,u3,?_,hm3⟩;rw[← e3];simp[JY,pO,BG hk]
theorem RS{h:CW}{news:AE (AH×CY)}(hn:∀p∈news,h.get? p.1=AK p.2){v:AC}{q:Pr}(x:GP news v q):KM h v q:=let ⟨a,t1,t2,e,hm⟩:=x;⟨a,t1,t2,e,_,hn _ hm,rfl,_,rfl⟩
end Mine
namespace Mine
open PySem.Calls
open PyProof.Rows.LCg
section
variable{prog:BH}{w:BU}{A:BQ}{E:AC→AG→Prop}{s:AG}{h₀:CW}{L:AH}{env:XH}{os:CU}
inductive ListJ (h₀:CW) (L:AH) (os:CU) (ax:AH) (its:CE AC) (J:AE AC→(AX→AM AC)→AE (AH×CY)→Prop) (I:AH) (k:CC) (s':AG):Prop
 |mk (i:CC) (rem:AE AC) (m:AX→AM AC) (own:AE (AH×CY)) (oI:CY) (h0:k=rem.length) (h1:its.toList.drop i=rem) (h2:i+rem.length=its.size) (h3:J rem m own) (h4:Fr h₀ L s'.heap m) (h5:AY h₀ L s'.heap own) (h6:(∀p∈own,p.1≠I)) (h7:s'.heap.get? I=AK oI) (h8:oI.cls=.type "list_iterator") (h9:oI.data=.fields #[.ref ax,.int i 0]) (h10:s'.os=os) (h11:BP s'.gens):ListJ h₀ L os ax its J I k s'
noncomputable def WV(w:BU)(A:BQ)(s:AG)(prog:BH)(E:AC→AG→Prop)(h₀:CW)(L:AH)(env:XH)(os:CU)(target:EK)(body:AE cP)(ax:AH)(its:CE AC)(R:FE→AG→Prop)(J:AE AC→(AX→AM AC)→AE (AH×CY)→Prop)(m:AX→AM AC)(own:AE (AH×CY)):Prop :=
 ∀(Bd:AE (AH×CY)→AC→(AX→AM AC)→(AX→AM AC)→Prop)(hh:A.handled=BN)(hsrc:∀rem m own,J rem m own→RZ h₀ ax its own)(hown:∀(I:AH)(i:CC)(v:AC)(s:AG)(Q:SI→AG→Prop)(E':AC→AG→Prop),s.heap.IsListIter I ax i→v∈its.toList→Q () s→AI (BE prog w) A (MK target (.ref I) v) Q E' s)(hasg:∀(s1:AG)(v:AC)(rem:AE AC)(m:AX→AM AC)(own news:AE (AH×CY))(Q:SI→AG→Prop)(E':AC→AG→Prop),J (v::rem) m own→(∀p∈own,p∈news)→Fr h₀ L s1.heap m→AY h₀ L s1.heap news →
   (∀h' tk m',Fr h₀ L h' m'→AY h₀ L h' news→Bd own v m m'→Q () { s1 with heap:=h',toks:=tk })→AI (BE prog w) A (assign target env v) Q E' s1)(step:∀(s1:AG)v rem m m' own I oI,J (v::rem) m own→Bd own v m m'→Fr h₀ L s1.heap m'→AY h₀ L s1.heap ((I,oI)::own)→(∀p∈own,p.1≠I)→s1.os=os→BP s1.gens →
   AI (BE prog w) A (EZ body env) (λf s3=>match f with
    |.next|.cont=>∃m'' own',J rem m'' own'∧Fr h₀ L s3.heap m''∧AY h₀ L s3.heap ((I,oI)::own')∧(∀p∈own',p.1≠I)∧s3.os=os∧BP s3.gens
    |.brk=>R (.ok .next) s3
    |.ret v=>R (.ok (.ret v)) s3) (SU (BE prog w) A env λe s'=>R (.error e) s') s1)(done:∀(s1:AG)m own,J [] m own→Fr h₀ L s1.heap m→AY h₀ L s1.heap own→s1.os=os→BP s1.gens→R (.ok .next) s1)(hJ:J its.toList m own)(F:Fr h₀ L s.heap m)(N:AY h₀ L s.heap own)(hos:s.os=os)(hb:BP s.gens),AI (BE prog w) A (IY (.ref ax)) (λit s₁=>DV (BE prog w) A (.forLoop target it body [] env) R s₁) E s
theorem jC:∀a b c d e f g h i j k l m n o p q,WV a b c d e f g h i j k l m n o p q:=by
 refine BK (GM KF)<|BK DM<|HF DM<|let_mvar%?n:=(λw A s prog E h₀ L env os target body ax its R J m own=>?_:∀a b c d e f g h i j k l m n o p q,WV a b c d e f g h i j k l m n o p q);?n _ _ _ _ _ _ _ _ _ _ _ _ _ _ _ _ _
 intro Bd hh hsrc hown hasg step done hJ F N hos hb;have hl:=(hsrc _ _ _ hJ).list F.keep N;refine VK hl ?_;generalize hIeq:s.heap.objs.size=I
 have hLI:L<I:=by rw[← hIeq];exact F.ns.lt
 have hI0:h₀.get? I=BN:=EA (AQ F.above (EU hLI))
 have hIL:I≠L:=AJ hLI
 refine SA (λk s'=>ListJ h₀ L os ax its J I k s') ?_ its.size
  ⟨0,its.toList,m,own,_,by simp,rfl,by simp,hJ,F.push _,λp hp=>⟨AV _ (N p hp).1,(N p hp).2⟩,λp hp=>AO (by rw[← hIeq];exact BS (N p hp).1),by rw[← hIeq];exact CH _ rfl,rfl,rfl,hos,hb⟩
 rintro k s' ⟨i,rem,m,own,oI,rfl,hrem,zf,hJ,F',N',off,hi1,hi2,hi3,hos',hb'⟩;have hit:s'.heap.IsListIter I ax i:=⟨oI,hi1,hi2,hi3⟩;have hl':s'.heap.IsList ax its:=(hsrc _ _ _ hJ).list F'.keep N'
 cases rem with
 |nil =>
  refine ZZ hh hit hl' ?_ λh₂ he₂=>?_
  ·have:its.size≤i:=by simp at zf;exact(Es zf)
   simp;exact this
  ·dsimp only
   exact Wp (done _ m own hJ (PR F' he₂ (BG hIL) hI0) (λp hp=>⟨he₂ _ _ (off p hp) (N' p hp).1,(N' p hp).2⟩) hos' hb')
 |cons v rem =>
  have hlt':i<its.size:=by simp at zf;exact(Nt λhn1=>fk [_,_,_] (.e (.a V0 (.s V1)) V2 (.e V2 V0 K0)) rfl (El zf) hn1)
  have hget:its[i]?=AK v:=by
   rw[← FY];have:=BW (·[0]?) hrem;simp only[TO,XK,GJ] at this;exact this
  refine PL hit hl' hget λh₂ hit₂ hs₂=>?_;dsimp only
  have hmem:v∈its.toList:=by rw[← FY] at hget;exact GR hget
  refine hown I (i+1) v _ _ _ hit₂ hmem ?_;obtain⟨oI',heI,hcI,hdI⟩:=id hit₂;have F₂:=PR F' hs₂.extBut (BG hIL) hI0
  have N₂:AY h₀ L h₂ ((I,oI')::own):=λp hp=>by
   rcases AP.mp hp with rfl|hp
   ·exact⟨heI,hIL,hI0⟩
   ·exact⟨hs₂.extBut _ _ (off p hp) (N' p hp).1,(N' p hp).2⟩
  refine hasg _ v rem m own ((I,oI')::own) _ _ hJ (λp hp=>.tail _ hp) F₂ N₂ λh₃ tk₃ m' F₃ N₃ hB=>?_;refine DI (step { s' with heap:=h₃,toks:=tk₃ } v rem m m' own I oI' hJ hB F₃ N₃ off hos' hb') (λf s₄ h₄=>?_) λ_ _ z=>z
  cases f with
  |brk=>exact h₄
  |ret v=>exact h₄
  |_ =>
   obtain⟨m'',own',hJ',F₄,N₄,off₄,hos₄,hb₄⟩:=h₄;refine⟨rem.length,CM _,i+1,rem,m'',own',oI',rfl,?_,by simp at zf ⊢;exact(DG (Nl λhn2=>fk [_,_,_] (.e (.a V0 (.s V1)) V2 (.e (.s V2) (.a (.s V0) V1) K0)) rfl (El zf) hn2) (Nl λhn3=>fk [_,_,_] (.e V0 (.a V1 (.s V2)) (.e (.a (.a (.s V1) V2) K1) V0 K0)) rfl (Es zf) hn3)),hJ',F₄,λp hp=>N₄ p (.tail _ hp),off₄,(N₄ (I,oI') (.head _)).1,hcI,hdI,hos₄,hb₄⟩;rw[← TN,hrem];rfl
theorem RM{w A s prog E h₀ L env os target body ax its R m own}(J):WV w A s prog E h₀ L env os target body ax its R J m own:=jC _ _ _ _ _ _ _ _ _ _ _ _ _ _ _ _ _
theorem iG{target iter:EK}{body orelse:AE cP}{pos:OP}{Q:WG→AG→Prop}{M:QV}(hfs:∀x,HJ iter env x=pure x)
  (h:AI M A (eval iter env) (λxv s₁=>AI M A (IY xv) (λit s₂=>DV M (A.mark BN) (.forLoop target it body orelse env) (λr s'=>match r with|.ok f=>Q f s'|.error e=>cameBackBy M A env E e s') s₂) E s₁) E s) :
  AI M A (exec (.For target iter body orelse pos) env) Q E s:=by
 rw[exec_For]
 refine Wb (EQ (Wb (DI h (λxv s₁ h₁=>?_) λ_ _ z=>z)))
 rw[hfs]
 refine Wb (Wp (Wb (EQ (Wb (CI (DI h₁ (λit s₂ h₂=>?_) λ_ _ z=>z))))))
 exact wpAny_runOwn h₂
end
end Mine
namespace Mine
open PySem.Calls
open PyProof.Rows.LCg
noncomputable abbrev m5(a b c d e:AX)(m0:AX→AM AC)(u1 u2 u3 u4 u5:AM AC):AX→AM AC :=
 λy=>if y=e then u5 else if y=d then u4 else if y=c then u3 else if y=b then u2 else if y=a then u1 else m0 y
theorem mB{α:Type}{c:Prop}[PY c]{t a b:α}(h:¬c→a=b):(if c then t else a)=if c then t else b:=by
 by_cases hc:c
 ·rw[DJ hc,DJ hc]
 ·rw[CA hc,CA hc,h hc]
theorem VV{α:Type}{c:Prop}[PY c]{t x b:α}(hp:c→x=t)(hn:¬c→x=b):x=if c then t else b:=by
 by_cases hc:c
 ·rw[DJ hc];exact hp hc
 ·rw[CA hc];exact hn hc
theorem sK{a b c d e:AX}{m0:AX→AM AC}{u1 u2 u3 u4 u5 v1 v2 v3 v4 v5:AM AC} :
  (λy=>if y=e then v5 else if y=d then v4 else if y=c then v3 else if y=b then v2 else if y=a then v1 else m5 a b c d e m0 u1 u2 u3 u4 u5 y)=m5 a b c d e m0 v1 v2 v3 v4 v5:=funext λy=>mB λh1=>mB λh2=>mB λh3=>mB λh4=>mB λh5=>(CA h1).trans ((CA h2).trans ((CA h3).trans ((CA h4).trans (CA h5))))
theorem jK{a b c d e:AX}{m0:AX→AM AC}(ha:m0 a=BN)(hb:m0 b=BN)(hc:m0 c=BN)(hd:m0 d=BN)(he:m0 e=BN):m0=m5 a b c d e m0 BN BN BN BN BN:=funext λy=>VV (λh=>(BW m0 h).trans he) λ_=>VV (λh=>(BW m0 h).trans hd) λ_=>VV (λh=>(BW m0 h).trans hc) λ_=>VV (λh=>(BW m0 h).trans hb) λ_=>VV (λh=>(BW m0 h).trans ha) λ_=>rfl
theorem lookup_mem{β:Type}{k:AX}:∀{ps:AE (AX×β)},k∈ps.map (·.1)→∃p,ps.lookup k=AK p
 |[],h=>by simp at h
 |(k1,p1)::ps,h=>by
  rw[NV]
  by_cases hk:k=k1
  ·subst hk;simp
  ·have:(k==k1)=AU:=by simpa using hk
   rw[this];refine lookup_mem (ps:=ps) ?_;rcases AP.mp h with z|z
   ·exact absurd z hk
   ·exact z
theorem mem_lookup{β:Type}{k:AX}{p:β}:∀{ps:AE (AX×β)},ps.lookup k=AK p→(k,p)∈ps
 |[],h=>by simp at h
 |(k1,p1)::ps,h=>by
  rw[NV] at h
  by_cases hk:k=k1
  ·subst hk
   simp only[beq_self_eq_true] at h;injection h with h;rw[h];exact .head _
  ·have:(k==k1)=AU:=by simpa using hk
   rw[this] at h
   exact .tail _ (mem_lookup h)
theorem cU(lower ns:AE Pr)(hl:∀q∈lower,q.2.length≤200)(hn:∀q∈ns,q.2.length≤200):∀(l:AE AX)(lv:AE Pr)(ps:AE (AX×Parsed)),(∀q∈lv,q.2.length≤200)→(∀n∈l,(cutName n).2.length≤200)→∀e∈(declare lower ns l lv ps).2,
  e∈ps∨(e.1∈l∧e.2.2.2=(cutName e.1).1∧e.2.2.1=(cutName e.1).2∧e.2.1.length≤500)
 |[],lv,ps,_,_,e,he=>.inl (by simpa[declare] using he)
 |n::l,lv,ps,hv,hc,e,he=>by
  cases hq:qn (lv++lower) ns (cutName n).1 (cutName n).2 with
  |none =>
   rw[declare,hq] at he;exact .inl he
  |some z =>
   obtain⟨txt,o⟩:=z;rw[MB hq] at he
   have zf:txt.length≤500:=zH hq (λq hq'=>by
    rcases AT.mp hq' with z|z
    ·exact hv q z
    ·exact hl q z) hn (hc n (.head _))
   have hv':∀q∈lv++o.toList,q.2.length≤200:=λq hq'=>by
    rcases AT.mp hq' with z|z
    ·exact hv q z
    ·cases o with
     |none=>simp at z
     |some r=>simp at z;rw[z];exact hn r (zI hq)
   rcases cU lower ns hl hn l _ _ hv' (λm hm=>hc m (.tail _ hm)) e he with z|⟨z1,z2⟩
   ·rcases AT.mp z with z|z
    ·exact .inl z
    ·rw[BB.mp z];exact .inr ⟨.head _,rfl,rfl,zf⟩
   ·exact .inr ⟨.tail _ z1,z2⟩
noncomputable def wZ(x1 x2:AX)(own:AE (AH×CY))(v:AC)(m m':AX→AM AC):Prop :=
 ∃(q:Pr)(t1 t2:DW),(∃a,v=.ref a∧(a,DO #[.str q.1 t1,.str q.2 t2])∈own)∧m'=λy=>if y=x2 then AK (.str q.2 t2) else if y=x1 then AK (.str q.1 t1) else m y
section
variable{prog:BH}{w:BU}{A:BQ}{E:AC→AG→Prop}{s:AG}{h₀:CW}{L:AH}{m:AX→AM AC}{news own:AE (AH×CY)}
theorem xN{cn:AX}{cs:KO}{a:AH}{ccd:AC}{cl:AE (AX×AH)}{x1 x2:AX}{p1 p2 pos:OP}{k:CC}{v:AC}{q:Pr}{Q:SI→AG→Prop}(hh:A.handled=BN)(hq:GP own v q)(hsub:∀p∈own,p∈news)(hF:Fr h₀ L s.heap m)(N:AY h₀ L s.heap news)
  (h:∀h' tk m',Fr h₀ L h' m'→AY h₀ L h' news→wZ x1 x2 own v m m'→Q () { s with heap:=h',toks:=tk })
  (hk:cs.kind=.function) (hl1:(QE cn cs L a ccd cl).kindOf x1=AK .local) (hl2:(QE cn cs L a ccd cl).kindOf x2=AK .local) :
  AI (BE prog w) A (assign (.Tuple [.Name x1 p1,.Name x2 p2] k pos) (QE cn cs L a ccd cl) v) Q E s:=by
 obtain⟨t,t1,t2,rfl,hm⟩:=hq;rw[WM]
 refine Wb (EQ ?_)
 show AI _ _ (unpack (.ref t) [(AU,assign (.Name x1 p1) (QE cn cs L a ccd cl)),(AU,assign (.Name x2 p2) (QE cn cs L a ccd cl))]) _ _ _;unfold unpack
 refine Wb (CI ?_)
 refine VJ (items:=#[.str q.1 t1,.str q.2 t2]) hh ⟨_,(N _ (hsub _ hm)).1,rfl,_,rfl⟩ λh' he=>?_
 have hF':Fr h₀ L h' m:=kR hF he (CR _)
 have N':AY h₀ L h' news:=AY.ext N he;show AI _ _ (do holding [.str q.2 t2] (assign (.Name x1 p1) (QE cn cs L a ccd cl) (.str q.1 t1));do holding [] (assign (.Name x2 p2) (QE cn cs L a ccd cl) (.str q.2 t2));pure ()) _ _ _
 refine Wb (CI (EO (TZ hF' N' (λh2 F2 N2=>?_) hk hl1)))
 refine Wb (CI (EO (TZ F2 N2 (λh3 F3 N3=>?_) hk hl2)))
 exact Wp (h h3 _ _ F3 N3 ⟨q,t1,t2,⟨t,rfl,hm⟩,rfl⟩)
theorem MV{cn:AX}{cs:KO}{a:AH}{ccd:AC}{cl:AE (AX×AH)}{x1 x2 x3:AX}{p1 p2 p3 pos:OP}{k:CC}{t:AH}{v1 v2 v3:AC}{Q:SI→AG→Prop}(hh:A.handled=BN)(hF:Fr h₀ L s.heap m)(N:AY h₀ L s.heap news)(ht:WI s.heap t #[v1,v2,v3])
  (h:∀h' tk,Fr h₀ L h' (λy=>if y=x3 then AK v3 else if y=x2 then AK v2 else if y=x1 then AK v1 else m y)→AY h₀ L h' news→Q () { s with heap:=h',toks:=tk })
  (hk:cs.kind=.function) (hl1:(QE cn cs L a ccd cl).kindOf x1=AK .local) (hl2:(QE cn cs L a ccd cl).kindOf x2=AK .local) (hl3:(QE cn cs L a ccd cl).kindOf x3=AK .local) :
  AI (BE prog w) A (assign (.Tuple [.Name x1 p1,.Name x2 p2,.Name x3 p3] k pos) (QE cn cs L a ccd cl) (.ref t)) Q E s:=by
 rw[WM]
 refine Wb (EQ ?_)
 show AI _ _ (unpack (.ref t) [(AU,assign (.Name x1 p1) (QE cn cs L a ccd cl)),(AU,assign (.Name x2 p2) (QE cn cs L a ccd cl)),(AU,assign (.Name x3 p3) (QE cn cs L a ccd cl))]) _ _ _;unfold unpack
 refine Wb (CI ?_)
 refine VJ (items:=#[v1,v2,v3]) hh ht λh' he=>?_
 have hF':Fr h₀ L h' m:=kR hF he (CR _)
 have N':AY h₀ L h' news:=AY.ext N he;show AI _ _ (do holding [v2,v3] (assign (.Name x1 p1) (QE cn cs L a ccd cl) v1);do holding [v3] (assign (.Name x2 p2) (QE cn cs L a ccd cl) v2);do holding [] (assign (.Name x3 p3) (QE cn cs L a ccd cl) v3);pure ()) _ _ _
 refine Wb (CI (EO (TZ hF' N' (λh2 F2 N2=>?_) hk hl1)))
 refine Wb (CI (EO (TZ F2 N2 (λh3 F3 N3=>?_) hk hl2)))
 refine Wb (CI (EO (TZ F3 N3 (λh4 F4 N4=>?_) hk hl3)))
 exact Wp (h h4 _ F4 N4)
end
section
variable{prog:BH}{w:BU}{A:BQ}{E:AC→AG→Prop}{s:AG}
theorem hZ{value slice:EK}{d:AH}{kvs:AE (AX×AC)}{k:AX}{t:DW}{v:AC}{Q:AC→AG→Prop}(hd:s.heap.DictOf (EL prog w) d kvs)(hv:JY kvs k=AK v)(h:Q v { s with toks:=s.toks+1 })
  (hs:subscripted slice AU (.ref d) (.str k t)=operate [.ref d,.str k t] (SO (.ref d) (.str k t)):=by with_unfolding_all rfl) :
  AI (BE prog w) A (BZ value slice (.ref d) (.str k t)) Q E s :=
 vY hd.typeIs Hp.lookup (wpAny_getItem_of (knd:=EL prog w) (by simp[EL,JD]) hd.mapOf hv h) hs
end
end Mine
namespace Mine
open PySem.Calls
section
variable{prog:BH}{w:BU}{A:BQ}{E:AC→AG→Prop}{s:AG}
theorem yJ{d:AH}{l:AE ((AX×DW)×(AX×DW))}{n:CC}{pl:kZ CZ}{Q:AC×AE AC→AG→Prop}(hd:s.heap.get? d=AK (CK (IM w.params l) n))(h:Q (.builtin "dict.get",[.ref d]) s) :
  AI (BE prog w) A (WW (.ref d) "get" pl) Q E s :=
 Hk ⟨_,hd,rfl⟩ Aq Eg PySem.F.type_dict_get (λa e=>by cases e;exact⟨_,hd,rfl⟩) h
theorem xP{d:AH}{kvs:AE (AX×AC)}{k:AX}{t:DW}{Q:AC→AG→Prop}(hd:s.heap.DictOf (EL prog w) d kvs)(lo:(d==FB)=AU)(h:Q ((JY kvs k).getD .none) { s with toks:=s.toks+1 }) :
  AI (BE prog w) A (DK (.builtin "dict.get") [.ref d,.str k t]) Q E s :=
 call_meetsIn Eg hd.typeIs PySem.F.entry_dict_get (PySem.F.args_dict_get_2 _ _) (meets_dict_get (EL prog w) d (k:=k) (by simp[EL,JD]) lo) ⟨_,hd.mapOf,h⟩
theorem oH(k:AX):∀l:AE ((AX×DW)×(AX×DW)),((l.map λp=>(p.1.1,p.2.1)).lookup k=BN∧JY (OF l) k=BN)∨∃v t,(l.map λp=>(p.1.1,p.2.1)).lookup k=AK v∧JY (OF l) k=AK (.str v t)∧∃p∈l,p.2.1=v
 |[]=>.inl ⟨rfl,rfl⟩
 |p::l=>by
  by_cases hk:k=p.1.1
  ·refine .inr ⟨p.2.1,p.2.2,?_,?_,p,.head _,rfl⟩
   ·rw[EC,NV,hk];simp
   ·simp[JY,hk]
  ·have hb:(k==p.1.1)=AU:=by simpa using hk
   have h1:((p::l).map λp=>(p.1.1,p.2.1)).lookup k=(l.map λp=>(p.1.1,p.2.1)).lookup k:=by rw[EC,NV,hb]
   have h2:JY (OF (p::l)) k=JY (OF l) k:=by simp[JY,pO,BG hk]
   rw[h1,h2];rcases oH k l with z|⟨v,t,z1,z2,q,hq,z3⟩
   ·exact .inl z
   ·exact .inr ⟨v,t,z1,z2,q,.tail _ hq,z3⟩
theorem OL{value slice:EK}{l:AH}{v:AC}{vs:AE AC}{t:DW}{Q:AC→AG→Prop}(hl:WI s.heap l (v::vs).toArray)(h:Q v s)
  (hs:subscripted slice AU (.ref l) (.int 0 t)=operate [.ref l,.int 0 t] (SO (.ref l) (.int 0 t)):=by with_unfolding_all rfl) :
  AI (BE prog w) A (BZ value slice (.ref l) (.int 0 t)) Q E s :=
 item_tupleT hl (by decide) (by decide) (j:=0) (by simp[seqIndex?]) rfl h hs
theorem join_list{x:AX}{t:DW}{l:AH}{ds:AE (AX×DW)}{Q:AC→AG→Prop}(hl:s.heap.IsList l (AF ds).toArray)(hok:PZ x (ds.map (·.1))=BC)(h:∀t' k,Q (.str (FW x (ds.map (·.1))) t') { s with toks:=k }) :
  AI (BE prog w) A (DK (.builtin "str.join") [.str x t,.ref l]) Q E s:=by
 unfold PZ at hok;rw[iF] at hok
 refine QF (Fk F.slot_str_join.plain F.entry_str_join (F.slot_str_join.check _ _ _ _ _ _ _ _ (UB _ _ _) (F.args_str_join_2 _ _) ?_))
 refine Gi x t l ds hok prog w A (wants Q E) s ⟨hl,post_join ds ⟨joinFit_length hok,?_⟩⟩;exact h
end
end Mine
namespace Mine
open PySem.Calls
theorem ZJ{d:AH}{l:AE (AH×CY)}(h:AllLt d l)(p:AH×CY)(hp:p∈l):p.1<d:=by
 induction l with
 |nil=>exact nomatch hp
 |cons q l ih =>
  obtain⟨h1,h2⟩:=h;rcases AP.mp hp with rfl|hp
  ·exact h1
  ·exact ih h2 hp
theorem qU{W Z T:AE (AH×CY)}{v:AC}{q:Pr}(hW:∀r∈W,r.2.cls≠.type "tuple")(h:GP (T++(W++Z)) v q):GP (T++Z) v q:=by
 obtain⟨a',y1,y2,e,hm⟩:=h;refine⟨a',y1,y2,e,?_⟩;rcases AT.mp hm with z|z
 ·exact Ml _ z
 ·rcases AT.mp z with z|z
  ·exact absurd rfl (hW _ z)
  ·exact Mr _ z
theorem off7{a x dx dl out wr ns pr:AH}{o1 o2 o3 o4 o5 o6 o7:CY}(h:∀q∈[(x,o1),(dx,o2),(dl,o3)]++[(out,o4),(wr,o5),(ns,o6),(pr,o7)],a≠q.1):a≠x∧a≠dx∧a≠dl∧a≠out∧a≠wr∧a≠ns∧a≠pr :=
 ⟨h (x,o1) (.head _),h (dx,o2) (.tail _ (.head _)),h (dl,o3) (.tail _ (.tail _ (.head _))),h (out,o4) (.tail _ (.tail _ (.tail _ (.head _)))),h (wr,o5) (.tail _ (.tail _ (.tail _ (.tail _ (.head _))))),h (ns,o6) (.tail _ (.tail _ (.tail _ (.tail _ (.tail _ (.head _)))))),h (pr,o7) (.tail _ (.tail _ (.tail _ (.tail _ (.tail _ (.tail _ (.head _))))))) ⟩
theorem Cd{g h:CW}{L:AH}{W O4 tlB tups prs tmp base:AE (AH×CY)}{d p c:AH×CY}(hbase:W++(O4++(p::(tups++(prs++tmp))))=base)(hc:c∈tmp)(N:AY g L h (d::(tlB++base))) :
  AY g L h ((W++O4)++(c::d::(tlB++(p::(tups++(prs++tmp)))))):=AY.sub N (by
 subst hbase
 exact Fp (Fp (λ_ h=>.tail _ (Mr _ (Ml _ (h)))) (λ_ h=>.tail _ (Mr _ (Mr _ (Ml _ (h)))))) (Fc (.tail _ (Mr _ (Mr _ (Mr _ (.tail _ (Mr _ (Mr _ (hc)))))))) (Fc (.head _) (Fp (λ_ h=>.tail _ (Ml _ (h))) (Fc (.tail _ (Mr _ (Mr _ (Mr _ (.head _))))) (Fp (λ_ h=>.tail _ (Mr _ (Mr _ (Mr _ (.tail _ (Ml _ (h))))))) (Fp (λ_ h=>.tail _ (Mr _ (Mr _ (Mr _ (.tail _ (Mr _ (Ml _ (h)))))))) (λ_ h=>.tail _ (Mr _ (Mr _ (Mr _ (.tail _ (Mr _ (Mr _ (h)))))))))))))))
theorem fin_off{x dx dl out wr ns pr:AH}{o1 o2 o3 o3' o4 o5 o6 o7:CY}{tlB tups prs tmp base:AE (AH×CY)}{d p:AH×CY}
  (hbase:[(x,o1),(dx,o2),(dl,o3)]++([(out,o4),(wr,o5),(ns,o6),(pr,o7)]++(p::(tups++(prs++tmp))))=base)
  (hd:∀r∈base,d.1≠r.1) (htB:∀q∈tlB,q.1≠d.1∧∀r∈base,q.1≠r.1)
  (hfr:∀q∈p::(tups++prs),q.1≠x∧q.1≠dx∧q.1≠dl∧∀r∈[(out,o4),(wr,o5),(ns,o6),(pr,o7)]++tmp,q.1≠r.1)
  (htmp:∀q∈tmp,∀r∈[(x,o1),(dx,o2),(dl,o3')]++[(out,o4),(wr,o5),(ns,o6),(pr,o7)],q.1≠r.1) :
  ∀r∈d::(tlB++(p::(tups++(prs++tmp)))),r.1≠x∧r.1≠dx∧r.1≠dl∧r.1≠out∧r.1≠wr∧r.1≠ns∧r.1≠pr:=by
 have hb7:∀q∈[(x,o1),(dx,o2),(dl,o3)]++[(out,o4),(wr,o5),(ns,o6),(pr,o7)],q∈base:=λq hq=>by
  rw[← hbase];rcases AT.mp hq with z|z
  ·exact Ml _ z
  ·exact Mr _ (Ml _ z)
 have h3:∀q∈p::(tups++prs),q.1≠x∧q.1≠dx∧q.1≠dl∧q.1≠out∧q.1≠wr∧q.1≠ns∧q.1≠pr:=λq hq=>by
  obtain⟨e1,e2,e3,e4⟩:=hfr q hq;exact⟨e1,e2,e3,e4 (out,o4) (by simp),e4 (wr,o5) (by simp),e4 (ns,o6) (by simp),e4 (pr,o7) (by simp)⟩
 intro r hr;rcases AP.mp hr with rfl|hr
 ·exact off7 λq hq=>hd q (hb7 q hq)
 rcases AT.mp hr with hr|hr
 ·exact off7 λq hq=>(htB r hr).2 q (hb7 q hq)
 rcases AP.mp hr with rfl|hr
 ·exact h3 _ (.head _)
 rcases AT.mp hr with hr|hr
 ·exact h3 r (.tail _ (Ml _ hr))
 rcases AT.mp hr with hr|hr
 ·exact h3 r (.tail _ (Mr _ hr))
 exact off7 (htmp r hr)
theorem lO{nps lv:AE Pr}{l:AE Pr}{ps:AE (AX×Parsed)}(hlv:∀q∈lv,q∈nps)(hNq:∀q∈nps,q.1.length≤100∧q.2.length≤200∧(RD q.1).length≤1000)(hl:∀q∈l,q.2.length≤100∧(RD q.2).length≤1000∧q.1.length≤200)
  (hps:∀n pp,ps.lookup n=AK pp→pp.2.2.length≤200∧pp.2.1.length≤200∧pp.1.length≤500):∀q∈IX lv ps l,q.1.length≤1000∧q.2.length≤100∧(RD q.2).length≤1000:=by
 intro q hq;unfold IX at hq;rcases AT.mp hq with z|z
 ·obtain⟨q',hq',rfl⟩:=CO.mp ((DU _ _).mem_iff.mp z)
  obtain⟨e1,e2,e3⟩:=hNq q' (hlv q' hq')
  refine⟨?_,e1,e3⟩;unfold LD;split
  ·show(AA "xmlns").length≤1000;decide
  ·show("xmlns:"++q'.2).length≤1000
   have:("xmlns:"++q'.2).length=(AA "xmlns:").length+q'.2.length:=PF _ _
   have h6:(AA "xmlns:").length=6:=by decide
   exact(Nl λhn1=>fk [_,_,_] (.e V0 (.k 200) (.e V1 (.a V2 V0) (.e V2 (.k 6) (.e (.s (.k 1000)) V1 K0)))) rfl e2 (El this) (El h6) hn1)
 ·obtain⟨q',hq',rfl⟩:=CO.mp z
  obtain⟨e1,e2,e3⟩:=hl q' ((DU _ _).mem_iff.mp hq')
  unfold WN;split
  ·rename_i pp hpp
   obtain⟨f1,f2,f3⟩:=hps _ _ hpp;refine⟨?_,e1,e2⟩;split
   ·show pp.2.1.length≤1000;exact(Nl λhn1=>fk [_] (.e V0 (.k 200) (.e (.s (.k 1000)) V0 K0)) rfl f2 hn1)
   ·show pp.1.length≤1000;exact(Nl λhn1=>fk [_] (.e V0 (.k 500) (.e (.s (.k 1000)) V0 K0)) rfl f3 hn1)
  ·exact⟨by exact(Nl λhn1=>fk [_] (.e V0 (.k 200) (.e (.s (.k 1000)) V0 K0)) rfl e3 hn1),e1,e2⟩
theorem bP{lv l:AE Pr}{ps:AE (AX×Parsed)}:(IX lv ps l).length=lv.length+l.length:=by
 unfold IX;rw[BD,(DU _ _).length_eq,AN,AN,(DU _ _).length_eq]
theorem bQ(q:Pr):(KY q).length=q.1.length+(RD q.2).length+4:=by
 unfold KY;have e:∀a b:AX,(a++b).length=a.length+b.length:=PF;rw[e,e,e,e]
 have h1:(AA " ").length=1:=by decide
 have h2:(AA "=\"").length=2:=by decide
 have h3:(AA "\"").length=1:=by decide
 exact(DG (Nl λhn2=>fk [_,_,_,_,_] (.e V0 K1 (.e V1 (.k 2) (.e V2 K1 (.e (.a (.a (.a V3 V4) (.k 4)) K1) (.a (.a (.a (.a V0 V3) V1) V4) V2) K0)))) rfl (El h1) (El h2) (El h3) hn2) (Nl λhn3=>fk [_,_,_,_,_] (.e K1 V0 (.e (.k 2) V1 (.e K1 V2 (.e (.a (.a (.a (.a (.a V0 V3) V1) V4) V2) K1) (.a (.a V3 V4) (.k 4)) K0)))) rfl (Es h1) (Es h2) (Es h3) hn3))
theorem Ck{al:AE Pr}(hl:al.length≤50)(hq:∀q∈al,q.1.length≤1000∧q.2.length≤100∧(RD q.2).length≤1000):PZ AW (al.map KY)=BC:=by
 have hb:∀l:AE Pr,(∀q∈l,q.1.length≤1000∧q.2.length≤100∧(RD q.2).length≤1000)→((l.map KY).map (·.length)).sum≤2004*l.length:=by
  intro l
  induction l with
  |nil=>intro _;simp
  |cons q l ih =>
   intro h
   have:=ih λr hr=>h r (.tail _ hr)
   have h2:=h q (.head _)
   simp only[EC,AE.sum_cons,CD,bQ]
   exact(Nl λhn1=>fk [_,_,_,_] (.e V0 (.m 2004 V1) (.e V2 (.k 1000) (.e V3 (.k 1000) (.e (.a (.m 2004 (.s V1)) K1) (.a (.a (.a V2 V3) (.k 4)) V0) K0)))) rfl this h2.1 h2.2.2 hn1)
 have h2:=hb al hq
 have:=joinOk_filter (sep:=AW) (ss:=al.map KY) (pz:=λ_=>BC) (by rw[AN];exact(Nl λhn1=>fk [_,_] (.c 2005 V0 (.k 50) (.e V1 (.m 2004 V0) (.e (.s (.k 1048576)) (.a V1 V0) K0))) rfl hl h2 hn1)) (by decide)
 rw[cM.mpr (λ_ _=>rfl)] at this;rw[GG] at this;exact this
end Mine
namespace Mine
open PySem.Calls
section
variable{prog:BH}{w:BU}{A:BQ}{E:AC→AG→Prop}{s:AG}{h₀:CW}{L:AH}{m:AX→AM AC}{news:AE (AH×CY)}
noncomputable def eZ(w:BU)(A:BQ)(s:AG)(prog:BH)(E:AC→AG→Prop)(h₀:CW)(L:AH)(m:AX→AM AC)(news:AE (AH×CY))(v d:AH)(k1 u1 k2 u2 k3 u3 k4 u4 k5 u5 k6 u6 k7 u7:AX)(x1 y1 x2 y2 x3 y3 x4 y4 x5 y5 x6 y6 x7 y7:DW)(n:CC)(Q:AC→AG→Prop):Prop :=
 ∀(hh:A.handled=BN)(F:Fr h₀ L s.heap m)(N:AY h₀ L s.heap news)(hd:s.heap.get? d=AK (CK (IM w.params [((k1,x1),(u1,y1)),((k2,x2),(u2,y2)),((k3,x3),(u3,y3)),((k4,x4),(u4,y4)),((k5,x5),(u5,y5)),((k6,x6),(u6,y6)),((k7,x7),(u7,y7))]) n))(hn:(([((k1,x1),(u1,y1)),((k2,x2),(u2,y2)),((k3,x3),(u3,y3)),((k4,x4),(u4,y4)),((k5,x5),(u5,y5)),((k6,x6),(u6,y6)),((k7,x7),(u7,y7))]:AE ((AX×DW)×(AX×DW))).map (·.1.1)).Nodup)(hv:(v,{ cls:=.type "dict_items",data:=.fields #[.ref d] })∈news) (h:∀(B a1 a2 a3 a4 a5 a6 a7:AH)(t1 t2 t3 t4 t5 t6 t7:DW)(c:CC)h' tk,(@LT.lt CC WY B a1∧@LT.lt CC WY B a2∧@LT.lt CC WY B a3∧@LT.lt CC WY B a4∧@LT.lt CC WY B a5∧@LT.lt CC WY B a6∧@LT.lt CC WY B a7)→(∀q∈news,q.1<B)→Fr h₀ L h' m→AY h₀ L h' ((a1,DO #[.str k1 t1,.str u1 y1])::(a2,DO #[.str k2 t2,.str u2 y2])::(a3,DO #[.str k3 t3,.str u3 y3])::(a4,DO #[.str k4 t4,.str u4 y4])::(a5,DO #[.str k5 t5,.str u5 y5])::(a6,DO #[.str k6 t6,.str u6 y6])::(a7,DO #[.str k7 t7,.str u7 y7])::(B,listOf #[.ref a1,.ref a2,.ref a3,.ref a4,.ref a5,.ref a6,.ref a7] c)::news)→Q (.ref B) { s with heap:=h',toks:=tk }),AI (BE prog w) A (DK (.type "list") [.ref v]) Q E s
theorem zY:∀{w A s prog E h₀ L m news v d k1 u1 k2 u2 k3 u3 k4 u4 k5 u5 k6 u6 k7 u7 x1 y1 x2 y2 x3 y3 x4 y4 x5 y5 x6 y6 x7 y7 n Q},eZ w A s prog E h₀ L m news v d k1 u1 k2 u2 k3 u3 k4 u4 k5 u5 k6 u6 k7 u7 x1 y1 x2 y2 x3 y3 x4 y4 x5 y5 x6 y6 x7 y7 n Q:=by
 refine @(BK (GM KF)<|@(BK DM<|@(BK DM<|@(BK DM<|@(BK DM<|@(HF DM<|let_mvar%?n:=(λw A s prog E h₀ L m news v d k1 u1 k2 u2 k3 u3 k4 u4 k5 u5 k6 u6 k7 u7 x1 y1 x2 y2 x3 y3 x4 y4 x5 y5 x6 y6 x7 y7 n Q=>?_:∀a b c d e f g h i j k l m n o p q r s t u v w x y z a1 b1 c1 d1 e1 f1 g1 h1 i1 j1 k1 l1 m1 n1 o1,eZ a b c d e f g h i j k l m n o p q r s t u v w x y z a1 b1 c1 d1 e1 f1 g1 h1 i1 j1 k1 l1 m1 n1 o1);?n _ _ _ _ _ _ _ _ _ _ _ _ _ _ _ _ _ _ _ _ _ _ _ _ _ _ _ _ _ _ _ _ _ _ _ _ _ _ _ _ _))))))
 intro hh F N hd hn hv h;refine Du hh F N hd hn (by rw[BI];exact CP rfl) hv λB tl c h' tk ha hp hb hl F' N'=>?_;obtain⟨⟨a1,o1⟩,tl1,rfl,⟨t1,e1⟩,ha1⟩:=All2.uncons ha;dsimp only at e1;subst e1;obtain⟨⟨a2,o2⟩,tl2,rfl,⟨t2,e2⟩,ha2⟩:=All2.uncons ha1;dsimp only at e2;subst e2;obtain⟨⟨a3,o3⟩,tl3,rfl,⟨t3,e3⟩,ha3⟩:=All2.uncons ha2;dsimp only at e3;subst e3;obtain⟨⟨a4,o4⟩,tl4,rfl,⟨t4,e4⟩,ha4⟩:=All2.uncons ha3;dsimp only at e4;subst e4;obtain⟨⟨a5,o5⟩,tl5,rfl,⟨t5,e5⟩,ha5⟩:=All2.uncons ha4;dsimp only at e5;subst e5;obtain⟨⟨a6,o6⟩,tl6,rfl,⟨t6,e6⟩,ha6⟩:=All2.uncons ha5;dsimp only at e6;subst e6;obtain⟨⟨a7,o7⟩,tl7,rfl,⟨t7,e7⟩,ha7⟩:=All2.uncons ha6;dsimp only at e7;subst e7;obtain rfl:=All2.unnil ha7;exact h B a1 a2 a3 a4 a5 a6 a7 t1 t2 t3 t4 t5 t6 t7 c h' tk ⟨hb _ (.head _),hb _ (.tail _ (.head _)),hb _ (.tail _ (.tail _ (.head _))),hb _ (.tail _ (.tail _ (.tail _ (.head _)))),hb _ (.tail _ (.tail _ (.tail _ (.tail _ (.head _))))),hb _ (.tail _ (.tail _ (.tail _ (.tail _ (.tail _ (.head _)))))),hb _ (.tail _ (.tail _ (.tail _ (.tail _ (.tail _ (.tail _ (.head _)))))))⟩ hl F' N'
end
end Mine
namespace Mine
open PySem.Calls
section
variable{prog:BH}{w:BU}{A:BQ}{E:AC→AG→Prop}{s:AG}
theorem set_in{a:AH}{S:AX→CZ}{n:CC}{y:AX}{ty:DW}{Q:AC→AG→Prop}(hS:s.heap.SetOf (strKind prog w) a S n)
  (h:Q (.bool (S y)) { s with toks:=s.toks+1 }):AI (BE prog w) A (LO .In (.str y ty) (.ref a)) Q E s :=
 wpAny_inSet_of (knd:=strKind prog w) (k:=y) (by simp[EL,JD]) rfl hS h
theorem Eh{g h:CW}{a:AH}{S:AX→CZ}{n:CC}(k:∀b o,g.get? b=AK o→h.get? b=AK o)(x:g.SetOf (strKind prog w) a S n):h.SetOf (strKind prog w) a S n:=by
 obtain⟨o,ho,hO⟩:=MH.of x
 exact hO.at (k _ _ ho)
end
noncomputable def Leaves(prog:BH)(w:BU)(g:CW)(xt:AC)(S:AX→CZ):Prop :=
 (xt=.none∧∀y,S y=AU)∨∃sx n,xt=.ref sx∧g.SetOf (strKind prog w) sx S n
end Mine
namespace Mine
open PySem.Calls
open PySem.Builtin PySem.Builtin.Str PySem.Builtin.Int
set_option genSizeOf false in
set_option genInjectivity false in
structure WS where
 seen:CZ
 done:CZ
 decl:AE (AE Pr)
 nss:AE (AE Pr)
 pre:AE CZ
 data:AE AX
 out:AE AX
set_option genSizeOf false in
structure KS where
 seen:CZ
 done:CZ
 decl:AE (AE Pr)
 nss:AE (AE Pr)
 pre:AE CZ
set_option genSizeOf false in
inductive DC where
 |start (tag:AX) (attrs:AE Pr)
 |stop (tag:AX)
 |data (x:AX)
 |comment (x:AX)
 |pi (x:AX)
 |sns (p u:AX)
noncomputable def flat(lv:AE (AE Pr)):AE Pr:=lv.reverse.flatten
noncomputable def NZ{α:Type}(q:α)(l:AE (AE α)):AE (AE α):=l.dropLast++[l.getLastD []++[q]]
theorem MY{α:Type}(q:α)(l:AE (AE α))(a:AE α):NZ q (l++[a])=l++[a++[q]]:=by
 unfold NZ;rw[DT];simp[UD]
noncomputable def KS.last(k:KS):CZ:=k.pre.getLastD AU
noncomputable def KS.names(k:KS)(tag:AX)(attrs:AE Pr):AE Pr×AE (AX×Parsed):=declare (flat k.decl) (flat k.nss) (FJ GH (tag::attrs.map (·.1))) [] []
noncomputable def KS.step(k:KS):DC→KS
 |.start tag attrs=>{ seen:=BC,done:=k.done,decl:=k.decl++[(k.names tag attrs).1],nss:=k.nss++[[]],pre:=k.pre++[JI k.last attrs] }
 |.stop _=>{ seen:=k.seen,done:=decide (k.pre.length=2),decl:=k.decl.dropLast,nss:=k.nss.dropLast,pre:=k.pre.dropLast }
 |.sns p u=>{ k with nss:=NZ (u,p) k.nss }
 |_=>k
noncomputable def KS.flush(k:KS)(data:AE AX):AE AX:=JE k.seen (JG BC (FW AW data))
noncomputable def KS.endText(k:KS)(tag:AX):AX:=match qn (flat k.decl) (flat k.nss) (cutName tag).1 (cutName tag).2 with
 |some (t,_)=>t
 |none=>AW
noncomputable def KS.says(k:KS)(data:AE AX):DC→AE AX
 |.start tag attrs=>k.flush data++KH (k.names tag attrs).1 (k.names tag attrs).2 tag attrs
 |.stop tag=>k.flush data++["</"++k.endText tag++">"]
 |.comment x=>if k.done=BC then ["\n","<!--"++OI x++"-->"] else k.flush data++["<!--"++OI x++"-->"]
 |.pi x=>if k.done=BC then ["\n","<?"++"i"++" "++OI x++"?>"] else k.flush data++["<?"++"i"++" "++OI x++"?>"]
 |.sns _ _=>k.flush data
 |.data _=>[]
noncomputable def KS.holds(k:KS)(data:AE AX):DC→AE AX
 |.data x=>data++[x]
 |.comment _=>if k.done=BC then data else []
 |.pi _=>if k.done=BC then data else []
 |_=>[]
noncomputable def WS.core(w:WS):KS:=⟨w.seen,w.done,w.decl,w.nss,w.pre⟩
noncomputable def WS.tell(w:WS)(c:DC):WS :=
 ⟨(w.core.step c).seen,(w.core.step c).done,(w.core.step c).decl,(w.core.step c).nss,(w.core.step c).pre,w.core.holds w.data c,w.out++w.core.says w.data c⟩
noncomputable def WS.run(w:WS)(cs:AE DC):WS:=cs.foldl WS.tell w
noncomputable def KS.run(k:KS)(cs:AE DC):KS:=cs.foldl KS.step k
theorem RW(w:WS)(c:DC):(w.tell c).core=w.core.step c:=rfl
theorem YK(w:WS)(cs:AE DC):(w.run cs).core=w.core.run cs:=by
 induction cs generalizing w with
 |nil=>rfl
 |cons c cs ih=>exact(ih (w.tell c)).trans (by rw[RW];rfl)
theorem zM(cs:AE DC):∀{w v:WS},w.core=v.core→w.data=v.data→∃o,(w.run cs).out=w.out++o∧(v.run cs).out=v.out++o:=by
 induction cs with
 |nil=>exact λ_ _=>⟨[],by simp[WS.run],by simp[WS.run]⟩
 |cons c cs ih =>
  intro w v h1 h2
  have hc:(w.tell c).core=(v.tell c).core:=by rw[RW,RW,h1]
  have hd:(w.tell c).data=(v.tell c).data:=by
   show w.core.holds w.data c=v.core.holds v.data c;rw[h1,h2]
  obtain⟨o,e1,e2⟩:=ih hc hd;refine⟨w.core.says w.data c++o,?_,?_⟩
  ·show((w.tell c).run cs).out=_
   rw[e1];show w.out++w.core.says w.data c++o=_;rw[BX]
  ·show((v.tell c).run cs).out=_
   rw[e2];show v.out++v.core.says v.data c++o=_;rw[BX,h1,h2]
noncomputable def OK(l:AE (AE DC)):DC→AE (AE DC)
 |.start tag attrs=>l++[[.start tag attrs]]
 |.stop _=>l.dropLast
 |.sns p u=>NZ (.sns p u) l
 |_=>l
noncomputable def JR(cs:AE DC):AE (AE DC):=cs.foldl OK [[]]
noncomputable def gD:DC→Prop
 |.sns _ _=>True
 |_=>NF
inductive Levels (k₀:KS):AE (AE DC)→KS→Prop where
 |base (ss:AE DC) (hs:∀c∈ss,gD c):Levels k₀ [ss] (k₀.run ss)
 |level {L:AE (AE DC)} {k:KS} (tag:AX) (attrs:AE Pr) (ss:AE DC) (hs:∀c∈ss,gD c) (h:Levels k₀ L k):Levels k₀ (L++[.start tag attrs::ss]) (k.run (.start tag attrs::ss))
theorem Levels.run_eq{k₀:KS}{L:AE (AE DC)}{k:KS}(h:Levels k₀ L k):k₀.run L.flatten=k:=by
 induction h with
 |base ss hs=>simp
 |level tag attrs ss hs h ih=>rw[Ga];unfold KS.run at *;rw[FO,ih];simp
theorem Levels.sns{k₀:KS}{L:AE (AE DC)}{k:KS}(h:Levels k₀ L k)(p u:AX):Levels k₀ (NZ (.sns p u) L) (k.step (.sns p u)):=by
 cases h with
 |base ss hs =>
  have:=Levels.base (k₀:=k₀) (ss++[.sns p u]) (λc hc=>by
   rcases AT.mp hc with z|z
   ·exact hs c z
   ·rw[BB.mp z];trivial)
  rw[show NZ (DC.sns p u) [ss]=[ss++[.sns p u]] from MY _ [] _];unfold KS.run at *;rw[FO] at this;exact this
 |@level L k' tag attrs ss hs h =>
  have:=Levels.level tag attrs (ss++[.sns p u]) (λc hc=>by
   rcases AT.mp hc with z|z
   ·exact hs c z
   ·rw[BB.mp z];trivial) h
  rw[MY];unfold KS.run at *;rw[← DQ,FO] at this;exact this
theorem jT(ss:AE DC)(hs:∀c∈ss,gD c):∀(k:KS)(b:AE (AE Pr))(t:AE Pr),k.nss=b++[t]→(k.run ss).seen=k.seen∧(k.run ss).done=k.done∧(k.run ss).decl=k.decl∧(k.run ss).pre=k.pre∧∃t',(k.run ss).nss=b++[t']:=by
 induction ss with
 |nil=>exact λk b t h=>⟨rfl,rfl,rfl,rfl,t,h⟩
 |cons c ss ih =>
  intro k b t h
  cases c with
  |sns p u=>exact ih (λc hc=>hs c (.tail _ hc)) (k.step (.sns p u)) b (t++[(u,p)]) (by show NZ _ k.nss=_;rw[h,MY])
  |_=>exact(hs _ (.head _)).elim
theorem Levels.seen{k₀:KS}{L:AE (AE DC)}{k:KS}(h:Levels k₀ L k)(h0:∃b t,k₀.nss=b++[t])(hp:k₀.pre.length=1)(hd:k₀.done=AU):k.done=AU∧k.pre.length=L.length∧(2≤L.length→k.seen=BC)∧∃b t,k.nss=b++[t]:=by
 induction h with
 |base ss hs =>
  obtain⟨b,t,e⟩:=h0;obtain⟨e1,e2,e3,e4,t',e5⟩:=jT ss hs k₀ b t e;exact⟨e2.trans hd,by rw[e4,hp];rfl,λh=>absurd h (by simp),b,t',e5⟩
 |@level L k tag attrs ss hs h ih =>
  obtain⟨i1,i2,i3,b,t,i4⟩:=ih;obtain⟨e1,e2,e3,e4,t',e5⟩:=jT ss hs (k.step (.start tag attrs)) k.nss [] rfl;refine⟨e2.trans i1,?_,λ_=>e1,k.nss,t',e5⟩;show((k.step (.start tag attrs)).run ss).pre.length=_;rw[e4];show(k.pre++[_]).length=_;simp[i2]
theorem Levels.stop{k₀:KS}{L:AE (AE DC)}{k:KS}(h:Levels k₀ L k)(h0:∃b t,k₀.nss=b++[t])(hp:k₀.pre.length=1)(hd:k₀.done=AU)(h3:3≤L.length)(tag:AX):Levels k₀ L.dropLast (k.step (.stop tag)):=by
 cases h with
 |base ss hs=>simp at h3
 |@level L k' tg attrs ss hs h =>
  rw[DT];obtain⟨i1,i2,i3,b,t,i4⟩:=h.seen h0 hp hd;obtain⟨e1,e2,e3,e4,t',e5⟩:=jT ss hs (k'.step (.start tg attrs)) k'.nss [] rfl
  have hL:2≤L.length:=by simp at h3;exact h3
  have:(k'.run (.start tg attrs::ss)).step (.stop tag)=k':=by
   show((k'.step (.start tg attrs)).run ss).step (.stop tag)=k';generalize (k'.step (.start tg attrs)).run ss=k2 at e1 e2 e3 e4 e5;obtain⟨a1,a2,a3,a4,a5⟩:=k2;obtain⟨c1,c2,c3,c4,c5⟩:=k';simp only[KS.step] at e1 e2 e3 e4 e5 ⊢;simp only at i1 i2 i3;have hs:=i3 hL;subst e1 e2 e3 e4 e5;simp only[DT,KS.mk.injEq,TS,true_and];refine⟨hs.symm,?_⟩;rw[i1]
   simp[i2];exact(λhn1=>fk [_] (.e (.k 2) V0 (.e V0 K1 K0)) rfl hL (El hn1))
  rw[this];exact h
theorem bV{k₀:KS}(h0:∃b t,k₀.nss=b++[t])(hp:k₀.pre.length=1)(hd:k₀.done=AU):∀(cs:AE DC)(L:AE (AE DC))(k:KS),Levels k₀ L k→(∀a tag b,cs=a++.stop tag::b→3≤(a.foldl OK L).length)→Levels k₀ (cs.foldl OK L) (k.run cs):=by
 intro cs
 induction cs with
 |nil=>exact λ_ _ h _=>h
 |cons c cs ih =>
  intro L k h hs
  refine ih (OK L c) (k.step c) ?_ λa tag b e=>hs (c::a) tag b (by rw[e];rfl)
  cases c with
  |start tag attrs=>exact Levels.level tag attrs [] (λ_ z=>nomatch z) h
  |stop tag=>exact h.stop h0 hp hd (hs [] tag cs rfl) tag
  |sns p u=>exact h.sns p u
  |data x=>exact h
  |comment x=>exact h
  |pi x=>exact h
theorem VZ{w:WS}(h0:∃b t,w.nss=b++[t])(hp:w.pre.length=1)(hd:w.done=AU)(cs:AE DC)(hs:∀a tag b,cs=a++.stop tag::b→3≤(JR a).length):(w.run cs).core=(w.run (JR cs).flatten).core:=by
 have h:=bV (k₀:=w.core) h0 hp hd cs [[]] w.core (Levels.base [] (λ_ z=>nomatch z)) hs;rw[YK,YK];exact h.run_eq.symm
noncomputable def WS.hush(w:WS):WS:=⟨w.seen,w.done,w.decl,w.nss,w.pre,[],w.out++w.core.flush w.data⟩
noncomputable def RU(rw:CZ)(w:WS)(p u:AX):WS:=match rw with
 |true=>w.hush
 |false=>w.tell (.sns p u)
theorem ZQ(k:KS):k.flush []=[]:=IL
theorem dG(w:WS)(tag:AX)(attrs:AE Pr):w.hush.tell (.start tag attrs)=w.tell (.start tag attrs):=by
 show WS.mk _ _ _ _ _ _ ((w.out++w.core.flush w.data)++(w.hush.core.flush []++_))=WS.mk _ _ _ _ _ _ (w.out++(w.core.flush w.data++_))
 rw[ZQ,DB,BX];rfl
theorem uM(w:WS):w.hush.core=w.core:=rfl
theorem vI{w v:WS}(h0:∃b t,w.nss=b++[t])(hp:w.pre.length=1)(hd:w.done=AU)(hv:v.core=w.core)(hvd:v.data=[])(cs rest:AE DC)(hs:∀a tag b,cs=a++.stop tag::b→3≤(JR a).length)(hst:∀(u:WS),u.data=[]→(u.run (JR cs).flatten).data=[]) :
  (((w.run cs).hush).run rest).out.drop (w.run cs).hush.out.length=((v.run (JR cs).flatten).run rest).out.drop (v.run (JR cs).flatten).out.length:=by
 have e1:(w.run cs).hush.core=(v.run (JR cs).flatten).core:=by
  rw[uM,VZ h0 hp hd cs hs,YK,YK,hv]
 obtain⟨o,e2,e3⟩:=zM rest (w:=(w.run cs).hush) (v:=v.run (JR cs).flatten) e1 (hst v hvd).symm;rw[e2,e3,AE.drop_left,AE.drop_left]
end Mine
namespace Mine
open PySem.Calls
section
variable{prog:BH}{w:BU}{A:BQ}{E:AC→AG→Prop}{s:AG}{h₀:CW}{L:AH}{m:AX→AM AC}{news:AE (AH×CY)}
noncomputable def QY(y:AX)(ks:AE AX):AE AX:=if y∈ks then ks else y::ks
theorem oX{a:AH}{o:CY}{ks:AE AX}{y:AX}{ty:DW}{Q:CZ→AG→Prop}(ho:s.heap.get? a=AK o)(hT:MI prog w o ks)(hz:ks.length<100)
  (h:∀b h' o',IF a s.heap h'→h'.get? a=AK o'→MI prog w o' (QY y ks)→Q b { s with heap:=h' }):AI (BE prog w) A (YM a (.str y ty) ((strKind prog w).hash y)) Q E s:=by
 by_cases hy:y∈ks
 ·have hTT:=hT
  obtain⟨es,ep,t,l,hex,hd,hel,hl,hp,hf,hled,hpl,hcl⟩:=hT;have hsz:es.size=ks.length:=MI.size hl hp;have hsb:XC=4096:=rfl
  have hb:es.size<XC:=by rw[hsz,hsb];exact AZ hz (by decide)
  have hkey:(strKind prog w).is y (.str y ty)=BC:=by simp[EL,JD]
  unfold YM vO
  refine CI (Wb (GY ho hd hf ?_))
  dsimp only;rw[byScan_of (knd:=strKind prog w) rfl hb hel];simp only[↓reduceIte];unfold setAddByScan;refine Wb ?_
  refine Wb (JA ?_)
  refine Wb (wpAny_setScan_of hkey ho hd hf hel ?_)
  have hsome:∃j,xD (λe=>(strKind prog w).is y e.2) es.toList=AK j:=by
   cases hr:xD (λe=>(strKind prog w).is y e.2) es.toList with
   |some j=>exact⟨j,rfl⟩
   |none =>
    obtain⟨p,hpm,e⟩:=CO.mp (hp.mem_iff.mpr hy)
    have hm:(.str p.1 p.2:AC)∈es.toList.map (·.2):=by rw[hl];exact BV (f:=λp:AX×DW=>EW p.1 p.2) hpm
    obtain⟨e1,he1,e2⟩:=CO.mp hm;have:=wQ.mp hr e1 he1;rw[e2,e] at this;simp[EL,JD] at this
  obtain⟨j,hj⟩:=hsome;rw[hj];dsimp only
  refine Wp (Wp ?_)
  have:=h AU s.heap o (IF.refl a s.heap) ho (by unfold QY;rw[DJ hy];exact hTT)
  exact this
 ·exact ZX ho hT hy hz λh' o' a1 a2 a3=>h BC h' o' a1 a2 (by unfold QY;rw[CA hy];exact a3)
theorem MI.cls{o:CY}{ks:AE AX}(h:MI prog w o ks):o.cls=.type "set":=by obtain⟨_,_,_,_,he,_⟩:=h;exact he.1
theorem tR{a:AH}{o:CY}{ks:AE AX}{y:AX}{ty:DW}{Q:AC→AG→Prop}(ho:s.heap.get? a=AK o)(hT:MI prog w o ks)(hz:ks.length<100)
  (h:∀h' o' tk,IF a s.heap h'→h'.get? a=AK o'→MI prog w o' (QY y ks)→Q .none { s with heap:=h',toks:=tk }):AI (BE prog w) A (DK (.builtin "set.add") [.ref a,.str y ty]) Q E s:=by
 refine FM F.slot_set_add ⟨_,ho,hT.cls⟩ F.entry_set_add ?_ (F.args_set_add_2 _ _)
 unfold IE.«set.add» IE.Frozenset.oneOther;simp only[AE.isEmpty_nil,bind_assoc];unfold IE.Frozenset.addrOf setAdd
 refine Wb (Wp ?_)
 try dsimp only
 refine Wb (Wp ?_)
 try dsimp only
 refine Wb ?_;refine CI ?_
 refine Wb (wpAny_pyHash_str ?_)
 refine oX (s:={ s with toks:=s.toks+1 }) ho hT hz λb h' o' a1 a2 a3=>?_;show AI _ _ (ret DD) _ _ _;exact Wp ⟨_,rfl,h h' o' _ a1 a2 a3⟩
theorem oQ{l:AE (AX×DW)}{i:CC}{a:AX}(h:(l.map (·.1))[i]?=AK a):∃t,(AF l).getD i .none=.str a t:=by
 rw[DH] at h
 cases e:l[i]? with
 |none=>rw[e] at h;cases h
 |some p =>
  rw[e] at h;refine⟨p.2,?_⟩;unfold AF;rw[EX,DH,e];rw[← HB h];rfl
theorem qK{D:AH}{n:CC}{l:AE (AX×DW)}{P:TD→AG→Prop}(F:Fr h₀ L s.heap m)(N:AY h₀ L s.heap news)(nD:s.heap.get? D=AK (listOf (AF l).toArray n))(nL:D≠L)(n0:h₀.get? D=BN)(hnD:∀p∈news,p.1≠D)(h2:2≤l.length)(h4:l.length≤4)
  (h:∀(out:AE (AX×DW))c h',out.map (·.1)=FJ LA (l.map (·.1))→Fr h₀ L h' m→AY h₀ L h' ((D,listOf (AF out).toArray c)::news)→P (.done (.ret .none)) { s with heap:=h' }):AI (BE prog w) A (IE.«list.sort» ⟨[.ref D],[]⟩) P E s:=by
 have hvl:(AF l).length=l.length:=by unfold AF;rw[AN]
 have hml:(l.map (·.1)).length=l.length:=AN _;refine kas_list_sort (vs:=AF l) (T:=.type "str") (news:=news) F N nD nL n0 hnD (by rw[hvl];exact h2) (by rw[hvl];exact TP h4 (by decide)) (λe1 h' _ _ v hv=>?_) (by decide) (by decide) λe1 h' F' N'=>?_
 ·obtain⟨p,_,rfl⟩:=CO.mp hv
  exact .now
 rw[hvl,← hml];refine SZ LB (l:=l.map (·.1)) (I:=λs''=>s''={ s with heap:=h' }) (by rw[hml];exact h2) (by rw[hml];exact h4) (λi j a b C' s'' hi hj hI hC=>?_) rfl λp s'' hpp hout hI=>?_
 ·subst hI
  obtain⟨t1,e1⟩:=oQ hi;obtain⟨t2,e2⟩:=oQ hj;unfold Hn;rw[e1,e2]
  exact kas_lt_str (hC _ rfl)
 ·subst hI
  have hin:∀i∈p.toList,i<l.length:=λi hi=>by
   have:=NI.mp (hpp.mem_iff.mp hi)
   rw[hml] at this;exact this
  have ev:=VC l (λp=>EW p.1 p.2) p.toList hin;refine Bi F' N' (.head hnD) λh5 c5 F5 N5=>?_;have ev':(p.toList.map λi=>(AF l).getD i .none)=AF (p.toList.filterMap λi=>l[i]?):=ev;rw[ev'] at N5;obtain⟨o1,o2⟩:=hout _ rfl;refine h (p.toList.filterMap λi=>l[i]?) c5 h5 ?_ F5 N5;rw[← RN LB o1 o2];exact UI l (·.1) p.toList
theorem mK{D:AH}{n:CC}{vs:AE AC}{P:TD→AG→Prop}(F:Fr h₀ L s.heap m)(Nr:AY h₀ L s.heap news)(nD1:s.heap.get? D=AK (listOf vs.toArray n))(nL:D≠L)(n0:h₀.get? D=BN)(hnD:∀p∈news,p.1≠D)(h2:vs.length<2)
  (h:∀c h',Fr h₀ L h' m→AY h₀ L h' ((D,listOf vs.toArray c)::news)→P (.done (.ret .none)) { s with heap:=h' }):AI (BE prog w) A (IE.«list.sort» ⟨[.ref D],[]⟩) P E s:=by
 have nD:s.heap.get? D=AK (listOf vs.toArray n)∧D≠L∧h₀.get? D=BN:=⟨nD1,nL,n0⟩
 have s1:=DR s.heap D (ED λ_=>(#[]:CE AC))
 obtain⟨e1,ho1⟩:∃e1,(s.heap.update D (ED λ_=>(#[]:CE AC))).get? D=AK (EI "list" #[] e1):=⟨_,MJ nD.1 λ_=>#[]⟩;have F1:=mE F s1 nD.2.1 nD.2.2;have N1:=kas_news Nr s1 hnD;rw[list_sort_plain]
 refine Wb (JF nD.1 rfl ?_)
 refine Wb (KZ nD.1 rfl ?_ (by rw[CG,BI];exact(Nl λhn1=>fk [_] (.e (.s V0) (.k 2) (.e (.s (.k 16777216)) V0 K0)) rfl h2 hn1)) (EH _))
 refine Wb (VG ho1 rfl ?_)
 refine Wb (bZ ?_ (by show vs.length≤_;rw[BI];exact(Nl λhn1=>fk [_] (.e (.s V0) (.k 2) (.e (.s (.k 16777216)) V0 K0)) rfl h2 hn1)))
 refine Wb (HC ?_ (EH _))
 refine CI ?_;dsimp only
 have h2':vs.toArray.size<2:=by rw[CG];exact h2
 rw[DJ h2',DJ h2']
 refine Wb (Wp ?_)
 refine Wb (eP ?_)
 dsimp only
 have hz:(arrOf (Gs general' (vs.toArray.zip vs.toArray) #[] 7 BN)).map (·.2)=vs.toArray:=by
  show(vs.toArray.zip vs.toArray).map (·.2)=vs.toArray;apply WF.mp;rw[CE.toList_map,ksk_zip];show(vs.zip vs).map (·.2)=vs;rw[AE.map_snd_zip (CR _)]
 rw[hz]
 have ho6:=AV (EI "list" #[] 0) (AV (EI "tuple" vs.toArray 0) ho1)
 refine Wb (VG ho6 rfl ?_)
 have s5:=DR (((s.heap.update D (ED λ_=>(#[]:CE AC))).push (EI "tuple" vs.toArray 0)).push (EI "list" #[] 0)) D (ED λ_=>vs.toArray)
 obtain⟨c5,hc5⟩:∃c5,((((s.heap.update D (ED λ_=>(#[]:CE AC))).push (EI "tuple" vs.toArray 0)).push (EI "list" #[] 0)).update D (ED λ_=>vs.toArray)).get? D=AK (listOf vs.toArray c5):=⟨_,MJ ho6 λ_=>vs.toArray⟩
 refine Wb (KZ ho6 rfl ?_ (EH _) (by rw[CG,BI];exact(Nl λhn1=>fk [_] (.e (.s V0) (.k 2) (.e (.a (.s (.k 16777216)) K1) V0 K0)) rfl h2 hn1)))
 simp only[UX,IV,WX];refine Wp ?_;refine h c5 _ (mE ((F1.push _).push _) s5 nD.2.1 nD.2.2) λp hp=>?_;rcases AP.mp hp with rfl|hp
 ·exact⟨hc5,nD.2⟩
 ·exact⟨(s5.2 _ (hnD p hp)).trans (AV _ (AV _ (N1 p hp).1)),(N1 p hp).2⟩
theorem zX{a:AH}{oS:CY}{ks:AE AX}{Q:AC→AG→Prop}(hh:A.handled=BN)(F:Fr h₀ L s.heap m)(N:AY h₀ L s.heap news)(hm:(a,oS)∈news)(hT:MI prog w oS ks)(h1:1≤ks.length)(h4:ks.length≤4)
  (h:∀(D:AH)(out:AE (AX×DW))c(s':AG),s'.gens=s.gens→s'.os=s.os→out.map (·.1)=FJ LA ks→(∀p∈news,p.1<D)→Fr h₀ L s'.heap m→AY h₀ L s'.heap ((D,listOf (AF out).toArray c)::news)→Q (.ref D) s'):AI (BE prog w) A (DK (.builtin "sorted") [.ref a]) Q E s:=by
 have hne:ks≠[]:=λe=>by rw[e] at h1;simp at h1
 refine wN Fo Dj By (args_sorted1 _) ?_;unfold IE.«sorted»
 refine Wb (m:=Gu "sorted" 1 1 _) (Wp ?_)
 refine Wb (aB (A:=A.in1) hh (N _ hm).1 hT.cls hT hne (TP h4 (by decide)) λl h' d tk hp hk=>?_)
 have hll:l.length=ks.length:=by rw[← AN (f:=(·.1)),hp.length_eq]
 refine Wb (HC ?_ (by simp[AF];rw[BI,hll];exact AQ h4 (by decide)))
 have F1:Fr h₀ L (h'.push (EI "list" (AF l).toArray 0)) m:=(F.keeps hk).push _;have hLD:L<h'.objs.size:=(F.keeps hk).ns.lt
 have hD0:h₀.get? h'.objs.size=BN:=EA (AQ F.above (EU hLD))
 have hnD:∀p∈news,p.1<h'.objs.size:=λp hp=>BS (hk _ _ (N p hp).1)
 have N1:AY h₀ L (h'.push (EI "list" (AF l).toArray 0)) news:=λp hp=>⟨AV _ (hk _ _ (N p hp).1),(N p hp).2⟩;have hoD:(h'.push (EI "list" (AF l).toArray 0)).get? h'.objs.size=AK (EI "list" (AF l).toArray 0):=CH _ rfl
 have hsort:FJ LA (l.map (·.1))=FJ LA ks:=RN LB ((DU _ _).trans hp) (KR LB _)
 refine Wb (CI (FM bU ⟨_,hoD,rfl⟩ ZC ?_ (tM _)))
 by_cases h2:l.length<2
 ·refine mK (vs:=AF l) (s:={ s with heap:=h'.push (EI "list" (AF l).toArray 0),drawn:=d,toks:=tk }) F1 N1 hoD (AJ hLD) hD0 (λp hp=>AO (hnD p hp)) (by unfold AF;rw[AN];exact h2) λc h2' F2 N2=>⟨_,rfl,Wp ⟨_,rfl,?_⟩⟩
  exact h _ l c _ rfl rfl (by rw[← hsort,aK _ (by rw[AN];exact h2)]) hnD F2 N2
 ·refine qK (s:={ s with heap:=h'.push (EI "list" (AF l).toArray 0),drawn:=d,toks:=tk }) F1 N1 hoD (AJ hLD) hD0 (λp hp=>AO (hnD p hp)) (BJ h2) (by rw[hll];exact h4) λout c h2' ho F2 N2=>⟨_,rfl,Wp ⟨_,rfl,?_⟩⟩
  exact h _ out c _ rfl rfl (ho.trans hsort) hnD F2 N2
end
end Mine
namespace Mine
open PySem.Calls
open PyProof.Rows.LCg
section
variable{prog:BH}{w:BU}{A:BQ}{E:AC→AG→Prop}{s:AG}{h₀:CW}{L:AH}{m:AX→AM AC}{news:AE (AH×CY)}{env:XH}{os:CU}
theorem fT{elt target iter ifs rest scope pos it acc}{env:XH}{R:FE→AG→Prop}
  (h0:DV (BE prog w) A (.compLoop (.SetComp elt (⟨target,iter,ifs,0⟩::rest) scope pos) 0 it acc env) R s)
  (h:AI (BE prog w) A (IY it) (λit' s'=>DV (BE prog w) A (.compLoop (.SetComp elt (⟨target,iter,ifs,0⟩::rest) scope pos) 0 it' acc env) R s') (SU (BE prog w) A env λx s'=>R (.error x) s') s) :
  DV (BE prog w) A (.compStart (.SetComp elt (⟨target,iter,ifs,0⟩::rest) scope pos) 0 it acc env) R s:=by
 refine pY ?_;show AI _ _ ((compStart (.SetComp elt (⟨target,iter,ifs,0⟩::rest) scope pos) 0 it acc env).onRaise (λx=>do Ax x env;PJ theWindowsPlace)) _ _ s;refine wpAny_notedAt ?_;unfold compStart;show AI _ _ (ask>>=_) _ _ s
 refine Wb (LQ (wpAny_ite ?_))
 split
 ·first
   |exact Wb (Wp (Wp (TC rfl h0)))
   |exact Wp (TC rfl h0)
 ·first
   |exact Wb (JA (Wb (EQ (Wb (DI h (λit' s' h'=>Wp (TC rfl h')) λ_ _ x=>x)))))
   |(refine Wb (JA ?_);show AI _ _ (PJ iter.pos>>=_) _ _ s;exact Wb (EQ (Wb (DI h (λit' s' h'=>Wp (TC rfl h')) λ_ _ x=>x))))
noncomputable def SX(f:AX→AX)(l:AE AX):AE AX:=l.foldl (λks n=>QY (f n) ks) []
theorem vP(f:AX→AX)(l:AE AX)(n:AX):SX f (l++[n])=QY (f n) (SX f l):=by unfold SX;rw[FO];rfl
theorem xJ(y:AX)(ks:AE AX):(QY y ks).length≤ks.length+1:=by
 unfold QY;split
 ·exact QW _
 ·exact CR _
theorem nU(f:AX→AX)(l:AE AX):(SX f l).length≤l.length:=by
 have h:∀(l:AE AX)(ks:AE AX),(l.foldl (λks n=>QY (f n) ks) ks).length≤ks.length+l.length:=by
  intro l
  induction l with
  |nil=>exact λks=>CR _
  |cons n l ih =>
   intro ks
   have h1:=ih (QY (f n) ks)
   have h2:=xJ (f n) ks;show(l.foldl _ (QY (f n) ks)).length≤_
   rw[CD];exact(BJ λhn1=>fk [_,_,_,_] (.c 1 (.v 0) (.a (.v 1) (.v 2)) (.c 1 (.v 1) (.a (.v 3) (.k 1)) (.c 1 (.a (.a (.v 3) (.a (.v 2) (.k 1))) (.k 1)) (.v 0) (.k 0)))) rfl h1 h2 hn1)
 have:=h l [];rw[GA,XN] at this;exact this
noncomputable def rZ(prog:BH)(w:BU)(A:BQ)(E:AC→AG→Prop)(env:XH)(elt iter:EK)(x:AX)(px:OP)(scope:KO)(pos:OP)(Q:AC→AG→Prop)(xv:AC)(s₁:AG):Prop :=
 AI (BE prog w) A (IY xv) (λit s₂=>AI (BE prog w) A (Cy (.type "set")) (λacc s₃=>AI (BE prog w) A (TU scope env.globals [] [] env.qual BN .none (AK env)) (λcenv s₄ =>
   DV (BE prog w) A (.compStart (.SetComp elt [⟨.Name x px,iter,[],0⟩] scope pos) 0 it acc { cenv with scope:=relabel scope env }) (compPost (BE prog w) A E BN Q acc cenv.locals) s₄) E s₃) E s₂) E s₁
theorem Dq{elt iter:EK}{x:AX}{px pos:OP}{scope:KO}{Q:AC→AG→Prop}(hclos:QD scope env=pure [])(hfs:∀x,HJ iter env x=pure x)(hkind:scope.kind=.function)(hnames:∀x∈scope.names,x.2=.local→scope.names.lookup x.1=AK .local)
  (h:AI (BE prog w) A (eval iter env) (rZ prog w A E env elt iter x px scope pos Q) E s):AI (BE prog w) A (eval (.SetComp elt [⟨.Name x px,iter,[],0⟩] scope pos) env) Q E s:=by
 show AI _ A (comprehension (.SetComp elt [⟨.Name x px,iter,[],0⟩] scope pos) scope env _ (Cy (.type "set")) AU (eval iter env)) _ _ s;exact JH (use:=BN) rfl hfs hclos hkind hnames h
noncomputable def newS(w:BU):CY:={ cls:=.type "set",dict:=BN,data:=.set #[] 0 (.fresh 0 0 (!w.params.followText "set-order")) }
theorem vB{Q:AC→AG→Prop}(h:Q (.ref s.heap.objs.size) { s with heap:=s.heap.push (newS w) }):AI (BE prog w) A (Cy (.type "set")) Q E s:=by
 unfold Cy TX
 refine Wb (Wb (LQ (Wp ?_)))
 dsimp only;simp only[newObj]
 exact Wb (wpAny_alloc (Wp h))
theorem zP{elt iter:EK}{x:AX}{px pos:OP}{scope:KO}{Q:AC→AG→Prop}{ax:AH}{l:AE (AX×DW)}{f:AX→AX}{c1:CC}
  (hcell:∀y∈scope.names,y.2≠.cell) (hkind:scope.kind=.function) (hx1:scope.names.lookup x=AK .local) (hd1:(x==("__debug__":AX))=AU) (hh:A.handled=BN) (F:Fr h₀ L s.heap m) (N:AY h₀ L s.heap news) (ho:s.os=os) (hb:BP s.gens)
  (hax:(ax,listOf (AF l).toArray c1)∈news) (hl:l.length≤50)
  (hE:∀(s1:AG)(C:AH)(own:AE (AH×CY))(oC:CY)(m₂:AX→AM AC)(n:AX)(tn:DW)(Q':AC→AG→Prop)(E':AC→AG→Prop),n∈l.map (·.1)→Fr h₀ L s1.heap m→AY h₀ L s1.heap ((C,oC)::own)→tI oC m₂→m₂ x=AK (.str n tn) →
   (∀t' tk h',Fr h₀ L h' m→AY h₀ L h' ((C,oC)::own)→Q' (.str (f n) t') { s1 with heap:=h',toks:=tk })→AI (BE prog w) A (eval elt (EY scope [] C env)) Q' E' s1)
  (fin:∀(s1:AG)D oD,MI prog w oD (SX f (l.map (·.1)))→(∀p∈news,p.1≠D)→Fr h₀ L s1.heap m→AY h₀ L s1.heap ((D,oD)::news)→s1.os=os→BP s1.gens→Q (.ref D) s1) :
  rZ prog w A E env elt iter x px scope pos Q (.ref ax) s:=by
 unfold rZ
 refine WP (o0:=newS w) (target:=.Name x px) (ipos:=iter.pos) (cl:=[])
  (emit:=λD C=>do
   let v ← eval elt (EY scope [] C env)
   PJ elt.pos
   let _ ← DK (.builtin "set.add") [.ref D,v])
  (its:=(AF l).toArray) (ax:=ax) (h₀:=h₀) (L:=L) (m:=m) (news:=news) (os:=os)
  (λD rem own=>∃l1 l2 oD,l=l1++l2∧rem=AF l2∧own=(D,oD)::news∧MI prog w oD (SX f (l1.map (·.1)))∧(∀p∈news,p.1≠D))
  (λ_ v m₂=>m₂ x=AK v)
  (λs Q h=>vB h) rfl (λI D C R s h1 h2=>fT h1 h2) (λ_ _ _=>rfl) (λ_ _ _ _ _ _ z=>z) (λ_ _ _=>rfl) ?_ ?_ hcell hkind hh F N ho hb ?_ ?_ ?_ ?_ ?_ ?_
 ·intro I i v s1 Q' E' hit hv hq
  exact Wp hq
 ·intro s1 v rem own D C mC Q' E' hJ hk ho hns h
  exact FP (EN (KU hx1) hns (λh₃ hn₃ hs₃=>h h₃ _ _ hn₃ (by simp) hs₃.extBut) (by simp[EY,relabel,hkind]))
 ·exact .inr ⟨_,hax,rfl,_,rfl⟩
 ·simp[AF];rw[BI];exact AQ hl (by decide)
 ·intro D hD
  exact⟨[],l,newS w,rfl,rfl,rfl,oY _ rfl,λp hp=>AO (hD p hp)⟩
 ·rintro D rem own ⟨l1,l2,oD,_,_,rfl,_⟩
  exact .inr ⟨_,.tail _ hax,rfl,_,rfl⟩
 ·rintro s1 D v rem own I oI C oC m₂ E' ⟨l1,l2,oD,e1,e2,rfl,hT,offD⟩ hC hB F1 N1 off hIC ho1 hb1
  obtain⟨n,tn,l2',rfl,rfl,rfl⟩:∃n tn l2',l2=(n,tn)::l2'∧v=.str n tn∧rem=AF l2':=by
   cases l2 with
   |nil=>cases e2
   |cons q l2'=>obtain⟨n,tn⟩:=q;injection e2 with e1 e2;exact⟨n,tn,l2',rfl,e1,e2⟩
  have hnm:n∈l.map (·.1):=by rw[e1];simp
  have hoD:=off (D,oD) (.head _)
  have hl1:l1.length≤50:=by have:=BW EG e1;simp at this;exact(BJ λhn1=>fk [_,_,_] (.c 1 (.v 0) (.k 50) (.c 1 (.a (.v 1) (.a (.v 2) (.k 1))) (.v 0) (.c 1 (.a (.k 50) (.k 1)) (.v 1) (.k 0)))) rfl hl (ET (Bc this)) hn1)
  refine Wb (hE s1 C ((I,oI)::(D,oD)::news) oC m₂ n tn _ _ hnm F1 (AY.sub N1 (Fc (.tail _ (.head _)) (Fc (.head _) (λq hq=>.tail _ (.tail _ hq))))) hC hB λt' tk h' F2 N3=>?_)
  refine Wb (EQ ?_)
  have N2:AY h₀ L h' ((I,oI)::(C,oC)::(D,oD)::news):=AY.sub N3 (Fc (.tail _ (.head _)) (Fc (.head _) (λq hq=>.tail _ (.tail _ hq))))
  refine Wb (tR (s:={ s1 with heap:=h',toks:=tk }) (N2 (D,oD) (.tail _ (.tail _ (.head _)))).1 hT (TP (nU _ _) (by rw[AN];exact(CC.lt_of_not_le λhn1=>fk [_] (.c 1 (.v 0) (.k 50) (.c 1 (.k 100) (.v 0) (.k 0))) rfl hl1 hn1))) λh2 o2 tk2 hs2 ho2 hT2=>Wp ?_)
  refine⟨(D,o2)::news,⟨l1++[(n,tn)],l2',o2,by rw[e1,BX];rfl,rfl,rfl,by rw[BF];exact vP f _ n ▸ hT2,offD⟩,F2.change hs2 (N2 (D,oD) (.tail _ (.tail _ (.head _)))).2.1 (N2 (D,oD) (.tail _ (.tail _ (.head _)))).2.2,?_,?_,ho1,hb1⟩
  ·intro p hp
   have keep:∀{q:AH×CY},q∈(I,oI)::(C,oC)::(D,oD)::news→q.1≠D→h2.get? q.1=AK q.2∧q.1≠L∧h₀.get? q.1=BN:=λhq hne=>⟨(hs2.2 _ hne).trans (N2 _ hq).1,(N2 _ hq).2⟩;rcases AP.mp hp with rfl|hp
   ·exact keep (.head _) (BG hoD.1)
   rcases AP.mp hp with rfl|hp
   ·exact keep (.tail _ (.head _)) (BG hoD.2)
   rcases AP.mp hp with rfl|hp
   ·exact⟨ho2,(N2 (D,oD) (.tail _ (.tail _ (.head _)))).2⟩
   ·exact keep (.tail _ (.tail _ (.tail _ hp))) (offD p hp)
  ·intro p hp
   rcases AP.mp hp with rfl|hp
   ·exact hoD
   ·exact off p (.tail _ hp)
 ·rintro s1 D C own mC ⟨l1,l2,oD,e1,e2,rfl,hT,offD⟩ F1 N1 hns hC0 hCL hoC ho1 hb1
  have:l2=[]:=Gc.mp e2.symm;subst this;rw[CQ] at e1;subst e1;refine⟨mC,hns,λh' hs'=>fin _ D oD hT offD (F1.change hs' hCL hC0) (λp hp=>⟨(hs'.2 _ (hoC p hp)).trans (N1 p hp).1,(N1 p hp).2⟩) ho1 hb1⟩
end
end Mine
namespace Mine
open PySem.Calls
noncomputable def Bb(tabs:AE (AH×AH))(s₁:AG)(r:FE)(s':AG):Prop :=
 r=.ok (.ret (.bool BC))∧(∀b o,(Hm s₁.heap tabs).get? b=AK o→s'.heap.get? b=AK o)∧s'.os=s₁.os∧BP s'.gens∧GrownAll tabs s'.heap
theorem xU{M:QV}{A:BQ}{cd:Code}{s s₁:AG}{cw:ClaimW}{cl:AX→AM AH}{zt:ER→AM AC}{args:AE WData}{tabs:AE (AH×AH)}(hT:TabsAt tabs s₁.heap)(hr:∀a x,cw.raises a x=AU)(hp:cw.post args (.bool BC) args=BC)
  (h:DV M A cd (Bb tabs s₁) s):DV M A cd (GoodWG cw cl zt args s₁) s:=by
 refine codeAny_mono h λr s' z=>?_;obtain⟨hv,hk,hos,hg,hgr⟩:=z
 have two:∀b o,s₁.heap.get? b=AK o→s'.heap.get? b=AK o∨(isCodeTable s₁.heap b∧o=NS #[]∧∃ps,s'.heap.get? b=AK (NS ps)):=by
  intro b o e
  by_cases hb:b∈tabs.map (·.2)
  ·right
   obtain⟨q,hq,rfl⟩:=CO.mp hb;obtain⟨c1,c2⟩:=hT q hq;rw[c2] at e;injection e with e;exact⟨(c1.tab c2).isCodeTable,e.symm,hgr.get q hq⟩
  ·exact .inl (hk b o (ghost_ne e hb))
 subst hv;refine⟨.inl ⟨.bool BC,.bool BC,[],rfl,λc=>hr args c,.bool ..,hp,λ_=>⟨.nil,λ_ z=>nomatch z⟩⟩,⟨λb o e=>?_,λb o e=>?_⟩,hos,hg⟩
 ·rcases two b o e with z|⟨z1,rfl,ps,z3⟩
  ·exact .inl z
  ·exact .inr (.inl ⟨z1,rfl,#[],ps,rfl,by simpa using z3⟩)
 ·rcases two b o e with z|⟨_,_,ps,z3⟩
  ·exact⟨o,z⟩
  ·exact⟨_,z3⟩
end Mine
namespace Mine
open PySem.Calls
local macro_rules | `(tactic| walk_at "ite")=>`(tactic| first | refine HE (by with_reducible assumption) ?_ | refine HA (CL (by with_reducible assumption)) ?_ | refine HE (Eq.refl BC) ?_ | refine HA DE ?_ | refine HE CZ.not_false ?_ | refine HA jM ?_ | (k_closed;k_dflt (first | refine HE (by decide) ?_ | refine HA (by decide) ?_)) | ((refine HX ?_ ?_<;>intro hq)<;>try(exfalso;revert hq;decide;done)))
local macro_rules | `(tactic| walk_at "execs cons")=>`(tactic| refine BR ?_)
local macro_rules | `(tactic| walk_at "execs nil")=>`(tactic| refine OO ?_)
local macro_rules | `(tactic| walk_at "in")=>`(tactic| (intros;(try k_sweep)))
local macro_rules | `(tactic| walk_at "storeName")=>`(tactic| (k_dflt (refine TZ (by k_asm) (by k_asm) ?_ (by rfl) (by rfl);k_whole);walk_at "eps";walk_at "in"))
local macro_rules | `(tactic| walk_at "go1")=>`(tactic| first | (k_unfold;(try dsimp only)) | ((with_reducible first | show AI _ _ _ _ _ _ | show(if _ then _ else _) | show _∧_ | show _≤DA);walk1))
local macro_rules | `(tactic| walk_at "go")=>`(tactic| first | walk_at "go1" |(dsimp only;walk_at "go1"))
local macro_rules | `(tactic| walk_at "l_mem")=>`(tactic| repeat'(first | exact BA _ | refine Fc (by k_mem) ?_))
local macro_rules | `(tactic| walk_at "l_ne")=>`(tactic| ((try dsimp only);first | (with_reducible assumption) | (exact BG (by with_reducible assumption)) | k_ne))
local macro_rules | `(tactic| walk_at "l_allne")=>`(tactic| first | (with_reducible assumption) | exact BA _ | (refine Fc ?_ ?_;walk_at "l_ne";walk_at "l_allne"))
local macro_rules | `(tactic| walk_at "l_notin")=>`(tactic| repeat'(first | exact BA _ | refine Fc ?_ ?_ | exact GC | refine BM ?_ ?_ | walk_at "l_ne"))
local macro_rules | `(tactic| walk_at "l_upd")=>`(tactic| first | (refine' WL ?a;(case a=>walk_at "l_allne"))|(refine' LK ?a ?b;(case a=>walk_at "l_ne");(case b=>walk_at "l_upd")))
local macro_rules | `(tactic| walk_at "eps")=>`(tactic| with_reducible refine let_mvar%?n:=(λz=>?_:Fa _);HZ DM (UA:ES _ (type_of%?n)) (?n _))
local macro_rules | `(tactic| walk_at "eps2")=>`(tactic| with_reducible refine let_mvar%?n:=(λy z=>?_:OV _);EV DM (IP:ES _ (type_of%?n)) (?n _ _))
local macro_rules | `(tactic| walk_at "newList")=>`(tactic| (k_dflt (refine OW (by k_asm) (by k_asm) ?_;k_whole);walk_at "eps2";intro F' N' l1;(try k_lt l1);(try k_sweep)))
local macro_rules | `(tactic| walk_at "newTuple")=>`(tactic| (k_dflt (refine JP (by k_asm) (by k_asm) ?_ ?_;rotate_left;kmk_size);walk_at "eps2";intro F' N' l1;(try k_lt l1);(try k_sweep)))
local macro_rules | `(tactic| walk_at "setAttr ref")=>`(tactic| (k_dflt (refine Ft (by k_asm) (by k_asm) (by k_asm) (by k_inst) (by rfl) (by k_is) (by k_is) (by k_is) (by k_is) (by k_get) (by k_put) (by k_upd) (by k_units) ?_;k_whole);walk_at "eps";walk_at "in"))
local macro_rules | `(tactic| walk_at "eval Dict nil nil")=>`(tactic| (k_dflt (refine newDict_K (by k_asm) (by k_asm) (ZA (by k_asm)) ?_;k_whole);walk_at "eps2";walk_at "eps";intro F' N' l1 lo' hs' fs' hi' fi';(try k_lt l1);(try k_sweep)))
local macro_rules | `(tactic| walk_at "l_in")=>`(tactic| with_reducible first | exact AE.mem_cons_self | assumption | (refine Ml _ ?_;walk_at "l_in")|(refine Mr _ ?_;walk_at "l_in")|(refine AE.mem_cons_of_mem _ ?_;walk_at "l_in"))
local macro_rules | `(tactic| walk_at "l_sub")=>`(tactic| repeat'(first | (with_reducible first | exact BA _ | refine Fp ?_ ?_ | refine Fc ?_ ?_) | walk_at "l_in" |(intro q hq;walk_at "l_in")))
local macro_rules | `(tactic| k_ne)=>`(tactic| first | exact ST (by with_reducible assumption) (by k_mem) | exact SS (by with_reducible assumption) (by k_mem))
local macro_rules | `(tactic| walk_at "s_le")=>`(tactic| first | with_reducible assumption | exact ET (by kln_w) | exact OC | (apply KT.len_app;walk_at "s_le";walk_at "s_le"))
local macro_rules | `(tactic| walk_at "And")=>`(tactic| ((with_reducible show AX.length (_++_)≤DA∧AI _ _ (joinParts _ _) _ _ _);k_dflt (refine TC (OB (by walk_at "s_le") (by exact rfl)) ?_)))
theorem rs1:True∧True:=by
 (try walk1);(try w_top off)
 all_goals (first | trivial | exact ⟨trivial,trivial⟩)
section

noncomputable abbrev ofL{α:Type}[Ao α](l:AE α)(n:CC):α:=l.getD n default
noncomputable def nsl:AE ((AX×DW)×(AX×DW)):=[(("http://www.w3.org/XML/1998/namespace",322),("xml",323)),(("http://www.w3.org/1999/xhtml",324),("html",325)),(("http://www.w3.org/1999/02/22-rdf-syntax-ns#",326),("rdf",327)),(("http://schemas.xmlsoap.org/wsdl/",328),("wsdl",329)),(("http://www.w3.org/2001/XMLSchema",330),("xs",331)),(("http://www.w3.org/2001/XMLSchema-instance",332),("xsi",333)),(("http://purl.org/dc/elements/1.1/",334),("dc",335))]
theorem h37{w:BU}:(hd07.heap_1 w.params).lookup 37=AK (CK (IM w.params nsl) 7):=rfl
theorem of8{a b c d e f g h r:Prop}:a∧b∧c∧d∧e∧f∧g∧h∧r→a∧b∧c∧d∧e∧f∧g∧h:=λ⟨a,b,c,d,e,f,g,h,_⟩=>⟨a,b,c,d,e,f,g,h⟩
noncomputable def IQ:AE Pr:=[("http://www.w3.org/XML/1998/namespace","xml"),("http://www.w3.org/1999/xhtml","html"),("http://www.w3.org/1999/02/22-rdf-syntax-ns#","rdf"),("http://schemas.xmlsoap.org/wsdl/","wsdl"),("http://www.w3.org/2001/XMLSchema","xs"),("http://www.w3.org/2001/XMLSchema-instance","xsi"),("http://purl.org/dc/elements/1.1/","dc")]
def sC(rw:CZ)(ns:AH)(lv:AE (AH×CE AC))(own:AE (AH×CY)):Prop:=(∀q∈own,ns<q.1)∧(∀p∈lv,∃n,(p.1,listOf p.2 n)∈own)∧lv.length≤1∧(rw=AU→All2 (λ(p:AH×CE AC)l=>All2 (GP own) p.2.toList l) lv [IQ])∧(rw=BC→lv=[])∧∀p∈lv,p.2.size≤7
theorem tU{M:QV}{A:BQ}{e:kZ WG}{g:CW}{L ns:AH}{mm:AX→AM AC}{rest:AE (AH×CY)}{rw:CZ}{Q:WG→AG→Prop}{E:AC→AG→Prop}{s:AG}
  (F:Fr g L s.heap mm) (N:AY g L s.heap ((ns,listOf #[] 0)::rest))
  (a:AI M A e (λfl s'=>∃lv own7 n4 h' tk,fl=.next∧s'={ s with heap:=h',toks:=tk }∧Fr g L h' mm∧AY g L h' ((ns,listOf (lv.map λp=>AR p.1).toArray n4)::(rest++own7))∧sC rw ns lv own7) E s)
  (b:∀lv own7 n4 h' tk,Fr g L h' mm→AY g L h' ((ns,listOf (lv.map λp=>AR p.1).toArray n4)::(rest++own7))→sC rw ns lv own7→Q .next { s with heap:=h',toks:=tk }):AI M A e Q E s :=
 DI a (λfl s'⟨lv,own7,n4,h',tk,e0,e1,e2,e3,e4⟩=>by rw[e0,e1];exact b lv own7 n4 h' tk e2 e3 e4) λ_ _ z=>z
theorem sz7{lv:AE (AH×CE AC)}(h:lv.length≤1):(lv.map λp=>AR p.1).toArray.size≤DA:=by
 rw[BI,CG,AN];exact AQ h (CP rfl)
noncomputable def aJ(w:BU)(A:BQ)(s:AG)(g:CW)(os:CU)(p:BH)(zw:AE AX)(zt:ER→AM AC)(mg mb:AX→AM AC)(R:FE→AG→Prop)(x dx wr:AH)(rw:CZ):Prop :=
 ∀(X:(hd07.heap_1 w.params).In g)(T:VO p zw zt mg mb g)(H:Ok g os [(x,CV 143 dx),(dx,CK [] 0)] s)(hh:A.handled=BN)(zq:A.depth<750)(nd:([x,dx]:AE AH).Nodup)(hN:∀(s':AG)(hsh:CC→EE)(tkn:CC→DW)(ep n1 n2 n4 n5 n6 n7:CC)(pr pm nl ns de dl D da:AH)(oM:CY)(tD tE:DW)(lv:AE (AH×CE AC))(own7:AE (AH×CY)),(x<da∧dx<da)→(da<D∧D<dl∧dl<de∧de<ns)→(ns<nl∧nl<pm∧pm<pr)→(pm==FB)=AU→HY rw_dn0283_07.row.prog w oM []→sC rw ns lv own7→(∀q∈own7,q.1<nl)→Ok g os ([(pr,listOf #[.bool AU] n1),(pm,oM),(nl,listOf #[] n2),(ns,listOf ((lv.map λp=>AR p.1)++[AR nl]).toArray n4),(de,listOf #[.ref dl] n5),(dl,listOf #[.ref D] n6),(D,DO #[.str "http://www.w3.org/XML/1998/namespace" tD,.str "xml" tE]),(da,listOf #[] n7),(x,CV 143 dx),(dx,CK (wd hsh tkn (.bool BC) (.bool AU) .none .none (.bool rw) .none .none .none wr da de ns pm pr AU AU 0) ep)]++own7) s'→R (.ok (.ret .none)) s'),DV (BE rw_dn0283_07.row.prog w) A (.call (.ref 60) ⟨[.ref x,.ref wr],[("with_comments",.bool BC),("rewrite_prefixes",.bool rw)]⟩) R s
theorem uP:∀{a b c d e f g h i j k l m n o},aJ a b c d e f g h i j k l m n o:=by
 refine @(BK (GM KF)<|@(RB DM<|let_mvar%?n:=(λw A s g os p zw zt mg mb R x dx wr rw=>?_:∀a b c d e f g h i j k l m n o,aJ a b c d e f g h i j k l m n o);?n _ _ _ _ _ _ _ _ _ _ _ _ _ _ _))
 intro X T H hh zq nd hN;revert X;k_fill;intro X;refine' KQ _ H X T ?k6 ?k7 (AZ zq (by decide)) ?k9 ?kB ?km ?kl ?_ ?c1 ?c2 ?c3 ?c4
 (case k6=>k_is)
 (case k7=>k_is)
 (case k9=>(refine' kp_binds (X.keeps H.keep) ?ke;(case ke=>exact λ_=>rfl)))
 (case kB=>exact locs rfl)
 (case km=>exact rfl)
 (case kl=>exact EB _)
 (case c1=>exact rfl)
 (case c2=>exact rfl)
 (case c3=>exact rfl)
 (case c4=>decide)
 k_whole;with_reducible refine let_mvar%?zq5:=(λL' h1 k0=>?_:PV _);FL DM (JN:ES _ (type_of%?zq5)) (?zq5 _ _ _);intro hk0 F1 N1 l1;(try k_lt l1);(try dsimp only)
 simp only[DF,AP,GK,OJ,NJ,TS,jN] at nd
 repeat'(first
    |((with_reducible show AI _ _ (JL _) _ _ _);k_dflt (refine' OW ?k1 ?k2 ?_;(case k1|k2=>k_asm);k_whole);walk_at "eps2";intro F' N' l1;have l2:=l1;(try k_lt l1);(try k_sweep))
    |((with_reducible show AI _ _ (NP _) _ _ _);k_dflt (refine' JP ?F ?N ?_ ?z;(case F|N=>k_asm);(case z=>kmk_size));walk_at "eps2";intro F' N' l1;have l2:=l1;(try k_lt l1);(try k_sweep))
    |((try((with_reducible show AI _ _ (EZ _ _) _ _ _);(conv=>(arg 6;dsimp only))));(fail_if_success (with_reducible show AI _ _ (EZ (SG (Expr.UnaryOp _ (cD "rewrite_prefixes" _) _) _ _ _::_) _) _ _ _));walk_at "go"))
 (rename Fr ..=>F9)
 (rename AY _ _ _ _=>N9)
 (try(conv=>(arg 6;dsimp only)))
 refine BR (tU (rw:=rw) F9 N9 ?cA ?cB)
 case cA =>
  clear hN;refine HK ?_;walk_at "eps2";rename_i Q9 E9;intro hq9 he9
  cases rw with
  |true =>
   repeat'(first
    |((with_reducible show Q9 _ _);refine hq9 _ _ ⟨[],[],_,_,_,rfl,rfl,F9,by rw[CQ];exact N9,(λ_ z=>nomatch z),(λ_ z=>nomatch z),EH _,(λz=>absurd z.symm DE),(λ_=>rfl),(λ_ z=>nomatch z)⟩)
    |walk_at "go")
  |false =>
   repeat'(first
    |((with_reducible show AI _ _ (WW (.ref 37) "items" _) _ _ _);(rename Fr ..=>F9);(rename AY _ _ _ _=>N9);refine YQ (l:=nsl) (n:=7) ((X.keeps F9.keep) _ _ h37) ?_;(try dsimp only))
    |((with_reducible show AI _ _ (DK (.builtin "dict.items") _) _ _ _);(try dsimp only);(rename Fr ..=>F9);(rename AY _ _ _ _=>N9);refine nZ (l:=nsl) (n:=7) F9 N9 ((X.keeps F9.keep) _ _ h37) (by decide) rfl ?_;clear F9 N9;walk_at "eps2";rename_i vw h9;intro F9 N9 l9 k9;have l8:=l9;k_lt l9;(try dsimp only))
    |((with_reducible show AI _ _ (DK (JT "list") [.ref vw]) _ _ _);(rename Fr ..=>F9);(rename AY _ _ _ _=>N9);refine zY (n:=7) hh F9 N9 ((X.keeps F9.keep) _ _ h37) (by decide) (by k_mem) ?_;clear F9 N9;with_reducible refine let_mvar%?zq2:=(λB0 a1 a2 a3 a4 a5 a6 a7=>?_:Bf _);SK DM (kI:ES _ (type_of%?zq2)) (?zq2 _ _ _ _ _ _ _ _);with_reducible refine let_mvar%?zq3:=(λt1 t2 t3 t4 t5 t6 t7 c0=>?_:Bf _);SK DM (kI:ES _ (type_of%?zq3)) (?zq3 _ _ _ _ _ _ _ _);walk_at "eps2";rename_i h9 tk9;intro hBa l9 F9 N9;have l8:=l9;have m1:=λp hp=>AZ (l9 p hp) hBa.1;have m2:=λp hp=>AZ (l9 p hp) hBa.2.1;have m3:=λp hp=>AZ (l9 p hp) hBa.2.2.1;have m4:=λp hp=>AZ (l9 p hp) hBa.2.2.2.1;have m5:=λp hp=>AZ (l9 p hp) hBa.2.2.2.2.1;have m6:=λp hp=>AZ (l9 p hp) hBa.2.2.2.2.2.1;have m7:=λp hp=>AZ (l9 p hp) hBa.2.2.2.2.2.2;k_lt l9;(try dsimp only))
    |((with_reducible show Q9 _ _);(rename Fr ..=>F8);(rename AY _ _ _ _=>N8);obtain⟨b1,b2,b3,b4,b5,b6,b7⟩:=hBa;have b0:=l9.2.1;refine hq9 _ _ ⟨[(B0,#[.ref a1,.ref a2,.ref a3,.ref a4,.ref a5,.ref a6,.ref a7])],[(a1,DO #[.str "http://www.w3.org/XML/1998/namespace" t1,.str "xml" 323]),(a2,DO #[.str "http://www.w3.org/1999/xhtml" t2,.str "html" 325]),(a3,DO #[.str "http://www.w3.org/1999/02/22-rdf-syntax-ns#" t3,.str "rdf" 327]),(a4,DO #[.str "http://schemas.xmlsoap.org/wsdl/" t4,.str "wsdl" 329]),(a5,DO #[.str "http://www.w3.org/2001/XMLSchema" t5,.str "xs" 331]),(a6,DO #[.str "http://www.w3.org/2001/XMLSchema-instance" t6,.str "xsi" 333]),(a7,DO #[.str "http://purl.org/dc/elements/1.1/" t7,.str "dc" 335]),(B0,listOf #[.ref a1,.ref a2,.ref a3,.ref a4,.ref a5,.ref a6,.ref a7] c0)],_,_,_,rfl,rfl,F8,AY.sub N8 (Fc (.tail _ (.tail _ (.tail _ (.tail _ (.tail _ (.tail _ (.tail _ (.tail _ (.tail _ (.head _)))))))))) (Fp (λq hq=>Mr [_,_,_,_,_,_,_,_,_,_] hq) (by walk_at "l_sub"))),(Fc (AZ b0 b1) (Fc (AZ b0 b2) (Fc (AZ b0 b3) (Fc (AZ b0 b4) (Fc (AZ b0 b5) (Fc (AZ b0 b6) (Fc (AZ b0 b7) (Fc b0 (BA _))))))))),(Fc ⟨c0,.tail _ (.tail _ (.tail _ (.tail _ (.tail _ (.tail _ (.tail _ (.head _)))))))⟩ (BA _)),CR _,(λ_=>.cons (.cons ⟨a1,_,_,rfl,.head _⟩ (.cons ⟨a2,_,_,rfl,.tail _ (.head _)⟩ (.cons ⟨a3,_,_,rfl,.tail _ (.tail _ (.head _))⟩ (.cons ⟨a4,_,_,rfl,.tail _ (.tail _ (.tail _ (.head _)))⟩ (.cons ⟨a5,_,_,rfl,.tail _ (.tail _ (.tail _ (.tail _ (.head _))))⟩ (.cons ⟨a6,_,_,rfl,.tail _ (.tail _ (.tail _ (.tail _ (.tail _ (.head _)))))⟩ (.cons ⟨a7,_,_,rfl,.tail _ (.tail _ (.tail _ (.tail _ (.tail _ (.tail _ (.head _))))))⟩ (.nil)))))))) .nil),(λz=>absurd z DE),Fc (CR _) (BA _)⟩)
    |walk_at "go")
 clear F9 N9
 with_reducible refine let_mvar%?zs2:=(λlv own7 n4 h9 tk9=>?_:kQ _);LU DM (UR:ES _ (type_of%?zs2)) (?zs2 _ _ _ _ _);intro F9 N9 h7
 dsimp only[DQ,DB] at N9
 (try dsimp only)
 have hodx:∀q∈own7,q.1≠dx:=λq hq=>AJ (AZ (ML (ML (ML (ML (ML (by assumption)))))) (h7.1 q hq))
 have hons:∀q∈own7,q.1≠_:=λq hq=>AJ (h7.1 q hq)
 repeat'(first
    |((with_reducible show AI _ _ (DK (.builtin "list.append") [.ref _,.ref _]) _ _ _);(rename Fr ..=>F9);(rename AY _ _ _ _=>N9);refine KP F9 N9 (LK (by k_ne) (WL (Fc (by k_ne) (Fc (by k_ne) (Fc (by k_ne) (Fc (by k_ne) (Fc (by k_ne) (Fc (by k_ne) (λq hq=>AJ (h7.1 q hq)))))))))) ?_ (sz7 h7.2.2.1);clear F9 N9;walk_at "eps";rename_i h9;intro F9 N9;(try k_sweep))
    |((with_reducible show AI _ _ (setAttr (.ref x) _ _) _ _ _);(k_dflt (refine Ft (by k_asm) (by k_asm) (by k_asm) (by k_inst) (by rfl) (by k_is) (by k_is) (by k_is) (by k_is) (by k_get) (by k_put) (by walk_at "l_upd") (by k_units) ?_;k_whole);walk_at "eps";walk_at "in"))
    |((with_reducible show AI _ _ (JL _) _ _ _);k_dflt (refine' OW ?k1 ?k2 ?_;(case k1|k2=>k_asm);k_whole);walk_at "eps2";intro F' N' l1;have l2:=l1;(try k_lt l1);(try k_sweep))
    |((with_reducible show AI _ _ (NP _) _ _ _);k_dflt (refine' JP ?F ?N ?_ ?z;(case F|N=>k_asm);(case z=>kmk_size));walk_at "eps2";intro F' N' l1;have l2:=l1;(try k_lt l1);(try k_sweep))
    |((with_reducible show AI _ _ (eval (Am [] [] _) _) _ _ _);k_dflt (refine' newDict_K ?k1 ?k2 (ZA (by k_asm)) ?_;(case k1|k2=>k_asm);k_whole);with_reducible refine let_mvar%?n:=(λx y z=>?_:PV _);FL DM (JN:ES _ (type_of%?n)) (?n _ _ _);intro F' N' l1 lo' hs' fs' hi' fi';have l2:=l1;(try k_lt l1);(try k_sweep))
    |((try((with_reducible show AI _ _ (EZ _ _) _ _ _);(conv=>(arg 6;dsimp only))));walk_at "go"))
 (rename Fr ..=>F9)
 (rename AY _ _ _ _=>N9)
 rw[KL] at N9;refine leaveM_ F9 N9 H.os H.bare λH'=>hN _ (ofL [_,_,_,_,_,_,_,_,_,_,_,_,_,_,_,_,_]) (ofL [_,_,_,_,_,_,_,_,_,_,_,_,_,_,_,_,_,_]) _ _ _ _ _ _ _ _ _ _ _ _ _ _ _ _ _ _ lv own7 ?d1 ?d2 ?d3 ?d4 ⟨by assumption,_,Gg.nil⟩ h7 ?d5 H'
 case d1=>assumption
 case d2=>exact⟨bI (by assumption),bI (by assumption),bI (by assumption),bI (by assumption)⟩
 case d3=>exact⟨bI (by assumption),bI (by assumption),bI (by assumption)⟩
 case d4=>assumption
 case d5=>exact ZJ (ML (ML (ML (ML (ML (ML (ML (by assumption))))))))
end
theorem rs2:True∧True:=by
 (try walk1);(try w_top off)
 all_goals (first | trivial | exact ⟨trivial,trivial⟩)
section

noncomputable def WD(w:BU)(A:BQ)(s:AG)(g:CW)(os:CU)(p:BH)(zw:AE AX)(zt:ER→AM AC)(mg mb:AX→AM AC)(R:FE→AG→Prop)(out:AH)(n2:CC)(rw:CZ):Prop :=
 ∀(X:(hd07.heap_1 w.params).In g)(T:VO p zw zt mg mb g)(H:Ok g os [(out,listOf #[] n2)] s)(hh:A.handled=BN)(zq:A.depth<700)(hN:∀(s':AG)(x dx wr:AH)(hsh:CC→EE)(tkn:CC→DW)(ep n1 m2 n4 n5 n6 n7:CC)(pr pm nl ns de dl D da:AH)(oM:CY)(tD tE:DW)(lv:AE (AH×CE AC))(own7:AE (AH×CY)),(out<wr∧wr<dx∧dx<x∧x<da)→(da<D∧D<dl∧dl<de∧de<ns)→(ns<nl∧nl<pm∧pm<pr)→(pm==FB)=AU→HY rw_dn0283_07.row.prog w oM []→sC rw ns lv own7→(∀q∈own7,q.1<nl)→Ok g os ([(pr,listOf #[.bool AU] n1),(pm,oM),(nl,listOf #[] m2),(ns,listOf ((lv.map λp=>AR p.1)++[AR nl]).toArray n4),(de,listOf #[.ref dl] n5),(dl,listOf #[.ref D] n6),(D,DO #[.str "http://www.w3.org/XML/1998/namespace" tD,.str "xml" tE]),(da,listOf #[] n7),(x,CV 143 dx),(dx,CK (wd hsh tkn (.bool BC) (.bool AU) .none .none (.bool rw) .none .none .none wr da de ns pm pr AU AU 0) ep)]++own7++[(wr,DZ out),(out,listOf #[] n2)]) s'→R (.ok (.ret (.ref x))) s'),DV (BE rw_dn0283_07.row.prog w) A (.call (.ref 168) ⟨[.ref out,.bool rw],[]⟩) R s
theorem pC:∀{a b c d e f g h i j k l m n},WD a b c d e f g h i j k l m n:=by
 refine @(BK (GM KF)<|@(MU DM<|let_mvar%?n:=(λw A s g os p zw zt mg mb R out n2 rw=>?_:∀a b c d e f g h i j k l m n,WD a b c d e f g h i j k l m n);?n _ _ _ _ _ _ _ _ _ _ _ _ _ _))
 intro X T H hh zq hN;revert X;k_fill;intro X;refine' KQ (λy=>DY y [("rewriting",.bool rw),("pieces",.ref out)]) H X T ?k6 ?k7 (AZ zq (by decide)) ?k9 ?kB ?km ?kl ?_ ?c1 ?c2 ?c3 ?c4
 (case k6=>k_is)
 (case k7=>k_is)
 (case k9=>exact GO rfl)
 (case kB=>exact locs rfl)
 (case km=>exact rfl)
 (case kl=>exact EB _)
 (case c1=>exact rfl)
 (case c2=>exact rfl)
 (case c3=>exact rfl)
 (case c4=>decide)
 k_whole;intro L' h1 k0 hk0 F1 N1 l1;(try k_lt l1);(try dsimp only)
 repeat'(first
    |((with_reducible show AI _ _ (Hj (.ref out) "append" BC) _ _ _);(rename Fr ..=>F9);(rename AY _ _ _ _=>N9);refine fR F9 N9 (by k_mem) ?_;clear F9 N9;intro wr h9 tk9 F9 N9 l9;k_lt l9;(try dsimp only))
    |((fail_if_success (with_reducible show AI _ _ (DK (.ref 143) _ _) _ _ _));walk_at "go"))
 (try any_goals(exact L'))
 revert X;k_fill;intro X;refine call_cls (C:=143) (fI:=60) F9 X N9 ?k1 ?k2 ?k3 ?k4
 case k1=>k_is
 case k2=>k_is
 case k3=>k_is
 case k4 =>
  intro x dx h10 F10 N10 lt1 lt2
  have m1:∀q∈[(x,CV 143 dx),(dx,CK [] 0)],q∈[(x,CV 143 dx),(dx,CK [] 0),(wr,DZ out),(out,listOf #[] n2)]:=by walk_at "l_mem"
  have m2:∀q∈[(wr,DZ out),(out,listOf #[] n2)],q∈[(x,CV 143 dx),(dx,CK [] 0),(wr,DZ out),(out,listOf #[] n2)]:=by walk_at "l_mem"
  have w1:=ltN (lt1 (wr,DZ out) (.head _))
  have w2:=ltN l9;have w3:=ltN lt2
  have m3:∀q∈[(wr,DZ out),(out,listOf #[] n2)],q.1∉([(x,CV 143 dx),(dx,CK [] 0)]:AE (AH×CY)).map (·.1):=Fc (BM (AO (AZ w1 w3)) (BM (AO w1) GC)) (Fc (BM (AO (AZ w2 (AZ w1 w3))) (BM (AO (AZ w2 w1)) GC)) (BA _))
  obtain⟨H₂,K₂,r₂,back⟩:=fE (s:={ s with heap:=h10,toks:=tk9 }) (os:=os) F10 N10 H.os H.bare m1 m2 m3;generalize cG h10 _=g₂ at H₂ K₂ r₂ back;refine uP (X.keeps K₂) (T.keeps K₂) H₂ ?hh ?rm ?nd ?hN
  case hh=>exact hh
  case rm=>first|(show A.depth+1+1<750;exact(Nt λhn1=>fk [_] (.e (.s V0) (.k 700) (.e (.k 750) (.a (.s V0) K1) K0)) rfl zq hn1))|(show A.depth+1+0<750;omega)
  case nd=>simp only[DF,AP,GK,OJ,NJ,TS,jN];exact AJ lt2
  case hN =>
   intro s11 hsh tkn ep n1 m2 n4 n5 n6 n7 pr pm nl ns de dl D da oM tD tE lv own7 d1 d2 d3 d4 d5 d6 d7 H11;obtain⟨F12,N12,o12,b12⟩:=back _ _ H11;exact⟨rfl,leaveM_ F12 N12 o12 b12 λH'=>hN _ x dx wr hsh tkn ep n1 m2 n4 n5 n6 n7 pr pm nl ns de dl D da oM tD tE lv own7 ⟨l9,lt1 (wr,DZ out) (.head _),lt2,d1.1⟩ d2 d3 d4 d5 d6 d7 H'⟩
end
theorem rs3:True∧True:=by
 (try walk1);(try w_top off)
 all_goals (first | trivial | exact ⟨trivial,trivial⟩)
section

local macro_rules | `(tactic| walk_at "call type:set nil nil")=>`(tactic| (k_dflt (refine kse_new (by k_asm) (by k_asm) ?_);with_reducible refine let_mvar%?n:=(λx y z=>?_:PV _);FL DM (JN:ES _ (type_of%?n)) (?n _ _ _);intro F' N' l1 hs' hz';(try k_lt l1)))
local macro_rules | `(tactic| walk_at "call builtin:str.rsplit")=>`(tactic| (refine Dm (by k_asm) (by k_asm) (by assumption) (by assumption) ?_;intro h' t1 t2 tk F' N';(try k_sweep)))
local macro_rules | `(tactic| walk_at "compareOp NotIn")=>`(tactic| ((with_reducible show AI _ _ (LO pF (.str _ _) (.ref _)) _ _ _);refine vQ (by k_asm) (by k_mem) (by assumption) ?_))
theorem zero_of{n:EE}(h:(!(n !=0))=BC):n=0:=by simpa using h
theorem nil_of{n:EE}(h:¬(n !=0)=BC):n=0:=by simpa using h
theorem jJ{x:AX}(h:x≠AW):((x.length:EE) !=0)=BC:=by
 by_cases e:((x.length:EE) !=0)=BC
 ·exact e
 ·exact absurd (RK e) h
noncomputable def XA(k:CC):AX:=AA "n"++AA (bY (k:EE))
theorem Ce{nps:AE Pr}{uri pf:AX}(h:∀q∈nps,q.1.length≤1000∧q.2.length≤1000∧q.2≠AW)(hf:find uri nps=AK pf):pf≠AW∧pf.length≤1000:=by
 have z:=h (uri,pf) (XY hf)
 exact⟨z.2.2,z.2.1⟩
def xF(nps:AE Pr)(pq:AE (AX×(AX×DW)))(uri:AX):Prop:=(∀e∈pq,find e.1 nps=AK e.2.1)∧(uri∉pq.map (·.1)→find uri nps=AK (XA pq.length))
def cO(rw:CZ)(pq:AE (AX×(AX×DW)))(uri pf:AX)(pq':AE (AX×(AX×DW))):Prop:=(pq'=pq∧(rw=BC→uri∈pq.map (·.1)))∨(rw=BC∧uri∉pq.map (·.1)∧∃t,pq'=pq++[(uri,(pf,t))])
noncomputable def YI(w:BU)(A:BQ)(s:AG)(g:CW)(os:CU)(p:BH)(zw:AE AX)(zt:ER→AM AC)(mg mb:AX→AM AC)(R:FE→AG→Prop)(x dx dl:AH)(hsh:CC→EE)(tkn:CC→DW)(wr da de ns pm pr:AH)(rs rd:CZ)(ig:EE)(its:CE AC)(ep n:CC)(q uri tag:AX)(tq:DW)(dlv nlv:AE (AH×CE AC))(dps nps:AE Pr)(rw:CZ)(oM:CY)(pq:AE (AX×(AX×DW))):Prop :=
 ∀(X:(hd07.heap_1 w.params).In g)(T:VO p zw zt mg mb g)(H:Ok g os [(x,CV 143 dx),(dx,CK (wd hsh tkn (.bool BC) (.bool AU) .none .none (.bool rw) .none .none .none wr da de ns pm pr rs rd ig) ep),(dl,listOf its n),(pm,oM)] s)(hM:HY rw_dn0283_07.row.prog w oM pq)(hMz:pq.length≤50)(hps:(pm==FB)=AU)(hmn:pm≠x∧pm≠dx∧pm≠dl)(hu0:uri≠AW)(hP0:∀q∈dps,q.2≠AW)(hDe:g.IsList de ((dlv++[(dl,its)]).map λp=>.ref p.1).toArray)(hDl:∀p∈dlv,g.IsList p.1 p.2)(hDz:∀p∈dlv++[(dl,its)],(p.2.size:EE)<2 ^ 63)(hDp:All2 (KM g) (comes (dlv++[(dl,its)])) dps)(hDn:dps.length<3000)(hDs:∀q∈dps,q.1.length≤1000∧q.2.length≤1000)(hK:rw=AU→g.IsList ns (nlv.map λp=>.ref p.1).toArray∧(∀p∈nlv,g.IsList p.1 p.2∧(p.2.size:EE)<2 ^ 63)∧All2 (KM g) (comes nlv) nps)(hNq:∀q∈nps,q.1.length≤1000∧q.2.length≤1000∧q.2≠AW)(hxl:x≠dl)(hdl:dx≠dl)(hitz:its.size≤DA)(hh:A.handled=BN)(zq:A.depth<900)(hq:q.length≤1000)(hut:uri.length≤1000∧tag.length≤1000)(hn:eA q uri tag=BC)(hN1:∀s' txt ta t1 t2 t3,qn dps nps uri tag=AK (txt,BN)→x<ta→dx<ta→dl<ta→pm<ta→Ok g os [(ta,DO #[.str txt t1,.str tag t2,.str uri t3]),(x,CV 143 dx),(dx,CK (wd hsh tkn (.bool BC) (.bool AU) .none .none (.bool rw) .none .none .none wr da de ns pm pr rs rd ig) ep),(dl,listOf its n),(pm,oM)] s'→R (.ok (.ret (.ref ta))) s')(hN2:∀s' txt pf ta tb t1 t2 t3 t4 t5 oM' pq',cO rw pq uri pf pq'→HY rw_dn0283_07.row.prog w oM' pq'→qn dps nps uri tag=AK (txt,AK (uri,pf))→x<ta→dx<ta→dl<ta→pm<ta→x<tb→dx<tb→dl<tb→pm<tb→ta≠tb→Ok g os [(ta,DO #[.str txt t1,.str tag t2,.str uri t3]),(tb,DO #[.str uri t4,.str pf t5]),(x,CV 143 dx),(dx,CK (wd hsh tkn (.bool BC) (.bool AU) .none .none (.bool rw) .none .none .none wr da de ns pm pr rs rd ig) ep),(dl,listOf (its.push (.ref tb)) (n+1)),(pm,oM')] s'→R (.ok (.ret (.ref ta))) s')(hsome:find uri nps≠BN)(hR:rw=BC→(∃sn,scan uri dps []=(BN,sn))→xF nps pq uri),DV (BE rw_dn0283_07.row.prog w) A (.call (.ref 83) ⟨[.ref x,.str q tq],[]⟩) R s
theorem eK:∀{w A s g os p zw zt mg mb R x dx dl hsh tkn wr da de ns pm pr rs rd ig its ep n q uri tag tq dlv nlv dps nps rw oM pq},YI w A s g os p zw zt mg mb R x dx dl hsh tkn wr da de ns pm pr rs rd ig its ep n q uri tag tq dlv nlv dps nps rw oM pq:=by
 refine @(BK (GM KF)<|@(BK DM<|@(BK DM<|@(BK DM<|@(RB DM<|let_mvar%?n:=(λw A s g os p zw zt mg mb R x dx dl hsh tkn wr da de ns pm pr rs rd ig its ep n q uri tag tq dlv nlv dps nps rw oM pq=>?_:∀a b c d e f g h i j k l m n o p q r s t u v w x y z a1 b1 c1 d1 e1 f1 g1 h1 i1 j1 k1 l1 m1,YI a b c d e f g h i j k l m n o p q r s t u v w x y z a1 b1 c1 d1 e1 f1 g1 h1 i1 j1 k1 l1 m1);?n _ _ _ _ _ _ _ _ _ _ _ _ _ _ _ _ _ _ _ _ _ _ _ _ _ _ _ _ _ _ _ _ _ _ _ _ _ _ _)))))
 intro X T H hM hMz hps hmn hu0 hP0 hDe hDl hDz hDp hDn hDs hK hNq hxl hdl hitz hh zq hq hut hn hN1 hN2 hsome hR;have hu1:((uri.length:EE) !=0)=BC:=jJ hu0
 have hu2:(!((uri.length:EE) !=0))=AU:=by rw[hu1];rfl
 have hq1:q.length≤DA:=by rw[BI];exact(Nl λhn1=>fk [_] (.e V0 (.k 1000) (.e (.s (.k 16777216)) V0 K0)) rfl hq hn1)
 have hDe':g.IsList de (dlv.map (λ(p:AH×CE AC)=>AR p.1)++[AR dl]).toArray:=by simpa using hDe
 revert X;k_fill;intro X;refine' UY H X T ?k6 ?k7 (AZ zq (by decide)) ?k9 ?kB ?_ ?c1 ?c2 ?c3 ?c4
 (case k6=>k_is)
 (case k7=>k_is)
 (case k9=>first|exact Br (X.keeps H.keep) rfl (by k_is) rfl rfl rfl|exact GO rfl)
 (case kB=>exact locs rfl)
 (case c1=>exact rfl)
 (case c2=>exact rfl)
 (case c3=>exact rfl)
 (case c4=>decide)
 k_whole;walk_at "eps2";rename_i L' h1;intro F0 N1 l1;k_lt l1;(try dsimp only)
 have F1:Fr g L' h1 (λy=>DY y [("uri",.none),("qname",.str q tq),("self",.ref x)]):=F0;clear F0
 (try k_fold)
 -- the name is cut
 refine BR (OD (R:=λs'=>∃h2 t1 t2 k,s'={ s with heap:=h2,toks:=k }∧Fr g L' h2 (λy=>if y="tag" then AK (.str tag t2) else if y="uri" then AK (.str uri t1) else DY y [("uri",.none),("qname",.str q tq),("self",.ref x)]) ∧
   AY g L' h2 [(x,CV 143 dx),(dx,CK (wd hsh tkn (.bool BC) (.bool AU) .none .none (.bool rw) .none .none .none wr da de ns pm pr rs rd ig) ep),(dl,listOf its n),(pm,oM)]) ?_ ?_)
 ·unfold eA at hn
  cases hc:LJ q BN (AK 1)=="{" with
  |true =>
   rw[hc] at hn;have hq2:(LJ q (AK 1) BN).length≤DA:=AQ (Txt.slice_le ..) hq1
   k_steps
   rename Fr ..=>F2
   rename AY _ _ _ _=>N2
   refine ZK F2 N2 ⟨_,(N2 _ (fK _)).1,rfl,_,rfl⟩ hh λh3 tk3 F3 N3=>?_;refine Wp ⟨rfl,h3,_,_,tk3,rfl,F3,AY.sub N3 λp hp=>MM _ hp⟩
  |false =>
   rw[hc] at hn
   obtain⟨hu,ht⟩:uri=AW∧tag=q:=by simpa using hn
   exact absurd hu hu0
 ·refine exs4 ?_;with_reducible refine let_mvar%?zq2:=(λs99 h2 t1 t2 k=>?_:kQ _);LU JS (UR:ES _ (type_of%?zq2)) (?zq2 _ _ _ _ _);rintro⟨rfl,F2,N2⟩
  dsimp only
  k_steps
  refine wpAny_For ?_
  k_steps
  rename Fr ..=>F3
  rename AY _ _ _ _=>N3
  refine QF (yG (lvs:=dlv++[(dl,its)]) (binds:=[("self",.ref x),("ns_stack",.ref de),("_reversed",.type "reversed")]) F3 N3 X T.nolimit H.os H.bare hh (by k_is) (by k_is) ?zq ?zj (locs rfl) rfl rfl (DX F3.keep hDe) ?hlv ?_ rfl rfl rfl rfl rfl rfl (by decide))
  case zq=>exact CJ (FG zq) (by decide)
  case zj=>exact Br (X.keeps F3.keep) rfl (by k_is) rfl rfl rfl
  case hlv =>
   intro z hz;refine⟨?_,hDz z hz⟩;rcases AT.mp hz with q|q
   ·exact DX F3.keep (hDl z q)
   ·rw[BB.mp q]
    exact⟨_,(N3 (dl,listOf its n) (by k_mem)).1,rfl,_,rfl⟩
  with_reducible refine let_mvar%?zq3:=(λs4 B ga gn oG priv=>?_:Be _);SJ JS (kG:ES _ (type_of%?zq3)) (?zq3 _ _ _ _ _ _);intro F4 N4 hG4 hos4 hb4 G4 hsB hlB hnB hLB hga hpB
  dsimp only;refine wpAny_pyIter_gen (hG4.at (N4 _ (.head _)).1) ?_;rename_i sa hA led hsI hsS l2 hB;have F5:=F4;rw[Cs (a:="prefix") (b:="u") (m0:=λy=>if y="prefixes_seen" then AK (.ref sa) else if y="tag" then AK (.str tag t2) else if y="uri" then AK (.str uri t1) else DY y [("uri",.none),("qname",.str q tq),("self",.ref x)]) rfl rfl] at F5;refine sF (λps own=>∃seen oS nn,own=[(sa,oS),(x,CV 143 dx),(dx,CK (wd hsh tkn (.bool BC) (.bool AU) .none .none (.bool rw) .none .none .none wr da de ns pm pr rs rd ig) ep),(dl,listOf its n),(pm,oM)]∧scan uri dps []=scan uri ps seen∧MH rw_dn0283_07.row.prog w oS (λz=>decide (z∈seen)) nn∧nn≤seen.length∧seen.length+ps.length=dps.length∧∀q∈ps,(q.1.length≤1000∧q.2.length≤1000)∧q.2≠AW) hh (CJ (FG zq) (by decide)) T.nolimit hG4 hga hLB ?hstack ?hown ?step ?done ⟨[],_,0,rfl,rfl,jV.congr (by simp),CR _,by simp,λq hq=>⟨hDs q hq,hP0 q hq⟩⟩ F5 N4 hDp G4 hos4 hb4 rfl rfl rfl
  case hstack =>
   rintro hp ps own hk Nk ⟨seen,oS,nn,rfl,_⟩;refine⟨hsB,DX hk hDe,λz hz=>⟨hlB z hz,?_,hDz z hz⟩⟩;rcases AT.mp hz with q|q
   ·exact DX hk (hDl z q)
   ·rw[BB.mp q]
    exact⟨_,(Nk (dl,listOf its n) (by k_mem)).1,rfl,_,rfl⟩
  case hown =>
   rintro ps own ⟨seen,oS,nn,rfl,_⟩ z hz;refine .inl ?_;simp only[AP,GK,OJ] at hz;rcases hz with rfl|rfl|rfl|rfl|rfl
   ·have z:=hnB _ (.head _);exact z
   ·exact hnB (x,_) (.tail _ (.head _))
   ·exact hnB (dx,_) (.tail _ (.tail _ (.head _)))
   ·exact hnB (dl,_) (.tail _ (.tail _ (.tail _ (.head _))))
   ·exact hnB (pm,_) (.tail _ (.tail _ (.tail _ (.tail _ (.head _)))))
  case step =>
   with_reducible refine let_mvar%?zq5:=(λs5 q5 ta tb ps5 own5 rest=>?_:An _);RC JS (gB:ES _ (type_of%?zq5)) (?zq5 _ _ _ _ _ _ _);refine fV ?_;with_reducible refine let_mvar%?zq6:=(λseen oS nn=>?_:PV _);FL DM (JN:ES _ (type_of%?zq6)) (?zq6 _ _ _);rintro⟨rfl,hsc,hS,hnn,zf,hlq⟩ F6 N6 hrest hos6 hb6
   dsimp only[DQ,DB] at N6
   have hne:∀p∈(x,CV 143 dx)::(dx,CK (wd hsh tkn (.bool BC) (.bool AU) .none .none (.bool rw) .none .none .none wr da de ns pm pr rs rd ig) ep)::(dl,listOf its n)::(pm,oM)::rest,p.1≠sa:=by
    refine Fc (AO l2.1) (Fc (AO l2.2.1) (Fc (AO l2.2.2.1) (Fc (AO l2.2.2.2) (λp hp=>AJ (CJ (hnB _ (.head _)) (hrest p hp))))))
   have hn4:nn<4000:=by simp only[CD] at zf;exact(Nt λhn1=>fk [_,_,_,_] (.e (.s V0) (.k 3000) (.e V1 V2 (.e (.a V2 (.s V3)) V0 (.e (.k 4000) V1 K0)))) rfl hDn hnn (El zf) hn1)
   cases hf:decide (q5.1=uri∧q5.2∉seen) with
   |true =>
    have hcond:q5.1=uri∧q5.2∉seen:=MT hf;have hu:(q5.1==uri)=BC:=TT.mpr hcond.1
    have hs:(!decide (q5.2∈seen))=BC:=by simpa using hcond.2
    have hz1:q5.2.length≤1000:=(hlq q5 (.head _)).1.2;have hz2:tag.length≤1000:=hut.2;have hz3:((q5.2.length:EE) !=0)=BC:=jJ (hlq q5 (.head _)).2
    repeat'(first
      |walk_at "go")
    all_goals(rename Fr ..=>F7;rename AY _ _ _ _=>N7;rename_i l7)
    ·refine leaveM_ F7 (AY.drop2m N7) hos6 hb6 λH'=>hN1 _ _ _ _ _ _ ?_ l7.2.1 l7.2.2.1 l7.2.2.2.1 l7.2.2.2.2.1 H'
     rw[zG (p:=q5.2) (seen:=seen) (by rw[hsc,scan,DJ hcond]),dB (tO.mp hz3)]
   |false =>
    have hcond:¬(q5.1=uri∧q5.2∉seen):=of_decide_eq_false hf
    have hsc':scan uri dps []=scan uri ps5 (q5.2::seen):=by rw[hsc,scan,CA hcond]
    cases hu:q5.1==uri with
    |false =>
     repeat'(first
      |((with_reducible show AI _ _ (WW (.ref _) "add" _) _ _ _);refine Hl (MH.at hS (GB (by k_asm) (by k_mem))) ?_)
      |((with_reducible show AI _ _ (DK (.builtin "set.add") _) _ _ _);refine sT (by k_asm) (by k_asm) (fK _) hS hn4 (λo'=>WL hne) λh7 o7 F7 N7 hS7=>Wp ⟨_,_,_,⟨q5.2::seen,o7,_,rfl,hsc',hS7.congr λz=>by simp[CZ.or_comm,eq_comm],by simp only[CD];split<;>lia,by simp only[CD] at zf ⊢;exact(DG (Nl λhn2=>fk [_,_,_] (.e (.a V0 (.s V1)) V2 (.e (.s V2) (.a (.s V0) V1) K0)) rfl (El zf) hn2) (Nl λhn3=>fk [_,_,_] (.e V0 (.a V1 (.s V2)) (.e (.a (.a (.s V1) V2) K1) V0 K0)) rfl (Es zf) hn3)),λz hz=>hlq z (.tail _ hz)⟩,F7,N7,hos6,rfl⟩)
      |walk_at "go")
    |true =>
     have hs:(!decide (q5.2∈seen))=AU:=by
      have:=TT.mp hu;simp only[CZ.not_eq_false',HI];exact wO λz=>hcond ⟨this,z⟩
     repeat'(first
      |((with_reducible show AI _ _ (WW (.ref _) "add" _) _ _ _);refine Hl (MH.at hS (GB (by k_asm) (by k_mem))) ?_)
      |((with_reducible show AI _ _ (DK (.builtin "set.add") _) _ _ _);refine sT (by k_asm) (by k_asm) (fK _) hS hn4 (λo'=>WL hne) λh7 o7 F7 N7 hS7=>Wp ⟨_,_,_,⟨q5.2::seen,o7,_,rfl,hsc',hS7.congr λz=>by simp[CZ.or_comm,eq_comm],by simp only[CD];split<;>lia,by simp only[CD] at zf ⊢;exact(DG (Nl λhn2=>fk [_,_,_] (.e (.a V0 (.s V1)) V2 (.e (.s V2) (.a (.s V0) V1) K0)) rfl (El zf) hn2) (Nl λhn3=>fk [_,_,_] (.e V0 (.a V1 (.s V2)) (.e (.a (.a (.s V1) V2) K1) V0 K0)) rfl (Es zf) hn3)),λz hz=>hlq z (.tail _ hz)⟩,F7,N7,hos6,rfl⟩)
      |walk_at "go")
  case done =>
   with_reducible refine let_mvar%?zq7:=(λs6 own6 p6 u6=>?_:ZE _);IB JS (OM:ES _ (type_of%?zq7)) (?zq7 _ _ _ _);refine fV ?_;with_reducible refine let_mvar%?zq8:=(λseen oS nn=>?_:PV _);FL DM (JN:ES _ (type_of%?zq8)) (?zq8 _ _ _);rintro⟨rfl,hsc,hS,hnn,zf,hlq⟩ F6 N6 hos6 hb6
   dsimp only
   have hsc1:scan uri dps []=(BN,seen):=by rw[hsc,scan]
   have hret:¬(uri=AW∧AW∉seen):=λz=>hu0 z.1;rcases (by cases rw<;>simp:rw=BC∨rw=AU) with hrw|hrw
   ·have hnk:=hR hrw ⟨seen,hsc1⟩
    repeat'((fail_if_success (with_reducible show AI _ _ (EZ (SG (Expr.Compare _ _ _ _) _ _ _::_) _) _ _ _));walk_at "go")
    refine BR (OD (R:=λs'=>∃(h2:CW)(k:CC)(pf:AX)(tp:DW)(oM2:CY)(pq2:AE (AX×(AX×DW))),s'={ heap:=h2,gens:=s6.gens,drawn:=s6.drawn,toks:=k,os:=s6.os }∧Fr g L' h2 (λy:AX=>if y=AA "prefix" then AK (.str pf tp) else if y="prefix" then p6 else if y="u" then u6 else if y="prefixes_seen" then AK (.ref sa) else if y="tag" then AK (.str tag t2) else if y="uri" then AK (.str uri t1) else DY y [("uri",.none),("qname",.str q tq),("self",.ref x)])∧AY g L' h2 [(sa,oS),(x,CV 143 dx),(dx,CK (wd hsh tkn (.bool BC) (.bool AU) .none .none (.bool rw) .none .none .none wr da de ns pm pr rs rd ig) ep),(dl,listOf its n),(pm,oM2)]∧cO rw pq uri pf pq2∧HY rw_dn0283_07.row.prog w oM2 pq2∧find uri nps=AK pf) ?c1 ?c2)
    case c1 =>
     by_cases hin:uri∈pq.map (·.1)
     ·have hdec:decide (uri∈pq.map (·.1))=BC:=CN hin
      repeat'(first
       |((with_reducible show AI _ _ (LO CmpOp.In (.str uri _) (.ref pm)) _ _ _);(rename AY _ _ _ _=>N9);refine in_S hps (N9 (pm,oM) (by k_mem)).1 hM ?_)
       |((with_reducible show AI _ _ (BZ _ _ (.ref pm) _) _ _ _);(rename AY _ _ _ _=>N9);refine Ad (N9 (pm,oM) (by k_mem)).1 hM hin ?_;walk_at "eps2";intro hmem)
       |((fail_if_success (with_reducible show GI=_∧_));walk_at "go"))
      (rename Fr ..=>F9);(rename AY _ _ _ _=>N9)
      exact⟨rfl,_,_,_,_,oM,pq,rfl,F9,N9,.inl ⟨rfl,λ_=>hin⟩,hM,hnk.1 _ hmem⟩
     ·have hdec:decide (uri∈pq.map (·.1))=AU:=CF hin
      repeat'(first
       |((with_reducible show AI _ _ (LO CmpOp.In (.str uri _) (.ref pm)) _ _ _);(rename AY _ _ _ _=>N9);refine in_S hps (N9 (pm,oM) (by k_mem)).1 hM ?_)
       |((with_reducible show AI _ _ (DK (.builtin "len") [.ref pm]) _ _ _);(rename AY _ _ _ _=>N9);refine Er hps (N9 (pm,oM) (by k_mem)).1 hM (AQ hMz (by decide)) ?_)
       |((fail_if_success (with_reducible show GI=_∧_));walk_at "go"))
      (rename Fr ..=>F9);(rename AY _ _ _ _=>N9)
      (try dsimp only)
      refine UN (v:=XA pq.length) F9 N9 (.tail (AJ l2.2.2.2) (.tail (BG hmn.1) (.tail (BG hmn.2.1) (.tail (BG hmn.2.2) (.head (BA _)))))) hM hin (AQ hMz (by decide)) ?_;clear F9 N9
      with_reducible refine let_mvar%?zr1:=(λh9 o9 k9=>?_:PV _);FL DM (JN:ES _ (type_of%?zr1)) (?zr1 _ _ _);intro F9 N9 hM9
      (try dsimp only)
      repeat'((fail_if_success (with_reducible show GI=_∧_));walk_at "go")
      (rename Fr ..=>F9);(rename AY _ _ _ _=>N9)
      exact⟨rfl,_,_,_,_,o9,_,rfl,F9,N9,.inr ⟨hrw,hin,_,rfl⟩,hM9,hnk.2 hin⟩
    case c2 =>
     refine exs6 ?_;with_reducible refine let_mvar%?zr2:=(λs97 h2 k2 pf tp oM2 pq2=>?_:An _);RC JS (gB:ES _ (type_of%?zr2)) (?zr2 _ _ _ _ _ _ _);rintro⟨rfl,F7,N7,hpn,hM2,hfd⟩
     clear F6 N6
     (try dsimp only)
     have hpf0:pf≠AW∧pf.length≤1000:=Ce hNq hfd;have hz1:pf.length≤1000:=hpf0.2;have hz2:tag.length≤1000:=hut.2
     repeat'(first
      |((with_reducible show AI _ _ (BZ _ _ (.ref de) (.int (-1) _)) _ _ _);refine PN (vs:=dlv.map λp=>.ref p.1) (v:=.ref dl) (DX (QI (by k_asm)) hDe') ?_)
      |((with_reducible show AI _ _ (DK (.builtin "list.append") [.ref dl,_]) _ _ _);rename_i l8;refine KP (by k_asm) (by k_asm) (LK (AJ l8.2.2.2.1) (LK (AJ l2.2.2.1) (LK hxl (LK hdl (WL (Fc hmn.2.2 (BA _))))))) ?_ hitz;walk_at "eps";rename_i h';intro F' N';(try k_sweep))
      |walk_at "go")
     all_goals(rename Fr ..=>F9;rename AY _ _ _ _=>N9;rename_i l9)
     refine leaveM_ F9 (AY.drop3m N9) hos6 hb6 λH'=>hN2 _ _ pf _ _ _ _ _ _ _ oM2 pq2 hpn hM2 ?_ l9.2.2.1 l9.2.2.2.1 l9.2.2.2.2.1 l9.2.2.2.2.2 l8.2.1 l8.2.2.1 l8.2.2.2.1 l8.2.2.2.2 (AJ l9.1) H';rw[cI hsc1 hret hfd,dB (tO.mp (jJ hpf0.1))]
   ·obtain⟨hNs,hNl,hNp⟩:=hK hrw
    repeat'(first
      |((with_reducible show AI _ _ (exec (QX _ _ _ _ _) _) _ _ _);refine wpAny_For ?_)
      |((with_reducible show AI _ _ (DK (.ref 68) _) _ _ _);refine QF (yG (lvs:=nlv) (binds:=[("self",.ref x),("ns_stack",.ref ns),("_reversed",.type "reversed")]) F6 N6 X T.nolimit hos6 hb6 hh (by k_is) (by k_is) (CJ (FG zq) (by decide)) (Br (X.keeps F6.keep) rfl (by k_is) rfl rfl rfl) (locs rfl) rfl rfl (DX F6.keep hNs) (λz hz=>⟨DX F6.keep (hNl z hz).1,(hNl z hz).2⟩) ?_ rfl rfl rfl rfl rfl rfl (by decide)))
      |walk_at "go")
    with_reducible refine let_mvar%?zq4:=(λs7 B7 ga7 gn7 oG7 priv7=>?_:Be _);SJ JS (kG:ES _ (type_of%?zq4)) (?zq4 _ _ _ _ _ _);intro F7 N7 hG7 hos7 hb7 G7 hsB7 hlB7 hnB7 hLB7 hga7 hpB7
    dsimp only;refine wpAny_pyIter_gen (hG7.at (N7 _ (.head _)).1) ?_;refine sF (λps own=>own=[(sa,oS),(x,CV 143 dx),(dx,CK (wd hsh tkn (.bool BC) (.bool AU) .none .none (.bool rw) .none .none .none wr da de ns pm pr rs rd ig) ep),(dl,listOf its n),(pm,oM)]∧find uri nps=find uri ps∧∀q∈ps,q.1.length≤1000∧q.2.length≤1000∧q.2≠AW) hh (CJ (FG zq) (by decide)) T.nolimit hG7 hga7 hLB7 ?hstack ?hown ?step ?done ⟨rfl,rfl,hNq⟩ F7 N7 hNp G7 hos7 hb7 rfl rfl rfl
    case hstack =>
     rintro hp ps own hk Nk _;exact⟨hsB7,DX hk hNs,λz hz=>⟨hlB7 z hz,DX hk (hNl z hz).1,(hNl z hz).2⟩⟩
    case hown =>
     rintro ps own ⟨rfl,_⟩ z hz
     exact .inl (hnB7 z hz)
    case step =>
     with_reducible refine let_mvar%?zq10:=(λs8 q8 ta tb ps8 own8 rest=>?_:An _);RC JS (gB:ES _ (type_of%?zq10)) (?zq10 _ _ _ _ _ _ _);rintro⟨rfl,hfd,hlq8⟩ F8 N8 hrest hos8 hb8
     dsimp only[DQ,DB] at N8
     cases hu:q8.1==uri with
     |false =>
      have hfd':find uri nps=find uri ps8:=by rw[hfd,find,CA (λz=>by rw[z] at hu;simp at hu)]
      repeat'(first
       |((with_reducible show Exists _);exact⟨_,_,_,⟨rfl,hfd',λz hz=>hlq8 z (.tail _ hz)⟩,F8,N8,hos8,rfl⟩)
       |walk_at "go")
     |true =>
      have hrest':∀p∈rest,p.1≠dl:=λp hp=>AJ (CJ (hnB7 (dl,listOf its n) (.tail _ (.tail _ (.tail _ (.head _))))) (hrest p hp))
      have hz1:q8.2.length≤1000:=(hlq8 q8 (.head _)).2.1;have hz3:((q8.2.length:EE) !=0)=BC:=jJ (hlq8 q8 (.head _)).2.2;have hz2:tag.length≤1000:=hut.2
      repeat'(first
       |((with_reducible show AI _ _ (BZ _ _ (.ref de) (.int (-1) _)) _ _ _);refine PN (vs:=dlv.map λp=>.ref p.1) (v:=.ref dl) (DX (QI (by k_asm)) hDe') ?_)
       |((with_reducible show AI _ _ (DK (.builtin "list.append") [.ref dl,_]) _ _ _);rename_i l8;refine KP (by k_asm) (by k_asm) (LK (AJ l8.2.2.2.1) (LK (AJ l2.2.2.1) (LK hxl (LK hdl (WL (Fc hmn.2.2 hrest')))))) ?_ hitz;walk_at "eps";rename_i h';intro F' N';(try k_sweep))
       |walk_at "go")
      all_goals(rename Fr ..=>F9;rename AY _ _ _ _=>N9;rename_i l9)
      refine leaveM_ F9 (AY.drop3m N9) hos8 hb8 λH'=>hN2 _ _ q8.2 _ _ _ _ _ _ _ oM pq (.inl ⟨rfl,λz=>absurd (hrw.symm.trans z) DE⟩) hM ?_ l9.2.2.1 l9.2.2.2.1 l9.2.2.2.2.1 l9.2.2.2.2.2.1 l8.2.1 l8.2.2.1 l8.2.2.2.1 l8.2.2.2.2.1 (AJ l9.1) H';rw[cI hsc1 hret (by rw[hfd,find,DJ (TT.mp hu)]),dB (tO.mp hz3)]
    case done =>
     with_reducible refine let_mvar%?zq11:=(λs8 own8 p8 u8=>?_:ZE _);IB JS (OM:ES _ (type_of%?zq11)) (?zq11 _ _ _ _);rintro⟨rfl,hfd,_⟩ F8 N8 hos8 hb8
     exact absurd (hfd.trans rfl) hsome
end
section

open PyProof.Rows.LCg
section
variable{w:BU}{A:BQ}{E:AC→AG→Prop}{s:AG}{g:CW}{os:CU}{p:BH}{zw:AE AX}{zt:ER→AM AC}{mg mb:AX→AM AC}{L:AH}{m:AX→AM AC}{news:AE (AH×CY)}
 {x dx:AH} {hsh:CC→EE} {tkn:CC→DW} {wr da de ns pm pr:AH} {rs rd:CZ} {ep:CC} {dl:AH}
noncomputable abbrev WQ(rw:CZ)(x dx:AH)(hsh:CC→EE)(tkn:CC→DW)(wr da de ns pm pr:AH)(rs rd:CZ)(ep:CC)(dl:AH)(oM:CY)(itsd:CE AC)(nd:CC):AE (AH×CY) :=
 [(x,CV 143 dx),(dx,CK (wd hsh tkn (.bool BC) (.bool AU) .none .none (.bool rw) .none .none .none wr da de ns pm pr rs rd 0) ep),(dl,listOf itsd nd),(pm,oM)]
def xH(rw:CZ)(pq:AE (AX×(AX×DW)))(o:AM Pr)(pq':AE (AX×(AX×DW))):Prop:=match o with|none=>pq'=pq|some q=>cO rw pq q.1 q.2 pq'
noncomputable def sR(w:BU)(A:BQ)(s:AG)(E:AC→AG→Prop)(g:CW)(os:CU)(p:BH)(zw:AE AX)(zt:ER→AM AC)(mg mb:AX→AM AC)(L:AH)(m:AX→AM AC)(news:AE (AH×CY))(x dx:AH)(hsh:CC→EE)(tkn:CC→DW)(wr da de ns pm pr:AH)(rs rd:CZ)(ep:CC)(dl qm:AH)(itsd:CE AC)(nd nns:CC)(dlv nlv:AE (AH×CE AC))(lower nps lv:AE Pr)(n:AX)(tn:DW)(prs rest:AE (AH×CY))(Q:AC→AG→Prop)(rw:CZ)(oM:CY)(pq:AE (AX×(AX×DW))):Prop :=
 ∀(X:(hd07.heap_1 w.params).In g)(T:VO p zw zt mg mb g)(hh:A.handled=BN)(zq:A.depth<900)(F:Fr g L s.heap m)(N:AY g L s.heap news)(hos:s.os=os)(hb:BP s.gens)(hqm:(qm,IK (.ref 83) (.ref x))∈news)(h1:∀q∈WQ rw x dx hsh tkn wr da de ns pm pr rs rd ep dl oM itsd nd,q∈news)(h2:∀q∈rest,q∈news)(h3:∀q∈rest,q.1≠x∧q.1≠dx∧q.1≠dl∧q.1≠pm)(hM:HY rw_dn0283_07.row.prog w oM pq)(hMz:pq.length≤50)(hps:(pm==FB)=AU)(hmn:pm≠x∧pm≠dx∧pm≠dl)(hu0:(cutName n).1≠AW)(hP0:∀q∈lower,q.2≠AW)(hR:rw=BC→(∃sn,scan (cutName n).1 (lv++lower) []=(BN,sn))→xF nps pq (cutName n).1)(hDe:g.IsList de ((dlv++[(dl,(#[]:CE AC))]).map λp=>.ref p.1).toArray)(hDl:∀p∈dlv,g.IsList p.1 p.2)(hDz:∀p∈dlv,(p.2.size:EE)<2 ^ 63)(hDp:All2 (KM g) (comes dlv) lower)(hDn:lower.length<2900)(hDs:∀q∈lower,q.1.length≤200∧q.2.length≤200)(hNs:(ns,listOf (nlv.map λp=>.ref p.1).toArray nns)∈rest)(hK:rw=AU→(∀p∈nlv,g.IsList p.1 p.2∧(p.2.size:EE)<2 ^ 63)∧All2 (KM g) (comes nlv) nps)(hNq:∀q∈nps,q.1.length≤200∧q.2.length≤200∧q.2≠AW)(hpr:∀q∈prs,q∈rest)(hits:All2 (GP prs) itsd.toList lv)(hlv:lv.length≤50)(hlq:∀q∈lv,q∈nps)(hg:OS n=BC)(hk:known nps (cutName n).1)(hxl:x≠dl)(hdl:dx≠dl)(h:∀s' txt o ta t1 t2 t3 new its' nd' oM' pq',xH rw pq o pq'→HY rw_dn0283_07.row.prog w oM' pq'→qn (lv++lower) nps (cutName n).1 (cutName n).2=AK (txt,o)→All2 (GP (new++prs)) its'.toList (lv++o.toList)→(∀q∈(ta,DO #[.str txt t1,.str (cutName n).2 t2,.str (cutName n).1 t3])::new,q.1≠x∧q.1≠dx∧q.1≠dl∧q.1≠pm∧∀r∈rest,q.1≠r.1)→(∀q∈new,ta≠q.1) →
   Fr g L s'.heap m→AY g L s'.heap ((ta,DO #[.str txt t1,.str (cutName n).2 t2,.str (cutName n).1 t3])::(new++(WQ rw x dx hsh tkn wr da de ns pm pr rs rd ep dl oM' its' nd'++rest)))→s'.os=os→BP s'.gens→Q (.ref ta) s'),AI (BE rw_dn0283_07.row.prog w) A (DK (.ref qm) [.str n tn]) Q E s
theorem WZ{ns:AE Pr}{u:AX}(h:u≠AW)(hk:known ns u):find u ns≠BN:=hk.elim (λe=>absurd e h) id
theorem qcall:∀{w A s E g os p zw zt mg mb L m news x dx hsh tkn wr da de ns pm pr rs rd ep dl qm itsd nd nns dlv nlv lower nps lv n tn prs rest Q rw oM pq},sR w A s E g os p zw zt mg mb L m news x dx hsh tkn wr da de ns pm pr rs rd ep dl qm itsd nd nns dlv nlv lower nps lv n tn prs rest Q rw oM pq:=by
 refine @(BK (GM KF)<|@(BK DM<|@(BK DM<|@(BK DM<|@(BK DM<|@(RA DM<|let_mvar%?n:=(λw A s E g os p zw zt mg mb L m news x dx hsh tkn wr da de ns pm pr rs rd ep dl qm itsd nd nns dlv nlv lower nps lv n tn prs rest Q rw oM pq=>?_:∀a b c d e f g h i j k l m n o p q r s t u v w x y z a1 b1 c1 d1 e1 f1 g1 h1 i1 j1 k1 l1 m1 n1 o1 p1 q1 r1 s1,sR a b c d e f g h i j k l m n o p q r s t u v w x y z a1 b1 c1 d1 e1 f1 g1 h1 i1 j1 k1 l1 m1 n1 o1 p1 q1 r1 s1);?n _ _ _ _ _ _ _ _ _ _ _ _ _ _ _ _ _ _ _ _ _ _ _ _ _ _ _ _ _ _ _ _ _ _ _ _ _ _ _ _ _ _ _ _ _))))))
 intro X T hh zq F N hos hb hqm h1 h2 h3 hM hMz hps hmn hu0 hP0 hR hDe hDl hDz hDp hDn hDs hNs hK hNq hpr hits hlv hlq hg hk hxl hdl h;obtain⟨g1,g2,g3,g4⟩:=MZ hg
 obtain⟨H₂,K₂,r₂,back⟩:=fE (own:=WQ rw x dx hsh tkn wr da de ns pm pr rs rd ep dl oM itsd nd) (rest:=rest) F N hos hb h1 h2 (λq hq z=>by
  obtain⟨a1,a2,a3,a4⟩:=h3 q hq;simp only[EC,PA,AP,GK,OJ] at z;rcases z with z|z|z|z
  ·exact a1 z
  ·exact a2 z
  ·exact a3 z
  ·exact a4 z)
 generalize cG s.heap ((WQ rw x dx hsh tkn wr da de ns pm pr rs rd ep dl oM itsd nd).map (·.1))=g₂ at H₂ K₂ r₂ back
 have hcm:comes (dlv++[(dl,itsd)])=itsd.toList++comes dlv:=by simp[comes]
 have hneq:∀{q:AH×CY}{own':AE (AH×CY)}{s':AG},Ok g₂ os own' s'→q∈own'→∀r∈rest,q.1≠r.1:=λH' hq r hr=>ZU H' r₂ hq hr;refine call_meth N hqm ?_;refine eK (dlv:=dlv) (nlv:=nlv) (dps:=lv++lower) (nps:=nps) (uri:=(cutName n).1) (tag:=(cutName n).2) (X.keeps K₂) (T.keeps K₂) H₂ hM hMz hps hmn hu0 ?hp0 ?_ (λq hq=>DX K₂ (hDl q hq)) ?_ ?_ (by rw[BD];exact(Nt λhn1=>fk [_,_] (.e (.s V0) (.k 2900) (.e V1 (.k 50) (.e (.k 3000) (.a V1 V0) K0))) rfl hDn hlv hn1)) ?_ (λz=>⟨⟨_,r₂ _ hNs,rfl,_,rfl⟩,(λq hq=>⟨DX K₂ ((hK z).1 q hq).1,((hK z).1 q hq).2⟩),(hK z).2.mono λ_ _ z=>z.keeps K₂⟩) (λq hq=>⟨AQ (hNq q hq).1 (by decide),AQ (hNq q hq).2.1 (by decide),(hNq q hq).2.2⟩) hxl hdl ?_ hh zq (AQ g2 (by decide)) ⟨AQ g3 (by decide),AQ g4 (by decide)⟩ g1 ?_ ?_ (WZ hu0 hk) hR
 case hp0 =>
  intro q hq;rcases AT.mp hq with hq|hq
  ·exact(hNq q (hlq q hq)).2.2
  ·exact hP0 q hq
 ·have:=DX K₂ hDe
  rw[BF] at this ⊢;exact this
 ·intro q hq
  rcases AT.mp hq with hq|hq
  ·exact hDz q hq
  ·rw[BB.mp hq]
   have:itsd.size=lv.length:=by rw[← hits.length];simp
   show(itsd.size:EE)<2 ^ 63;rw[this]
   have e:(2:EE) ^ 63=9223372036854775808:=by decide
   lia
 ·rw[hcm]
  exact(hits.mono λ_ _ z=>RS (λq hq=>r₂ q (hpr q hq)) z).append (hDp.mono λ_ _ z=>z.keeps K₂)
 ·intro q hq
  rcases AT.mp hq with hq|hq
  ·have:=hNq q (hlq q hq);exact⟨AQ this.1 (by decide),AQ this.2.1 (by decide)⟩
  ·have:=hDs q hq;exact⟨AQ this.1 (by decide),AQ this.2 (by decide)⟩
 ·have:itsd.size=lv.length:=by rw[← hits.length];simp
  rw[this,BI];exact(Nl λhn1=>fk [_] (.e V0 (.k 50) (.e (.s (.k 16777216)) V0 K0)) rfl hlv hn1)
 ·intro s7 txt ta t1 t2 t3 hqn l1 l2 l3 lm H7
  obtain⟨F7,N7,o7,b7⟩:=back _ _ H7;refine h s7 txt BN ta t1 t2 t3 [] itsd nd oM pq rfl hM hqn (by simpa using hits) ?_ (λ_ z=>nomatch z) F7 N7 o7 b7;intro q hq;rw[BB.mp hq];exact⟨AJ l1,AJ l2,AJ l3,AJ lm,hneq H7 (.head _)⟩
 ·intro s7 txt pf ta tb t1 t2 t3 t4 t5 oM' pq' hpn hM' hqn l1 l2 l3 lm l4 l5 l6 ln l7 H7
  obtain⟨F7,N7,o7,b7⟩:=back _ _ H7;refine h s7 txt (AK ((cutName n).1,pf)) ta t1 t2 t3 [(tb,DO #[.str (cutName n).1 t4,.str pf t5])] (itsd.push (.ref tb)) (nd+1) oM' pq' hpn hM' hqn ?_ ?_ ?_ F7 N7 o7 b7
  ·rw[MR]
   exact(hits.mono λ_ _ z=>z.mono λ_ hq=>.tail _ hq).append (.cons ⟨tb,t4,t5,rfl,.head _⟩ .nil)
  ·intro q hq
   simp only[AP,GK,OJ] at hq;rcases hq with rfl|rfl
   ·exact⟨AJ l1,AJ l2,AJ l3,AJ lm,hneq H7 (.head _)⟩
   ·exact⟨AJ l4,AJ l5,AJ l6,AJ ln,hneq H7 (.tail _ (.head _))⟩
  ·intro q hq
   rw[BB.mp hq];exact l7
end
end
section

noncomputable def LC(lower ns:AE Pr):AE AX→AE Pr→AE AX→AE AX→Prop
 |[],_,ks,ks'=>ks'=ks
 |n::l,lv,ks,ks'=>match qn (lv++lower) ns (cutName n).1 (cutName n).2 with
  |some (_,BN)=>LC lower ns l lv ks ks'
  |some (_,AK q)=>(q.1∈ks∧LC lower ns l (lv++[q]) ks ks')∨(q.1∉ks∧q.2=XA ks.length∧LC lower ns l (lv++[q]) (ks++[q.1]) ks')
  |none=>NF
structure PqAt (rw:CZ) (nps:AE Pr) (pq0 pq:AE (AX×(AX×DW))):Prop where
 v:rw=BC→∀e∈pq,find e.1 nps=AK e.2.1
 same:rw=AU→pq=pq0
section
variable{rw:CZ}{lower ns lv:AE Pr}{n txt:AX}{l ks':AE AX}{pq0 pq pq':AE (AX×(AX×DW))}{o:AM Pr}
theorem qn_two{decl:AE Pr}{uri tag:AX}{q:Pr}(h:qn decl ns uri tag=AK (txt,AK q)):(∃sn,scan uri decl []=(BN,sn))∧find uri ns=AK q.2∧q.1=uri:=by
 unfold qn at h;split at h
 ·cases h
 ·rename_i sn e
  split at h
  ·cases h
  ·split at h
   ·rename_i p e2
    injection h with h;injection h with _ h;injection h with h;rw[← h];exact⟨⟨sn,e⟩,e2,rfl⟩
   ·split at h<;>cases h
theorem num_ok(h0:(cutName n).1≠AW)(hk:known ns (cutName n).1)(P:PqAt rw ns pq0 pq)(hr:rw=BC→LC lower ns (n::l) lv (pq.map (·.1)) ks'):rw=BC→(∃sn,scan (cutName n).1 (lv++lower) []=(BN,sn))→xF ns pq (cutName n).1:=by
 rintro hw ⟨sn,hs⟩;refine⟨P.v hw,λhn=>?_⟩;have hf:=WZ h0 hk
 cases e:find (cutName n).1 ns with
 |none=>exact absurd e hf
 |some p =>
  have hq:qn (lv++lower) ns (cutName n).1 (cutName n).2=AK (full p (cutName n).2,AK ((cutName n).1,p)):=cI hs (λz=>h0 z.1) e;have:=hr hw;unfold LC at this;rw[hq] at this;rcases this with z|z
  ·exact absurd z.1 hn
  ·have e2:p=XA (pq.map (·.1)).length:=z.2.1
   rw[e2,AN]
theorem yZ(hr:rw=BC→LC lower ns (n::l) lv (pq.map (·.1)) ks')(hq:qn (lv++lower) ns (cutName n).1 (cutName n).2=AK (txt,o))(hs:xH rw pq o pq'):rw=BC→LC lower ns l (lv++o.toList) (pq'.map (·.1)) ks':=by
 intro hw;have h:=hr hw;unfold LC at h;rw[hq] at h
 cases o with
 |none=>have e:pq'=pq:=hs;rw[e];simpa using h
 |some q =>
  rcases (hs:cO rw pq q.1 q.2 pq') with⟨rfl,h1⟩|⟨_,h1,t,rfl⟩
  ·rcases h with z|z
   ·exact z.2
   ·exact absurd (h1 hw) z.1
  ·rcases h with z|z
   ·exact absurd z.1 h1
   ·rw[BF];exact z.2.2
theorem sQ(P:PqAt rw ns pq0 pq)(hq:qn (lv++lower) ns (cutName n).1 (cutName n).2=AK (txt,o))(hs:xH rw pq o pq'):PqAt rw ns pq0 pq'∧pq'.length≤pq.length+1:=by
 cases o with
 |none=>have e:pq'=pq:=hs;rw[e];exact⟨P,QW _⟩
 |some q =>
  obtain⟨_,h2,h3⟩:=qn_two hq;rcases (hs:cO rw pq q.1 q.2 pq') with⟨rfl,h1⟩|⟨hw,h1,t,rfl⟩
  ·exact⟨P,QW _⟩
  ·refine⟨⟨λ_=>Fp (P.v hw) (Fc ?_ (BA _)),λz=>absurd (hw.symm.trans z).symm DE⟩,by simp⟩
   show find q.1 ns=AK q.2;rw[h3];exact h2
end
end
section

open PyProof.Rows.LCg
noncomputable abbrev MS:KO:={ kind:=.function,names:=[(".0",.local),("n",.local),("parse_qname",.free)],isGenerator:=AU,isCoroutine:=AU,more:=[] }
theorem uO{prog:BH}{w:BU}:(CK [] 0).IsDictOf (EL prog w) []:=⟨#[],0,⟨rfl,rfl,rfl⟩,rfl,λe he=>by simp at he,.nil,NJ⟩
noncomputable def cN(w:BU)(A:BQ)(E:AC→AG→Prop)(env:XH)(iter:EK)(cl:AE (AX×AH))(q1 q2 q3 q4 q5 q6 q7:OP)(Q:WG→AG→Prop)(xv:AC)(s₁:AG):Prop :=
 AI (BE rw_dn0283_07.row.prog w) A (IY xv) (λit s₂=>AI (BE rw_dn0283_07.row.prog w) A newDict (λacc s₃=>AI (BE rw_dn0283_07.row.prog w) A (TU MS env.globals cl [] env.qual BN .none (AK env)) (λcenv s₄ =>
   DV (BE rw_dn0283_07.row.prog w) A (.compStart (.DictComp (.Name "n" q1) (.Call (.Name "parse_qname" q2) [.Name "n" q3] [] q4) [⟨.Name "n" q5,iter,[],0⟩] MS q6) 0 it acc { cenv with scope:=relabel MS env })
    (compPost (BE rw_dn0283_07.row.prog w) A E (AK (assign (.Name "parsed_qnames" q7) env)) (λ_ s'=>Q .next s') acc cenv.locals) s₄) E s₃) E s₂) E s₁
section
variable{w:BU}{A:BQ}{E:AC→AG→Prop}{s:AG}{g:CW}{os:CU}{p:BH}{zw:AE AX}{zt:ER→AM AC}{mg mb:AX→AM AC}{L:AH}{m:AX→AM AC}
 {x dx:AH} {hsh:CC→EE} {tkn:CC→DW} {wr da de ns pm pr:AH} {rs rd:CZ} {ep:CC} {dl:AH} {env:XH}
theorem qV{iter:EK}{cl:AE (AX×AH)}{q1 q2 q3 q4 q5 q6 q7 q8:OP}{Q:WG→AG→Prop}
  (hsw:swapsWith (.DictComp (.Name "n" q1) (.Call (.Name "parse_qname" q2) [.Name "n" q3] [] q4) [⟨.Name "n" q5,iter,[],0⟩] MS q6) (AK (.Name "parsed_qnames" q7)) q8.line env=pure BC)
  (hclos:QD MS env=pure cl) (hfs:∀x,HJ iter env x=pure x)
  (h:AI (BE rw_dn0283_07.row.prog w) A (eval iter env) (cN w A E env iter cl q1 q2 q3 q4 q5 q6 q7 Q) E s) :
  AI (BE rw_dn0283_07.row.prog w) A (exec (.Assign [.Name "parsed_qnames" q7] (.DictComp (.Name "n" q1) (.Call (.Name "parse_qname" q2) [.Name "n" q3] [] q4) [⟨.Name "n" q5,iter,[],0⟩] MS q6) q8) env) Q E s:=by
 rw[ZM _ _ _ _ hsw]
 refine Wb (EQ (Wb ?_))
 show AI _ A (do let _ ← comprehension (.DictComp (.Name "n" q1) (.Call (.Name "parse_qname" q2) [.Name "n" q3] [] q4) [⟨.Name "n" q5,iter,[],0⟩] MS q6) MS env _ newDict AU (eval iter env) (AK (assign (.Name "parsed_qnames" q7) env))) _ _ s
 exact Wb (DI (JH (use:=AK (assign (.Name "parsed_qnames" q7) env)) (Q:=λ_ s'=>Q .next s') rfl hfs hclos rfl (by decide) h) (λ_ s' hq=>Wp (Wp hq)) λ_ _ e=>e)
theorem hlen50{a b c d:CC}(h1:a≤b+c)(h2:c+1≤d)(h3:b+d≤50):a≤50:=by omega
inductive ParJ (w:BU) (x:AH) (dx:AH) (hsh:CC→EE) (tkn:CC→DW) (wr:AH) (da:AH) (de:AH) (ns:AH) (pm:AH) (pr:AH) (rs:CZ) (rd:CZ) (ep:CC) (dl:AH) (lower:AE Pr) (nps:AE Pr) (O4:AE (AH×CY)) (tmp:AE (AH×CY)) (outn:AE (AX×DW)) (rw:CZ) (pq0:AE (AX×(AX×DW))) (ks':AE AX) (D:AH) (rem:AE AC) (own:AE (AH×CY)):Prop
 |mk (l1:AE (AX×DW)) (l2:AE (AX×DW)) (itsd:CE AC) (nd:CC) (oD:CY) (kvs:AE (AX×AC)) (tups:AE (AH×CY)) (prs:AE (AH×CY)) (oM:CY) (pq:AE (AX×(AX×DW))) (h0:outn=l1++l2) (h1:rem=AF l2) (h2:own=(D,oD)::(WQ rw x dx hsh tkn wr da de ns pm pr rs rd ep dl oM itsd nd++(tups++(prs++(O4++tmp))))) (h3:All2 (GP prs) itsd.toList (declare lower nps (l1.map (·.1)) [] []).1) (h4:oD.IsDictOf (EL rw_dn0283_07.row.prog w) kvs) (h5:All2 (ON tups) kvs (declare lower nps (l1.map (·.1)) [] []).2) (h6:(∀q∈(D,oD)::(tups++prs),q.1≠x∧q.1≠dx∧q.1≠dl∧q.1≠pm∧∀r∈O4++tmp,q.1≠r.1)) (h7:(∀q∈tups++prs,q.1≠D)) (h8:HY rw_dn0283_07.row.prog w oM pq) (h9:PqAt rw nps pq0 pq) (h10:pq.length≤pq0.length+l1.length) (h11:(rw=BC→LC lower nps (l2.map (·.1)) (declare lower nps (l1.map (·.1)) [] []).1 (pq.map (·.1)) ks')):ParJ w x dx hsh tkn wr da de ns pm pr rs rd ep dl lower nps O4 tmp outn rw pq0 ks' D rem own
noncomputable def VX(w:BU)(A:BQ)(s:AG)(E:AC→AG→Prop)(g:CW)(os:CU)(p:BH)(zw:AE AX)(zt:ER→AM AC)(mg mb:AX→AM AC)(L:AH)(m:AX→AM AC)(x dx:AH)(hsh:CC→EE)(tkn:CC→DW)(wr da de ns pm pr:AH)(rs rd:CZ)(ep:CC)(dl:AH)(env:XH)(qm ax c:AH)(oc1:CY)(nns c1 nd0:CC)(dlv nlv:AE (AH×CE AC))(lower nps:AE Pr)(O4 tmp:AE (AH×CY))(outn:AE (AX×DW))(iter:EK)(cl:AE (AX×AH))(q1 q2 q3 q4 q5 q6 q7:OP)(Q:WG→AG→Prop)(rw:CZ)(oM0:CY)(pq0:AE (AX×(AX×DW)))(ks':AE AX):Prop :=
 ∀(X:(hd07.heap_1 w.params).In g)(T:VO p zw zt mg mb g)(hh:A.handled=BN)(zq:A.depth<900)(hL:env.locals=L)(hcl:cl.lookup (AA "parse_qname")=AK c) (hkp:∀C,(EY MS cl C env).kindOf (AA "parse_qname")=AK .cell) (hkn:∀C,(EY MS cl C env).kindOf (AA "n")=AK .local) (hy:env.kindOf (AA "parsed_qnames")=AK .local) (hp:(env.scope.kind==.class||(env.scope.kind==.module&&env.locals !=env.globals))=AU) (hDe:g.IsList de ((dlv++[(dl,(#[]:CE AC))]).map λp=>AR p.1).toArray) (hDl:∀p∈dlv,g.IsList p.1 p.2) (hDz:∀p∈dlv,(p.2.size:EE)<2 ^ 63) (hDp:All2 (KM g) (comes dlv) lower) (hDn:lower.length<2900) (hDs:∀q∈lower,q.1.length≤200∧q.2.length≤200) (hNs:(ns,listOf (nlv.map λp=>AR p.1).toArray nns)∈O4) (hK:rw=AU→(∀p∈nlv,g.IsList p.1 p.2∧(p.2.size:EE)<2 ^ 63)∧All2 (KM g) (comes nlv) nps) (hNq:∀q∈nps,q.1.length≤200∧q.2.length≤200∧q.2≠AW) (hxl:x≠dl) (hdl:dx≠dl) (hM:HY rw_dn0283_07.row.prog w oM0 pq0) (hMz:pq0.length+outn.length≤50) (hps:(pm==FB)=AU) (hmn:pm≠x∧pm≠dx∧pm≠dl) (hu0:∀n∈outn.map (·.1),(cutName n).1≠AW) (hP0:∀q∈lower,q.2≠AW) (hPq:PqAt rw nps pq0 pq0) (hNR:rw=BC→LC lower nps (outn.map (·.1)) [] (pq0.map (·.1)) ks') (hrest:∀q∈O4++tmp,q.1≠x∧q.1≠dx∧q.1≠dl∧q.1≠pm) (hax:(ax,listOf (AF outn).toArray c1)∈tmp) (hcc:(c,oc1)∈tmp) (hcd:oc1.data=.cell (AK (.ref qm))) (hqm:(qm,IK (.ref 83) (.ref x))∈tmp) (hol:outn.length≤40) (hnodup:(outn.map (·.1)).Nodup) (hng:∀n∈outn.map (·.1),OS n=BC∧known nps (cutName n).1) (F₁:Fr g L s.heap m) (N₁:AY g L s.heap (WQ rw x dx hsh tkn wr da de ns pm pr rs rd ep dl oM0 #[] nd0++(O4++tmp))) (os₁:s.os=os) (b₁:BP s.gens) (fin:∀(s1:AG)D oD itsd nd kvs tups prs oM pq,HY rw_dn0283_07.row.prog w oM pq→PqAt rw nps pq0 pq→(rw=BC→pq.map (·.1)=ks')→All2 (GP prs) itsd.toList (declare lower nps (outn.map (·.1)) [] []).1→oD.IsDictOf (EL rw_dn0283_07.row.prog w) kvs→All2 (ON tups) kvs (declare lower nps (outn.map (·.1)) [] []).2 →
   (∀q∈(D,oD)::(tups++prs),q.1≠x∧q.1≠dx∧q.1≠dl∧q.1≠pm∧∀r∈O4++tmp,q.1≠r.1) →
   Fr g L s1.heap (λy=>if y="parsed_qnames" then AK (.ref D) else m y)→AY g L s1.heap (WQ rw x dx hsh tkn wr da de ns pm pr rs rd ep dl oM itsd nd++(O4++((D,oD)::(tups++(prs++tmp)))))→s1.os=os→BP s1.gens→Q .next s1),cN w A E env iter cl q1 q2 q3 q4 q5 q6 q7 Q (.ref ax) s
theorem mY:∀{w A s E g os p zw zt mg mb L m x dx hsh tkn wr da de ns pm pr rs rd ep dl env qm ax c oc1 nns c1 nd0 dlv nlv lower nps O4 tmp outn iter cl q1 q2 q3 q4 q5 q6 q7 Q rw oM0 pq0 ks'},VX w A s E g os p zw zt mg mb L m x dx hsh tkn wr da de ns pm pr rs rd ep dl env qm ax c oc1 nns c1 nd0 dlv nlv lower nps O4 tmp outn iter cl q1 q2 q3 q4 q5 q6 q7 Q rw oM0 pq0 ks':=by
 refine @(BK (GM KF)<|@(BK DM<|@(BK DM<|@(BK DM<|@(BK DM<|@(BK DM<|@(BK DM<|let_mvar%?n:=(λw A s E g os p zw zt mg mb L m x dx hsh tkn wr da de ns pm pr rs rd ep dl env qm ax c oc1 nns c1 nd0 dlv nlv lower nps O4 tmp outn iter cl q1 q2 q3 q4 q5 q6 q7 Q rw oM0 pq0 ks'=>?_:∀a b c d e f g h i j k l m n o p q r s t u v w x y z a1 b1 c1 d1 e1 f1 g1 h1 i1 j1 k1 l1 m1 n1 o1 p1 q1 r1 s1 t1 u1 v1 w1 x1 y1 z1 a2 b2 c2 d2,VX a b c d e f g h i j k l m n o p q r s t u v w x y z a1 b1 c1 d1 e1 f1 g1 h1 i1 j1 k1 l1 m1 n1 o1 p1 q1 r1 s1 t1 u1 v1 w1 x1 y1 z1 a2 b2 c2 d2);?n _ _ _ _ _ _ _ _ _ _ _ _ _ _ _ _ _ _ _ _ _ _ _ _ _ _ _ _ _ _ _ _ _ _ _ _ _ _ _ _ _ _ _ _ _ _ _ _ _ _ _ _ _ _ _ _)))))))
 intro X T hh zq hL hcl hkp hkn hy hp hDe hDl hDz hDp hDn hDs hNs hK hNq hxl hdl hM hMz hps hmn hu0 hP0 hPq hNR hrest hax hcc hcd hqm hol hnodup hng F₁ N₁ os₁ b₁ fin;unfold cN;have hknown:∀n∈outn.map (·.1),known nps (cutName n).1:=λn hn=>(hng n hn).2
 refine WP (o0:=CK [] 0) (target:=.Name "n" q5) (ipos:=iter.pos)
  (emit:=λD C=>do
   let kv ← eval (.Name "n" q1) (EY MS cl C env)
   let vv ← holding [kv] (eval (.Call (.Name "parse_qname" q2) [.Name "n" q3] [] q4) (EY MS cl C env))
   PJ { q1 with endLine:=q4.endLine,endCol:=q4.endCol }
   holding [kv,vv] (dictSet D kv vv))
  (its:=(AF outn).toArray) (ax:=ax) (h₀:=g) (L:=L) (m:=m) (news:=WQ rw x dx hsh tkn wr da de ns pm pr rs rd ep dl oM0 #[] nd0++(O4++tmp)) (os:=os)
  (λD rem own=>ParJ w x dx hsh tkn wr da de ns pm pr rs rd ep dl lower nps O4 tmp outn rw pq0 ks' D rem own)
  (λ_ v m₂=>m₂ "n"=AK v)
  (λs Q h=>GX h) rfl (λI D C R s h1 h2=>codeAny_compStart_dict h1 h2) (λ_ _ _=>rfl) (λ_ _ _ _ _ _ z=>z) (λ_ _ _=>rfl) ?_ ?_ (by decide) rfl hh F₁ N₁ os₁ b₁ ?_ ?_ ?_ ?_ ?_ ?_
 ·intro I i v s1 Q' E' hit hv hq
  exact Wp hq
 ·intro s1 v rem own D C mC Q' E' hJ hk ho hns h
  refine FP (EN (hkn C) hns (λh₃ hn₃ hs₃=>?_) (by simp[EY,relabel]))
  exact h h₃ _ _ hn₃ (by rfl) λb o hb e=>hs₃.extBut b o hb e
 ·exact .inr ⟨_,Mr _ (Mr _ hax),rfl,_,rfl⟩
 ·simp[AF];rw[BI];exact(Nl λhn1=>fk [_] (.e V0 (.k 40) (.e (.s (.k 16777216)) V0 K0)) rfl hol hn1)
 ·intro D hD
  refine⟨[],outn,#[],nd0,CK [] 0,[],[],[],oM0,pq0,rfl,rfl,rfl,.nil,uO,.nil,λq hq=>?_,(λq hq=>nomatch hq),hM,hPq,CR _,hNR⟩;rw[BB.mp hq];refine⟨AJ (hD (x,_) (Ml _ (.head _))),AJ (hD (dx,_) (Ml _ (.tail _ (.head _)))),AJ (hD (dl,_) (Ml _ (.tail _ (.tail _ (.head _))))),AJ (hD (pm,_) (Ml _ (.tail _ (.tail _ (.tail _ (.head _)))))),λr hr=>AJ (hD r (Mr _ hr))⟩
 ·rintro D rem own ⟨l1,l2,itsd,nd,oD,kvs,tups,prs,oM,pq,_,_,rfl,_⟩
  exact .inr ⟨_,.tail _ (Mr _ (Mr _ (Mr _ (Mr _ hax)))),rfl,_,rfl⟩
 ·rintro s1 D v rem own I oI C oC m₂ E' ⟨l1,l2,itsd,nd,oD,kvs,tups,prs,oM,pq,ho,hr,rfl,hp1,hd1,hk1,hn1,hn2,hM1,hPq1,hpl1,hNR1⟩ hC hB F2 N2 off hIC ho2 hb2
  obtain⟨n,tn,l2',rfl,rfl,rfl⟩:∃n tn l2',l2=(n,tn)::l2'∧v=.str n tn∧rem=AF l2':=by
   cases l2 with
   |nil=>cases hr
   |cons q l2'=>obtain⟨n,tn⟩:=q;injection hr with e1 e2;exact⟨n,tn,l2',rfl,e1,e2⟩
  have hnm:n∈outn.map (·.1):=by rw[ho];simp
  have hl1k:∀n∈l1.map (·.1),known nps (cutName n).1:=λn hn=>hknown n (by rw[ho,BF];exact Ml _ hn)
  obtain⟨i1,i2,i3⟩:=KE lower nps (l1.map (·.1)) [] [] hl1k
  have hl1lt:l1.length+1≤outn.length:=by rw[ho,BD];simp
  have hl1len:l1.length≤40:=by have:=BW EG ho;simp at this;exact(Nl λhn1=>fk [_,_,_] (.e V0 (.k 40) (.e (.a V1 (.s V2)) V0 (.e (.s (.k 40)) V1 K0))) rfl hol (Es this) hn1)
  refine Wb (UU N2 (.tail _ (.head _)) hC hB ?_ rfl (hkn C))
  refine Wb (CI (Call_ ?_))
  have hccN:(c,oc1)∈(I,oI)::(C,oC)::(D,oD)::(WQ rw x dx hsh tkn wr da de ns pm pr rs rd ep dl oM itsd nd++(tups++(prs++(O4++tmp)))):=.tail _ (.tail _ (.tail _ (Mr _ (Mr _ (Mr _ (Mr _ hcc))))))
  have hqmN:(qm,IK (.ref 83) (.ref x))∈(I,oI)::(C,oC)::(D,oD)::(WQ rw x dx hsh tkn wr da de ns pm pr rs rd ep dl oM itsd nd++(tups++(prs++(O4++tmp)))):=.tail _ (.tail _ (.tail _ (Mr _ (Mr _ (Mr _ (Mr _ hqm))))))
  refine lcf_cell N2 hcl hccN hcd ?_ rfl (hkp C)
  refine callWith_M X N2 hqmN rfl ?_
  refine args_cons (UU N2 (.tail _ (.head _)) hC hB (args_nil ?_) rfl (hkn C))
  refine⟨methP N2 hqmN (X.keeps F2.keep),?_⟩
  have hoff:∀q∈(D,oD)::(tups++(prs++(O4++tmp))),q∈(D,oD)::(WQ rw x dx hsh tkn wr da de ns pm pr rs rd ep dl oM itsd nd++(tups++(prs++(O4++tmp)))):=Fc (.head _) (λq hq=>.tail _ (Mr _ hq))
  have f4:∀q∈(D,oD)::(tups++prs),q.1≠x∧q.1≠dx∧q.1≠dl∧q.1≠pm:=λq z=>⟨(hn1 q z).1,(hn1 q z).2.1,(hn1 q z).2.2.1,(hn1 q z).2.2.2.1⟩
  have offW:=λq hq=>off q (.tail _ (Ml _ hq))
  refine qcall (rest:=(I,oI)::(C,oC)::(D,oD)::(tups++(prs++(O4++tmp)))) (prs:=prs) (itsd:=itsd) (nd:=nd) (lv:=(declare lower nps (l1.map (·.1)) [] []).1) (dlv:=dlv) (nlv:=nlv) (lower:=lower) (nps:=nps) X T hh zq F2 N2 ho2 hb2 hqmN (λq hq=>.tail _ (.tail _ (.tail _ (Ml _ hq)))) (Fc (.head _) (Fc (.tail _ (.head _)) (λq hq=>.tail _ (.tail _ (hoff q hq))))) (Fc ⟨BG (offW (x,_) (.head _)).1,BG (offW (dx,_) (.tail _ (.head _))).1,BG (offW (dl,_) (.tail _ (.tail _ (.head _)))).1,BG (offW (pm,_) (.tail _ (.tail _ (.tail _ (.head _))))).1⟩ (Fc ⟨BG (offW (x,_) (.head _)).2,BG (offW (dx,_) (.tail _ (.head _))).2,BG (offW (dl,_) (.tail _ (.tail _ (.head _)))).2,BG (offW (pm,_) (.tail _ (.tail _ (.tail _ (.head _))))).2⟩ (Fc (f4 _ (.head _)) (Fp (λq z=>f4 q (.tail _ (Ml _ z))) (Fp (λq z=>f4 q (.tail _ (Mr _ z))) hrest))))) hM1 (hlen50 hpl1 hl1lt hMz) hps hmn (hu0 n hnm) hP0 (num_ok (hu0 n hnm) (hng n hnm).2 hPq1 hNR1) hDe hDl hDz hDp hDn hDs (.tail _ (.tail _ (.tail _ (Mr _ (Mr _ (Ml _ hNs)))))) hK hNq (λq hq=>.tail _ (.tail _ (.tail _ (Mr _ (Ml _ hq))))) hp1 (by simp at i3;exact(Nl λhn1=>fk [_,_] (.e V0 (.k 40) (.e V1 V0 (.e (.s (.k 50)) V1 K0))) rfl hl1len i3 hn1)) (λq hq=>by rcases i2 q hq with z|z;exact nomatch z;exact z) (hng n hnm).1 (hng n hnm).2 hxl hdl ?_;intro s3 txt o ta t1 t2 t3 new its' nd' oM' pq' hqs hM' hqn hits' hfr htn F3 N3 os3 b3
  refine Wb (EQ (CI ?_))
  have zD:=N3 (D,oD) (by simp)
  have hdict:s3.heap.DictOf (EL rw_dn0283_07.row.prog w) D kvs:=MF.mpr ⟨oD,zD.1,hd1⟩
  have hkeys:kvs.map (·.1)=l1.map (·.1):=by
   have:kvs.map (·.1)=(declare lower nps (l1.map (·.1)) [] []).2.map (·.1):=by
    clear hdict hd1;generalize (declare lower nps (l1.map (·.1)) [] []).2=pp at hk1
    induction hk1 with
    |nil=>rfl
    |cons z _ ih=>simp[z.1,ih]
   rw[this,i1];rfl
  have habs:JY kvs n=BN:=by
   unfold JY;rw[XP,AE.find?_eq_none];intro kv hkv hz
   have h1:kv.1∈l1.map (·.1):=by rw[← hkeys];exact BV hkv
   have h2:kv.1=n:=by simpa using hz
   rw[ho,BF,DP] at hnodup;exact hnodup.2.2 _ h1 n (by k_mem) h2
  refine wpAny_dictSet_pairs (knd:=EL rw_dn0283_07.row.prog w) (k:=n) (by simp[EL,JD]) hdict (λh4 hd4 hs4=>?_) (by rw[← AN (f:=(·.1)),hkeys,AN,BI];exact(Nl λhn1=>fk [_] (.e V0 (.k 40) (.e (.s (.k 16777216)) V0 K0)) rfl hl1len hn1))
  rw[stored_absent habs] at hd4;obtain⟨oD',hoD',hdD'⟩:=MF.mp hd4
  have hds:declare lower nps ((l1++[(n,tn)]).map (·.1)) [] []=((declare lower nps (l1.map (·.1)) [] []).1++o.toList,(declare lower nps (l1.map (·.1)) [] []).2++[(n,txt,(cutName n).2,(cutName n).1)]):=by
   rw[BF,aD _ _ _ _ _ _ hl1k];exact lN hqn
  have hDne:∀q∈WQ rw x dx hsh tkn wr da de ns pm pr rs rd ep dl oM' its' nd',q.1≠D:=Fc (BG (hn1 (D,oD) (.head _)).1) (Fc (BG (hn1 (D,oD) (.head _)).2.1) (Fc (BG (hn1 (D,oD) (.head _)).2.2.1) (Fc (BG (hn1 (D,oD) (.head _)).2.2.2.1) (BA _))))
  have hDrest:∀q∈tups++(prs++(O4++tmp)),q.1≠D:=Fp (λq z=>hn2 q (Ml _ z)) (Fp (λq z=>hn2 q (Mr _ z)) (λq z=>BG ((hn1 (D,oD) (.head _)).2.2.2.2 q z)))
  have f5:∀q∈(ta,DO #[.str txt t1,.str (cutName n).2 t2,.str (cutName n).1 t3])::new,q.1≠x∧q.1≠dx∧q.1≠dl∧q.1≠pm∧∀r∈O4++tmp,q.1≠r.1:=λq z=>⟨(hfr q z).1,(hfr q z).2.1,(hfr q z).2.2.1,(hfr q z).2.2.2.1,λr hr=>(hfr q z).2.2.2.2 r (.tail _ (.tail _ (.tail _ (Mr _ (Mr _ hr)))))⟩
  have f6:∀q∈(ta,DO #[.str txt t1,.str (cutName n).2 t2,.str (cutName n).1 t3])::new,q.1≠D:=λq z=>(hfr q z).2.2.2.2 (D,oD) (.tail _ (.tail _ (.head _)))
  have f7:∀q∈(ta,DO #[.str txt t1,.str (cutName n).2 t2,.str (cutName n).1 t3])::new,q.1≠I∧q.1≠C:=λq z=>⟨(hfr q z).2.2.2.2 (I,oI) (.head _),(hfr q z).2.2.2.2 (C,oC) (.tail _ (.head _))⟩
  have mm:∀{q},q∈tups++(prs++(O4++tmp))→q∈(ta,DO #[.str txt t1,.str (cutName n).2 t2,.str (cutName n).1 t3])::(new++(WQ rw x dx hsh tkn wr da de ns pm pr rs rd ep dl oM' its' nd'++((I,oI)::(C,oC)::(D,oD)::(tups++(prs++(O4++tmp)))))):=λz=>.tail _ (Mr _ (Mr _ (.tail _ (.tail _ (.tail _ z)))))
  have kp:∀q,q.1≠D→q∈(ta,DO #[.str txt t1,.str (cutName n).2 t2,.str (cutName n).1 t3])::(new++(WQ rw x dx hsh tkn wr da de ns pm pr rs rd ep dl oM' its' nd'++((I,oI)::(C,oC)::(D,oD)::(tups++(prs++(O4++tmp))))))→h4.get? q.1=AK q.2∧q.1≠L∧g.get? q.1=BN:=λq a z=>⟨hs4.extBut _ _ a (N3 q z).1,(N3 q z).2⟩;refine⟨(D,oD')::(WQ rw x dx hsh tkn wr da de ns pm pr rs rd ep dl oM' its' nd'++(((ta,DO #[.str txt t1,.str (cutName n).2 t2,.str (cutName n).1 t3])::tups)++((new++prs)++(O4++tmp)))),⟨l1++[(n,tn)],l2',its',nd',oD',kvs++[(n,.ref ta)],(ta,DO #[.str txt t1,.str (cutName n).2 t2,.str (cutName n).1 t3])::tups,new++prs,oM',pq',by rw[ho,BX];rfl,rfl,rfl,?_,hdD',?_,?_,?_,hM',(sQ hPq1 hqn hqs).1,by rw[BD];exact AQ (sQ hPq1 hqn hqs).2 (LI hpl1),by rw[hds];exact yZ hNR1 hqn hqs⟩,?_,?_,?_,os3,b3⟩
  ·rw[hds];exact hits'
  ·rw[hds]
   exact(hk1.mono λ_ _ z=>z.mono λ_ hq=>.tail _ hq).snoc ⟨rfl,ta,t1,t2,t3,rfl,.head _⟩
  ·exact Fc (hn1 (D,oD) (.head _)) (Fp (Fc (f5 _ (.head _)) (λq z=>hn1 q (.tail _ (Ml _ z)))) (Fp (λq z=>f5 q (.tail _ z)) (λq z=>hn1 q (.tail _ (Mr _ z)))))
  ·exact Fp (Fc (f6 _ (.head _)) (λq z=>hn2 q (Ml _ z))) (Fp (λq z=>f6 q (.tail _ z)) (λq z=>hn2 q (Mr _ z)))
  ·exact F3.change hs4 zD.2.1 zD.2.2
  ·exact Fc (kp (I,oI) (BG (off (D,oD) (.head _)).1) (.tail _ (Mr _ (Mr _ (.head _))))) (Fc (kp (C,oC) (BG (off (D,oD) (.head _)).2) (.tail _ (Mr _ (Mr _ (.tail _ (.head _)))))) (Fc ⟨hoD',zD.2⟩ (Fp (λq z=>kp q (hDne q z) (.tail _ (Mr _ (Ml _ z)))) (Fp (Fc (kp _ (f6 _ (.head _)) (.head _)) (λq z=>kp q (hDrest q (Ml _ z)) (mm (Ml _ z)))) (Fp (Fp (λq z=>kp q (f6 q (.tail _ z)) (.tail _ (Ml _ z))) (λq z=>kp q (hDrest q (Mr _ (Ml _ z))) (mm (Mr _ (Ml _ z))))) (λq z=>kp q (hDrest q (Mr _ (Mr _ z))) (mm (Mr _ (Mr _ z)))))))))
  ·exact Fc (off (D,oD) (.head _)) (Fp (Fc (offW (x,_) (.head _)) (Fc (offW (dx,_) (.tail _ (.head _))) (Fc (offW (dl,listOf itsd nd) (.tail _ (.tail _ (.head _)))) (Fc (offW (pm,oM) (.tail _ (.tail _ (.tail _ (.head _))))) (BA _))))) (Fp (Fc (f7 _ (.head _)) (λq z=>off q (.tail _ (Mr _ (Ml _ z))))) (Fp (Fp (λq z=>f7 q (.tail _ z)) (λq z=>off q (.tail _ (Mr _ (Mr _ (Ml _ z)))))) (λq z=>off q (.tail _ (Mr _ (Mr _ (Mr _ z))))))))
 ·rintro s1 D C own mC ⟨l1,l2,itsd,nd,oD,kvs,tups,prs,oM,pq,ho,hr,rfl,hp1,hd1,hk1,hn1,hn2,hM1,hPq1,hpl1,hNR1⟩ F2 N2 hns hC0 hCL hoC ho2 hb2
  have hl2:l2=[]:=by cases l2 with
   |nil=>rfl
   |cons q r=>obtain⟨a,b⟩:=q;cases hr
  subst hl2;rw[CQ] at ho;subst ho;show AI _ A (assign (.Name "parsed_qnames" q7) env (.ref D)) _ _ _;subst hL
  refine FP (EN hy F2.ns (λh₂ hn₂ hs₂=>?_) hp)
  have hL₀:g.get? env.locals=BN:=EA F2.above;have F₂:Fr g env.locals h₂ (λz=>if z="parsed_qnames" then AK (.ref D) else m z):=⟨hn₂,λb o e=>hs₂.extBut b o (λq=>by rw[q,hL₀] at e;cases e) (F2.keep b o e),F2.above⟩;refine⟨mC,hns.sameBut hs₂ hCL,λh'' hs''=>?_⟩;refine fin _ D oD itsd nd kvs tups prs oM pq hM1 hPq1 (λz=>(hNR1 z).symm) hp1 hd1 hk1 hn1 (F₂.change hs'' hCL hC0) (λq hq=>?_) ho2 hb2
  have hq':q∈(D,oD)::(WQ rw x dx hsh tkn wr da de ns pm pr rs rd ep dl oM itsd nd++(tups++(prs++(O4++tmp)))):=by
   revert q
   exact Fp (λq z=>.tail _ (Ml _ z)) (Fp (λq z=>.tail _ (Mr _ (Mr _ (Mr _ (Ml _ z))))) (Fc (.head _) (Fp (λq z=>.tail _ (Mr _ (Ml _ z))) (Fp (λq z=>.tail _ (Mr _ (Mr _ (Ml _ z)))) (λq z=>.tail _ (Mr _ (Mr _ (Mr _ (Mr _ z)))))))))
  have z:=N2 q hq';exact⟨hs''.extBut _ _ (hoC q hq') (hs₂.extBut _ _ z.2.1 z.1),z.2⟩
end
end
theorem rs4:True∧True:=by
 (try walk1);(try w_top off)
 all_goals (first | trivial | exact ⟨trivial,trivial⟩)
section

noncomputable def aI(w:BU)(A:BQ)(s:AG)(g:CW)(os:CU)(own:AE (AH×CY))(p:BH)(zw:AE AX)(zt:ER→AM AC)(mg mb:AX→AM AC)(R:FE→AG→Prop)(x:AX)(tx:DW):Prop :=
 ∀(X:(hd07.heap_1 w.params).In g)(T:VO p zw zt mg mb g)(H:Ok g os own s)(zq:A.depth<900)(hx:x.length≤2000)(hN:∀s' t',Ok g os own s'→R (.ok (.ret (.str (OI x) t'))) s'),DV (BE rw_dn0283_07.row.prog w) A (.call (.ref 154) ⟨[.str x tx],[]⟩) R s
theorem RL:∀{a b c d e f g h i j k l m n},aI a b c d e f g h i j k l m n:=by
 refine @(BK (GM KF)<|@(MU DM<|let_mvar%?n:=(λw A s g os own p zw zt mg mb R x tx=>?_:∀a b c d e f g h i j k l m n,aI a b c d e f g h i j k l m n);?n _ _ _ _ _ _ _ _ _ _ _ _ _ _))
 intro X T H zq hx hN;revert X;k_fill;intro X;refine' UY H X T ?k6 ?k7 (AZ zq (by decide)) ?k9 ?kB ?_ ?c1 ?c2 ?c3 ?c4
 (case k6=>k_is)
 (case k7=>k_is)
 (case k9=>exact GO rfl)
 (case kB=>exact locs rfl)
 (case c1=>exact rfl)
 (case c2=>exact rfl)
 (case c3=>exact rfl)
 (case c4=>decide)
 k_whole;intro L' h1 F0 N1 l1;(try dsimp only)
 have F1:Fr g L' h1 (λy=>if y="text" then AK (.str x tx) else BN):=by
  have e:=gO "text" (.str x tx) [];have F0':Fr g L' h1 (λy=>DY y [("text",.str x tx)]):=F0;rw[e] at F0';exact F0'
 clear F0
 have z1:(LV "&" "&amp;" x).length≤12005:=AQ (QL (k:=5) hx (by decide)) (by decide)
 have z2:(LV "<" "&lt;" (LV "&" "&amp;" x)).length≤60029:=AQ (QL (k:=4) z1 (by decide)) (by decide)
 have z3:(LV ">" "&gt;" (LV "<" "&lt;" (LV "&" "&amp;" x))).length≤300149:=AQ (QL (k:=4) z2 (by decide)) (by decide)
 refine BR (wpAny_Try_except ?_)
 refine BR (MP F1 N1 (EB _) (AQ hx (by decide)) (by decide) (by decide +kernel) λh2 t2 k2 F2 N2=>?_)
 refine BR (MP F2 N2 (EB _) (AQ z1 (by decide)) (by decide) (by decide +kernel) λh3 t3 k3 F3 N3=>?_)
 refine BR (MP F3 N3 (EB _) (AQ z2 (by decide)) (by decide) (by decide +kernel) λh4 t4 k4 F4 N4=>?_)
 refine BR (MP F4 N4 (EB _) (AQ z3 (by decide)) (by decide) (by decide +kernel) λh5 t5 k5 F5 N5=>?_)
 refine BR (Hq (ld F5 rfl ?_))
 dsimp only;exact leaveM_ F5 N5 H.os H.bare λH'=>hN _ _ H'
noncomputable def aH(w:BU)(A:BQ)(s:AG)(g:CW)(os:CU)(own:AE (AH×CY))(p:BH)(zw:AE AX)(zt:ER→AM AC)(mg mb:AX→AM AC)(R:FE→AG→Prop)(x:AX)(tx:DW):Prop :=
 ∀(X:(hd07.heap_1 w.params).In g)(T:VO p zw zt mg mb g)(H:Ok g os own s)(zq:A.depth<900)(hx:x.length≤100)(hN:∀s' t',Ok g os own s'→R (.ok (.ret (.str (RD x) t'))) s'),DV (BE rw_dn0283_07.row.prog w) A (.call (.ref 161) ⟨[.str x tx],[]⟩) R s
theorem uC:∀{a b c d e f g h i j k l m n},aH a b c d e f g h i j k l m n:=by
 refine @(BK (GM KF)<|@(MU DM<|let_mvar%?n:=(λw A s g os own p zw zt mg mb R x tx=>?_:∀a b c d e f g h i j k l m n,aH a b c d e f g h i j k l m n);?n _ _ _ _ _ _ _ _ _ _ _ _ _ _))
 intro X T H zq hx hN;revert X;k_fill;intro X;refine' UY H X T ?k6 ?k7 (AZ zq (by decide)) ?k9 ?kB ?_ ?c1 ?c2 ?c3 ?c4
 (case k6=>k_is)
 (case k7=>k_is)
 (case k9=>exact GO rfl)
 (case kB=>exact locs rfl)
 (case c1=>exact rfl)
 (case c2=>exact rfl)
 (case c3=>exact rfl)
 (case c4=>decide)
 k_whole;intro L' h1 F0 N1 l1;(try dsimp only)
 have F1:Fr g L' h1 (λy=>if y="text" then AK (.str x tx) else BN):=by
  have e:=gO "text" (.str x tx) [];have F0':Fr g L' h1 (λy=>DY y [("text",.str x tx)]):=F0;rw[e] at F0';exact F0'
 clear F0
 have z1:(LV "&" "&amp;" x).length≤605:=AQ (QL (k:=5) hx (by decide)) (by decide)
 have z2:(LV "<" "&lt;" (LV "&" "&amp;" x)).length≤3029:=AQ (QL (k:=4) z1 (by decide)) (by decide)
 have z3:(LV "\"" "&quot;" (LV "<" "&lt;" (LV "&" "&amp;" x))).length≤21209:=AQ (QL (k:=6) z2 (by decide)) (by decide)
 have z4:(LV "\t" "&#x9;" (LV "\"" "&quot;" (LV "<" "&lt;" (LV "&" "&amp;" x)))).length≤127259:=AQ (QL (k:=5) z3 (by decide)) (by decide)
 have z5:(LV "\n" "&#xA;" (LV "\t" "&#x9;" (LV "\"" "&quot;" (LV "<" "&lt;" (LV "&" "&amp;" x))))).length≤763559:=AQ (QL (k:=5) z4 (by decide)) (by decide)
 refine BR (wpAny_Try_except ?_)
 refine BR (MP F1 N1 (EB _) (AQ hx (by decide)) (by decide) (by decide +kernel) λh2 t2 k2 F2 N2=>?_)
 refine BR (MP F2 N2 (EB _) (AQ z1 (by decide)) (by decide) (by decide +kernel) λh3 t3 k3 F3 N3=>?_)
 refine BR (MP F3 N3 (EB _) (AQ z2 (by decide)) (by decide) (by decide +kernel) λh4 t4 k4 F4 N4=>?_)
 refine BR (MP F4 N4 (EB _) (AQ z3 (by decide)) (by decide) (by decide +kernel) λh5 t5 k5 F5 N5=>?_)
 refine BR (MP F5 N5 (EB _) (AQ z4 (by decide)) (by decide) (by decide +kernel) λh6 t6 k6 F6 N6=>?_)
 refine BR (MP F6 N6 (EB _) (AQ z5 (by decide)) (by decide) (by decide +kernel) λh7 t7 k7 F7 N7=>?_)
 refine BR (Hq (ld F7 rfl ?_))
 dsimp only;exact leaveM_ F7 N7 H.os H.bare λH'=>hN _ _ H'
end
theorem rs5:True∧True:=by
 (try walk1);(try w_top off)
 all_goals (first | trivial | exact ⟨trivial,trivial⟩)
section

open PyProof.Rows.LCg
noncomputable abbrev VB:KO:={ kind:=.function,names:=[(".0",.local),("uri",.local),("prefix",.local)],isGenerator:=AU,isCoroutine:=AU,more:=[] }
noncomputable abbrev sL(p1 p2 p3 p4 p5 p6 p7 p8:OP):EK:=.Tuple [.IfExp (.Name "prefix" p1) (.BinOp (.Constant (.str "xmlns:") 0 p2) .Add (.Name "prefix" p3) p4) (.Constant (.str "xmlns") 0 p5) p6,.Name "uri" p7] 0 p8
noncomputable def mS(w:BU)(A:BQ)(s:AG)(E:AC→AG→Prop)(g:CW)(p:BH)(zw:AE AX)(zt:ER→AM AC)(mg mb:AX→AM AC)(L C:AH)(m m₂:AX→AM AC)(news:AE (AH×CY))(env:XH)(cl:AE (AX×AH))(oC:CY)(q:Pr)(t1 t2:DW)(p1 p2 p3 p4 p5 p6 p7 p8:OP)(Q:AC→AG→Prop):Prop :=
 ∀(X:(hd07.heap_1 w.params).In g)(T:VO p zw zt mg mb g)(F1:Fr g L s.heap m)(N1:AY g L s.heap ((C,oC)::news))(hC:tI oC m₂)(hu:m₂ "uri"=AK (.str q.1 t1)) (hpf:m₂ "prefix"=AK (.str q.2 t2)) (hz:q.2.length≤1000) (h:∀(T':AH)t3 h' tk,Fr g L h' m→AY g L h' ((T',DO #[.str (LD q).1 t3,.str (LD q).2 t1])::(C,oC)::news)→(∀r∈(C,oC)::news,r.1<T')→Q (.ref T') { s with heap:=h',toks:=tk }),AI (BE rw_dn0283_07.row.prog w) A (eval (sL p1 p2 p3 p4 p5 p6 p7 p8) (EY VB cl C env)) Q E s
theorem ns_elt:∀{w A s E g p zw zt mg mb L C m m₂ news env cl oC q t1 t2 p1 p2 p3 p4 p5 p6 p7 p8 Q},mS w A s E g p zw zt mg mb L C m m₂ news env cl oC q t1 t2 p1 p2 p3 p4 p5 p6 p7 p8 Q:=by
 refine @(BK (GM KF)<|@(BK DM<|@(BK DM<|@(MU DM<|let_mvar%?n:=(λw A s E g p zw zt mg mb L C m m₂ news env cl oC q t1 t2 p1 p2 p3 p4 p5 p6 p7 p8 Q=>?_:∀a b c d e f g h i j k l m n o p q r s t u v w x y z a1 b1 c1 d1,mS a b c d e f g h i j k l m n o p q r s t u v w x y z a1 b1 c1 d1);?n _ _ _ _ _ _ _ _ _ _ _ _ _ _ _ _ _ _ _ _ _ _ _ _ _ _ _ _ _ _))))
 intro X T F1 N1 hC hu hpf hz h
 repeat'(first
    |walk_at "go")
 ·rename_i hq t' k _ D' h' F' N' l9
  have e:LD q=("xmlns:"++q.2,q.1):=by unfold LD;rw[CA (VA hq)]
  exact h D' t' h' _ F' (by rw[e];exact N') λr hr=>by
   rcases AP.mp hr with rfl|hr
   ·exact l9.1
   ·exact kst_ltOf l9.2 r hr
 ·rename_i hq D' h' F' N' l9
  have e:LD q=(AA "xmlns",q.1):=by unfold LD;rw[DJ (RK hq)]
  exact h D' _ h' _ F' (by rw[e];exact N') λr hr=>by
   rcases AP.mp hr with rfl|hr
   ·exact l9.1
   ·exact kst_ltOf l9.2 r hr
noncomputable abbrev iV:KO:={ kind:=.function,names:=[(".0",.local),("k",.local),("v",.local),("_escape_attrib_c14n",.globalImplicit)],isGenerator:=AU,isCoroutine:=AU,more:=[] }
noncomputable abbrev Ek(p1 p2 p3 p4 p5 p6 p7 p8 p9 p10:OP):EK:=.JoinedStr [.Constant (.str " ") 0 p1,.FormattedValue (.Name "k" p2) (-1) BN p3,.Constant (.str "=\"") 0 p4,.FormattedValue (.Call (.Name "_escape_attrib_c14n" p5) [.Name "v" p6] [] p7) (-1) BN p8,.Constant (.str "\"") 0 p9] p10
noncomputable def lG(w:BU)(A:BQ)(s:AG)(E:AC→AG→Prop)(g:CW)(os:CU)(p:BH)(zw:AE AX)(zt:ER→AM AC)(mg mb:AX→AM AC)(L C:AH)(m m₂:AX→AM AC)(news:AE (AH×CY))(cn:AX)(cs:KO)(a:AH)(ccd:AC)(cl' cl:AE (AX×AH))(oC:CY)(q:Pr)(t1 t2:DW)(p1 p2 p3 p4 p5 p6 p7 p8 p9 p10:OP)(Q:AC→AG→Prop):Prop :=
 ∀(X:(hd07.heap_1 w.params).In g)(T:VO p zw zt mg mb g)(zq:A.depth<890)(F1:Fr g L s.heap m)(N1:AY g L s.heap ((C,oC)::news))(hC:tI oC m₂)(hu:m₂ "k"=AK (.str q.1 t1)) (hpf:m₂ "v"=AK (.str q.2 t2)) (hz:q.1.length≤1000) (hz2:q.2.length≤100) (hz3:(RD q.2).length≤1000) (o1:s.os=os) (b1:BP s.gens) (h:∀t3(s':AG),Fr g L s'.heap m→AY g L s'.heap ((C,oC)::news)→s'.os=os→BP s'.gens→Q (.str (KY q) t3) s'),AI (BE rw_dn0283_07.row.prog w) A (eval (Ek p1 p2 p3 p4 p5 p6 p7 p8 p9 p10) (EY iV cl C (QE cn cs L a ccd cl'))) Q E s
theorem at_elt:∀{w A s E g os p zw zt mg mb L C m m₂ news cn cs a ccd cl' cl oC q t1 t2 p1 p2 p3 p4 p5 p6 p7 p8 p9 p10 Q},lG w A s E g os p zw zt mg mb L C m m₂ news cn cs a ccd cl' cl oC q t1 t2 p1 p2 p3 p4 p5 p6 p7 p8 p9 p10 Q:=by
 refine @(BK (GM KF)<|@(BK DM<|@(BK DM<|@(BK DM<|@(RA DM<|let_mvar%?n:=(λw A s E g os p zw zt mg mb L C m m₂ news cn cs a ccd cl' cl oC q t1 t2 p1 p2 p3 p4 p5 p6 p7 p8 p9 p10 Q=>?_:∀a b c d e f g h i j k l m n o p q r s t u v w x y z a1 b1 c1 d1 e1 f1 g1 h1 i1 j1 k1,lG a b c d e f g h i j k l m n o p q r s t u v w x y z a1 b1 c1 d1 e1 f1 g1 h1 i1 j1 k1);?n _ _ _ _ _ _ _ _ _ _ _ _ _ _ _ _ _ _ _ _ _ _ _ _ _ _ _ _ _ _ _ _ _ _ _ _ _)))))
 intro X T zq F1 N1 hC hu hpf hz hz2 hz3 o1 b1 h;revert X;k_fill;intro X
 repeat'(first
    |((with_reducible show AI _ _ (eval (cD "_escape_attrib_c14n" _) _) _ _ _);refine LCgL.ld_global (by k_asm) X T (by k_is) ?_)
    |((with_reducible show AI _ _ (DK (.ref 161) _) _ _ _);(rename Fr ..=>F9);(rename AY _ _ _ _=>N9);refine GD [] ((C,oC)::news) F9 N9 o1 b1 (BA _) (λ_ z=>z) (λ_ _ z=>nomatch z) λg₂ H₂ K₂ _ back=>uC (X.keeps K₂) (T.keeps K₂) H₂ (AZ zq (by decide)) hz2 λs5 t5 H5=>?_;obtain⟨F5,N5,o5,b5⟩:=back _ _ H5;clear back F9 N9 H₂ H5;(try dsimp only))
    |((fail_if_success (with_reducible show AI _ _ (DK (.ref 161) _) _ _ _));walk_at "go"))
 have e:AW++" "++q.1++"=\""++RD q.2++"\""=KY q:=by rw[AX.empty_append];rfl
 rw[e];exact h _ _ F5 N5 o5 b5
noncomputable def gU(w:BU)(A:BQ)(s:AG)(E:AC→AG→Prop)(g:CW)(os:CU)(p:BH)(zw:AE AX)(zt:ER→AM AC)(mg mb:AX→AM AC)(L ax:AH)(m:AX→AM AC)(base:AE (AH×CY))(env:XH)(cl:AE (AX×AH))(its:CE AC)(lv:AE Pr)(prs:AE (AH×CY))(iter:EK)(k:CC)(p1 p2 p3 p4 p5 p6 p7 p8 px px2 tp pos py spos:OP)(Q:WG→AG→Prop):Prop :=
 ∀(X:(hd07.heap_1 w.params).In g)(T:VO p zw zt mg mb g)(hh:A.handled=BN)(hL:env.locals=L)(hsw:swapsWith (.ListComp (sL p1 p2 p3 p4 p5 p6 p7 p8) [⟨.Tuple [.Name "uri" px,.Name "prefix" px2] k tp,iter,[],0⟩] VB pos) (AK (.Name "attr_list" py)) spos.line env=pure BC) (hclos:QD VB env=pure cl) (hfs:∀x,HJ iter env x=pure x) (hy:env.kindOf "attr_list"=AK .local) (hp:(env.scope.kind==.class||(env.scope.kind==.module&&env.locals !=env.globals))=AU) (hiter:∀Q':AC→AG→Prop,Q' (.ref ax) s→AI (BE rw_dn0283_07.row.prog w) A (eval iter env) Q' E s) (F:Fr g L s.heap m) (N:AY g L s.heap base) (o1:s.os=os) (b1:BP s.gens) (hax:∃n,(ax,listOf its n)∈base) (hprs:∀q∈prs,q∈base) (hits:All2 (GP prs) its.toList lv) (hlz:lv.length≤50) (hlq:∀q∈lv,q.2.length≤200) (fin:∀(s1:AG)D ys tl,All2 (GP tl) ys (lv.map LD)→(∀q∈tl,q.1≠D∧∀r∈base,q.1≠r.1)→(∀r∈base,D≠r.1)→Fr g L s1.heap (λy=>if y="attr_list" then AK (.ref D) else m y)→AY g L s1.heap ((D,rY ys)::(tl++base))→s1.os=os→BP s1.gens→Q .next s1),AI (BE rw_dn0283_07.row.prog w) A (exec (.Assign [.Name "attr_list" py] (.ListComp (sL p1 p2 p3 p4 p5 p6 p7 p8) [⟨.Tuple [.Name "uri" px,.Name "prefix" px2] k tp,iter,[],0⟩] VB pos) spos) env) Q E s
theorem Cz:∀{w A s E g os p zw zt mg mb L ax m base env cl its lv prs iter k p1 p2 p3 p4 p5 p6 p7 p8 px px2 tp pos py spos Q},gU w A s E g os p zw zt mg mb L ax m base env cl its lv prs iter k p1 p2 p3 p4 p5 p6 p7 p8 px px2 tp pos py spos Q:=by
 refine @(BK (GM KF)<|@(BK DM<|@(BK DM<|@(BK DM<|@(RA DM<|let_mvar%?n:=(λw A s E g os p zw zt mg mb L ax m base env cl its lv prs iter k p1 p2 p3 p4 p5 p6 p7 p8 px px2 tp pos py spos Q=>?_:∀a b c d e f g h i j k l m n o p q r s t u v w x y z a1 b1 c1 d1 e1 f1 g1 h1 i1 j1 k1,gU a b c d e f g h i j k l m n o p q r s t u v w x y z a1 b1 c1 d1 e1 f1 g1 h1 i1 j1 k1);?n _ _ _ _ _ _ _ _ _ _ _ _ _ _ _ _ _ _ _ _ _ _ _ _ _ _ _ _ _ _ _ _ _ _ _ _ _)))))
 intro X T hh hL hsw hclos hfs hy hp hiter F N o1 b1 hax hprs hits hlz hlq fin;rw[ZM _ _ _ _ hsw]
 refine Wb (EQ (Wb ?_))
 show AI _ A (do let _ ← comprehension (.ListComp (sL p1 p2 p3 p4 p5 p6 p7 p8) [⟨.Tuple [.Name "uri" px,.Name "prefix" px2] k tp,iter,[],0⟩] VB pos) VB env _ (JL []) AU (eval iter env) (AK (assign (.Name "attr_list" py) env))) _ _ s
 refine Wb (DI (JH (use:=AK (assign (.Name "attr_list" py) env)) (Q:=λ_ s'=>Q .next s') rfl hfs hclos rfl (by decide) (hiter _ ?_)) (λ_ s' hq=>Wp (Wp hq)) λ_ _ e=>e)
 obtain⟨n,hax⟩:=hax
 refine mI (os:=os) (its:=its) (ax:=ax) (news:=base) (λrem ys own=>∃q1 q2 tl,lv=q1++q2∧All2 (GP prs) rem q2∧own=tl++base∧All2 (GP tl) ys (q1.map LD)∧∀q∈tl,∀r∈base,q.1≠r.1)
  (by decide) rfl rfl rfl (by decide) hh F N o1 b1 (.inr ⟨_,hax,rfl,_,rfl⟩) ?_ ⟨[],lv,[],rfl,hits,rfl,.nil,λ_ z=>nomatch z⟩ ?_ ?_ ?_ ?_ ?_
 ·have:its.size=lv.length:=by rw[← hits.length];simp
  rw[this,BI];exact(Nl λhn1=>fk [_] (.e V0 (.k 50) (.e (.s (.k 16777216)) V0 K0)) rfl hlz hn1)
 ·rintro rem ys own ⟨q1,q2,tl,_,_,rfl,_⟩
  exact .inr ⟨_,Mr _ hax,rfl,_,rfl⟩
 ·rintro v rem ys own ⟨q1,q2,tl,_,h2,rfl,_⟩
  cases h2 with
  |cons z _=>exact⟨_,z.mono λr hr=>Mr _ (hprs r hr)⟩
 ·intro v hv
  obtain⟨i,hi⟩:=PW.mp hv
  have hlt:i<lv.length:=by
   rw[← hits.length];rcases JC i its.toList.length with z|z
   ·exact z
   ·rw[EM z] at hi;cases hi
  obtain⟨v',e,a,_,_,e2,_⟩:=hits.get (BL hlt)
  rw[hi] at e;cases e;exact⟨a,e2⟩
 ·rintro s1 D v rem ys own I oI C oC m₂ q t1 t2 E' ⟨q1,q2,tl,e1,h2,rfl,h4,h5⟩ ⟨a,rfl,hm⟩ hC b1' b2' F1 N1 off hIC hDI hDC ho hb
  cases h2 with
  |@cons _ q' _ q2' z h2' =>
   obtain⟨a',u1,u2,ea,hma⟩:=z;cases ea
   have hqq:q=q'∧t1=u1∧t2=u2:=by
    have g1:=(N1 (a,_) (.tail _ (.tail _ (.tail _ hm)))).1;have g2:=(N1 (a,_) (.tail _ (.tail _ (.tail _ (Mr _ (hprs _ hma)))))).1;rw[g1] at g2
    have:=BW CY.data (HB g2)
    simp only[bL,TH,MG,pQ,TS] at this;obtain⟨q1a,q1b⟩:=q;obtain⟨q2a,q2b⟩:=q';simp only at this;obtain⟨⟨rfl,rfl⟩,rfl,rfl⟩:=this;exact⟨rfl,rfl,rfl⟩
   obtain⟨rfl,rfl,rfl⟩:=hqq;have o3:=off.mem;refine ns_elt (m:=m) (news:=(I,oI)::(D,rY ys)::(tl++base)) X T F1 (AY.sub N1 λr hr=>?_) hC b1' b2' (AQ (hlq q (by rw[e1];simp)) (by decide)) λT' t3 h' tk F2 N2 hlt=>?_
   ·simp only[AP] at hr ⊢
    rcases hr with h|h|h|h
    ·exact .inr (.inl h)
    ·exact .inl h
    ·exact .inr (.inr (.inl h))
    ·exact .inr (.inr (.inr h))
   ·refine⟨(T',DO #[.str (LD q).1 t3,.str (LD q).2 t1])::(tl++base),⟨q1++[q],q2',(T',_)::tl,by rw[e1,BX];rfl,h2',rfl,?_,?_⟩,F2,AY.sub N2 λr hr=>?_,?_,ho,hb⟩
    ·rw[BF]
     exact(h4.mono λ_ _ z=>z.mono λ_ hr=>.tail _ hr).snoc ⟨T',t3,t1,rfl,.head _⟩
    ·intro r hr r' hr'
     rcases AP.mp hr with rfl|hr
     ·exact AJ (hlt r' (.tail _ (.tail _ (.tail _ (Mr _ hr')))))
     ·exact h5 r hr r' hr'
    ·simp only[AP] at hr ⊢
     rcases hr with h|h|h|h|h
     ·exact .inr (.inr (.inl h))
     ·exact .inr (.inl h)
     ·exact .inr (.inr (.inr (.inl h)))
     ·exact .inl h
     ·exact .inr (.inr (.inr (.inr h)))
    ·refine Off3.of λr hr=>?_
     rcases AP.mp hr with rfl|hr
     ·exact⟨AJ (hlt (I,oI) (.tail _ (.head _))),AJ (hlt (C,oC) (.head _)),AJ (hlt (D,_) (.tail _ (.tail _ (.head _))))⟩
     ·exact o3 r hr
 ·rintro s1 D C ys own mC ⟨q1,q2,tl,e1,h2,rfl,h4,h5⟩ F1 N1 hneD hns hC0 hCL hDC hoC ho hb
  cases h2;rw[CQ] at e1;subst e1;show AI _ A (assign (.Name "attr_list" py) env (.ref D)) _ _ _;subst hL
  refine FP (EN hy F1.ns (λh₂ hn₂ hs₂=>?_) hp)
  have hL₀:g.get? env.locals=BN:=EA F1.above;have F₂:Fr g env.locals h₂ (λz=>if z="attr_list" then AK (.ref D) else m z):=⟨hn₂,λb o e=>hs₂.extBut b o (λq=>by rw[q,hL₀] at e;cases e) (F1.keep b o e),F1.above⟩;refine⟨mC,hns.sameBut hs₂ hCL,λh'' hs''=>?_⟩;refine fin _ D ys tl h4 (λq hq=>⟨hneD q (Ml _ hq),h5 q hq⟩) (λr hr=>BG (hneD r (Mr _ hr))) (F₂.change hs'' hCL hC0) (λq hq=>?_) ho hb
  have hqC:q.1≠C:=by
   rcases AP.mp hq with rfl|hq
   ·exact hDC
   ·exact hoC q hq
  have z:=N1 q hq;exact⟨hs''.extBut _ _ hqC (hs₂.extBut _ _ z.2.1 z.1),z.2⟩
noncomputable def gF(w:BU)(A:BQ)(s:AG)(E:AC→AG→Prop)(g:CW)(os:CU)(p:BH)(zw:AE AX)(zt:ER→AM AC)(mg mb:AX→AM AC)(L ax:AH)(m:AX→AM AC)(base:AE (AH×CY))(cn:AX)(cs:KO)(a:AH)(ccd:AC)(cl' cl:AE (AX×AH))(its:CE AC)(al:AE Pr)(prs:AE (AH×CY))(iter:EK)(k:CC)(p1 p2 p3 p4 p5 p6 p7 p8 p9 p10 px px2 tp pos:OP)(Q:AC→AG→Prop):Prop :=
 ∀(X:(hd07.heap_1 w.params).In g)(T:VO p zw zt mg mb g)(hh:A.handled=BN)(zq:A.depth<890)(hclos:QD iV (QE cn cs L a ccd cl')=pure cl)(hfs:∀x,HJ iter (QE cn cs L a ccd cl') x=pure x)(hiter:∀Q':AC→AG→Prop,Q' (.ref ax) s→AI (BE rw_dn0283_07.row.prog w) A (eval iter (QE cn cs L a ccd cl')) Q' E s)(F:Fr g L s.heap m)(N:AY g L s.heap base)(o1:s.os=os)(b1:BP s.gens)(hax:∃n,(ax,listOf its n)∈base)(hprs:∀q∈prs,q∈base)(hits:All2 (GP prs) its.toList al)(hlz:al.length≤50)(hlq:∀q∈al,q.1.length≤1000∧q.2.length≤100∧(RD q.2).length≤1000)(fin:∀(s1:AG)D ts,ts.map (·.1)=al.map KY→(∀r∈base,D≠r.1)→Fr g L s1.heap m→AY g L s1.heap ((D,rY (AF ts))::base)→s1.os=os→BP s1.gens→Q (.ref D) s1),AI (BE rw_dn0283_07.row.prog w) A (eval (.ListComp (Ek p1 p2 p3 p4 p5 p6 p7 p8 p9 p10) [⟨.Tuple [.Name "k" px,.Name "v" px2] k tp,iter,[],0⟩] iV pos) (QE cn cs L a ccd cl')) Q E s
theorem Bq:∀{w A s E g os p zw zt mg mb L ax m base cn cs a ccd cl' cl its al prs iter k p1 p2 p3 p4 p5 p6 p7 p8 p9 p10 px px2 tp pos Q},gF w A s E g os p zw zt mg mb L ax m base cn cs a ccd cl' cl its al prs iter k p1 p2 p3 p4 p5 p6 p7 p8 p9 p10 px px2 tp pos Q:=by
 refine @(BK (GM KF)<|@(BK DM<|@(BK DM<|@(BK DM<|@(BK DM<|@(HF DM<|let_mvar%?n:=(λw A s E g os p zw zt mg mb L ax m base cn cs a ccd cl' cl its al prs iter k p1 p2 p3 p4 p5 p6 p7 p8 p9 p10 px px2 tp pos Q=>?_:∀a b c d e f g h i j k l m n o p q r s t u v w x y z a1 b1 c1 d1 e1 f1 g1 h1 i1 j1 k1 l1 m1 n1 o1,gF a b c d e f g h i j k l m n o p q r s t u v w x y z a1 b1 c1 d1 e1 f1 g1 h1 i1 j1 k1 l1 m1 n1 o1);?n _ _ _ _ _ _ _ _ _ _ _ _ _ _ _ _ _ _ _ _ _ _ _ _ _ _ _ _ _ _ _ _ _ _ _ _ _ _ _ _ _))))))
 intro X T hh zq hclos hfs hiter F N o1 b1 hax hprs hits hlz hlq fin;rw[eval_ListComp]
 refine JH (use:=BN) rfl hfs hclos rfl (by decide) (hiter _ ?_)
 obtain⟨n,hax⟩:=hax
 refine mI (os:=os) (its:=its) (ax:=ax) (news:=base) (λrem ys own=>∃q1 q2 ts,al=q1++q2∧All2 (GP prs) rem q2∧base=own∧ys=AF ts∧ts.map (·.1)=q1.map KY)
  (by decide) rfl rfl rfl (by decide) hh F N o1 b1 (.inr ⟨_,hax,rfl,_,rfl⟩) ?_ ⟨[],al,[],rfl,hits,rfl,rfl,rfl⟩ ?_ ?_ ?_ ?_ ?_
 ·have:its.size=al.length:=by rw[← hits.length];simp
  rw[this,BI];exact(Nl λhn1=>fk [_] (.e V0 (.k 50) (.e (.s (.k 16777216)) V0 K0)) rfl hlz hn1)
 ·rintro rem ys own ⟨q1,q2,ts,_,_,rfl,_⟩
  exact .inr ⟨_,hax,rfl,_,rfl⟩
 ·rintro v rem ys own ⟨q1,q2,ts,_,h2,rfl,_⟩
  cases h2 with
  |cons z _=>exact⟨_,z.mono λr hr=>hprs r hr⟩
 ·intro v hv
  obtain⟨i,hi⟩:=PW.mp hv
  have hlt:i<al.length:=by
   rw[← hits.length];rcases JC i its.toList.length with z|z
   ·exact z
   ·rw[EM z] at hi;cases hi
  obtain⟨v',e,a,_,_,e2,_⟩:=hits.get (BL hlt)
  rw[hi] at e;cases e;exact⟨a,e2⟩
 ·rintro s1 D v rem ys own I oI C oC m₂ q t1 t2 E' ⟨q1,q2,ts,e1,h2,rfl,rfl,h4⟩ ⟨a,rfl,hm⟩ hC b1' b2' F1 N1 off hIC hDI hDC ho hb
  cases h2 with
  |@cons _ q' _ q2' z h2' =>
   obtain⟨a',u1,u2,ea,hma⟩:=z;cases ea
   have hqq:q=q':=by
    have g1:=(N1 (a,_) (.tail _ (.tail _ (.tail _ hm)))).1;have g2:=(N1 (a,_) (.tail _ (.tail _ (.tail _ (hprs _ hma))))).1;rw[g1] at g2
    have:=BW CY.data (HB g2)
    simp only[bL,TH,MG,pQ,TS] at this;obtain⟨q1a,q1b⟩:=q;obtain⟨q2a,q2b⟩:=q';simp only at this;obtain⟨⟨rfl,_⟩,rfl,_⟩:=this;rfl
   subst hqq
   have hq:=hlq q (by rw[e1];simp)
   have hsub:∀r,r∈(C,oC)::(I,oI)::(D,rY (AF ts))::base↔r∈(I,oI)::(C,oC)::(D,rY (AF ts))::base:=λr=>by
    simp only[AP];exact⟨λh=>by rcases h with h|h|h<;>simp[h],λh=>by rcases h with h|h|h<;>simp[h]⟩
   refine at_elt (m:=m) (news:=(I,oI)::(D,rY (AF ts))::base) X T zq F1 (AY.sub N1 λr hr=>(hsub r).mp hr) hC b1' b2' hq.1 hq.2.1 hq.2.2 ho hb λt3 s' F2 N2 ho2 hb2=>?_;refine⟨base,⟨q1++[q],q2',ts++[(KY q,t3)],by rw[e1,BX];rfl,h2',rfl,by simp[AF],by rw[BF,BF,h4];rfl⟩,F2,AY.sub N2 λr hr=>(hsub r).mpr hr,off,ho2,hb2⟩
 ·rintro s1 D C ys own mC ⟨q1,q2,ts,e1,h2,rfl,rfl,h4⟩ F1 N1 hneD hns hC0 hCL hDC hoC ho hb
  cases h2;rw[CQ] at e1;subst e1;refine⟨mC,hns,λh'' hs''=>?_⟩;refine fin _ D ts h4 (λr hr=>BG (hneD r hr)) (F1.change hs'' hCL hC0) (λq hq=>?_) ho hb
  have hqC:q.1≠C:=by
   rcases AP.mp hq with rfl|hq
   ·exact hDC
   ·exact hoC q hq
  have z:=N1 q hq;exact⟨hs''.extBut _ _ hqC z.1,z.2⟩
end
theorem rs6:True∧True:=by
 (try walk1);(try w_top off)
 all_goals (first | trivial | exact ⟨trivial,trivial⟩)
section

noncomputable def YA(w:BU)(A:BQ)(s:AG)(g:CW)(os:CU)(p:BH)(zw:AE AX)(zt:ER→AM AC)(mg mb:AX→AM AC)(R:FE→AG→Prop)(x dx:AH)(hsh:CC→EE)(tkn:CC→DW)(wr da de ns pm pr:AH)(rs rd:CZ)(ig:EE)(ep:CC)(out:AH)(n1 n2:CC)(ds:AE (AX×DW))(outs:CE AC)(pre:AE AC)(pv:CZ)(D:AX)(rw:CZ):Prop :=
 ∀(X:(hd07.heap_1 w.params).In g)(T:VO p zw zt mg mb g)(H:Ok g os [(x,CV 143 dx),(dx,CK (wd hsh tkn (.bool BC) (.bool AU) .none .none (.bool rw) .none .none .none wr da de ns pm pr rs rd ig) ep),(da,listOf (AF ds).toArray n1),(out,listOf outs n2),(wr,DZ out)] s)(hh:A.handled=BN)(zq:A.depth<800)(hpr:g.IsList pr (pre++[BY pv]).toArray)(hok:PZ AW (ds.map (·.1))=BC)(hdz:(AF ds).toArray.size≤DA)(nd:([x,dx,da,out,wr]:AE CC).Nodup)(hdl:(FW AW (ds.map (·.1))).length≤2000)(hoz:outs.size≤DA)(hD:JG BC (FW AW (ds.map (·.1)))=D)(hN0:∀s' n3,(D=AW∨rs=AU)→Ok g os [(x,CV 143 dx),(dx,CK (wd hsh tkn (.bool BC) (.bool AU) .none .none (.bool rw) .none .none .none wr da de ns pm pr rs rd ig) ep),(da,listOf #[] n3),(out,listOf outs n2),(wr,DZ out)] s'→R (.ok (.ret .none)) s')(hN1:∀s' n3 t,D≠AW→rs=BC→Ok g os [(x,CV 143 dx),(dx,CK (wd hsh tkn (.bool BC) (.bool AU) .none .none (.bool rw) .none .none .none wr da de ns pm pr rs rd ig) ep),(da,listOf #[] n3),(out,listOf (outs.push (.str (OI D) t)) (n2+1)),(wr,DZ out)] s'→R (.ok (.ret .none)) s'),DV (BE rw_dn0283_07.row.prog w) A (.call (.ref 99) ⟨[.ref x],[]⟩) R s
theorem qC:∀{w A s g os p zw zt mg mb R x dx hsh tkn wr da de ns pm pr rs rd ig ep out n1 n2 ds outs pre pv D rw},YA w A s g os p zw zt mg mb R x dx hsh tkn wr da de ns pm pr rs rd ig ep out n1 n2 ds outs pre pv D rw:=by
 refine @(BK (GM KF)<|@(BK DM<|@(BK DM<|@(BK DM<|@(UF DM<|let_mvar%?n:=(λw A s g os p zw zt mg mb R x dx hsh tkn wr da de ns pm pr rs rd ig ep out n1 n2 ds outs pre pv D rw=>?_:∀a b c d e f g h i j k l m n o p q r s t u v w x y z a1 b1 c1 d1 e1 f1 g1 h1,YA a b c d e f g h i j k l m n o p q r s t u v w x y z a1 b1 c1 d1 e1 f1 g1 h1);?n _ _ _ _ _ _ _ _ _ _ _ _ _ _ _ _ _ _ _ _ _ _ _ _ _ _ _ _ _ _ _ _ _ _)))))
 intro X T H hh zq hpr hok hdz nd hdl hoz hD hN0 hN1;revert X;k_fill;intro X;refine' KQ (λy=>DY y [("_join_text",.ref 91),("self",.ref x)]) H X T ?k6 ?k7 (AZ zq (by decide)) ?k9 ?kB ?km ?kl ?_ ?c1 ?c2 ?c3 ?c4
 (case k6=>k_is)
 (case k7=>k_is)
 (case k9=>exact Br (X.keeps H.keep) rfl (by k_is) rfl rfl rfl)
 (case kB=>exact locs rfl)
 (case km=>exact rfl)
 (case kl=>exact EB _)
 (case c1=>exact rfl)
 (case c2=>exact rfl)
 (case c3=>exact rfl)
 (case c4=>decide)
 k_whole;with_reducible refine let_mvar%?zq1:=(λL' h1 k0=>?_:PV _);FL DM (JN:ES _ (type_of%?zq1)) (?zq1 _ _ _);intro hk0 F1 N1 l1;(try k_lt l1);(try dsimp only)
 refine HK ?_;walk_at "eps2";rename_i Q9 E9;intro hq9 he9;refine ndk5 nd ?_;intro nxd nxa nxo nxw nda ndo ndw nao naw now;have hsl:D.length≤2000:=hD ▸ AQ (rJ ..) hdl
 repeat'(first
  |((with_reducible show AI _ _ (IH _ (.ref 91) _ _ _) _ _ _);refine IC ?_;(try dsimp only))
  |((with_reducible show pN _ _∧_);refine⟨⟨_,_,(X.keeps (QI (by k_asm))) _ _ (by k_is)⟩,?_⟩)
  |((with_reducible show AI _ _ (DK (.ref 91) _) _ _ _);refine tP ((X.keeps (QI (by k_asm))) _ _ (by k_is)) ⟨_,(GB (by k_asm) (by k_mem)),rfl,_,rfl⟩ hok ?_;walk_at "eps2";rename_i tj kj;(try dsimp only))
  |((with_reducible show AI _ _ (delItem (.ref da) _) _ _ _);(rename Fr ..=>F2);(rename AY _ _ _ _=>N2);refine tY (s:=⟨_,_,_,_,_⟩) F2 N2 (λn'=>LK nxa (LK nda (WL (Fc (BG nao) (Fc (BG naw) (BA _)))))) hdz ?_;clear F2 N2;walk_at "eps";rename_i h2;walk_at "eps";rename_i n2';intro F2 N2;(try dsimp only))
  |((fail_if_success (with_reducible show AI _ _ (EZ (SG (Expr.BoolOp _ _ _) _ _ _::_) _) _ _ _));walk_at "go"))
 rename Fr ..=>F3
 rename AY _ _ _ _=>N3
 refine' BR (OD (R:=λs'=>∃h3 td k3,s'={ s with heap:=h3,toks:=k3 }∧Fr g L' h3 (λy=>if y="data" then AK (.str D td) else DY y [("_join_text",.ref 91),("self",.ref x)])∧AY g L' h3 [(x,CV 143 dx),(dx,CK (wd hsh tkn (.bool BC) (.bool AU) .none .none (.bool rw) .none .none .none wr da de ns pm pr rs rd ig) ep),(da,listOf #[] n2'),(out,listOf outs n2),(wr,DZ out)]) ?c1 ?c2)
 case c1 =>
  subst hD
  repeat'(first
   |((with_reducible show GI=_∧_);(rename Fr ..=>F9);(rename AY _ _ _ _=>N9);first|exact⟨rfl,_,_,_,rfl,F9,N9⟩|exact⟨rfl,_,_,_,rfl,Fr.to F9 Cr,N9⟩)
   |((with_reducible show Q9 _ _);refine hq9 _ _ ?_;(try dsimp only))
   |walk_at "go")
 case c2 =>
  refine uF ?_;with_reducible refine let_mvar%?zq3:=(λs99 h3 td k3=>?_:ZE _);IB JS (OM:ES _ (type_of%?zq3)) (?zq3 _ _ _ _);rintro⟨rfl,F4,N4⟩
  dsimp only;clear hD F3 N3 hok hdz hdl hpr
  cases rs with
  |true =>
   repeat'(first
    |((with_reducible show AI _ _ (IH _ (.ref wr) _ _ _) _ _ _);refine IC ?_;(try dsimp only))
    |((with_reducible show pN _ _∧_);refine⟨⟨_,_,GB (by k_asm) (by k_mem)⟩,?_⟩)
    |((with_reducible show LeaveM _ _ _ _ _);(rename Fr ..=>F9);(rename AY _ _ _ _=>N9);first
      |exact leaveM_ F9 N9 H.os H.bare λH'=>hN0 _ _ (.inl (RK (by assumption))) H'
      |exact leaveM_ F9 N9 (by assumption) (by assumption) λH'=>hN1 _ _ _ (VA (by assumption)) rfl H')
    |((with_reducible show AI _ _ (DK (.ref wr) _) _ _ _);(rename Fr ..=>F9);(rename AY _ _ _ _=>N9);refine OG F9 N9 (by k_mem) (LK nxo (LK ndo (LK nao (WL (Fc (BG now) (BA _)))))) hoz ?_;clear F9 N9;walk_at "eps";rename_i h9;intro F9 N9;(try dsimp only))
    |((with_reducible show AI _ _ (DK (.ref 154) _) _ _ _);(rename Fr ..=>F9);(rename AY _ _ _ _=>N9);refine GD [] [(x,CV 143 dx),(dx,CK (wd hsh tkn (.bool BC) (.bool AU) .none .none (.bool rw) .none .none .none wr da de ns pm pr BC rd ig) ep),(da,listOf #[] n2'),(out,listOf outs n2),(wr,DZ out)] F9 N9 H.os H.bare (BA _) (by walk_at "l_mem") (λ_ _ z=>nomatch z) λg₂ H₂ K₂ _ back=>RL (X.keeps K₂) (T.keeps K₂) H₂ (CJ (FG zq) (by decide)) hsl λs5 t5 H5=>?_;obtain⟨F5,N5,o5,b5⟩:=back _ _ H5;clear back F9 N9 H₂ H5;(try clear g₂);revert s5 t5;with_reducible refine let_mvar%?ns4S2x3:=(λs5 t5=>?_:OV _);EV JS (IP:ES _ (type_of%?ns4S2x3)) (?ns4S2x3 _ _);intro  F5 N5 o5 b5;(try dsimp only))
    |((with_reducible show Q9 _ _);refine hq9 _ _ ?_;(try dsimp only))
    |walk_at "go")
  |false =>
   repeat'(first
    |((with_reducible show LeaveM _ _ _ _ _);(rename Fr ..=>F9);(rename AY _ _ _ _=>N9);exact leaveM_ F9 N9 H.os H.bare λH'=>hN0 _ _ (.inr rfl) H')
    |((with_reducible show Q9 _ _);refine hq9 _ _ ?_;(try dsimp only))
    |walk_at "go")
theorem XZ{w:BU}{A:BQ}{s:AG}{g:CW}{os:CU}
  {p:BH} {zw:AE AX} {zt:ER→AM AC} {mg mb:AX→AM AC} {R:FE→AG→Prop}
  {x dx:AH} {hsh:CC→EE} {tkn:CC→DW} {wr da de ns pm pr:AH} {rs rd:CZ} {ig:EE} {ep:CC} {out:AH} {n1 n2:CC} {ds ol:AE (AX×DW)} {pre:AE AC} {pv:CZ} {rw:CZ}
  (X:(hd07.heap_1 w.params).In g) (T:VO p zw zt mg mb g) (H:Ok g os [(x,CV 143 dx),(dx,CK (wd hsh tkn (.bool BC) (.bool AU) .none .none (.bool rw) .none .none .none wr da de ns pm pr rs rd ig) ep),(da,listOf (AF ds).toArray n1),(out,listOf (AF ol).toArray n2),(wr,DZ out)] s) (hh:A.handled=BN) (zq:A.depth<800)
  (hpr:g.IsList pr (pre++[BY pv]).toArray) (hok:PZ AW (ds.map (·.1))=BC) (hdz:(AF ds).toArray.size≤DA)
  (nd:([x,dx,da,out,wr]:AE CC).Nodup) (hdl:(FW AW (ds.map (·.1))).length≤2000) (hoz:(AF ol).toArray.size≤DA)
  (hN:∀s' n3 n4 ol2,ol2.map (·.1)=ol.map (·.1)++JE rs (JG BC (FW AW (ds.map (·.1))))→Ok g os [(x,CV 143 dx),(dx,CK (wd hsh tkn (.bool BC) (.bool AU) .none .none (.bool rw) .none .none .none wr da de ns pm pr rs rd ig) ep),(da,listOf #[] n3),(out,listOf (AF ol2).toArray n4),(wr,DZ out)] s'→R (.ok (.ret .none)) s') :
  DV (BE rw_dn0283_07.row.prog w) A (.call (.ref 99) ⟨[.ref x],[]⟩) R s:=by
 refine qC (D:=JG BC (FW AW (ds.map (·.1)))) X T H hh zq hpr hok hdz nd hdl hoz rfl (λs' n3 c H'=>hN s' n3 n2 ol ?_ H') λs' n3 t c1 c2 H'=>hN s' n3 (n2+1) (ol++[(OI (JG BC (FW AW (ds.map (·.1)))),t)]) ?_ ?_
 ·rw[cZ c,CQ]
 ·rw[lR c1 c2,BF];rfl
 ·rw[GN];exact H'
end
theorem rs7:True∧True:=by
 (try walk1);(try w_top off)
 all_goals (first | trivial | exact ⟨trivial,trivial⟩)
section

theorem Dx{h:CW}{a:AH}{q q':Pr}{t1 t2 u1 u2:DW}(g1:h.get? a=AK (DO #[.str q.1 t1,.str q.2 t2]))(g2:h.get? a=AK (DO #[.str q'.1 u1,.str q'.2 u2])):q=q':=by
 rw[g1] at g2
 have:=BW CY.data (HB g2)
 simp only[DO,bL,TH,MG,pQ,TS] at this;exact Prod.ext this.1.1 this.2.1
theorem off8{a x dx dl pm out wr ns pr:AH}{o1 o2 o3 oM o4 o5 o6 o7:CY}(h:∀q∈[(x,o1),(dx,o2),(dl,o3),(pm,oM)]++[(out,o4),(wr,o5),(ns,o6),(pr,o7)],a≠q.1):a≠x∧a≠dx∧a≠dl∧a≠out∧a≠wr∧a≠ns∧a≠pr∧a≠pm :=
 ⟨h (x,o1) (.head _),h (dx,o2) (.tail _ (.head _)),h (dl,o3) (.tail _ (.tail _ (.head _))),h (out,o4) (.tail _ (.tail _ (.tail _ (.tail _ (.head _))))),h (wr,o5) (.tail _ (.tail _ (.tail _ (.tail _ (.tail _ (.head _)))))),h (ns,o6) (.tail _ (.tail _ (.tail _ (.tail _ (.tail _ (.tail _ (.head _))))))),h (pr,o7) (.tail _ (.tail _ (.tail _ (.tail _ (.tail _ (.tail _ (.tail _ (.head _)))))))),h (pm,oM) (.tail _ (.tail _ (.tail _ (.head _))))⟩
theorem yB{x dx dl pm out wr ns pr:AH}{o1 o2 o3 o3' oM oM' o4 o5 o6 o7:CY}{tlB tups prs tmp base:AE (AH×CY)}{d p:AH×CY}
  (hbase:[(x,o1),(dx,o2),(dl,o3),(pm,oM)]++([(out,o4),(wr,o5),(ns,o6),(pr,o7)]++(p::(tups++(prs++tmp))))=base)
  (hd:∀r∈base,d.1≠r.1) (htB:∀q∈tlB,q.1≠d.1∧∀r∈base,q.1≠r.1)
  (hfr:∀q∈p::(tups++prs),q.1≠x∧q.1≠dx∧q.1≠dl∧q.1≠pm∧∀r∈[(out,o4),(wr,o5),(ns,o6),(pr,o7)]++tmp,q.1≠r.1)
  (htmp:∀q∈tmp,∀r∈[(x,o1),(dx,o2),(dl,o3'),(pm,oM')]++[(out,o4),(wr,o5),(ns,o6),(pr,o7)],q.1≠r.1) :
  ∀r∈d::(tlB++(p::(tups++(prs++tmp)))),r.1≠x∧r.1≠dx∧r.1≠dl∧r.1≠out∧r.1≠wr∧r.1≠ns∧r.1≠pr∧r.1≠pm:=by
 have hb7:∀q∈[(x,o1),(dx,o2),(dl,o3),(pm,oM)]++[(out,o4),(wr,o5),(ns,o6),(pr,o7)],q∈base:=λq hq=>by
  rw[← hbase];rcases AT.mp hq with z|z
  ·exact Ml _ z
  ·exact Mr _ (Ml _ z)
 have h3:∀q∈p::(tups++prs),q.1≠x∧q.1≠dx∧q.1≠dl∧q.1≠out∧q.1≠wr∧q.1≠ns∧q.1≠pr∧q.1≠pm:=λq hq=>by
  obtain⟨e1,e2,e3,em,e4⟩:=hfr q hq;exact⟨e1,e2,e3,e4 (out,o4) (.head _),e4 (wr,o5) (.tail _ (.head _)),e4 (ns,o6) (.tail _ (.tail _ (.head _))),e4 (pr,o7) (.tail _ (.tail _ (.tail _ (.head _)))),em⟩
 intro r hr;rcases AP.mp hr with rfl|hr
 ·exact off8 λq hq=>hd q (hb7 q hq)
 rcases AT.mp hr with hr|hr
 ·exact off8 λq hq=>(htB r hr).2 q (hb7 q hq)
 rcases AP.mp hr with rfl|hr
 ·exact h3 _ (.head _)
 rcases AT.mp hr with hr|hr
 ·exact h3 r (.tail _ (Ml _ hr))
 rcases AT.mp hr with hr|hr
 ·exact h3 r (.tail _ (Mr _ hr))
 exact off8 (htmp r hr)
noncomputable def WA(w:BU)(A:BQ)(s:AG)(g:CW)(os:CU)(p:BH)(zw:AE AX)(zt:ER→AM AC)(mg mb:AX→AM AC)(R:FE→AG→Prop)(x dx:AH)(hsh:CC→EE)(tkn:CC→DW)(wr da de ns pm pr:AH)(rs rd:CZ)(ep:CC)(out:AH)(n2:CC)(ol:AE (AX×DW))(pre:AE AC)(pv:CZ)(dl at_:AH)(nns npr na:CC)(dlv nlv:AE (AH×CE AC))(lower nps:AE Pr)(tag:AX)(tt:DW)(l:AE ((AX×DW)×(AX×DW)))(tabs:AE (AH×CY))(rw:CZ)(oM0:CY)(pq0:AE (AX×(AX×DW)))(ks':AE AX):Prop :=
 ∀(X:(hd07.heap_1 w.params).In g)(T:VO p zw zt mg mb g)(H:Ok g os ([(x,CV 143 dx),(dx,CK (wd hsh tkn (.bool BC) (.bool AU) .none .none (.bool rw) .none .none .none wr da de ns pm pr rs rd 0) ep),(out,listOf (AF ol).toArray n2),(wr,DZ out),(dl,listOf #[] 0),(ns,listOf (nlv.map λp=>AR p.1).toArray nns),(pr,listOf (pre++[BY pv]).toArray npr),(pm,oM0)]++tabs) s)(hh:A.handled=BN)(zq:A.depth<800)(C116:kP g 118 116)(hu:A.units<9000)(hT:PO 116 ⟨136,71,136,96⟩ (AA "C14NWriterTarget._start.<locals>.<lambda>") tabs) (hat:g.get? at_=AK (CK (IM w.params l) na)) (hlz:l.length≤3) (hsys:(at_==FB)=AU) (hnd:(tag::l.map (·.1.1)).Nodup) (hng:∀n∈tag::l.map (·.1.1),OS n=BC∧known nps (cutName n).1) (hvl:∀p∈l,p.2.1.length≤100∧(RD p.2.1).length≤1000) (hDe:g.IsList de ((dlv++[(dl,(#[]:CE AC))]).map λp=>AR p.1).toArray) (hDl:∀p∈dlv,g.IsList p.1 p.2) (hDz:∀p∈dlv,(p.2.size:EE)<2 ^ 63) (hDp:All2 (KM g) (comes dlv) lower) (hDn:lower.length<2900) (hDs:∀q∈lower,q.1.length≤200∧q.2.length≤200) (hK:rw=AU→(∀p∈nlv,g.IsList p.1 p.2∧(p.2.size:EE)<2 ^ 63)∧All2 (KM g) (comes nlv) nps) (hNe:∀q∈nps,q.1.length≤100∧q.2.length≤200∧(RD q.1).length≤1000∧q.2≠AW) (hM:HY rw_dn0283_07.row.prog w oM0 pq0) (hMz:pq0.length≤40) (hps:(pm==FB)=AU) (hu0:∀n∈tag::l.map (·.1.1),(cutName n).1≠AW) (hP0:∀q∈lower,q.2≠AW) (hPq:PqAt rw nps pq0 pq0) (hNR:rw=BC→LC lower nps (FJ GH (tag::l.map (·.1.1))) [] (pq0.map (·.1)) ks') (hol:ol.length≤5000) (hl2:nlv.length≤1000) (hl3:pre.length≤1000) (zd:∀p∈tabs,p.1∉[x,dx,out,wr,dl,ns,pr,pm]) (nd:([x,dx,out,wr,dl,ns,pr,pm]:AE AH).Nodup) (hN:∀s' n3 n4 n5 nl ol2 itsd nd prs zp oM pq,HY rw_dn0283_07.row.prog w oM pq→PqAt rw nps pq0 pq→(rw=BC→pq.map (·.1)=ks')→ol2.map (·.1)=ol.map (·.1)++KH (declare lower nps (FJ GH (tag::l.map (·.1.1))) [] []).1 (declare lower nps (FJ GH (tag::l.map (·.1.1))) [] []).2 tag (l.map λp=>(p.1.1,p.2.1))→All2 (GP prs) itsd.toList (declare lower nps (FJ GH (tag::l.map (·.1.1))) [] []).1→PO 116 ⟨136,71,136,96⟩ (AA "C14NWriterTarget._start.<locals>.<lambda>") zp→(∀r∈prs++zp,r.1∉([x,dx,out,wr,dl,ns,pr,pm]:AE AH)∧r.1≠nl)→nl∉([x,dx,out,wr,dl,ns,pr,pm]:AE AH)→Ok g os ([(x,CV 143 dx),(dx,CK (wd hsh tkn (.bool BC) (.bool AU) .none .none (.bool rw) .none .none .none wr da de ns pm pr BC rd 0) ep),(out,listOf (AF ol2).toArray n3),(wr,DZ out),(dl,listOf itsd nd),(ns,listOf ((nlv.map λp=>AR p.1)++[AR nl]).toArray n4),(nl,listOf #[] 0),(pr,listOf (pre++[BY pv,BY (JI pv (l.map λp=>(p.1.1,p.2.1)))]).toArray n5),(pm,oM)]++(prs++zp)) s'→R (.ok (.ret .none)) s'),DV (BE rw_dn0283_07.row.prog w) A (.call (.ref 119) ⟨[.ref x,.str tag tt,.ref at_,.ref dl],[]⟩) R s
theorem oO:∀{w A s g os p zw zt mg mb R x dx hsh tkn wr da de ns pm pr rs rd ep out n2 ol pre pv dl at_ nns npr na dlv nlv lower nps tag tt l tabs rw oM0 pq0 ks'},WA w A s g os p zw zt mg mb R x dx hsh tkn wr da de ns pm pr rs rd ep out n2 ol pre pv dl at_ nns npr na dlv nlv lower nps tag tt l tabs rw oM0 pq0 ks':=by
 refine @(BK (GM KF)<|@(BK DM<|@(BK DM<|@(BK DM<|@(BK DM<|@(MU DM<|let_mvar%?n:=(λw A s g os p zw zt mg mb R x dx hsh tkn wr da de ns pm pr rs rd ep out n2 ol pre pv dl at_ nns npr na dlv nlv lower nps tag tt l tabs rw oM0 pq0 ks'=>?_:∀a b c d e f g h i j k l m n o p q r s t u v w x y z a1 b1 c1 d1 e1 f1 g1 h1 i1 j1 k1 l1 m1 n1 o1 p1 q1 r1 s1 t1,WA a b c d e f g h i j k l m n o p q r s t u v w x y z a1 b1 c1 d1 e1 f1 g1 h1 i1 j1 k1 l1 m1 n1 o1 p1 q1 r1 s1 t1);?n _ _ _ _ _ _ _ _ _ _ _ _ _ _ _ _ _ _ _ _ _ _ _ _ _ _ _ _ _ _ _ _ _ _ _ _ _ _ _ _ _ _ _ _ _ _))))))
 intro X T H hh zq C116 hu hT hat hlz hsys hnd hng hvl hDe hDl hDz hDp hDn hDs hK hNe hM hMz hps hu0 hP0 hPq hNR hol hl2 hl3 zd nd hN;revert X;k_fill;intro X;refine' Bx (λy=>if y=AA "qname_text" then AK (DD) else if y=AA "new_namespaces" then AK (AR dl) else if y=AA "attrs" then AK (AR at_) else if y=AA "tag" then AK (EW tag tt) else BN) H X T ?k6 ?k7 (AZ zq (by decide)) ?k9 ?kB ?kD ?km ?_ ?c1 ?c2 ?c3
 (case k6=>k_is)
 (case k7=>k_is)
 (case k9=>exact Br (X.keeps H.keep) rfl (by k_is) rfl rfl rfl)
 (case kB=>exact kindsX rfl)
 (case kD=>decide +kernel)
 (case km=>exact λ_=>rfl)
 (case c1=>exact rfl)
 (case c2=>exact rfl)
 (case c3=>exact rfl)
 k_whole
 with_reducible refine let_mvar%?zq1:=(λL' h1 k0 cells=>?_:ZE _);IB DM (OM:ES _ (type_of%?zq1)) (?zq1 _ _ _ _)
 intro F1 N1 Y1 l1
 refine HK ?_;with_reducible refine let_mvar%?zq36:=(λQ9 E9=>?_:OV _);EV DM (IP:ES _ (type_of%?zq36)) (?zq36 _ _);intro hq9 he9
 have hy0:=CellsAre.two Y1
 revert hy0;refine VP ?_;with_reducible refine let_mvar%?zq2:=(λoq o0=>?_:OV _);EV DM (IP:ES _ (type_of%?zq2)) (?zq2 _ _);rintro⟨rfl,hq0',hs0'⟩
 have hq0:oq.data=.cell BN:=hq0';have hs0:o0.data=.cell (AK (.ref x)):=hs0';clear Y1 hq0' hs0';refine ndk8 nd ?_;intro n_x_dx n_x_out n_x_wr n_x_dl n_x_ns n_x_pr n_x_pm n_dx_out n_dx_wr n_dx_dl n_dx_ns n_dx_pr n_dx_pm n_out_wr n_out_dl n_out_ns n_out_pr n_out_pm n_wr_dl n_wr_ns n_wr_pr n_wr_pm n_dl_ns n_dl_pr n_dl_pm n_ns_pr n_ns_pm n_pr_pm;dsimp only[DQ,DB] at N1
 (try k_fold)
 have hoMc:∀{o:CY}{q:AE (AX×(AX×DW))},HY rw_dn0283_07.row.prog w o q→o.cls≠.type "tuple":=λh e=>by
  obtain⟨⟨_,_,⟨z,_,_⟩,_⟩,_⟩:=h
  rw[z] at e;exact absurd e (by decide)
 have hNq:∀q∈nps,q.1.length≤200∧q.2.length≤200∧q.2≠AW:=λq hq=>⟨AQ (hNe q hq).1 (by decide),(hNe q hq).2.1,(hNe q hq).2.2.2⟩;have hnd2:(l.map (·.1.1)).Nodup:=(DF.mp hnd).2
 have hdis:∀p∈l,p.1.1≠tag:=λp hp e=>(DF.mp hnd).1 (e ▸ BV (f:=λx:(AX×DW)×(AX×DW)=>x.1.1) hp)
 repeat'(first
    |((with_reducible show AI _ _ (eval (Expr.Set _ _ _) _) _ _ _);(rename Fr ..=>F9);(rename AY _ _ _ _=>N9);refine zQ (tag:=tag) (tt:=tt) (d:=at_) (n:=na) (l:=l) hh F9 N9 X (by rfl) (λs' Q' F h=>Cu F rfl h rfl rfl) (λs' Q' F h=>Cu F rfl h rfl rfl) (F9.keep _ _ hat) hnd2 hdis hlz hsys ?_;clear F9 N9;with_reducible refine let_mvar%?zq3:=(λqs oS h9 tk9=>?_:ZE _);IB DM (OM:ES _ (type_of%?zq3)) (?zq3 _ _ _ _);intro F9 N9 l9 hTS;(try dsimp only))
    |((fail_if_success (with_reducible show AI _ _ (storeName _ (AA "parse_qname") (AR _)) _ _ _));walk_at "go"))
 rename_i rn hb0 orn lo0 hs1 fs1 hi1 fi1 lrn hc0 hd0 qm h6 F6 N6 l6
 revert qm h6;with_reducible refine let_mvar%?zq4:=(λqm h6=>?_:OV _);EV DM (IP:ES _ (type_of%?zq4)) (?zq4 _ _);intro F6 N6 l6
 have low:∀q∈WQ rw x dx hsh tkn wr da de ns pm pr rs rd ep dl oM0 (#[]:CE AC) 0++([(out,listOf (AF ol).toArray n2),(wr,DZ out),(ns,listOf (nlv.map λp=>AR p.1).toArray nns),(pr,listOf (pre++[BY pv]).toArray npr)]++tabs),q.1<L':=by
  repeat'(first|with_reducible exact BA _|with_reducible refine Fp ?_ ?_|with_reducible refine Fc ?_ ?_|exact l1 _ (by walk_at "l_in")|exact λq hq=>l1 q (by walk_at "l_in"))
 have gq:L'<qs:=AZ (CX (CM L')) (l9 (L'+1+1,oq) (by k_mem))
 have gr:L'<rn:=AZ gq lrn.1;have gm:L'<qm:=AZ gr l6.1
 have cq:L'+1+1<qs:=l9 (L'+1+1,oq) (by k_mem)
 have cr:L'+1+1<rn:=AZ cq lrn.1;have cm:L'+1+1<qm:=AZ cr l6.1
 have N7:AY g L' h6 ((L'+1+1,oq)::((qm,IK (.ref 83) (.ref x))::(rn,orn)::(qs,oS)::(L'+1,o0)::(WQ rw x dx hsh tkn wr da de ns pm pr rs rd ep dl oM0 (#[]:CE AC) 0++([(out,listOf (AF ol).toArray n2),(wr,DZ out),(ns,listOf (nlv.map λp=>AR p.1).toArray nns),(pr,listOf (pre++[BY pv]).toArray npr)]++tabs)))):=AY.sub N6 (by
  walk_at "l_sub")
 refine storeX_C (c:=L'+1+1) F6 N7 rfl (.head ?_) hq0 ?_ rfl rfl
 ·exact Fc (AJ cm) (Fc (AJ cr) (Fc (AJ cq) (Fc (AO (CM _)) (λq hq=>AO (AZ (low q hq) (CX (CM _)))))))
 with_reducible refine let_mvar%?zq5:=(λh8 oc=>?_:OV _);EV DM (IP:ES _ (type_of%?zq5)) (?zq5 _ _);intro F8 N8 hoc
 clear N7 N6 F6;dsimp only
 refine BR (qV (by rfl) (by rfl) (λ_=>rfl) ?_)
 have h116:∀q∈WQ rw x dx hsh tkn wr da de ns pm pr rs rd ep dl oM0 (#[]:CE AC) 0++([(out,listOf (AF ol).toArray n2),(wr,DZ out),(ns,listOf (nlv.map λp=>AR p.1).toArray nns),(pr,listOf (pre++[BY pv]).toArray npr)]++[(L'+1+1,oc),(qm,IK (.ref 83) (.ref x)),(rn,orn),(qs,oS),(L'+1,o0)]),q.1≠116:=by
  have hin:∃o,((116:AH),o)∈tabs:=by
   rcases hT with rfl|⟨c',o',vs,t,rfl,_⟩
   ·exact⟨_,.head _⟩
   ·exact⟨_,.head _⟩
  obtain⟨o116,hin⟩:=hin;have hnot:=zd _ hin
  have hlt:(116:AH)<L':=low (116,o116) (Mr _ (Mr _ hin))
  have hx:∀a∈[x,dx,out,wr,dl,ns,pr,pm],a≠116:=λa ha e=>hnot (e ▸ ha)
  refine Fp (Fc (hx _ (by k_mem)) (Fc (hx _ (by k_mem)) (Fc (hx _ (by k_mem)) (Fc (hx _ (by k_mem)) (BA _))))) (Fp (Fc (hx _ (by k_mem)) (Fc (hx _ (by k_mem)) (Fc (hx _ (by k_mem)) (Fc (hx _ (by k_mem)) (BA _))))) (Fc (AJ (AZ hlt (CX (CM _)))) (Fc (AJ (AZ hlt gm)) (Fc (AJ (AZ hlt gr)) (Fc (AJ (AZ hlt gq)) (Fc (AJ (AZ hlt (CM _))) (BA _)))))))
 repeat'(first
    |((with_reducible show AI _ _ (eval (Expr.Lambda _ _ _ _) _) _ _ _);refine yR (P:=116) (c:=118) (tabs:=tabs) (rest:=WQ rw x dx hsh tkn wr da de ns pm pr rs rd ep dl oM0 (#[]:CE AC) 0++([(out,listOf (AF ol).toArray n2),(wr,DZ out),(ns,listOf (nlv.map λp=>AR p.1).toArray nns),(pr,listOf (pre++[BY pv]).toArray npr)]++[(L'+1+1,oc),(qm,IK (.ref 83) (.ref x)),(rn,orn),(qs,oS),(L'+1,o0)])) F8 (AY.sub N8 ?nsub) T C116 rfl hT h116 rfl rfl (by rfl) rfl ?lamk)
    |((fail_if_success (with_reducible show AI _ _ (eval (Expr.Lambda _ _ _ _) _) _ _ _));walk_at "go"))
 case nsub =>
  walk_at "l_sub"
 case lamk =>
  with_reducible refine let_mvar%?zq6:=(λf zp nl h10 tk10=>?_:kQ _);LU DM (UR:ES _ (type_of%?zq6)) (?zq6 _ _ _ _ _);intro hT' hLI hd1 hd2 F10 N10
  clear N8 F8
  repeat'(first
    |((with_reducible show AI _ _ (DK (GU "sorted") _ _) _ _ _);refine rF (a:=qs) (oS:=oS) (ks:=(l.map (·.1.1)).reverse++[tag]) hh T.nolimit (CJ (FG zq) (by decide)) ?hu F10 N10 hLI ?hm hTS ?h1 ?h4 ?hx ?sk)
    |((fail_if_success (with_reducible show AI _ _ (DK (GU "sorted") _ _) _ _ _));walk_at "go"))
  case hu=>show A.units+3+2<Av;rw[cLine_is];exact(Nt λhn1=>fk [_] (.e (.s V0) (.k 9000) (.e (.k 9900) (.a (.a V0 (.k 3)) (.k 2)) K0)) rfl hu hn1)
  case hm=>first|k_mem|simp
  case h1=>first|rfl|simp
  case h4=>simp;exact hlz
  case hx =>
   intro n hn
   have hn':n∈tag::l.map (·.1.1):=by
    rcases AT.mp hn with z|z
    ·exact .tail _ (HV.mp z)
    ·rw[BB.mp z];exact .head _
   exact AQ (MZ (hng n hn').1).2.1 (by decide)
  case sk =>
   with_reducible refine let_mvar%?zq7:=(λD1 outn c1=>?_:PV _);FL DM (JN:ES _ (type_of%?zq7)) (?zq7 _ _ _);with_reducible refine let_mvar%?zq8:=(λs11=>?_:Fa _);HZ neS (UA:ES _ (type_of%?zq8)) (?zq8 _);intro g11 o11 hout hltD F11 N11
   clear N10 F10
   have hks:FJ GH ((l.map (·.1.1)).reverse++[tag])=FJ GH (tag::l.map (·.1.1)):=RN MW ((DU _ _).trans ((PX (l₂:=[tag])).trans ((iK _).cons tag))) (KR MW _)
   rw[hks] at hout
   have hperm:(outn.map (·.1)).Perm (tag::l.map (·.1.1)):=by rw[hout];exact DU _ _
   have htmp:∀q∈(D1,listOf (AF outn).toArray c1)::(nl++(zp++[(L'+1+1,oc),(qm,IK (.ref 83) (.ref x)),(rn,orn),(qs,oS),(L'+1,o0)])),∀r∈WQ rw x dx hsh tkn wr da de ns pm pr rs rd ep dl oM0 (#[]:CE AC) 0++[(out,listOf (AF ol).toArray n2),(wr,DZ out),(ns,listOf (nlv.map λp=>AR p.1).toArray nns),(pr,listOf (pre++[BY pv]).toArray npr)],q.1≠r.1:=by
    intro q hq r hr
    have hrr:r∈WQ rw x dx hsh tkn wr da de ns pm pr rs rd ep dl oM0 (#[]:CE AC) 0++([(out,listOf (AF ol).toArray n2),(wr,DZ out),(ns,listOf (nlv.map λp=>AR p.1).toArray nns),(pr,listOf (pre++[BY pv]).toArray npr)]++[(L'+1+1,oc),(qm,IK (.ref 83) (.ref x)),(rn,orn),(qs,oS),(L'+1,o0)]):=by
     rcases AT.mp hr with z|z
     ·exact Ml _ z
     ·exact Mr _ (Ml _ z)
    have hrl:r.1<L':=low r (by
     rcases AT.mp hr with z|z
     ·exact Ml _ z
     ·exact Mr _ (Ml _ z))
    rcases AP.mp hq with rfl|hq
    ·exact AJ (hltD r (Mr _ (Mr _ hrr)))
    ·rcases AT.mp hq with hq|hq
     ·exact hd1 q hq r (Mr _ hrr)
     ·rcases AT.mp hq with hq|hq
      ·rcases hd2 r hrr q (Mr _ hq) with z|z|z
       ·rw[z];exact BG (h116 r hrr)
       ·exact AJ z
       ·have hz:=zd q z
        intro e;rw[e] at hz
        exact hz ((Fp (p:=λr:AH×CY=>r.1∈[x,dx,out,wr,dl,ns,pr,pm]) (Fc (.head _) (Fc (.tail _ (.head _)) (Fc (.tail _ (.tail _ (.tail _ (.tail _ (.head _))))) (Fc (.tail _ (.tail _ (.tail _ (.tail _ (.tail _ (.tail _ (.tail _ (.head _)))))))) (BA _))))) (Fc (.tail _ (.tail _ (.head _))) (Fc (.tail _ (.tail _ (.tail _ (.head _)))) (Fc (.tail _ (.tail _ (.tail _ (.tail _ (.tail _ (.head _)))))) (Fc (.tail _ (.tail _ (.tail _ (.tail _ (.tail _ (.tail _ (.head _))))))) (BA _)))))) r hr)
      ·exact(Fg (p:=λq:AH×CY=>q.1≠r.1)).mpr ⟨AJ (AZ hrl (CX (CM _))),Fc (AJ (AZ hrl gm)) (Fc (AJ (AZ hrl gr)) (Fc (AJ (AZ hrl gq)) (Fc (AJ (AZ hrl (CM _))) (BA _))))⟩ q hq
   have N12:AY g L' s11.heap (WQ rw x dx hsh tkn wr da de ns pm pr rs rd ep dl oM0 (#[]:CE AC) 0++([(out,listOf (AF ol).toArray n2),(wr,DZ out),(ns,listOf (nlv.map λp=>AR p.1).toArray nns),(pr,listOf (pre++[BY pv]).toArray npr)]++((D1,listOf (AF outn).toArray c1)::(nl++(zp++[(L'+1+1,oc),(qm,IK (.ref 83) (.ref x)),(rn,orn),(qs,oS),(L'+1,o0)]))))):=AY.sub N11 (by
    walk_at "l_sub")
   clear N11;refine mY (qm:=qm) (c:=L'+1+1) (oc1:=oc) (nns:=nns) (c1:=c1) (nd0:=0) (dlv:=dlv) (nlv:=nlv) (lower:=lower) (nps:=nps) (O4:=[(out,listOf (AF ol).toArray n2),(wr,DZ out),(ns,listOf (nlv.map λp=>AR p.1).toArray nns),(pr,listOf (pre++[BY pv]).toArray npr)]) (tmp:=(D1,listOf (AF outn).toArray c1)::(nl++(zp++[(L'+1+1,oc),(qm,IK (.ref 83) (.ref x)),(rn,orn),(qs,oS),(L'+1,o0)]))) (outn:=outn) (L:=L') (os:=os) X T ?hh9 ?hrm9 ?r1 ?r2 ?r3 ?r4 ?r5 ?r6 hDe hDl hDz hDp hDn hDs (by simp) hK hNq n_x_dl n_dx_dl hM ?hMz9 hps ⟨BG n_x_pm,BG n_dx_pm,BG n_dl_pm⟩ (λn hn=>hu0 n (hperm.mem_iff.mp hn)) hP0 hPq (by rw[hout];exact hNR) ?hrest (.head _) (by simp) hoc (by simp) ?hol ?hnodup ?hng F11 N12 (o11.trans H.os) (by rw[g11];exact H.bare) ?fin
   case hh9=>exact hh
   case r1=>rfl
   case r2=>rfl
   case r3=>exact λ_=>rfl
   case r4=>exact λ_=>rfl
   case r5=>rfl
   case r6=>rfl
   case hrm9=>show A.depth+1<900;exact(Nt λhn1=>fk [_] (.e (.s V0) (.k 800) (.e (.k 900) (.s V0) K0)) rfl zq hn1)
   case hMz9=>have:=hperm.length_eq;simp at this;exact(Nl λhn1=>fk [_,_,_] (.e V0 (.k 3) (.e V1 (.s V0) (.e V2 (.k 40) (.e (.s (.k 50)) (.a V2 V1) K0)))) rfl hlz (El this) hMz hn1)
   case hrest=>exact Fp (Fc ⟨BG n_x_out,BG n_dx_out,n_out_dl,n_out_pm⟩ (Fc ⟨BG n_x_wr,BG n_dx_wr,n_wr_dl,n_wr_pm⟩ (Fc ⟨BG n_x_ns,BG n_dx_ns,BG n_dl_ns,n_ns_pm⟩ (Fc ⟨BG n_x_pr,BG n_dx_pr,BG n_dl_pr,n_pr_pm⟩ (BA _))))) λq hq=>⟨htmp q hq (x,_) (Ml _ (.head _)),htmp q hq (dx,_) (Ml _ (.tail _ (.head _))),htmp q hq (dl,_) (Ml _ (.tail _ (.tail _ (.head _)))),htmp q hq (pm,_) (Ml _ (.tail _ (.tail _ (.tail _ (.head _)))))⟩
   case hol=>have:=hperm.length_eq;simp at this;exact(Nl λhn1=>fk [_,_] (.e V0 (.k 3) (.e V1 (.s V0) (.e (.s (.k 40)) V1 K0))) rfl hlz (El this) hn1)
   case hnodup=>exact hperm.nodup_iff.mpr hnd
   case hng=>exact λn hn=>hng n (hperm.mem_iff.mp hn)
   case fin =>
    with_reducible refine let_mvar%?zq9:=(λs12 Dp oD itsd nd kvs tups prs=>?_:Bf _);SK JS (kI:ES _ (type_of%?zq9)) (?zq9 _ _ _ _ _ _ _ _);with_reducible refine let_mvar%?zq51:=(λoM pq=>?_:OV _);EV DM (IP:ES _ (type_of%?zq51)) (?zq51 _ _);intro hM2 hPq2 hks2 hits hdD hkv hfr F12 N13 o12 b12
    clear N12;rw[hout] at hits hkv;have hy_dd:∃dd,(declare lower nps (FJ GH (tag::l.map (·.1.1))) [] [])=dd:=⟨_,rfl⟩
    revert hy_dd;refine XX ?_;with_reducible refine let_mvar%?zq10:=(λdd=>?_:Fa _);HZ DM (UA:ES _ (type_of%?zq10)) (?zq10 _);intro hlv;rw[hlv] at hits hkv
    dsimp only
    have hsz:itsd.size=dd.1.length:=by rw[← hits.length];simp
    have hddl:dd.1.length≤4:=by
     have:=(KE lower nps (FJ GH (tag::l.map (·.1.1))) [] [] (λn hn=>(hng n ((DU _ _).mem_iff.mp hn)).2)).2.2;rw[hlv] at this;have h2:=(DU GH (tag::l.map (·.1.1))).length_eq;simp at this h2
     exact(Nl λhn1=>fk [_,_,_] (.e V0 (.k 3) (.e V1 V2 (.e V2 (.s V0) (.e (.s (.k 4)) V1 K0)))) rfl hlz this (El h2) hn1)
    have hddq:∀q∈dd.1,q∈nps:=λq hq=>by
     have:=(KE lower nps (FJ GH (tag::l.map (·.1.1))) [] [] (λn hn=>(hng n ((DU _ _).mem_iff.mp hn)).2)).2.1;rw[hlv] at this;rcases this q hq with z|z
     ·exact nomatch z
     ·exact z
    have hdps:∀n pp,dd.2.lookup n=AK pp→pp.2.2.length≤200∧pp.2.1.length≤200∧pp.1.length≤500:=λn pp hpp=>by
     have h3:=cU lower nps (λq hq=>(hDs q hq).2) (λq hq=>(hNq q hq).2.1) (FJ GH (tag::l.map (·.1.1))) [] [] (λ_ z=>nomatch z) (λn hn=>(MZ (hng n ((DU _ _).mem_iff.mp hn)).1).2.2.2) (n,pp) (by rw[hlv];exact mem_lookup hpp)
     rcases h3 with z|⟨z1,z2,z3,z4⟩
     ·exact nomatch z
     ·have hg9:=MZ (hng n ((DU _ _).mem_iff.mp z1)).1
      simp only at z2 z3 z4;rw[z2,z3];exact⟨hg9.2.2.1,hg9.2.2.2,z4⟩
    have hy_base:∃base,(WQ rw x dx hsh tkn wr da de ns pm pr rs rd ep dl oM itsd nd++([(out,listOf (AF ol).toArray n2),(wr,DZ out),(ns,listOf (nlv.map λp=>AR p.1).toArray nns),(pr,listOf (pre++[BY pv]).toArray npr)]++((Dp,oD)::(tups++(prs++((D1,listOf (AF outn).toArray c1)::(nl++(zp++[(L'+1+1,oc),(qm,IK (.ref 83) (.ref x)),(rn,orn),(qs,oS),(L'+1,o0)]))))))))=base:=⟨_,rfl⟩
    revert hy_base;refine XX ?_;with_reducible refine let_mvar%?zq11:=(λbase=>?_:Fa _);HZ DM (UA:ES _ (type_of%?zq11)) (?zq11 _);intro hbase;rw[hbase] at N13
    have hprb:∀q∈prs,q∈base:=λq hq=>by rw[← hbase];walk_at "l_in"
    have hdlb:(dl,listOf itsd nd)∈base:=by rw[← hbase];walk_at "l_in"
    refine' BR (OD (R:=λs'=>∃Da itsA nA tl,All2 (GP (tl++base)) itsA.toList (FJ JZ (dd.1.map LD))∧(∀q∈tl,q.1≠Da∧∀r∈base,q.1≠r.1)∧(∀r∈base,Da≠r.1)∧Fr g L' s'.heap (λy=>if y=AA "attr_list" then AK (.ref Da) else if y=AA "parsed_qnames" then AK (.ref Dp) else if y=AA "qattrs" then AK .none else if y=AA "resolved_names" then AK (.ref rn) else if y=AA "qnames" then AK (.ref qs) else if y=AA "qname_text" then AK (DD) else if y=AA "new_namespaces" then AK (AR dl) else if y=AA "attrs" then AK (AR at_) else if y=AA "tag" then AK (EW tag tt) else BN)∧AY g L' s'.heap ((Da,listOf itsA nA)::(tl++base))∧s'.os=os∧BP s'.gens) ?c1 ?c2)
    case c1 =>
     repeat'(first
      |((with_reducible show AI _ _ (truthy (AR dl)) _ _ _);refine IJ ⟨_,(N13 _ hdlb).1,rfl,_,rfl⟩ (RE (by rw[hsz,BI];exact(Nl λhn1=>fk [_] (.e V0 (.k 4) (.e (.s (.k 16777216)) V0 K0)) rfl hddl hn1))) ?_;(try dsimp only))
      |((with_reducible show(if _ then _ else _));refine HX ?_ ?_<;>intro hq)
      |((fail_if_success (with_reducible show AI _ _ (EZ (cP.Assign _ _ _::_) _) _ _ _));walk_at "go"))
     (try any_goals(exact AW))
     (try any_goals(exact DD))
     (try any_goals(exact L'))
     ·refine BR (Cz (cl:=[]) (s:={ s12 with toks:=s12.toks+1+1 }) (ax:=dl) (its:=itsd) (lv:=dd.1) (prs:=prs) (base:=base) (os:=os) (L:=L') X T ?hh8 ?r1 ?r2 ?r3 ?r4 ?r5 ?r6 ?hit F12 N13 o12 b12 ⟨_,hdlb⟩ hprb hits (by exact(Nl λhn1=>fk [_] (.e V0 (.k 4) (.e (.s (.k 50)) V0 K0)) rfl hddl hn1)) (λq hq=>(hNq q (hddq q hq)).2.1) ?fin8)
      case hh8=>exact hh
      case r1=>rfl
      case r2=>rfl
      case r3=>rfl
      case r4=>exact λ_=>rfl
      case r5=>rfl
      case r6=>rfl
      case hit=>exact λQ' hQ=>Cu F12 rfl hQ rfl rfl
      case fin8 =>
       with_reducible refine let_mvar%?zq15:=(λs14 Da ys tl=>?_:ZE _);IB JS (OM:ES _ (type_of%?zq15)) (?zq15 _ _ _ _);intro hys ht1 ht2 F14 N14 o14 b14
       dsimp only
       repeat'(first
        |((with_reducible show AI _ _ (DK (GU "list.sort") _) _ _ _);refine pU (D:=Da) (vs:=ys) (news:=tl++base) F14 N14 (λq hq=>?hne) (hys.mono λ_ _ z=>z.mono λ_ hq=>Ml _ hq) ?hy4 ?sk8)
        |((fail_if_success (with_reducible show AI _ _ (DK (GU "list.sort") _) _ _ _));walk_at "go"))
       (try any_goals(exact AW))
       (try any_goals(exact DD))
       (try any_goals(exact L'))
       case hne =>
        rcases AT.mp hq with z|z
        ·exact(ht1 q z).1
        ·exact BG (ht2 q z)
       case hy4=>have:=hys.length;rw[AN] at this;exact(Nl λhn1=>fk [_,_] (.e V0 (.k 4) (.e V1 V0 (.e (.s (.k 4)) V1 K0))) rfl hddl (El this) hn1)
       case sk8 =>
        with_reducible refine let_mvar%?zq16:=(λout8 c8 h15=>?_:PV _);FL DM (JN:ES _ (type_of%?zq16)) (?zq16 _ _ _);intro ho8 F15 N15
        repeat'((fail_if_success (with_reducible show GI=_∧_));walk_at "go")
        exact⟨rfl,Da,out8.toArray,c8,tl,by simpa using ho8,ht1,ht2,F15,N15,o14,b14⟩
     ·have hemp:dd.1=[]:=by
       have hq':itsd.isEmpty=BC:=by simpa using hq
       have:itsd.size=0:=by simpa[CE.isEmpty] using hq'
       exact GQ (by exact(DG (Nl λhn2=>fk [_,_] (.e V0 V1 (.e V1 K0 (.e (.s K0) V0 K0))) rfl (Es hsz) (El this) hn2) (Nl λhn3=>fk [_] (.e (.s V0) K0 K0) rfl hn3)))
      repeat'((fail_if_success (with_reducible show GI=_∧_));walk_at "go")
      (try any_goals(exact AW))
      (try any_goals(exact DD))
      (try any_goals(exact L'))
      rename_i Da hA lA hB F15 N15;exact⟨rfl,Da,#[],0,[],by rw[hemp];exact .nil,(λ_ z=>nomatch z),(λr hr=>AJ (lA r hr)),F15,N15,o12,b12⟩
    refine exs4 ?_;with_reducible refine let_mvar%?zq38:=(λs15 Da itsA nA tl=>?_:kQ _);LU JS (UR:ES _ (type_of%?zq38)) (?zq38 _ _ _ _ _);rintro⟨hA,ht1,ht2,F15,N15,o15,b15⟩
    clear F12 N13
    (try dsimp only)
    have hdat:∀(h:CW),(∀b o,g.get? b=AK o→h.get? b=AK o)→h.DictOf (EL rw_dn0283_07.row.prog w) at_ (OF l):=λh hk=>MF.mpr ⟨_,hk _ _ hat,VH hnd2⟩;rw[jK (a:=AA "k") (b:=AA "v") (c:=AA "attr_qname") (d:=AA "attr_name") (e:=AA "uri") (m0:=(λy=>if y=AA "attr_list" then AK (AR Da) else if y=AA "parsed_qnames" then AK (AR Dp) else if y=AA "qattrs" then AK DD else if y=AA "resolved_names" then AK (AR rn) else if y=AA "qnames" then AK (AR qs) else if y=AA "qname_text" then AK (DD) else if y=AA "new_namespaces" then AK (AR dl) else if y=AA "attrs" then AK (AR at_) else if y=AA "tag" then AK (EW tag tt) else BN)) rfl rfl rfl rfl rfl] at F15
    refine' BR (OD (R:=λs'=>∃itsB nB tlB u1 u2 u3 u4 u5,All2 (GP (tlB++base)) itsB.toList (IX dd.1 dd.2 (l.map λp=>(p.1.1,p.2.1)))∧(∀q∈tlB,q.1≠Da∧∀r∈base,q.1≠r.1)∧Fr g L' s'.heap (m5 (AA "k") (AA "v") (AA "attr_qname") (AA "attr_name") (AA "uri") (λy=>if y=AA "attr_list" then AK (AR Da) else if y=AA "parsed_qnames" then AK (AR Dp) else if y=AA "qattrs" then AK DD else if y=AA "resolved_names" then AK (AR rn) else if y=AA "qnames" then AK (AR qs) else if y=AA "qname_text" then AK (DD) else if y=AA "new_namespaces" then AK (AR dl) else if y=AA "attrs" then AK (AR at_) else if y=AA "tag" then AK (EW tag tt) else BN) u1 u2 u3 u4 u5)∧AY g L' s'.heap ((Da,listOf itsB nB)::(tlB++base))∧s'.os=os∧BP s'.gens) ?d1 ?d2)
    case d1 =>
     repeat'(first
      |((with_reducible show AI _ _ (truthy (AR at_)) _ _ _);refine wpAny_truthy_dict hsys (hdat _ F15.keep) (RE (by rw[AN,BI];exact(Nl λhn1=>fk [_] (.e V0 (.k 3) (.e (.s (.k 16777216)) V0 K0)) rfl hlz hn1))) ?_;(try dsimp only))
      |((with_reducible show(if _ then _ else _));refine HX ?_ ?_<;>intro hq)
      |((fail_if_success (with_reducible show AI _ _ (EZ (QX _ _ _ _ _::_) _) _ _ _));(fail_if_success (with_reducible show GI=_∧_));walk_at "go"))
     (try any_goals(exact AW))
     (try any_goals(exact DD))
     (try any_goals(exact L'))
     ·refine BR (iG (λ_=>rfl) ?_)
      repeat'(first
       |((with_reducible show AI _ _ (WW (AR at_) (AA "items") _) _ _ _);refine YQ (l:=l) (n:=na) (F15.keep _ _ hat) ?_;(try dsimp only))
       |((with_reducible show AI _ _ (DK (GU "dict.items") _) _ _ _);(try dsimp only);refine nZ (l:=l) (n:=na) F15 N15 (F15.keep _ _ hat) hnd2 hsys ?_;clear F15 N15;with_reducible refine let_mvar%?zq17:=(λvw h16=>?_:OV _);EV DM (IP:ES _ (type_of%?zq17)) (?zq17 _ _);intro F16 N16 l16 k16;(try dsimp only))
       |((with_reducible show AI _ _ (DK (GU "sorted") [AR _]) _ _ _);refine jY (l:=l) (n:=na) (d:=at_) ?hh16 F16 N16 (N16 _ (.head _)).1 (F16.keep _ _ hat) hnd2 (by exact(Nl λhn1=>fk [_] (.e V0 (.k 3) (.e (.s (.k 4)) V0 K0)) rfl hlz hn1)) ?sk16)
       |((fail_if_success (with_reducible show AI _ _ (DK (GU "sorted") _) _ _ _));(fail_if_success (with_reducible show AI _ _ (DK (GU "dict.items") _) _ _ _));walk_at "go"))
      (try any_goals(exact AW))
      (try any_goals(exact DD))
      (try any_goals(exact L'))
      case hh16=>exact hh
      case sk16 =>
       with_reducible refine let_mvar%?zq18:=(λB tls outS cB h17 tk17=>?_:Be _);SJ DM (kG:ES _ (type_of%?zq18)) (?zq18 _ _ _ _ _ _);intro a1 a2 a3 a4 a5 a6 F17 N17
       have hy_base2:∃base2,(B,listOf outS.toArray cB)::(tls++((vw,({ cls:=.type "dict_items",data:=.fields #[.ref at_] }:CY))::(tl++base)))=base2:=⟨_,rfl⟩
       revert hy_base2;refine XX ?_;with_reducible refine let_mvar%?zq12:=(λbase2=>?_:Fa _);HZ DM (UA:ES _ (type_of%?zq12)) (?zq12 _);intro hb2
       have hDb2:∀r∈base2,Da≠r.1:=by
        intro r hr;rw[← hb2] at hr;rcases AP.mp hr with rfl|hr
        ·exact AO (a5 (Da,listOf itsA nA) (.tail _ (.head _)))
        ·rcases AT.mp hr with hr|hr
         ·exact AO (a4 (Da,listOf itsA nA) (.tail _ (.head _)) r hr)
         ·rcases AP.mp hr with rfl|hr
          ·exact AO (l16 (Da,listOf itsA nA) (.head _))
          ·rcases AT.mp hr with hr|hr
           ·exact BG (ht1 r hr).1
           ·exact ht2 r hr
       have N18:AY g L' h17 ((Da,listOf itsA nA)::([]++base2)):=AY.sub N17 (by
        rw[← hb2]
        exact Fc (by walk_at "l_in") (show ∀q∈_++_,_ from by walk_at "l_sub"))
       have hsubB:∀r∈tls++((vw,({ cls:=.type "dict_items",data:=.fields #[.ref at_] }:CY))::(Da,listOf itsA nA)::(tl++base)),r∈(Da,listOf itsA nA)::base2:=by
        rw[← hb2];walk_at "l_sub"
       have notDa:∀{v:AC}{q:Pr}{ll:AE (AH×CY)},GP ((Da,listOf itsA nA)::ll) v q→GP ll v q:=λ⟨a',t1,t2,e,hm⟩=>by
        rcases AP.mp hm with z|z
        ·exact absurd (BW (λp:AH×CY=>p.2.cls) z) (by simp)
        ·exact⟨a',t1,t2,e,z⟩
       have houtP:All2 (GP base2) outS (FJ JZ (l.map λp=>(p.1.1,p.2.1))):=a6.mono λ_ _ z=>notDa (z.mono hsubB)
       have hAP:All2 (GP base2) itsA.toList (FJ JZ (dd.1.map LD)):=hA.mono λ_ _ z=>z.mono (by
        rw[← hb2]
        walk_at "l_sub")
       refine RM (its:=outS.toArray) (ax:=B) (os:=os) (L:=L') (h₀:=g) (λrem m own=>∃q1 q2 itsB nB tlB u1 u2 u3 u4 u5,FJ JZ (l.map λp=>(p.1.1,p.2.1))=q1++q2∧All2 (GP base2) rem q2∧m=(m5 (AA "k") (AA "v") (AA "attr_qname") (AA "attr_name") (AA "uri") (λy=>if y=AA "attr_list" then AK (AR Da) else if y=AA "parsed_qnames" then AK (AR Dp) else if y=AA "qattrs" then AK DD else if y=AA "resolved_names" then AK (AR rn) else if y=AA "qnames" then AK (AR qs) else if y=AA "qname_text" then AK (DD) else if y=AA "new_namespaces" then AK (AR dl) else if y=AA "attrs" then AK (AR at_) else if y=AA "tag" then AK (EW tag tt) else BN) u1 u2 u3 u4 u5)∧own=(Da,listOf itsB nB)::(tlB++base2) ∧
        All2 (GP (tlB++base2)) itsB.toList (FJ JZ (dd.1.map LD)++q1.map (WN dd.2))∧(∀q∈tlB,q.1≠Da∧∀r∈base2,q.1≠r.1)) (wZ (AA "k") (AA "v")) ?hh17 ?hsrc ?hown ?hasg ?step ?done ⟨[],_,itsA,nA,[],BN,BN,BN,BN,BN,rfl,by simpa using houtP,rfl,rfl,by simpa using hAP,λ_ z=>nomatch z⟩ F17 N18 o15 b15
       case hh17=>exact hh
       case hsrc =>
        rintro rem m own ⟨q1,q2,itsB,nB,tlB,u1,u2,u3,u4,u5,_,_,_,rfl,_⟩;exact .inr ⟨_,.tail _ (Mr _ (by rw[← hb2];exact .head _)),rfl,_,rfl⟩
       case hown =>
        intro I i v s1 Q' E' hit hv hq';obtain⟨j,hj⟩:=PW.mp hv
        have hlt:j<(FJ JZ (l.map λp=>(p.1.1,p.2.1))).length:=by
         rw[← houtP.length];rcases JC j outS.length with z|z
         ·exact z
         ·rw[EM (by simpa using z)] at hj;cases hj
        obtain⟨v',e,a',_,_,e2,_⟩:=houtP.get (BL hlt)
        have:v=v':=by
         have hj':outS[j]?=AK v:=by simpa using hj
         rw[hj'] at e;cases e;rfl
        rw[this,e2];exact QG hit hq'
       case hasg =>
        rintro s1 v rem m own news Q' E' ⟨q1,q2,itsB,nB,tlB,u1,u2,u3,u4,u5,_,h2,_,rfl,_⟩ hsub F19 N19 hk
        cases h2 with
        |cons z _=>exact xN hh (z.mono λr hr=>.tail _ (Mr _ hr)) hsub F19 N19 hk rfl rfl rfl
       case step =>
        with_reducible refine let_mvar%?zq19:=(λs1 v rem m m' own I oI=>?_:Bf _);SK JS (kI:ES _ (type_of%?zq19)) (?zq19 _ _ _ _ _ _ _ _);intro hJ9 hB9 F19 N19 off19 o19 b19
        refine HK ?_;with_reducible refine let_mvar%?zq37:=(λQ8 E8=>?_:OV _);EV DM (IP:ES _ (type_of%?zq37)) (?zq37 _ _);intro hq8 he8
        revert hJ9;refine exi7 ?_;with_reducible refine let_mvar%?zq20:=(λq1 q2 itsB nB tlB u1 u2=>?_:An _);RC DM (gB:ES _ (type_of%?zq20)) (?zq20 _ _ _ _ _ _ _);refine fV ?_;with_reducible refine let_mvar%?zq21:=(λu3 u4 u5=>?_:PV _);FL DM (JN:ES _ (type_of%?zq21)) (?zq21 _ _ _);rintro⟨e1,h2,rfl,rfl,hB,htB⟩
        revert hB9;refine fV ?_;with_reducible refine let_mvar%?zq22:=(λq t1 t2=>?_:PV _);FL DM (JN:ES _ (type_of%?zq22)) (?zq22 _ _ _);rintro⟨hz9,rfl⟩;revert hz9;refine XX ?_;with_reducible refine let_mvar%?zq23:=(λa=>?_:Fa _);HZ DM (UA:ES _ (type_of%?zq23)) (?zq23 _);rintro⟨rfl,hm⟩
        cases h2 with
        |@cons _ q' _ q2' z h2' =>
         revert q' q2';show ∀(q':Pr)(q2':AE Pr),_;with_reducible refine let_mvar%?zq24:=(λq' q2'=>?_:OV _);EV DM (IP:ES _ (type_of%?zq24)) (?zq24 _ _);intro z h2' e1
         revert z;refine fV ?_;with_reducible refine let_mvar%?zq25:=(λa' w1 w2=>?_:PV _);FL DM (JN:ES _ (type_of%?zq25)) (?zq25 _ _ _);rintro⟨ea,hma⟩
         cases ea
         have hqq:q=q':=by
          exact Dx (N19 (a,_) (.tail _ hm)).1 (N19 (a,_) (.tail _ (.tail _ (Mr _ hma)))).1
         subst hqq
         have hqk:q.1∈tag::l.map (·.1.1):=by
          have:q∈l.map λp=>(p.1.1,p.2.1):=(DU JZ _).mem_iff.mp (by rw[e1];walk_at "l_in")
          obtain⟨p',hp',rfl⟩:=CO.mp this
          exact .tail _ (BV (f:=λx:(AX×DW)×(AX×DW)=>x.1.1) hp')
         have hy_pp:∃pp,dd.2.lookup q.1=AK pp:=by
          have h3:=(KE lower nps (FJ GH (tag::l.map (·.1.1))) [] [] (λn hn=>(hng n ((DU _ _).mem_iff.mp hn)).2)).1;rw[hlv] at h3
          exact lookup_mem (by rw[h3];exact(DU GH _).mem_iff.mpr hqk)
         revert hy_pp;refine XX ?_;with_reducible refine let_mvar%?zq26:=(λpp=>?_:Fa _);HZ DM (UA:ES _ (type_of%?zq26)) (?zq26 _);intro hpp
         have hy_ta:=ON.find hkv hpp
         revert hy_ta;refine uD ?_;with_reducible refine let_mvar%?zq28:=(λta y1 y2 y3=>?_:ZE _);IB DM (OM:ES _ (type_of%?zq28)) (?zq28 _ _ _ _);rintro⟨hval,htup⟩
         have hpu:pp.2.2.length≤200:=(hdps _ _ hpp).1
         have hbb:∀r∈base,r∈(I,oI)::(Da,listOf itsB nB)::(tlB++base2):=λr hr=>.tail _ (.tail _ (Mr _ (by rw[← hb2];walk_at "l_in")))
         have hDpb:(Dp,oD)∈base:=by rw[← hbase];walk_at "l_in"
         have htab:(ta,DO #[.str pp.1 y1,.str pp.2.1 y2,.str pp.2.2 y3])∈base:=by rw[← hbase];walk_at "l_in"
         repeat'(first
          |((with_reducible show AI _ _ (BZ _ _ (AR Dp) (EW _ _)) _ _ _);refine hZ (kvs:=kvs) (MF.mpr ⟨oD,(N19 _ (hbb _ hDpb)).1,hdD⟩) hval ?_;(try dsimp only))
          |((with_reducible show AI _ _ (assign (XJ _ _ _) _ (AR ta)) _ _ _);refine MV hh F19 N19 ⟨_,(N19 _ (hbb _ htab)).1,rfl,_,rfl⟩ ?_ rfl rfl rfl rfl;clear F19 N19;with_reducible refine let_mvar%?zq30:=(λh20 tk20=>?_:OV _);EV DM (IP:ES _ (type_of%?zq30)) (?zq30 _ _);intro F20 N20;(try dsimp only))
          |((with_reducible show AI _ _ (NP _) _ _ _);(rename Fr ..=>F9);(rename AY _ _ _ _=>N9);refine JP F9 N9 ?_ (by rw[BI];exact CP rfl);clear F9 N9;walk_at "eps2";rename_i D21 h21;intro F21 N21 hlt20;(try dsimp only))
          |((fail_if_success (with_reducible show AI _ _ (DK (GU "list.append") _) _ _ _));walk_at "go"))
         (try any_goals(exact AW))
         (try any_goals(exact DD))
         (try any_goals(exact L'))
         all_goals
          rename_i hqq
          have hIDa:I≠Da:=BG (off19 (Da,listOf itsB nB) (.head _))
          have hDaR:∀r∈tlB++base2,r.1≠Da:=λr hr=>by
           rcases AT.mp hr with z|z
           ·exact(htB r z).1
           ·exact BG (hDb2 r z)
          have hszB:itsB.size=(FJ JZ (dd.1.map LD)).length+q1.length:=by
           have:=hB.length;simp only[GV,BD,AN] at this;exact this
          have hq1l:q1.length≤3:=by
           have h5:=BW EG e1;have h6:=(DU JZ (l.map λp=>(p.1.1,p.2.1))).length_eq;simp at h5 h6
           exact(Nl λhn1=>fk [_,_,_,_] (.e V0 (.k 3) (.e (.a V1 (.s V2)) V3 (.e V3 V0 (.e (.s (.k 3)) V1 K0)))) rfl hlz (Es h5) (El h6) hn1)
          have hsl:(FJ JZ (dd.1.map LD)).length≤4:=by
           rw[(DU JZ (dd.1.map LD)).length_eq,AN];exact hddl
          refine KP F21 N21 (.tail (AJ (hlt20 (Da,listOf itsB nB) (.tail _ (.head _)))) (.tail hIDa (.head hDaR))) ?_ (by rw[hszB,BI];exact(Nl λhn1=>fk [_,_] (.e V0 (.k 3) (.e V1 (.k 4) (.e (.s (.k 16777216)) (.a V1 V0) K0))) rfl hq1l hsl hn1))
          walk_at "eps";rename_i h22;intro F22 N22
          repeat'((fail_if_success (with_reducible show Q8 _ _));walk_at "go")
         ·have hatt:WN dd.2 q=(pp.1,q.2):=by unfold WN;rw[hpp];exact BW (·,q.2) (CA (VA hqq))
          refine hq8 _ _ ?_
          (try dsimp only)
          refine⟨_,(Da,listOf (itsB.push (.ref D21)) (nB+1))::(((D21,DO #[.str pp.1 y1,.str q.2 t2])::tlB)++base2),⟨q1++[q],q2',itsB.push (.ref D21),nB+1,(D21,DO #[.str pp.1 y1,.str q.2 t2])::tlB,_,_,_,_,_,by rw[e1,BX];rfl,h2',sK,rfl,?_,?_⟩,F22,AY.sub N22 ?_,?_,o19,b19⟩
          ·rw[MR,BF,← BX]
           refine(hB.mono λ_ _ z=>z.mono λr hr=>.tail _ hr).snoc ?_;rw[hatt];exact⟨D21,y1,t2,rfl,.head _⟩
          ·intro r hr
           rcases AP.mp hr with rfl|hr
           ·exact⟨AJ (hlt20 (Da,listOf itsB nB) (.tail _ (.head _))),λr' hr'=>AJ (hlt20 r' (.tail _ (.tail _ (Mr _ hr'))))⟩
           ·exact htB r hr
          ·dsimp only[DQ]
           walk_at "l_sub"
          ·intro r hr
           revert r hr
           exact Fc (off19 (Da,listOf itsB nB) (.head _)) (Fc (AJ (hlt20 (I,oI) (.head _))) (λr hr=>off19 r (.tail _ hr)))
         ·have hatt:WN dd.2 q=(pp.2.1,q.2):=by unfold WN;rw[hpp];exact BW (·,q.2) (DJ (RK hqq))
          refine hq8 _ _ ?_
          (try dsimp only)
          refine⟨_,(Da,listOf (itsB.push (.ref D21)) (nB+1))::(((D21,DO #[.str pp.2.1 y2,.str q.2 t2])::tlB)++base2),⟨q1++[q],q2',itsB.push (.ref D21),nB+1,(D21,DO #[.str pp.2.1 y2,.str q.2 t2])::tlB,_,_,_,_,_,by rw[e1,BX];rfl,h2',sK,rfl,?_,?_⟩,F22,AY.sub N22 ?_,?_,o19,b19⟩
          ·rw[MR,BF,← BX]
           refine(hB.mono λ_ _ z=>z.mono λr hr=>.tail _ hr).snoc ?_;rw[hatt];exact⟨D21,y2,t2,rfl,.head _⟩
          ·intro r hr
           rcases AP.mp hr with rfl|hr
           ·exact⟨AJ (hlt20 (Da,listOf itsB nB) (.tail _ (.head _))),λr' hr'=>AJ (hlt20 r' (.tail _ (.tail _ (Mr _ hr'))))⟩
           ·exact htB r hr
          ·dsimp only[DQ]
           walk_at "l_sub"
          ·intro r hr
           revert r hr
           exact Fc (off19 (Da,listOf itsB nB) (.head _)) (Fc (AJ (hlt20 (I,oI) (.head _))) (λr hr=>off19 r (.tail _ hr)))
       case done =>
        rintro s1 m own ⟨q1,q2,itsB,nB,tlB,u1,u2,u3,u4,u5,e1,h2,rfl,rfl,hB,htB⟩ F19 N19 o19 b19;cases h2;rw[CQ] at e1;dsimp only
        repeat'((fail_if_success (with_reducible show GI=_∧_));walk_at "go")
        have hb3:base2=((B,listOf outS.toArray cB)::(tls++((vw,({ cls:=.type "dict_items",data:=.fields #[.ref at_] }:CY))::tl)))++base:=by rw[← hb2];simp
        refine⟨rfl,itsB,nB,tlB++((B,listOf outS.toArray cB)::(tls++((vw,({ cls:=.type "dict_items",data:=.fields #[.ref at_] }:CY))::tl))),u1,u2,u3,u4,u5,?_,?_,F19,?_,o19,b19⟩
        ·rw[BX,← hb3]
         unfold IX;rw[e1];exact hB
        ·exact Fp (λr hr=>⟨(htB r hr).1,λr' hr'=>(htB r hr).2 r' (by rw[hb3];exact Mr _ hr')⟩) (Fc ⟨AJ (a5 (Da,listOf itsA nA) (.tail _ (.head _))),λr' hr'=>AJ (a5 r' (.tail _ (.tail _ (Mr _ hr'))))⟩ (Fp (λr hr=>⟨AJ (a4 (Da,listOf itsA nA) (.tail _ (.head _)) r hr),λr' hr'=>AJ (a4 r' (.tail _ (.tail _ (Mr _ hr'))) r hr)⟩) (Fc ⟨AJ (l16 (Da,listOf itsA nA) (.head _)),λr' hr'=>AJ (l16 r' (.tail _ (Mr _ hr')))⟩ ht1)))
        ·rw[BX,← hb3];exact N19
     ·have hl0:l=[]:=by
       cases l with
       |nil=>rfl
       |cons _ _=>exact absurd rfl hq
      refine⟨rfl,itsA,nA,tl,BN,BN,BN,BN,BN,?_,ht1,F15,N15,o15,b15⟩;rw[hl0];unfold IX;simpa[FJ] using hA
    refine exs8 ?_;with_reducible refine let_mvar%?zq39:=(λs16 itsB nB tlB u1 u2 u3=>?_:An _);RC JS (gB:ES _ (type_of%?zq39)) (?zq39 _ _ _ _ _ _ _);with_reducible refine let_mvar%?zq40:=(λu4 u5=>?_:OV _);EV DM (IP:ES _ (type_of%?zq40)) (?zq40 _ _);rintro⟨hB,htB,F16,N16,o16,b16⟩
    clear F15 N15 ht1 hA
    (try dsimp only)
    have hW7:∀r∈WQ rw x dx hsh tkn wr da de ns pm pr rs rd ep dl oM itsd nd++[(out,listOf (AF ol).toArray n2),(wr,DZ out),(ns,listOf (nlv.map λp=>AR p.1).toArray nns),(pr,listOf (pre++[BY pv]).toArray npr)],r.2.cls≠.type "tuple":=by
     repeat'(first|with_reducible exact BA _|with_reducible refine Fp ?_ ?_|with_reducible refine Fc ?_ ?_|exact(by decide:(.ref 143:AC)≠.type "tuple")|exact hoMc hM2|exact(by decide:(.type "dict":AC)≠.type "tuple")|exact(by decide:(.type "list":AC)≠.type "tuple")|simp)
    have hoff:=yB (d:=(Da,listOf itsB nB)) hbase ht2 htB hfr htmp;have N17:=Cd (c:=(L'+1,o0)) hbase (by first|k_mem|simp) N16
    have hBr:=hB.mono λ_ _ z=>qU (W:=WQ rw x dx hsh tkn wr da de ns pm pr rs rd ep dl oM itsd nd++[(out,listOf (AF ol).toArray n2),(wr,DZ out),(ns,listOf (nlv.map λp=>AR p.1).toArray nns),(pr,listOf (pre++[BY pv]).toArray npr)]) hW7 (by rw[← hbase,← BX (WQ rw x dx hsh tkn wr da de ns pm pr rs rd ep dl oM itsd nd)] at z;exact z)
    have hal:=lO (l:=l.map λp=>(p.1.1,p.2.1)) hddq (λq hq=>⟨(hNe q hq).1,(hNe q hq).2.1,(hNe q hq).2.2.1⟩) (by
     intro q hq;obtain⟨p',hp',rfl⟩:=CO.mp hq
     exact⟨(hvl p' hp').1,(hvl p' hp').2,(MZ (hng _ (.tail _ (BV (f:=λx:(AX×DW)×(AX×DW)=>x.1.1) hp'))).1).2.1⟩) hdps
    have hall:(IX dd.1 dd.2 (l.map λp=>(p.1.1,p.2.1))).length≤50:=by rw[bP,AN];exact(Nl λhn1=>fk [_,_] (.e V0 (.k 3) (.e V1 (.k 4) (.e (.s (.k 50)) (.a V1 V0) K0))) rfl hlz hddl hn1)
    have hsub0:∀r∈tlB++((Dp,oD)::(tups++(prs++((D1,listOf (AF outn).toArray c1)::(nl++(zp++[(L'+1+1,oc),(qm,IK (.ref 83) (.ref x)),(rn,orn),(qs,oS),(L'+1,o0)])))))),r∈(Da,listOf itsB nB)::(tlB++((Dp,oD)::(tups++(prs++((D1,listOf (AF outn).toArray c1)::(nl++(zp++[(L'+1+1,oc),(qm,IK (.ref 83) (.ref x)),(rn,orn),(qs,oS),(L'+1,o0)]))))))):=λr hr=>.tail _ hr;have hin1:(Da,listOf itsB nB)∈(Da,listOf itsB nB)::(tlB++((Dp,oD)::(tups++(prs++((D1,listOf (AF outn).toArray c1)::(nl++(zp++[(L'+1+1,oc),(qm,IK (.ref 83) (.ref x)),(rn,orn),(qs,oS),(L'+1,o0)]))))))):=.head _
    have hin2:(Dp,oD)∈(Da,listOf itsB nB)::(tlB++((Dp,oD)::(tups++(prs++((D1,listOf (AF outn).toArray c1)::(nl++(zp++[(L'+1+1,oc),(qm,IK (.ref 83) (.ref x)),(rn,orn),(qs,oS),(L'+1,o0)]))))))):=.tail _ (Mr _ (.head _))
    have hin3:∀r∈tups,r∈(Da,listOf itsB nB)::(tlB++((Dp,oD)::(tups++(prs++((D1,listOf (AF outn).toArray c1)::(nl++(zp++[(L'+1+1,oc),(qm,IK (.ref 83) (.ref x)),(rn,orn),(qs,oS),(L'+1,o0)]))))))):=λr hr=>.tail _ (Mr _ (.tail _ (Ml _ hr)))
    have hin4:∀r∈prs++zp,r∈(Da,listOf itsB nB)::(tlB++((Dp,oD)::(tups++(prs++((D1,listOf (AF outn).toArray c1)::(nl++(zp++[(L'+1+1,oc),(qm,IK (.ref 83) (.ref x)),(rn,orn),(qs,oS),(L'+1,o0)]))))))):=λr hr=>by
     rcases AT.mp hr with z|z
     ·exact .tail _ (Mr _ (.tail _ (Mr _ (Ml _ z))))
     ·exact .tail _ (Mr _ (.tail _ (Mr _ (Mr _ (.tail _ (Mr _ (Ml _ z)))))))
    have hy_rest:∃rest,(Da,listOf itsB nB)::(tlB++((Dp,oD)::(tups++(prs++((D1,listOf (AF outn).toArray c1)::(nl++(zp++[(L'+1+1,oc),(qm,IK (.ref 83) (.ref x)),(rn,orn),(qs,oS),(L'+1,o0)])))))))=rest:=⟨_,rfl⟩
    revert hy_rest;refine XX ?_;with_reducible refine let_mvar%?zq13:=(λrest=>?_:Fa _);HZ DM (UA:ES _ (type_of%?zq13)) (?zq13 _);intro hrest9;rw[hrest9] at N17 hoff hsub0 hin1 hin2 hin3 hin4
    have hBr:=hBr.mono λ_ _ z=>z.mono hsub0;clear N16 hW7 ht2 htB hfr htmp hB hsub0 hdlb hprb;simp only[DQ,DB] at N17;have e_x:∀r∈rest,r.1≠x:=λr hr=>(hoff r hr).1;have e_dx:∀r∈rest,r.1≠dx:=λr hr=>(hoff r hr).2.1;have e_dl:∀r∈rest,r.1≠dl:=λr hr=>(hoff r hr).2.2.1;have e_out:∀r∈rest,r.1≠out:=λr hr=>(hoff r hr).2.2.2.1;have e_ns:∀r∈rest,r.1≠ns:=λr hr=>(hoff r hr).2.2.2.2.2.1;have e_pr:∀r∈rest,r.1≠pr:=λr hr=>(hoff r hr).2.2.2.2.2.2.1
    have c_dx:L'+1≠dx:=AJ (AZ (low (dx,_) (Ml _ (.tail _ (.head _)))) (CM _))
    have c_out:L'+1≠out:=AJ (AZ (low (out,_) (Mr _ (Ml _ (.head _)))) (CM _))
    have c_ns:L'+1≠ns:=AJ (AZ (low (ns,_) (Mr _ (Ml _ (.tail _ (.tail _ (.head _)))))) (CM _))
    have c_pr:L'+1≠pr:=AJ (AZ (low (pr,_) (Mr _ (Ml _ (.tail _ (.tail _ (.tail _ (.head _))))))) (CM _))
    repeat'(first
     |((with_reducible show AI _ _ (WW (AR at_) (AA "get") _) _ _ _);refine yJ (l:=l) (n:=na) (F16.keep _ _ hat) ?_;(try dsimp only))
     |((with_reducible show AI _ _ (DK (GU "dict.get") _) _ _ _);(try dsimp only);refine xP (hdat _ F16.keep) hsys ?_;(try dsimp only))
     |((fail_if_success (with_reducible show AI _ _ (EZ (cP.Expr _ _::_) _) _ _ _));walk_at "go"))
    (try any_goals(exact AW))
    (try any_goals(exact DD))
    (try any_goals(exact L'))
    rename_i h17 F17 N17;have hy_vsb:∃vsb,(JY (OF l) (AA "{http://www.w3.org/XML/1998/namespace}space")).getD DD=vsb:=⟨_,rfl⟩
    revert hy_vsb;refine XX ?_;with_reducible refine let_mvar%?zq14:=(λvsb=>?_:Fa _);HZ DM (UA:ES _ (type_of%?zq14)) (?zq14 _);intro hvs;rw[hvs] at F17
    refine' BR (OD (R:=λs'=>∃n5,Fr g L' s'.heap (λy=>if y=AA "space_behaviour" then AK vsb else m5 (AA "k") (AA "v") (AA "attr_qname") (AA "attr_name") (AA "uri") (λy=>if y=AA "attr_list" then AK (AR Da) else if y=AA "parsed_qnames" then AK (AR Dp) else if y=AA "qattrs" then AK DD else if y=AA "resolved_names" then AK (AR rn) else if y=AA "qnames" then AK (AR qs) else if y=AA "qname_text" then AK (DD) else if y=AA "new_namespaces" then AK (AR dl) else if y=AA "attrs" then AK (AR at_) else if y=AA "tag" then AK (EW tag tt) else BN) u1 u2 u3 u4 u5 y)∧AY g L' s'.heap ((x,CV 143 dx)::(dx,CK (wd hsh tkn (.bool BC) (.bool AU) .none .none (.bool rw) .none .none .none wr da de ns pm pr rs rd 0) ep)::(dl,listOf itsd nd)::(pm,oM)::(out,listOf (AF ol).toArray n2)::(wr,DZ out)::(ns,listOf (nlv.map λp=>AR p.1).toArray nns)::(pr,listOf (pre++[BY pv,BY (JI pv (l.map λp=>(p.1.1,p.2.1)))]).toArray n5)::(L'+1,o0)::rest)∧s'.os=os∧BP s'.gens) ?p1 ?p2)
    case p1 =>
     rcases oH nY l with⟨v1,v2⟩|hyz
     ·have hv0:vsb=.none:=by rw[← hvs];rw[v2];rfl
      subst hv0
      have hk0:JI pv (l.map λp=>(p.1.1,p.2.1))=pv:=by unfold JI;rw[v1]
      rw[hk0]
      repeat'(first
       |((with_reducible show AI _ _ (BZ _ _ (AR pr) (LM (-1) _)) _ _ _);refine PN (vs:=pre) (v:=.bool pv) ⟨_,GB (by k_asm) (by k_mem),rfl,_,rfl⟩ ?_;(try dsimp only))
       |((with_reducible show AI _ _ (DK (GU "list.append") [AR pr,_]) _ _ _);(rename Fr ..=>F9);(rename AY _ _ _ _=>N9);refine KP F9 N9 (by walk_at "l_upd") ?_ (by(rw[BI];simp;exact(Nl λhn1=>fk [_] (.e V0 (.k 1000) (.e (.s (.k 16777215)) V0 K0)) rfl hl3 hn1)));clear F9 N9;walk_at "eps";rename_i h9;intro F9 N9;(try k_sweep))
       |((fail_if_success (with_reducible show GI=_∧_));walk_at "go"))
      (try any_goals(exact AW))
      (try any_goals(exact DD))
      (try any_goals(exact L'))
      all_goals((rename Fr ..=>F9);(rename AY _ _ _ _=>N9))
      all_goals first
       |exact trivial
       |(simp only[KL,BX,DQ,DB] at N9;exact⟨_,F9,N9,o16,b16⟩)
     ·revert hyz;refine VP ?_;with_reducible refine let_mvar%?zq31:=(λb tb=>?_:OV _);EV DM (IP:ES _ (type_of%?zq31)) (?zq31 _ _);rintro⟨v1,v2,hyz⟩;revert hyz;refine XX ?_;with_reducible refine let_mvar%?zq32:=(λpz=>?_:Fa _);HZ DM (UA:ES _ (type_of%?zq32)) (?zq32 _);rintro⟨hpz,rfl⟩
      have hv0:vsb=.str pz.2.1 tb:=by rw[← hvs];rw[v2];rfl
      subst hv0;have hbz:pz.2.1.length≤100:=(hvl pz hpz).1
      repeat'(first
       |((with_reducible show AI _ _ (BZ _ _ (AR pr) (LM (-1) _)) _ _ _);refine PN (vs:=pre) (v:=.bool pv) ⟨_,GB (by k_asm) (by k_mem),rfl,_,rfl⟩ ?_;(try dsimp only))
       |((with_reducible show AI _ _ (DK (GU "list.append") [AR pr,_]) _ _ _);(rename Fr ..=>F9);(rename AY _ _ _ _=>N9);refine KP F9 N9 (by walk_at "l_upd") ?_ (by(rw[BI];simp;exact(Nl λhn1=>fk [_] (.e V0 (.k 1000) (.e (.s (.k 16777215)) V0 K0)) rfl hl3 hn1)));clear F9 N9;walk_at "eps";rename_i h9;intro F9 N9;(try k_sweep))
       |((fail_if_success (with_reducible show GI=_∧_));walk_at "go"))
      (try any_goals(exact AW))
      (try any_goals(exact DD))
      (try any_goals(exact L'))
      all_goals((rename Fr ..=>F9);(rename AY _ _ _ _=>N9);simp only[KL,BX,DQ,DB] at N9)
      (try any_goals exact trivial)
      ·have hq:((pz.2.1.length:EE) !=0)=BC:=by assumption
       have hk0:JI pv (l.map λp=>(p.1.1,p.2.1))=(pz.2.1==AA "preserve"):=by
        unfold JI;rw[v1];simp only;rw[CA (VA hq)];by_cases he:pz.2.1=AA "preserve"<;>simp[he]
       rw[hk0];exact⟨_,F9,N9,o16,b16⟩
      ·have hq:¬((pz.2.1.length:EE) !=0)=BC:=by assumption
       have hk0:JI pv (l.map λp=>(p.1.1,p.2.1))=pv:=by
        unfold JI;rw[v1];simp only;rw[DJ (RK hq)]
       rw[hk0];exact⟨_,F9,N9,o16,b16⟩
    refine exs1 ?_;with_reducible refine let_mvar%?zq41:=(λs18 n5=>?_:OV _);EV JS (IP:ES _ (type_of%?zq41)) (?zq41 _ _);rintro⟨F18,N18,o18,b18⟩
    clear F17 N17
    (try dsimp only)
    have hy_pp:∃pp,dd.2.lookup tag=AK pp:=by
     have h3:=(KE lower nps (FJ GH (tag::l.map (·.1.1))) [] [] (λn hn=>(hng n ((DU _ _).mem_iff.mp hn)).2)).1;rw[hlv] at h3
     exact lookup_mem (by rw[h3];exact(DU GH _).mem_iff.mpr (.head _))
    revert hy_pp;refine XX ?_;with_reducible refine let_mvar%?zq27:=(λpp=>?_:Fa _);HZ DM (UA:ES _ (type_of%?zq27)) (?zq27 _);intro hpp
    have hy_ta:=ON.find hkv hpp
    revert hy_ta;refine uD ?_;with_reducible refine let_mvar%?zq29:=(λta y1 y2 y3=>?_:ZE _);IB DM (OM:ES _ (type_of%?zq29)) (?zq29 _ _ _ _);rintro⟨hval,htup⟩
    have hpz:pp.1.length≤500:=(hdps _ _ hpp).2.2
    have hozz:(AF ol).toArray.size≤DA:=by rw[BI];simp[AF];exact(Nl λhn1=>fk [_] (.e V0 (.k 5000) (.e (.s (.k 16777216)) V0 K0)) rfl hol hn1)
    repeat'(first
     |((with_reducible show AI _ _ (BZ _ _ (AR Dp) (EW _ _)) _ _ _);(rename AY _ _ _ _=>N9);refine hZ (kvs:=kvs) (MF.mpr ⟨oD,(N9 _ (IU [_,_,_,_,_,_,_,_,_] hin2)).1,hdD⟩) hval ?_;(try dsimp only))
     |((with_reducible show AI _ _ (BZ _ _ (AR ta) (LM 0 _)) _ _ _);(rename AY _ _ _ _=>N9);refine OL ⟨_,(N9 _ (IU [_,_,_,_,_,_,_,_,_] (hin3 _ htup))).1,rfl,_,rfl⟩ ?_;(try dsimp only))
     |((with_reducible show AI _ _ (IH _ (AR wr) _ _ _) _ _ _);refine IC ?_;(try dsimp only))
     |((with_reducible show pN _ _∧_);refine⟨⟨_,_,GB (by k_asm) (by k_mem)⟩,?_⟩)
     |((with_reducible show AI _ _ (DK (AR wr) _) _ _ _);(rename Fr ..=>F9);(rename AY _ _ _ _=>N9);refine OG F9 N9 (by k_mem) (by walk_at "l_upd") hozz ?_;clear F9 N9;walk_at "eps";rename_i h9;intro F9 N9;(try dsimp only))
     |((fail_if_success (with_reducible show AI _ _ (EZ (SG _ _ _ _::_) _) _ _ _));walk_at "go"))
    (try any_goals(exact AW))
    (try any_goals(exact DD))
    (try any_goals(exact L'))
    rw[← GN] at N9
    have hstx:VI dd.2 tag=pp.1:=by unfold VI;rw[hpp]
    have hal0:itsB.size=(IX dd.1 dd.2 (l.map λp=>(p.1.1,p.2.1))).length:=by rw[← hBr.length];simp
    refine' BR (OD (R:=λs'=>∃ol2 n3,ol2.map (·.1)=ol.map (·.1)++([AA "<"++VI dd.2 tag]++(if IX dd.1 dd.2 (l.map λp=>(p.1.1,p.2.1))=[] then [] else [FW AW ((IX dd.1 dd.2 (l.map λp=>(p.1.1,p.2.1))).map KY)]))∧ol2.length≤6000∧Fr g L' s'.heap (λy=>if y=AA "write" then AK (AR wr) else if y=AA "space_behaviour" then AK vsb else m5 (AA "k") (AA "v") (AA "attr_qname") (AA "attr_name") (AA "uri") (λy=>if y=AA "attr_list" then AK (AR Da) else if y=AA "parsed_qnames" then AK (AR Dp) else if y=AA "qattrs" then AK DD else if y=AA "resolved_names" then AK (AR rn) else if y=AA "qnames" then AK (AR qs) else if y=AA "qname_text" then AK (DD) else if y=AA "new_namespaces" then AK (AR dl) else if y=AA "attrs" then AK (AR at_) else if y=AA "tag" then AK (EW tag tt) else BN) u1 u2 u3 u4 u5 y)∧AY g L' s'.heap ((x,CV 143 dx)::(dx,CK (wd hsh tkn (.bool BC) (.bool AU) .none .none (.bool rw) .none .none .none wr da de ns pm pr rs rd 0) ep)::(dl,listOf itsd nd)::(pm,oM)::(out,listOf (AF ol2).toArray n3)::(wr,DZ out)::(ns,listOf (nlv.map λp=>AR p.1).toArray nns)::(pr,listOf (pre++[BY pv,BY (JI pv (l.map λp=>(p.1.1,p.2.1)))]).toArray n5)::(L'+1,o0)::rest)∧s'.os=os∧BP s'.gens) ?q1 ?q2)
    case q1 =>
     have hozz:∀t,(AF (ol++[(AA "<"++pp.1,t)])).toArray.size≤DA:=λt=>by rw[BI];simp[AF];exact(Nl λhn1=>fk [_] (.e V0 (.k 5000) (.e (.s (.k 16777215)) V0 K0)) rfl hol hn1)
     repeat'(first
      |((with_reducible show AI _ _ (truthy (AR Da)) _ _ _);refine IJ ⟨_,(N9 _ (IU [_,_,_,_,_,_,_,_,_] hin1)).1,rfl,_,rfl⟩ (RE (by rw[hal0,BI];exact(Nl λhn1=>fk [_] (.e V0 (.k 50) (.e (.s (.k 16777216)) V0 K0)) rfl hall hn1))) ?_;(try dsimp only))
      |((with_reducible show(if _ then _ else _));refine HX ?_ ?_<;>intro hq)
      |((with_reducible show AI _ _ (IH _ (AR wr) _ _ _) _ _ _);refine IC ?_;(try dsimp only))
      |((with_reducible show pN _ _∧_);refine⟨⟨_,_,GB (by k_asm) (by k_mem)⟩,?_⟩)
      |((fail_if_success (with_reducible show GI=_∧_));(fail_if_success (with_reducible show AI _ _ (eval (xB _ _ _ _) _) _ _ _));walk_at "go"))
     (try any_goals(exact AW))
     (try any_goals(exact DD))
     (try any_goals(exact L'))
     ·refine Bq (prs:=rest) (its:=itsB) (al:=IX dd.1 dd.2 (l.map λp=>(p.1.1,p.2.1))) (ax:=Da) (os:=os) (cl:=[]) X T ?hh9 ?hrm9 ?r1 ?r2 ?hit F9 N9 o18 b18 ?hax ?hprs hBr hall hal ?fin9
      case hh9=>exact hh
      case hrm9=>show A.depth+1<890;exact(Nt λhn1=>fk [_] (.e (.s V0) (.k 800) (.e (.k 890) (.s V0) K0)) rfl zq hn1)
      case r1=>rfl
      case r2=>exact λ_=>rfl
      case hit=>exact λQ' hQ=>Cu F9 rfl hQ rfl rfl
      case hax=>exact⟨_,IU [_,_,_,_,_,_,_,_,_] hin1⟩
      case hprs=>exact λr hr=>IU [_,_,_,_,_,_,_,_,_] hr
      case fin9 =>
       with_reducible refine let_mvar%?zq33:=(λs21 D21 ts=>?_:PV _);FL JS (JN:ES _ (type_of%?zq33)) (?zq33 _ _ _);intro hts hD21 F21 N21 o21 b21
       clear F9 N9
       have hDo:D21≠out:=hD21 (out,_) (.tail _ (.tail _ (.tail _ (.tail _ (.head _)))))
       have hne:IX dd.1 dd.2 (l.map λp=>(p.1.1,p.2.1))≠[]:=λe=>by
        rw[e] at hal0;have:itsB=#[]:=kM hal0;rw[this] at hq
        exact absurd hq (by decide)
       have hjo:PZ AW (ts.map (·.1))=BC:=by rw[hts];exact Ck hall hal
       repeat'(first
        |((with_reducible show AI _ _ (DK (GU "str.join") _) _ _ _);refine join_list (ds:=ts) ⟨_,(N21 _ (.head _)).1,rfl,_,rfl⟩ hjo ?_;with_reducible refine let_mvar%?zq34:=(λt22 k22=>?_:OV _);EV DM (IP:ES _ (type_of%?zq34)) (?zq34 _ _);(try dsimp only))
        |((with_reducible show AI _ _ (IH _ (AR wr) _ _ _) _ _ _);refine IC ?_;(try dsimp only))
        |((with_reducible show pN _ _∧_);refine⟨⟨_,_,GB (by k_asm) (by k_mem)⟩,?_⟩)
        |((with_reducible show AI _ _ (DK (AR wr) _) _ _ _);(rename Fr ..=>F9);(rename AY _ _ _ _=>N9);refine OG F9 N9 (by k_mem) (by walk_at "l_upd") (hozz _) ?_;clear F9 N9;walk_at "eps";rename_i h9;intro F9 N9;(try dsimp only))
        |((fail_if_success (with_reducible show GI=_∧_));walk_at "go"))
       (try any_goals(exact AW))
       (try any_goals(exact DD))
       (try any_goals(exact L'))
       rw[← GN] at N9;refine⟨rfl,_,_,?_,?_,F9,AY.sub N9 (λ_ z=>.tail _ z),o21,b21⟩
       ·rw[CA hne,BF,BF,hstx,← hts,BX];rfl
       ·simp;exact(Nl λhn1=>fk [_] (.e V0 (.k 5000) (.e (.s (.k 5998)) V0 K0)) rfl hol hn1)
     ·have hne:IX dd.1 dd.2 (l.map λp=>(p.1.1,p.2.1))=[]:=by
       refine GQ ?_;rw[← hal0]
       have:itsB.isEmpty=BC:=by simpa using hq
       simpa[CE.isEmpty] using this
      refine⟨rfl,_,_,?_,?_,F9,N9,o18,b18⟩
      ·rw[DJ hne,BF,hstx];rfl
      ·simp;exact(Nl λhn1=>fk [_] (.e V0 (.k 5000) (.e (.s (.k 5999)) V0 K0)) rfl hol hn1)
    refine exs2 ?_;with_reducible refine let_mvar%?zq42:=(λs20 ol2 n3=>?_:PV _);FL JS (JN:ES _ (type_of%?zq42)) (?zq42 _ _ _);rintro⟨hol2,hol3,F20,N20,o20,b20⟩
    (try dsimp only)
    have hozz:(AF ol2).toArray.size≤DA:=by rw[BI];simp[AF];exact(Nl λhn1=>fk [_] (.e V0 (.k 6000) (.e (.s (.k 16777216)) V0 K0)) rfl hol3 hn1)
    repeat'(first
     |((with_reducible show AI _ _ (IH _ (AR wr) _ _ _) _ _ _);refine IC ?_;(try dsimp only))
     |((with_reducible show pN _ _∧_);refine⟨⟨_,_,GB (by k_asm) (by k_mem)⟩,?_⟩)
     |((with_reducible show AI _ _ (DK (AR wr) _) _ _ _);(rename Fr ..=>F9);(rename AY _ _ _ _=>N9);refine OG F9 N9 (by k_mem) (by walk_at "l_upd") hozz ?_;clear F9 N9;walk_at "eps";rename_i h9;intro F9 N9;(try dsimp only))
     |((with_reducible show AI _ _ (setAttr (AR x) _ _) _ _ _);k_dflt (refine' Ft ?k1 ?k2 ?k3 ?k4 ?k5 ?k6 ?k7 ?k8 ?k9 ?k10 ?k11 ?k12 ?k13 ?_;(case k1=>k_asm);(case k2=>k_asm);(case k3=>k_asm);(case k4=>k_inst);(case k5=>exact rfl);(case k6=>k_is);(case k7=>k_is);(case k8=>k_is);(case k9=>k_is);(case k10=>k_get);(case k11=>exact put_rs);(case k12=>walk_at "l_upd");(case k13=>exact CP rfl);k_whole;walk_at "eps";rename_i h9;intro F9 N9;(try k_sweep)))
     |((with_reducible show AI _ _ (DK (GU "list.append") [AR ns,_]) _ _ _);(rename Fr ..=>F9);(rename AY _ _ _ _=>N9);refine KP F9 N9 (by walk_at "l_upd") ?_ (by(rw[BI];simp;exact(Nl λhn1=>fk [_] (.e V0 (.k 1000) (.e (.s (.k 16777216)) V0 K0)) rfl hl2 hn1)));clear F9 N9;walk_at "eps";rename_i h9;intro F9 N9;(try k_sweep))
     |((fail_if_success (with_reducible show LeaveM _ _ _ _ _));walk_at "go"))
    (try any_goals(exact AW))
    (try any_goals(exact DD))
    (try any_goals(exact L'))
    rename_i l2 _ hlt2;rw[← GN,KL] at N9
    have N22:AY g L' h9 ([(x,CV 143 dx),(dx,CK (wd hsh tkn (.bool BC) (.bool AU) .none .none (.bool rw) .none .none .none wr da de ns pm pr BC rd 0) ep),(out,listOf (AF (ol2++[(AA ">",s20.toks)])).toArray (n3+1)),(wr,DZ out),(dl,listOf itsd nd),(ns,listOf ((nlv.map λp=>AR p.1)++[AR l2]).toArray (nns+1)),(l2,listOf #[] 0),(pr,listOf (pre++[BY pv,BY (JI pv (l.map λp=>(p.1.1,p.2.1)))]).toArray n5),(pm,oM)]++(prs++zp)):=AY.sub N9 (by
     exact Fp (by walk_at "l_mem") λq hq=>IU [_,_,_,_,_,_,_,_,_,_] (hin4 q hq))
    clear N9;subst hlv;obtain⟨f1,f2,f3,f4,f5,f6,f7,f8,f9,f10⟩:=hlt2;refine hq9 _ _ ?_;refine leaveM_ F9 N22 o20 b20 λH'=>hN _ _ _ _ _ _ _ _ _ _ _ _ hM2 hPq2 hks2 ?e1 hits hT' ?e2 ?e3 H'
    case e1 =>
     rw[BF,hol2];unfold KH;simp only[BX,EC,PA]
    case e2 =>
     intro r hr
     obtain⟨g1,g2,g3,g4,g5,g6,g7,g8⟩:=hoff r (hin4 r hr)
     refine⟨?_,AO (ZJ f10 r (hin4 r hr))⟩
     exact BM g1 (BM g2 (BM g4 (BM g5 (BM g3 (BM g6 (BM g7 (BM g8 GC)))))))
    case e3 =>
     exact BM (AJ f1) (BM (AJ f2) (BM (AJ f5) (BM (AJ f6) (BM (AJ f3) (BM (AJ f7) (BM (AJ f8) (BM (AJ f4) GC)))))))
end
theorem rs8:True∧True:=by
 (try walk1);(try w_top off)
 all_goals (first | trivial | exact ⟨trivial,trivial⟩)
section

local macro_rules | `(tactic| walk_at "l_mem")=>`(tactic| repeat'(first | exact BA _ | refine Fc (by k_mem) ?_ | (intro p hp;repeat'(first | exact hp | refine MM _ ?_))))
local macro_rules | `(tactic| walk_at "l_notin")=>`(tactic| repeat'(first | exact BA _ | assumption | refine Fc (by(simp only[EC,PA,AP,GK,OJ,not_or];(repeat'(first | refine TC ?_ ?_ | walk_at "l_ne" |exact not_false)))) ?_))
theorem ndm8_{a:AH}{l:AE AH}(ha:a∉l)(h:l.Nodup):(l++[a]).Nodup:=DP.mpr ⟨h,(DF.mpr ⟨GC,NJ⟩),λb hb c hc e=>ha (by rw[← BB.mp hc,← e];exact hb)⟩
noncomputable def YR(w:BU)(A:BQ)(s:AG)(g:CW)(os:CU)(p:BH)(zw:AE AX)(zt:ER→AM AC)(mg mb:AX→AM AC)(R:FE→AG→Prop)(x dx:AH)(hsh:CC→EE)(tkn:CC→DW)(wr da de ns pm pr:AH)(rs rd:CZ)(ep:CC)(out:AH)(n1 n2:CC)(ds ol:AE (AX×DW))(pre:AE AC)(pv:CZ)(at_:AH)(nde nns npr na:CC)(dlv nlv:AE (AH×CE AC))(lower nps:AE Pr)(tag:AX)(tt:DW)(l:AE ((AX×DW)×(AX×DW)))(tabs:AE (AH×CY))(rw:CZ)(oM0:CY)(pq0:AE (AX×(AX×DW)))(ks':AE AX):Prop :=
 ∀(X:(hd07.heap_1 w.params).In g)(T:VO p zw zt mg mb g)(H:Ok g os ([(x,CV 143 dx),(dx,CK (wd hsh tkn (.bool BC) (.bool AU) .none .none (.bool rw) .none .none .none wr da de ns pm pr rs rd 0) ep),(da,listOf (AF ds).toArray n1),(out,listOf (AF ol).toArray n2),(wr,DZ out),(de,listOf (dlv.map λp=>AR p.1).toArray nde),(ns,listOf (nlv.map λp=>AR p.1).toArray nns),(pr,listOf (pre++[BY pv]).toArray npr),(pm,oM0)]++tabs) s)(hh:A.handled=BN)(zq:A.depth<700)(C116:kP g 118 116)(hok:PZ AW (ds.map (·.1))=BC)(hdz:(AF ds).toArray.size≤DA)(hdl:(FW AW (ds.map (·.1))).length≤2000)(hoz:(AF ol).toArray.size≤DA)(hu:A.units<8000)(hT:PO 116 ⟨136,71,136,96⟩ (AA "C14NWriterTarget._start.<locals>.<lambda>") tabs) (hat:g.get? at_=AK (CK (IM w.params l) na)) (hlz:l.length≤3) (hsys:(at_==FB)=AU) (hnd:(tag::l.map (·.1.1)).Nodup) (hng:∀n∈tag::l.map (·.1.1),OS n=BC∧known nps (cutName n).1) (hvl:∀p∈l,p.2.1.length≤100∧(RD p.2.1).length≤1000) (hDl:∀p∈dlv,g.IsList p.1 p.2) (hDz:∀p∈dlv,(p.2.size:EE)<2 ^ 63) (hDp:All2 (KM g) (comes dlv) lower) (hDn:lower.length<2900) (hDs:∀q∈lower,q.1.length≤200∧q.2.length≤200) (hK:rw=AU→(∀p∈nlv,g.IsList p.1 p.2∧(p.2.size:EE)<2 ^ 63)∧All2 (KM g) (comes nlv) nps) (hNe:∀q∈nps,q.1.length≤100∧q.2.length≤200∧(RD q.1).length≤1000∧q.2≠AW) (hM:HY rw_dn0283_07.row.prog w oM0 pq0) (hMz:pq0.length≤40) (hps:(pm==FB)=AU) (hu0:∀n∈tag::l.map (·.1.1),(cutName n).1≠AW) (hP0:∀q∈lower,q.2≠AW) (hPq:PqAt rw nps pq0 pq0) (hNR:rw=BC→LC lower nps (FJ GH (tag::l.map (·.1.1))) [] (pq0.map (·.1)) ks') (hol:ol.length≤4000) (hl1:dlv.length≤1000) (hl2:nlv.length≤1000) (hl3:pre.length≤1000) (zd:∀p∈tabs,p.1∉([x,dx,da,out,wr,de,ns,pr,pm]:AE AH)) (nd:([x,dx,da,out,wr,de,ns,pr]:AE AH).Nodup) (hpm:pm∉([x,dx,da,out,wr,de,ns,pr]:AE AH)) (hN:∀(s':AG)(n2 n3 n4 n5 n6:CC)(nl dl:AH)(ol2:AE (AX×DW))(itsd:CE AC)(nd:CC)(prs zp:AE (AH×CY))oM pq,HY rw_dn0283_07.row.prog w oM pq→PqAt rw nps pq0 pq→(rw=BC→pq.map (·.1)=ks')→ol2.map (·.1)=ol.map (·.1)++(JE rs (JG BC (FW AW (ds.map (·.1))))++KH (declare lower nps (FJ GH (tag::l.map (·.1.1))) [] []).1 (declare lower nps (FJ GH (tag::l.map (·.1.1))) [] []).2 tag (l.map λp=>(p.1.1,p.2.1)))→All2 (GP prs) itsd.toList (declare lower nps (FJ GH (tag::l.map (·.1.1))) [] []).1→PO 116 ⟨136,71,136,96⟩ (AA "C14NWriterTarget._start.<locals>.<lambda>") zp→(∀r∈prs++zp,r.1∉([x,dx,da,out,wr,de,ns,pr,pm]:AE AH)∧r.1≠nl∧r.1≠dl)→nl∉([x,dx,da,out,wr,de,ns,pr,pm]:AE AH)→dl∉([x,dx,da,out,wr,de,ns,pr,pm]:AE AH)→nl≠dl→Ok g os ([(x,CV 143 dx),(dx,CK (wd hsh tkn (.bool BC) (.bool AU) .none .none (.bool rw) .none .none .none wr da de ns pm pr BC rd 0) ep),(da,listOf #[] n2),(out,listOf (AF ol2).toArray n3),(wr,DZ out),(de,listOf ((dlv++[(dl,itsd)]).map λ(p:AH×CE AC)=>AR p.1).toArray n6),(dl,listOf itsd nd),(ns,listOf ((nlv++[(nl,(#[]:CE AC))]).map λ(p:AH×CE AC)=>AR p.1).toArray n4),(nl,listOf #[] 0),(pr,listOf (pre++[BY pv,BY (JI pv (l.map λp=>(p.1.1,p.2.1)))]).toArray n5),(pm,oM)]++(prs++zp)) s'→R (.ok (.ret .none)) s'),DV (BE rw_dn0283_07.row.prog w) A (.call (.ref 113) ⟨[.ref x,.str tag tt,.ref at_],[]⟩) R s
theorem rH:∀{w A s g os p zw zt mg mb R x dx hsh tkn wr da de ns pm pr rs rd ep out n1 n2 ds ol pre pv at_ nde nns npr na dlv nlv lower nps tag tt l tabs rw oM0 pq0 ks'},YR w A s g os p zw zt mg mb R x dx hsh tkn wr da de ns pm pr rs rd ep out n1 n2 ds ol pre pv at_ nde nns npr na dlv nlv lower nps tag tt l tabs rw oM0 pq0 ks':=by
 refine @(BK (GM KF)<|@(BK DM<|@(BK DM<|@(BK DM<|@(BK DM<|@(BK DM<|let_mvar%?n:=(λw A s g os p zw zt mg mb R x dx hsh tkn wr da de ns pm pr rs rd ep out n1 n2 ds ol pre pv at_ nde nns npr na dlv nlv lower nps tag tt l tabs rw oM0 pq0 ks'=>?_:∀a b c d e f g h i j k l m n o p q r s t u v w x y z a1 b1 c1 d1 e1 f1 g1 h1 i1 j1 k1 l1 m1 n1 o1 p1 q1 r1 s1 t1 u1 v1,YR a b c d e f g h i j k l m n o p q r s t u v w x y z a1 b1 c1 d1 e1 f1 g1 h1 i1 j1 k1 l1 m1 n1 o1 p1 q1 r1 s1 t1 u1 v1);?n _ _ _ _ _ _ _ _ _ _ _ _ _ _ _ _ _ _ _ _ _ _ _ _ _ _ _ _ _ _ _ _ _ _ _ _ _ _ _ _ _ _ _ _ _ _ _ _))))))
 intro X T H hh zq C116 hok hdz hdl hoz hu hT hat hlz hsys hnd hng hvl hDl hDz hDp hDn hDs hK hNe hM hMz hps hu0 hP0 hPq hNR hol hl1 hl2 hl3 zd nd hpm hN;revert X;k_fill;intro X;refine' KQ (λy=>DY y [("attrs",.ref at_),("tag",.str tag tt),("self",.ref x)]) H X T ?k6 ?k7 (AZ zq (by decide)) ?k9 ?kB ?km ?kl ?_ ?c1 ?c2 ?c3 ?c4
 (case k6=>k_is)
 (case k7=>k_is)
 (case k9=>exact GO rfl)
 (case kB=>exact locs rfl)
 (case km=>exact rfl)
 (case kl=>exact EB _)
 (case c1=>exact rfl)
 (case c2=>exact rfl)
 (case c3=>exact rfl)
 (case c4=>decide)
 k_whole;with_reducible refine let_mvar%?zq1:=(λL' h1 k0=>?_:PV _);FL DM (JN:ES _ (type_of%?zq1)) (?zq1 _ _ _);intro hk0 F1 N1 l1;(try k_lt l1);(try dsimp only)
 refine HK ?_;walk_at "eps2";rename_i Q9 E9;intro hq9 he9;have ndf:([x,dx,da,out,wr]:AE AH).Nodup:=qN nd
 have n_x_pm:x≠pm:=BG (HD hpm (by k_mem))
 have n_dx_pm:dx≠pm:=BG (HD hpm (by k_mem))
 have n_da_pm:da≠pm:=BG (HD hpm (by k_mem))
 have n_out_pm:out≠pm:=BG (HD hpm (by k_mem))
 have n_wr_pm:wr≠pm:=BG (HD hpm (by k_mem))
 have n_de_pm:de≠pm:=BG (HD hpm (by k_mem))
 have n_ns_pm:ns≠pm:=BG (HD hpm (by k_mem))
 have n_pr_pm:pr≠pm:=BG (HD hpm (by k_mem))
 refine ndk8 nd ?_;intro n_x_dx n_x_da n_x_out n_x_wr n_x_de n_x_ns n_x_pr n_dx_da n_dx_out n_dx_wr n_dx_de n_dx_ns n_dx_pr n_da_out n_da_wr n_da_de n_da_ns n_da_pr n_out_wr n_out_de n_out_ns n_out_pr n_wr_de n_wr_ns n_wr_pr n_de_ns n_de_pr n_ns_pr;dsimp only[DQ,DB] at N1
 have tb5:∀p∈tabs,p.1∉[x,dx,da,out,wr]:=λp hp z=>zd p hp (Fh [de,ns,pr,pm] z)
 have tde:∀p∈tabs,p.1≠de:=λp hp=>HD (zd p hp) (by k_mem)
 refine' BR (OD (R:=λs'=>∃k,s'={ s with heap:=h1,toks:=k }) ?a1 ?a2)
 case a1 =>
  clear hN H
  repeat'(first
    |((with_reducible show GI=_∧_);exact⟨rfl,_,rfl⟩)
    |((with_reducible show Q9 _ _);refine hq9 _ _ ?_;(try dsimp only))
    |walk_at "go")
 refine exs1 ?_;with_reducible refine let_mvar%?zq4:=(λs98 k98=>?_:OV _);EV JS (IP:ES _ (type_of%?zq4)) (?zq4 _ _);rintro rfl
 (try dsimp only)
 repeat'((fail_if_success (with_reducible show AI _ _ (EZ (SG (TK _ "_data" _) _ _ _::_) _) _ _ _));walk_at "go")
 refine' BR (OD (R:=λs'=>∃n3 n4 ol2,ol2.map (·.1)=ol.map (·.1)++JE rs (JG BC (FW AW (ds.map (·.1))))∧Fr g L' s'.heap (λy=>DY y [(AA "attrs",AR at_),(AA "tag",EW tag tt),(AA "self",AR x)])∧AY g L' s'.heap ([(x,CV 143 dx),(dx,CK (wd hsh tkn (.bool BC) (.bool AU) .none .none (.bool rw) .none .none .none wr da de ns pm pr rs rd 0) ep),(da,listOf #[] n3),(out,listOf (AF ol2).toArray n4),(wr,DZ out),(de,listOf (dlv.map λp=>AR p.1).toArray nde),(ns,listOf (nlv.map λp=>AR p.1).toArray nns),(pr,listOf (pre++[BY pv]).toArray npr),(pm,oM0)]++tabs)∧s'.os=os∧BP s'.gens) ?c1 ?c2)
 case c1 =>
  by_cases hds:ds=[]
  ·subst hds
   repeat'(first
    |((with_reducible show AI _ _ (truthy (.ref da)) _ _ _);refine IJ ⟨_,GB (by k_asm) (by k_mem),rfl,_,rfl⟩ (RE hdz) ?_;(try dsimp only))
    |((with_reducible show GI=_∧_);(rename Fr ..=>F9);(rename AY _ _ _ _=>N9);first|exact⟨rfl,_,_,_,e5,F9,N9,o5,b5⟩|exact⟨rfl,_,_,_,by(rw[IL,CQ]),F9,N9,H.os,H.bare⟩)
    |((with_reducible show Q9 _ _);refine hq9 _ _ ?_;(try dsimp only))
    |walk_at "go")
  ·have hsz:(!(AF ds).toArray.isEmpty)=BC:=mO hds
   repeat'(first
    |((with_reducible show AI _ _ (truthy (.ref da)) _ _ _);refine IJ ⟨_,GB (by k_asm) (by k_mem),rfl,_,rfl⟩ (RE hdz) ?_;(try dsimp only))
    |((with_reducible show GI=_∧_);(rename Fr ..=>F9);(rename AY _ _ _ _=>N9);first|exact⟨rfl,_,_,_,e5,F9,N9,o5,b5⟩|exact⟨rfl,_,_,_,by(rw[IL,CQ]),F9,N9,H.os,H.bare⟩)
    |((with_reducible show AI _ _ (DK (AR 99) _) _ _ _);(rename Fr ..=>F9);(rename AY _ _ _ _=>N9);refine GD [(x,CV 143 dx),(dx,CK (wd hsh tkn (.bool BC) (.bool AU) .none .none (.bool rw) .none .none .none wr da de ns pm pr rs rd 0) ep),(da,listOf (AF ds).toArray n1),(out,listOf (AF ol).toArray n2),(wr,DZ out)] ([(de,listOf (dlv.map λp=>AR p.1).toArray nde),(ns,listOf (nlv.map λp=>AR p.1).toArray nns),(pr,listOf (pre++[BY pv]).toArray npr),(pm,oM0)]++tabs) F9 N9 H.os H.bare (by walk_at "l_mem") (by walk_at "l_mem") (by walk_at "l_notin") λg₂ H₂ K₂ r₂ back=>XZ (X.keeps K₂) (T.keeps K₂) H₂ hh (CJ (FG zq) (by decide)) ⟨_,r₂ (pr,_) (by k_mem),rfl,_,rfl⟩ hok hdz ndf hdl hoz λs5 n3 n4 ol2 e5 H5=>?_;obtain⟨F5,N5,o5,b5⟩:=back _ _ H5;clear back F9 N9 H₂ H5;(try clear g₂);revert s5 n3 n4 ol2;with_reducible refine let_mvar%?ns6S4x5:=(λs5 n3 n4 ol2=>?_:ZE _);IB JS (OM:ES _ (type_of%?ns6S4x5)) (?ns6S4x5 _ _ _ _);intro e5 F5 N5 o5 b5;(try dsimp only))
    |((with_reducible show Q9 _ _);refine hq9 _ _ ?_;(try dsimp only))
    |walk_at "go")
 refine uF ?_;with_reducible refine let_mvar%?zq3:=(λs6 n3 n4 ol2=>?_:ZE _);IB JS (OM:ES _ (type_of%?zq3)) (?zq3 _ _ _ _);rintro⟨e5,F6,N6,o6,b6⟩
 (try dsimp only)
 dsimp only[DQ,DB] at N6
 repeat'(first
    |((with_reducible show AI _ _ (DK (.builtin "list.append") [.ref de,_]) _ _ _);(rename Fr ..=>F9);(rename AY _ _ _ _=>N9);refine KP F9 N9 (by walk_at "l_upd") ?_ (by(rw[BI];simp;exact(Nl λhn1=>fk [_] (.e V0 (.k 1000) (.e (.s (.k 16777216)) V0 K0)) rfl hl1 hn1)));clear F9 N9;walk_at "eps";rename_i h9;intro F9 N9;(try k_sweep))
    |((fail_if_success (with_reducible show AI _ _ (DK (.ref 119) _) _ _ _));walk_at "go"))
 rename_i dl _ hlt _;obtain⟨f1,f2,f3,f4,f5,f6,f7,f8,f9,f10⟩:=hlt;replace f1:=AJ f1;replace f2:=AJ f2;replace f3:=AJ f3;replace f4:=AJ f4;replace f5:=AJ f5;replace f6:=AJ f6;replace f7:=AJ f7;replace f8:=AJ f8;replace f9:=AJ f9
 have ede:(AE.map (λp=>AR p.1) dlv).toArray.push (AR dl)=((dlv++[(dl,(#[]:CE AC))]).map λ(p:AH×CE AC)=>AR p.1).toArray:=by simp
 rw[ede] at N9
 have hol2:ol2.length≤5000:=by
  have h1:=BW EG e5
  have h2:=OQ rs (JG BC (FW AW (ds.map (·.1))))
  simp only[AN,BD] at h1
  exact(Nl λhn1=>fk [_,_,_] (.e V0 (.k 4000) (.e V1 K1 (.e V2 (.a V0 V1) (.e (.s (.k 5000)) V2 K0)))) rfl hol h2 (El h1) hn1)
 refine GD ([(x,CV 143 dx),(dx,CK (wd hsh tkn (.bool BC) (.bool AU) .none .none (.bool rw) .none .none .none wr da de ns pm pr rs rd 0) ep),(out,listOf (AF ol2).toArray n4),(wr,DZ out),(dl,listOf #[] 0),(ns,listOf (nlv.map λp=>AR p.1).toArray nns),(pr,listOf (pre++[BY pv]).toArray npr),(pm,oM0)]++tabs) [(da,listOf #[] n3),(de,listOf ((dlv++[(dl,(#[]:CE AC))]).map λ(p:AH×CE AC)=>AR p.1).toArray (nde+1))] F9 N9 o6 b6 ?m1 ?m2 ?m3 ?DK
 case m1=>walk_at "l_sub"
 case m2=>walk_at "l_sub"
 case m3=>exact Fc (gT (by walk_at "l_allne") (λr hr=>HD (zd r hr) (by k_mem))) (Fc (gT (by walk_at "l_allne") tde) (BA _))
 case DK =>
  walk_at "eps";rename_i g₂;intro H₂ K₂ r₂ back;refine oO (dlv:=dlv) (nlv:=nlv) (lower:=lower) (nps:=nps) (l:=l) (na:=na) (tabs:=tabs) (X.keeps K₂) (T.keeps K₂) H₂ hh ?rm ?cc ?uu hT (K₂ _ _ hat) hlz hsys hnd hng hvl ⟨_,r₂ (de,_) (.tail _ (.head _)),rfl,_,rfl⟩ (λq hq=>DX K₂ (hDl q hq)) hDz (hDp.mono λ_ _ z=>z.keeps K₂) hDn hDs (λzr=>⟨λq hq=>⟨DX K₂ ((hK zr).1 q hq).1,((hK zr).1 q hq).2⟩,(hK zr).2.mono λ_ _ z=>z.keeps K₂⟩) hNe hM hMz hps hu0 hP0 hPq hNR hol2 hl2 hl3 ?tb ?nn ?hN
  case rm=>show A.depth+1<800;exact(Nt λhn1=>fk [_] (.e (.s V0) (.k 700) (.e (.k 800) (.s V0) K0)) rfl zq hn1)
  case cc =>
   obtain⟨o,vs,file,tf,fl,tg,inF,text,tt',h1,h2⟩:=C116;exact⟨o,vs,file,tf,fl,tg,inF,text,tt',K₂ _ _ h1,h2⟩
  case uu=>show A.units+3<9000;exact(Nt λhn1=>fk [_] (.e (.s V0) (.k 8000) (.e (.k 9000) (.a V0 (.k 3)) K0)) rfl hu hn1)
  case tb=>exact λq hq=>BM (HD (zd q hq) (by k_mem)) (BM (HD (zd q hq) (by k_mem)) (BM (HD (zd q hq) (by k_mem)) (BM (HD (zd q hq) (by k_mem)) (BM (AO (ZJ f10 q hq)) (BM (HD (zd q hq) (by k_mem)) (BM (HD (zd q hq) (by k_mem)) (BM (HD (zd q hq) (by k_mem)) GC)))))))
  case nn=>exact ndm8_ (BM (BG n_x_pm) (BM (BG n_dx_pm) (BM (BG n_out_pm) (BM (BG n_wr_pm) (BM (BG f9) (BM (BG n_ns_pm) (BM (BG n_pr_pm) GC))))))) (ndm7 n_x_dx n_x_out n_x_wr (BG f1) n_x_ns n_x_pr n_dx_out n_dx_wr (BG f2) n_dx_ns n_dx_pr n_out_wr (BG f4) n_out_ns n_out_pr (BG f5) n_wr_ns n_wr_pr f7 f8 n_ns_pr)
  case hN =>
   with_reducible refine let_mvar%?zs1:=(λs7 n7 n8 n9 nl ol7 itsd=>?_:An _);RC JS (gB:ES _ (type_of%?zs1)) (?zs1 _ _ _ _ _ _ _);with_reducible refine let_mvar%?zs2:=(λndd prs zp oM pq=>?_:kQ _);LU DM (UR:ES _ (type_of%?zs2)) (?zs2 _ _ _ _ _);intro hM2 hPq2 hks2 e7 hits hT' hoff hnl H7
   have hod:∀r∈[(x,CV 143 dx),(dx,CK (wd hsh tkn (.bool BC) (.bool AU) .none .none (.bool rw) .none .none .none wr da de ns pm pr BC rd 0) ep),(out,listOf (AF ol7).toArray n7),(wr,DZ out),(dl,listOf itsd ndd),(ns,listOf ((nlv.map λp=>AR p.1)++[AR nl]).toArray n8),(nl,listOf #[] 0),(pr,listOf (pre++[BY pv,BY (JI pv (l.map λp=>(p.1.1,p.2.1)))]).toArray n9),(pm,oM)]++(prs++zp),r.1≠da∧r.1≠de:=λr hr=>⟨ZU H7 r₂ (show(r.1,r.2)∈_ from hr) (.head _),ZU H7 r₂ (show(r.1,r.2)∈_ from hr) (.tail _ (.head _))⟩;obtain⟨F8,N8,o8,b8⟩:=back _ _ H7;clear back F9 N9 H₂ H7
   (try dsimp only)
   repeat'((fail_if_success (with_reducible show LeaveM _ _ _ _ _));walk_at "go")
   (try any_goals(exact AW))
   (try any_goals(exact .none))
   (try any_goals(exact L'))
   have edl:((dlv++[(dl,(#[]:CE AC))]).map λ(p:AH×CE AC)=>AR p.1)=((dlv++[(dl,itsd)]).map λ(p:AH×CE AC)=>AR p.1):=by simp
   have enl:(nlv.map λp=>AR p.1)++[AR nl]=((nlv++[(nl,(#[]:CE AC))]).map λ(p:AH×CE AC)=>AR p.1):=by simp
   rw[edl,enl] at N8;refine hq9 _ _ ?_;refine leaveM_ F8 (AY.sub N8 ?sub) o8 b8 λH'=>hN _ n3 n7 n8 n9 (nde+1) nl dl ol7 itsd ndd prs zp oM pq hM2 hPq2 hks2 ?e hits hT' ?o1 ?o2 ?o3 ?o4 H'
   case sub=>walk_at "l_sub"
   case e=>rw[e7,e5,BX]
   case o1 =>
    intro r hr;obtain⟨z1,z2⟩:=hoff r hr
    obtain⟨z3,z4⟩:=hod r (Mr _ hr)
    exact⟨BM (HD z1 (by k_mem)) (BM (HD z1 (by k_mem)) (BM z3 (BM (HD z1 (by k_mem)) (BM (HD z1 (by k_mem)) (BM z4 (BM (HD z1 (by k_mem)) (BM (HD z1 (by k_mem)) (BM (HD z1 (by k_mem)) GC)))))))),z2,HD z1 (by k_mem)⟩
   case o2 =>
    obtain⟨z3,z4⟩:=hod (nl,_) (.tail _ (.tail _ (.tail _ (.tail _ (.tail _ (.tail _ (.head _)))))))
    exact BM (HD hnl (by k_mem)) (BM (HD hnl (by k_mem)) (BM z3 (BM (HD hnl (by k_mem)) (BM (HD hnl (by k_mem)) (BM z4 (BM (HD hnl (by k_mem)) (BM (HD hnl (by k_mem)) (BM (HD hnl (by k_mem)) GC))))))))
   case o3=>exact BM f1 (BM f2 (BM f3 (BM f4 (BM f5 (BM f6 (BM f7 (BM f8 (BM f9 GC))))))))
   case o4=>exact HD hnl (by k_mem)
end
theorem rs9:True∧True:=by
 (try walk1);(try w_top off)
 all_goals (first | trivial | exact ⟨trivial,trivial⟩)
section

noncomputable def aC(w:BU)(A:BQ)(s:AG)(g:CW)(os:CU)(p:BH)(zw:AE AX)(zt:ER→AM AC)(mg mb:AX→AM AC)(R:FE→AG→Prop)(x dx:AH)(hsh:CC→EE)(tkn:CC→DW)(wr da de ns pm pr:AH)(rs rd:CZ)(ep n1:CC)(ds:AE (AX×DW))(d:AX)(td:DW)(rw:CZ):Prop :=
 ∀(X:(hd07.heap_1 w.params).In g)(T:VO p zw zt mg mb g)(H:Ok g os [(x,CV 143 dx),(dx,CK (wd hsh tkn (.bool BC) (.bool AU) .none .none (.bool rw) .none .none .none wr da de ns pm pr rs rd 0) ep),(da,listOf (AF ds).toArray n1)] s)(hh:A.handled=BN)(zq:A.depth<800)(hdz:(AF ds).toArray.size≤DA)(nd:([x,dx,da]:AE AH).Nodup)(hN:∀s' n3,Ok g os [(x,CV 143 dx),(dx,CK (wd hsh tkn (.bool BC) (.bool AU) .none .none (.bool rw) .none .none .none wr da de ns pm pr rs rd 0) ep),(da,listOf (AF (ds++[(d,td)])).toArray n3)] s'→R (.ok (.ret .none)) s'),DV (BE rw_dn0283_07.row.prog w) A (.call (.ref 90) ⟨[.ref x,.str d td],[]⟩) R s
theorem tX:∀{a b c d e f g h i j k l m n o p q r s t u v w x y z a1 b1 c1},aC a b c d e f g h i j k l m n o p q r s t u v w x y z a1 b1 c1:=by
 refine @(BK (GM KF)<|@(BK DM<|@(BK DM<|@(RA DM<|let_mvar%?n:=(λw A s g os p zw zt mg mb R x dx hsh tkn wr da de ns pm pr rs rd ep n1 ds d td rw=>?_:∀a b c d e f g h i j k l m n o p q r s t u v w x y z a1 b1 c1,aC a b c d e f g h i j k l m n o p q r s t u v w x y z a1 b1 c1);?n _ _ _ _ _ _ _ _ _ _ _ _ _ _ _ _ _ _ _ _ _ _ _ _ _ _ _ _ _))))
 intro X T H hh zq hdz nd hN;revert X;k_fill;intro X;refine' KQ (λy=>DY y [("data",.str d td),("self",.ref x)]) H X T ?k6 ?k7 (AZ zq (by decide)) ?k9 ?kB ?km ?kl ?_ ?c1 ?c2 ?c3 ?c4
 (case k6=>k_is)
 (case k7=>k_is)
 (case k9=>exact GO rfl)
 (case kB=>exact locs rfl)
 (case km=>exact rfl)
 (case kl=>exact EB _)
 (case c1=>exact rfl)
 (case c2=>exact rfl)
 (case c3=>exact rfl)
 (case c4=>decide)
 k_whole;intro L' h1 k0 hk0 F1 N1 l1;(try k_lt l1);(try dsimp only)
 refine HK λQ9 E9 hq9 he9=>?_;simp only[DF,AP,GK,OJ,not_or,NJ,TS,jN] at nd;obtain⟨⟨n_x_dx,n_x_da⟩,n_dx_da⟩:=nd
 repeat'(first
    |((with_reducible show AI _ _ (DK (.builtin "list.append") [.ref da,_]) _ _ _);(rename Fr ..=>F9);(rename AY _ _ _ _=>N9);refine KP F9 N9 (by walk_at "l_upd") ?_ hdz;clear F9 N9;intro h9 F9 N9;(try k_sweep))
    |((with_reducible show LeaveM _ _ _ _ _);(rename Fr ..=>F9);(rename AY _ _ _ _=>N9);refine leaveM_ F9 N9 H.os H.bare λH'=>hN _ _ (by rw[GN];exact H'))
    |((with_reducible show Q9 _ _);refine hq9 _ _ ?_;(try dsimp only))
    |walk_at "go")
end
theorem rs10:True∧True:=by
 (try walk1);(try w_top off)
 all_goals (first | trivial | exact ⟨trivial,trivial⟩)
section

noncomputable def TG(w:BU)(A:BQ)(s:AG)(g:CW)(os:CU)(p:BH)(zw:AE AX)(zt:ER→AM AC)(mg mb:AX→AM AC)(R:FE→AG→Prop)(x dx:AH)(hsh:CC→EE)(tkn:CC→DW)(wr da de ns pm pr:AH)(rs rd:CZ)(ep:CC)(out:AH)(n1 n2:CC)(ds ol:AE (AX×DW))(pre:AE AC)(pv:CZ)(nl:AH)(its:CE AC)(n:CC)(npre:AE AC)(pf uri:AX)(tp tu:DW)(rw:CZ):Prop :=
 ∀(X:(hd07.heap_1 w.params).In g)(T:VO p zw zt mg mb g)(H:Ok g os [(x,CV 143 dx),(dx,CK (wd hsh tkn (.bool BC) (.bool AU) .none .none (.bool rw) .none .none .none wr da de ns pm pr rs rd 0) ep),(da,listOf (AF ds).toArray n1),(out,listOf (AF ol).toArray n2),(wr,DZ out),(nl,listOf its n)] s)(hh:A.handled=BN)(zq:A.depth<700)(hpr:g.IsList pr (pre++[BY pv]).toArray)(hok:PZ AW (ds.map (·.1))=BC)(hdz:(AF ds).toArray.size≤DA)(hdl:(FW AW (ds.map (·.1))).length≤2000)(hoz:(AF ol).toArray.size≤DA)(hns:g.IsList ns (npre++[AR nl]).toArray)(hiz:its.size≤DA)(nd:([x,dx,da,out,wr,nl]:AE AH).Nodup)(hN:∀s' n3 n4 ol2 tb,x<tb→dx<tb→da<tb→out<tb→wr<tb→nl<tb→ol2.map (·.1)=ol.map (·.1)++JE rs (JG BC (FW AW (ds.map (·.1))))→Ok g os [(tb,DO #[.str uri tu,.str pf tp]),(x,CV 143 dx),(dx,CK (wd hsh tkn (.bool BC) (.bool AU) .none .none (.bool rw) .none .none .none wr da de ns pm pr rs rd 0) ep),(da,listOf #[] n3),(out,listOf (AF ol2).toArray n4),(wr,DZ out),(nl,listOf (its.push (.ref tb)) (n+1))] s'→R (.ok (.ret .none)) s'),DV (BE rw_dn0283_07.row.prog w) A (.call (.ref 106) ⟨[.ref x,.str pf tp,.str uri tu],[]⟩) R s
theorem gA:∀{a b c d e f g h i j k l m n o p q r s t u v w x y z a1 b1 c1 d1 e1 f1 g1 h1 i1 j1 k1 l1 m1 n1},TG a b c d e f g h i j k l m n o p q r s t u v w x y z a1 b1 c1 d1 e1 f1 g1 h1 i1 j1 k1 l1 m1 n1:=by
 refine @(BK (GM KF)<|@(BK DM<|@(BK DM<|@(BK DM<|@(BK DM<|let_mvar%?n:=(λw A s g os p zw zt mg mb R x dx hsh tkn wr da de ns pm pr rs rd ep out n1 n2 ds ol pre pv nl its n npre pf uri tp tu rw=>?_:∀a b c d e f g h i j k l m n o p q r s t u v w x y z a1 b1 c1 d1 e1 f1 g1 h1 i1 j1 k1 l1 m1 n1,TG a b c d e f g h i j k l m n o p q r s t u v w x y z a1 b1 c1 d1 e1 f1 g1 h1 i1 j1 k1 l1 m1 n1);?n _ _ _ _ _ _ _ _ _ _ _ _ _ _ _ _ _ _ _ _ _ _ _ _ _ _ _ _ _ _ _ _ _ _ _ _ _ _ _ _)))))
 intro X T H hh zq hpr hok hdz hdl hoz hns hiz nd hN;revert X;k_fill;intro X;refine' KQ (λy=>DY y [("uri",.str uri tu),("prefix",.str pf tp),("self",.ref x)]) H X T ?k6 ?k7 (AZ zq (by decide)) ?k9 ?kB ?km ?kl ?_ ?c1 ?c2 ?c3 ?c4
 (case k6=>k_is)
 (case k7=>k_is)
 (case k9=>exact GO rfl)
 (case kB=>exact locs rfl)
 (case km=>exact rfl)
 (case kl=>exact EB _)
 (case c1=>exact rfl)
 (case c2=>exact rfl)
 (case c3=>exact rfl)
 (case c4=>decide)
 k_whole;with_reducible refine let_mvar%?zq1:=(λL' h1 k0=>?_:PV _);FL DM (JN:ES _ (type_of%?zq1)) (?zq1 _ _ _);intro hk0 F1 N1 l1;(try k_lt l1);(try dsimp only)
 refine HK ?_;walk_at "eps2";rename_i Q9 E9;intro hq9 he9;have ndf:([x,dx,da,out,wr]:AE AH).Nodup:=qN nd;refine ndk6 nd ?_;intro n_x_dx n_x_da n_x_out n_x_wr n_x_nl n_dx_da n_dx_out n_dx_wr n_dx_nl n_da_out n_da_wr n_da_nl n_out_wr n_out_nl n_wr_nl
 repeat'((fail_if_success (with_reducible show AI _ _ (EZ (SG (TK _ "_data" _) _ _ _::_) _) _ _ _));walk_at "go")
 refine' BR (OD (R:=λs'=>∃n3 n4 ol2,ol2.map (·.1)=ol.map (·.1)++JE rs (JG BC (FW AW (ds.map (·.1))))∧Fr g L' s'.heap (λy=>DY y [("uri",.str uri tu),("prefix",.str pf tp),("self",.ref x)])∧AY g L' s'.heap [(x,CV 143 dx),(dx,CK (wd hsh tkn (.bool BC) (.bool AU) .none .none (.bool rw) .none .none .none wr da de ns pm pr rs rd 0) ep),(da,listOf #[] n3),(out,listOf (AF ol2).toArray n4),(wr,DZ out),(nl,listOf its n)]∧s'.os=os∧BP s'.gens) ?c1 ?c2)
 case c1 =>
  by_cases hds:ds=[]
  ·subst hds
   repeat'(first
    |((with_reducible show GI=_∧_);(rename Fr ..=>F9);(rename AY _ _ _ _=>N9);first|exact⟨rfl,_,_,_,e5,F9,N9,o5,b5⟩|exact⟨rfl,_,_,_,by(rw[IL,CQ]),F9,N9,H.os,H.bare⟩)
    |((with_reducible show Q9 _ _);refine hq9 _ _ ?_;(try dsimp only))
    |walk_at "go")
  ·have hsz:(!(AF ds).toArray.isEmpty)=BC:=mO hds
   repeat'(first
    |((with_reducible show AI _ _ (truthy (.ref da)) _ _ _);refine IJ ⟨_,GB (by k_asm) (by k_mem),rfl,_,rfl⟩ (RE hdz) ?_;(try dsimp only))
    |((with_reducible show GI=_∧_);(rename Fr ..=>F9);(rename AY _ _ _ _=>N9);first|exact⟨rfl,_,_,_,e5,F9,N9,o5,b5⟩|exact⟨rfl,_,_,_,by(rw[IL,CQ]),F9,N9,H.os,H.bare⟩)
    |((with_reducible show AI _ _ (DK (.ref 99) _) _ _ _);(rename Fr ..=>F9);(rename AY _ _ _ _=>N9);refine GD [(x,CV 143 dx),(dx,CK (wd hsh tkn (.bool BC) (.bool AU) .none .none (.bool rw) .none .none .none wr da de ns pm pr rs rd 0) ep),(da,listOf (AF ds).toArray n1),(out,listOf (AF ol).toArray n2),(wr,DZ out)] [(nl,listOf its n)] F9 N9 H.os H.bare (by walk_at "l_mem") (by walk_at "l_mem") (by walk_at "l_notin") λg₂ H₂ K₂ _ back=>XZ (X.keeps K₂) (T.keeps K₂) H₂ hh (CJ (FG zq) (by decide)) (DX K₂ hpr) hok hdz ndf hdl hoz λs5 n3 n4 ol2 e5 H5=>?_;obtain⟨F5,N5,o5,b5⟩:=back _ _ H5;clear back F9 N9 H₂ H5;(try clear g₂);revert s5 n3 n4 ol2;with_reducible refine let_mvar%?ns10S4x3:=(λs5 n3 n4 ol2=>?_:ZE _);IB JS (OM:ES _ (type_of%?ns10S4x3)) (?ns10S4x3 _ _ _ _);intro e5 F5 N5 o5 b5;(try dsimp only))
    |((with_reducible show Q9 _ _);refine hq9 _ _ ?_;(try dsimp only))
    |walk_at "go")
 refine uF ?_;with_reducible refine let_mvar%?zq3:=(λs6 n3 n4 ol2=>?_:ZE _);IB JS (OM:ES _ (type_of%?zq3)) (?zq3 _ _ _ _);rintro⟨e5,F6,N6,o6,b6⟩
 (try dsimp only)
 repeat'(first
    |((with_reducible show AI _ _ (BZ _ _ (.ref ns) (.int (-1) _)) _ _ _);refine PN (vs:=npre) (v:=.ref nl) (DX (QI (by k_asm)) hns) ?_;(try dsimp only))
    |((with_reducible show AI _ _ (DK (.builtin "list.append") [.ref nl,_]) _ _ _);(rename Fr ..=>F9);(rename AY _ _ _ _=>N9);refine KP F9 N9 (by walk_at "l_upd") ?_ hiz;clear F9 N9;walk_at "eps";rename_i h9;intro F9 N9;(try k_sweep))
    |((with_reducible show LeaveM _ _ _ _ _);(rename Fr ..=>F9);(rename AY _ _ _ _=>N9);exact leaveM_ F9 N9 o6 b6 λH'=>hN _ n3 n4 ol2 _ (ltN (by(rename_i ina0;exact ina0.1))) (ltN (by(rename_i ina0;exact ina0.2.1))) (ltN (by(rename_i ina0;exact ina0.2.2.1))) (ltN (by(rename_i ina0;exact ina0.2.2.2.1))) (ltN (by(rename_i ina0;exact ina0.2.2.2.2.1))) (ltN (by(rename_i ina0;exact ina0.2.2.2.2.2))) e5 H')
    |((with_reducible show Q9 _ _);refine hq9 _ _ ?_;(try dsimp only))
    |walk_at "go")
end
theorem rs11:True∧True:=by
 (try walk1);(try w_top off)
 all_goals (first | trivial | exact ⟨trivial,trivial⟩)
section

noncomputable def UH(w:BU)(A:BQ)(s:AG)(g:CW)(os:CU)(p:BH)(zw:AE AX)(zt:ER→AM AC)(mg mb:AX→AM AC)(R:FE→AG→Prop)(x dx:AH)(hsh:CC→EE)(tkn:CC→DW)(wr da de ns pm pr:AH)(ep:CC)(out:AH)(n1 n2:CC)(ds ol:AE (AX×DW))(pre:AE AC)(pv:CZ)(tx:AX)(tt:DW)(rw:CZ):Prop :=
 ∀(X:(hd07.heap_1 w.params).In g)(T:VO p zw zt mg mb g)(H:Ok g os [(x,CV 143 dx),(dx,CK (wd hsh tkn (.bool BC) (.bool AU) .none .none (.bool rw) .none .none .none wr da de ns pm pr BC AU 0) ep),(da,listOf (AF ds).toArray n1),(out,listOf (AF ol).toArray n2),(wr,DZ out)] s)(hh:A.handled=BN)(zq:A.depth<700)(hpr:g.IsList pr (pre++[BY pv]).toArray)(hok:PZ AW (ds.map (·.1))=BC)(hdz:(AF ds).toArray.size≤DA)(hdl:(FW AW (ds.map (·.1))).length≤2000)(hoz:(AF ol).toArray.size≤DA)(hol:ol.length≤5000)(htx:tx.length≤1000)(hec:(OI tx).length≤1000)(nd:([x,dx,da,out,wr]:AE AH).Nodup)(hN:∀s' n3 n4 ol3,ol3.map (·.1)=ol.map (·.1)++(JE BC (JG BC (FW AW (ds.map (·.1))))++[AA "<!--"++OI tx++AA "-->"])→Ok g os [(x,CV 143 dx),(dx,CK (wd hsh tkn (.bool BC) (.bool AU) .none .none (.bool rw) .none .none .none wr da de ns pm pr BC AU 0) ep),(da,listOf #[] n3),(out,listOf (AF ol3).toArray n4),(wr,DZ out)] s'→R (.ok (.ret .none)) s'),DV (BE rw_dn0283_07.row.prog w) A (.call (.ref 133) ⟨[.ref x,.str tx tt],[]⟩) R s
theorem iY:∀{a b c d e f g h i j k l m n o p q r s t u v w x y z a1 b1 c1 d1 e1 f1},UH a b c d e f g h i j k l m n o p q r s t u v w x y z a1 b1 c1 d1 e1 f1:=by
 refine @(BK (GM KF)<|@(BK DM<|@(BK DM<|@(BK DM<|let_mvar%?n:=(λw A s g os p zw zt mg mb R x dx hsh tkn wr da de ns pm pr ep out n1 n2 ds ol pre pv tx tt rw=>?_:∀a b c d e f g h i j k l m n o p q r s t u v w x y z a1 b1 c1 d1 e1 f1,UH a b c d e f g h i j k l m n o p q r s t u v w x y z a1 b1 c1 d1 e1 f1);?n _ _ _ _ _ _ _ _ _ _ _ _ _ _ _ _ _ _ _ _ _ _ _ _ _ _ _ _ _ _ _ _))))
 intro X T H hh zq hpr hok hdz hdl hoz hol htx hec nd hN;revert X;k_fill;intro X;refine' KQ (λy=>DY y [("text",.str tx tt),("self",.ref x)]) H X T ?k6 ?k7 (AZ zq (by decide)) ?k9 ?kB ?km ?kl ?_ ?c1 ?c2 ?c3 ?c4
 (case k6=>k_is)
 (case k7=>k_is)
 (case k9=>exact GO rfl)
 (case kB=>exact locs rfl)
 (case km=>exact rfl)
 (case kl=>exact EB _)
 (case c1=>exact rfl)
 (case c2=>exact rfl)
 (case c3=>exact rfl)
 (case c4=>decide)
 k_whole;with_reducible refine let_mvar%?zq1:=(λL' h1 k0=>?_:PV _);FL DM (JN:ES _ (type_of%?zq1)) (?zq1 _ _ _);intro hk0 F1 N1 l1;(try k_lt l1);(try dsimp only)
 refine HK ?_;walk_at "eps2";rename_i Q9 E9;intro hq9 he9;have ndf:=nd;refine ndk5 nd ?_;intro n_x_dx n_x_da n_x_out n_x_wr n_dx_da n_dx_out n_dx_wr n_da_out n_da_wr n_out_wr
 repeat'((fail_if_success (with_reducible show AI _ _ (EZ (SG (TK _ "_root_done" _) _ _ _::_) _) _ _ _));walk_at "go")
 refine' BR (OD (R:=λs'=>∃n3 n4 ol2,ol2.map (·.1)=ol.map (·.1)++JE BC (JG BC (FW AW (ds.map (·.1))))∧Fr g L' s'.heap (λy=>DY y [("text",.str tx tt),("self",.ref x)])∧AY g L' s'.heap [(x,CV 143 dx),(dx,CK (wd hsh tkn (.bool BC) (.bool AU) .none .none (.bool rw) .none .none .none wr da de ns pm pr BC AU 0) ep),(da,listOf #[] n3),(out,listOf (AF ol2).toArray n4),(wr,DZ out)]∧s'.os=os∧BP s'.gens) ?c1 ?c2)
 case c1 =>
  by_cases hds:ds=[]
  ·subst hds
   repeat'(first
    |((with_reducible show GI=_∧_);(rename Fr ..=>F9);(rename AY _ _ _ _=>N9);first|exact⟨rfl,_,_,_,e5,F9,N9,o5,b5⟩|exact⟨rfl,_,_,_,by(rw[IL,CQ]),F9,N9,H.os,H.bare⟩)
    |((with_reducible show Q9 _ _);refine hq9 _ _ ?_;(try dsimp only))
    |walk_at "go")
  ·have hsz:(!(AF ds).toArray.isEmpty)=BC:=mO hds
   repeat'(first
    |((with_reducible show AI _ _ (truthy (.ref da)) _ _ _);refine IJ ⟨_,GB (by k_asm) (by k_mem),rfl,_,rfl⟩ (RE hdz) ?_;(try dsimp only))
    |((with_reducible show GI=_∧_);(rename Fr ..=>F9);(rename AY _ _ _ _=>N9);first|exact⟨rfl,_,_,_,e5,F9,N9,o5,b5⟩|exact⟨rfl,_,_,_,by(rw[IL,CQ]),F9,N9,H.os,H.bare⟩)
    |((with_reducible show AI _ _ (DK (.ref 99) _) _ _ _);(rename Fr ..=>F9);(rename AY _ _ _ _=>N9);refine GD [(x,CV 143 dx),(dx,CK (wd hsh tkn (.bool BC) (.bool AU) .none .none (.bool rw) .none .none .none wr da de ns pm pr BC AU 0) ep),(da,listOf (AF ds).toArray n1),(out,listOf (AF ol).toArray n2),(wr,DZ out)] [] F9 N9 H.os H.bare (by walk_at "l_mem") (by walk_at "l_mem") (by walk_at "l_notin") λg₂ H₂ K₂ _ back=>XZ (X.keeps K₂) (T.keeps K₂) H₂ hh (CJ (FG zq) (by decide)) (DX K₂ hpr) hok hdz ndf hdl hoz λs5 n3 n4 ol2 e5 H5=>?_;obtain⟨F5,N5,o5,b5⟩:=back _ _ H5;clear back F9 N9 H₂ H5;(try clear g₂);revert s5 n3 n4 ol2;with_reducible refine let_mvar%?ns11S4x8:=(λs5 n3 n4 ol2=>?_:ZE _);IB JS (OM:ES _ (type_of%?ns11S4x8)) (?ns11S4x8 _ _ _ _);intro e5 F5 N5 o5 b5;(try dsimp only))
    |((with_reducible show Q9 _ _);refine hq9 _ _ ?_;(try dsimp only))
    |walk_at "go")
 refine uF ?_;with_reducible refine let_mvar%?zq5:=(λs6 n3 n4 ol2=>?_:ZE _);IB JS (OM:ES _ (type_of%?zq5)) (?zq5 _ _ _ _);rintro⟨e5,F6,N6,o6,b6⟩
 (try dsimp only)
 have hoz2:=eH e5 (AQ (OQ _ _) (by decide)) hol
 repeat'(first
    |((with_reducible show AI _ _ (IH _ (.ref wr) _ _ _) _ _ _);refine IC ?_;(try dsimp only))
    |((with_reducible show pN _ _∧_);refine⟨⟨_,_,GB (by k_asm) (by k_mem)⟩,?_⟩)
    |((with_reducible show AI _ _ (DK (.ref wr) _) _ _ _);(rename Fr ..=>F9);(rename AY _ _ _ _=>N9);refine OG F9 N9 (by k_mem) (by walk_at "l_upd") hoz2 ?_;clear F9 N9;walk_at "eps";rename_i h9;intro F9 N9;(try dsimp only))
    |((with_reducible show AI _ _ (DK (.ref 154) _) _ _ _);(rename Fr ..=>F9);(rename AY _ _ _ _=>N9);refine GD [] [(x,CV 143 dx),(dx,CK (wd hsh tkn (.bool BC) (.bool AU) .none .none (.bool rw) .none .none .none wr da de ns pm pr BC AU 0) ep),(da,listOf #[] n3),(out,listOf (AF ol2).toArray n4),(wr,DZ out)] F9 N9 o6 b6 (BA _) (by walk_at "l_mem") (λ_ _ z=>nomatch z) λg₂ H₂ K₂ _ back=>RL (X.keeps K₂) (T.keeps K₂) H₂ (CJ (FG zq) (by decide)) (AQ htx (by decide)) λs5 t5 H5=>?_;obtain⟨F5,N5,o5,b5⟩:=back _ _ H5;clear back F9 N9 H₂ H5;(try clear g₂);revert s5 t5;with_reducible refine let_mvar%?ns11S2x10:=(λs5 t5=>?_:OV _);EV JS (IP:ES _ (type_of%?ns11S2x10)) (?ns11S2x10 _ _);intro  F5 N5 o5 b5;(try dsimp only))
    |((with_reducible show LeaveM _ _ _ _ _);(rename Fr ..=>F9);(rename AY _ _ _ _=>N9);exact leaveM_ F9 N9 (by assumption) (by assumption) λH'=>hN _ n3 _ (ol2++[(_,_)]) (by(rw[BF,e5,BX];rfl)) (by(rw[GN];exact H')))
    |((with_reducible show Q9 _ _);refine hq9 _ _ ?_;(try dsimp only))
    |walk_at "go")
noncomputable def gW(w:BU)(A:BQ)(s:AG)(g:CW)(os:CU)(p:BH)(zw:AE AX)(zt:ER→AM AC)(mg mb:AX→AM AC)(R:FE→AG→Prop)(x dx:AH)(hsh:CC→EE)(tkn:CC→DW)(wr da de ns pm pr:AH)(ep:CC)(out:AH)(n1 n2:CC)(ds ol:AE (AX×DW))(pre:AE AC)(pv:CZ)(tx tg:AX)(tt tt2:DW)(rw:CZ):Prop :=
 ∀(X:(hd07.heap_1 w.params).In g)(T:VO p zw zt mg mb g)(H:Ok g os [(x,CV 143 dx),(dx,CK (wd hsh tkn (.bool BC) (.bool AU) .none .none (.bool rw) .none .none .none wr da de ns pm pr BC AU 0) ep),(da,listOf (AF ds).toArray n1),(out,listOf (AF ol).toArray n2),(wr,DZ out)] s)(hh:A.handled=BN)(zq:A.depth<700)(hpr:g.IsList pr (pre++[BY pv]).toArray)(hok:PZ AW (ds.map (·.1))=BC)(hdz:(AF ds).toArray.size≤DA)(hdl:(FW AW (ds.map (·.1))).length≤2000)(hoz:(AF ol).toArray.size≤DA)(hol:ol.length≤5000)(htx:tx.length≤1000)(hb0:((tx.length:EE) !=0)=BC)(htg:tg.length≤1000)(hec:(OI tx).length≤1000)(nd:([x,dx,da,out,wr]:AE AH).Nodup)(hN:∀s' n3 n4 ol3,ol3.map (·.1)=ol.map (·.1)++(JE BC (JG BC (FW AW (ds.map (·.1))))++[AA "<?"++tg++AA " "++OI tx++AA "?>"])→Ok g os [(x,CV 143 dx),(dx,CK (wd hsh tkn (.bool BC) (.bool AU) .none .none (.bool rw) .none .none .none wr da de ns pm pr BC AU 0) ep),(da,listOf #[] n3),(out,listOf (AF ol3).toArray n4),(wr,DZ out)] s'→R (.ok (.ret .none)) s'),DV (BE rw_dn0283_07.row.prog w) A (.call (.ref 140) ⟨[.ref x,.str tg tt2,.str tx tt],[]⟩) R s
theorem Dg:∀{a b c d e f g h i j k l m n o p q r s t u v w x y z a1 b1 c1 d1 e1 f1 g1 h1},gW a b c d e f g h i j k l m n o p q r s t u v w x y z a1 b1 c1 d1 e1 f1 g1 h1:=by
 refine @(BK (GM KF)<|@(BK DM<|@(BK DM<|@(BK DM<|@(UF DM<|let_mvar%?n:=(λw A s g os p zw zt mg mb R x dx hsh tkn wr da de ns pm pr ep out n1 n2 ds ol pre pv tx tg tt tt2 rw=>?_:∀a b c d e f g h i j k l m n o p q r s t u v w x y z a1 b1 c1 d1 e1 f1 g1 h1,gW a b c d e f g h i j k l m n o p q r s t u v w x y z a1 b1 c1 d1 e1 f1 g1 h1);?n _ _ _ _ _ _ _ _ _ _ _ _ _ _ _ _ _ _ _ _ _ _ _ _ _ _ _ _ _ _ _ _ _ _)))))
 intro X T H hh zq hpr hok hdz hdl hoz hol htx hb0 htg hec nd hN;revert X;k_fill;intro X;refine' KQ (λy=>DY y [("data",.str tx tt),("target",.str tg tt2),("self",.ref x)]) H X T ?k6 ?k7 (AZ zq (by decide)) ?k9 ?kB ?km ?kl ?_ ?c1 ?c2 ?c3 ?c4
 (case k6=>k_is)
 (case k7=>k_is)
 (case k9=>exact GO rfl)
 (case kB=>exact locs rfl)
 (case km=>exact rfl)
 (case kl=>exact EB _)
 (case c1=>exact rfl)
 (case c2=>exact rfl)
 (case c3=>exact rfl)
 (case c4=>decide)
 k_whole;with_reducible refine let_mvar%?zq1:=(λL' h1 k0=>?_:PV _);FL DM (JN:ES _ (type_of%?zq1)) (?zq1 _ _ _);intro hk0 F1 N1 l1;(try k_lt l1);(try dsimp only)
 refine HK ?_;walk_at "eps2";rename_i Q9 E9;intro hq9 he9;have ndf:=nd;refine ndk5 nd ?_;intro n_x_dx n_x_da n_x_out n_x_wr n_dx_da n_dx_out n_dx_wr n_da_out n_da_wr n_out_wr
 repeat'((fail_if_success (with_reducible show AI _ _ (EZ (SG (TK _ "_root_done" _) _ _ _::_) _) _ _ _));walk_at "go")
 refine' BR (OD (R:=λs'=>∃n3 n4 ol2,ol2.map (·.1)=ol.map (·.1)++JE BC (JG BC (FW AW (ds.map (·.1))))∧Fr g L' s'.heap (λy=>DY y [("data",.str tx tt),("target",.str tg tt2),("self",.ref x)])∧AY g L' s'.heap [(x,CV 143 dx),(dx,CK (wd hsh tkn (.bool BC) (.bool AU) .none .none (.bool rw) .none .none .none wr da de ns pm pr BC AU 0) ep),(da,listOf #[] n3),(out,listOf (AF ol2).toArray n4),(wr,DZ out)]∧s'.os=os∧BP s'.gens) ?c1 ?c2)
 case c1 =>
  by_cases hds:ds=[]
  ·subst hds
   repeat'(first
    |((with_reducible show GI=_∧_);(rename Fr ..=>F9);(rename AY _ _ _ _=>N9);first|exact⟨rfl,_,_,_,e5,F9,N9,o5,b5⟩|exact⟨rfl,_,_,_,by(rw[IL,CQ]),F9,N9,H.os,H.bare⟩)
    |((with_reducible show Q9 _ _);refine hq9 _ _ ?_;(try dsimp only))
    |walk_at "go")
  ·have hsz:(!(AF ds).toArray.isEmpty)=BC:=mO hds
   repeat'(first
    |((with_reducible show AI _ _ (truthy (.ref da)) _ _ _);refine IJ ⟨_,GB (by k_asm) (by k_mem),rfl,_,rfl⟩ (RE hdz) ?_;(try dsimp only))
    |((with_reducible show GI=_∧_);(rename Fr ..=>F9);(rename AY _ _ _ _=>N9);first|exact⟨rfl,_,_,_,e5,F9,N9,o5,b5⟩|exact⟨rfl,_,_,_,by(rw[IL,CQ]),F9,N9,H.os,H.bare⟩)
    |((with_reducible show AI _ _ (DK (.ref 99) _) _ _ _);(rename Fr ..=>F9);(rename AY _ _ _ _=>N9);refine GD [(x,CV 143 dx),(dx,CK (wd hsh tkn (.bool BC) (.bool AU) .none .none (.bool rw) .none .none .none wr da de ns pm pr BC AU 0) ep),(da,listOf (AF ds).toArray n1),(out,listOf (AF ol).toArray n2),(wr,DZ out)] [] F9 N9 H.os H.bare (by walk_at "l_mem") (by walk_at "l_mem") (by walk_at "l_notin") λg₂ H₂ K₂ _ back=>XZ (X.keeps K₂) (T.keeps K₂) H₂ hh (CJ (FG zq) (by decide)) (DX K₂ hpr) hok hdz ndf hdl hoz λs5 n3 n4 ol2 e5 H5=>?_;obtain⟨F5,N5,o5,b5⟩:=back _ _ H5;clear back F9 N9 H₂ H5;(try clear g₂);revert s5 n3 n4 ol2;with_reducible refine let_mvar%?ns11S4x9:=(λs5 n3 n4 ol2=>?_:ZE _);IB JS (OM:ES _ (type_of%?ns11S4x9)) (?ns11S4x9 _ _ _ _);intro e5 F5 N5 o5 b5;(try dsimp only))
    |((with_reducible show Q9 _ _);refine hq9 _ _ ?_;(try dsimp only))
    |walk_at "go")
 refine uF ?_;with_reducible refine let_mvar%?zq6:=(λs6 n3 n4 ol2=>?_:ZE _);IB JS (OM:ES _ (type_of%?zq6)) (?zq6 _ _ _ _);rintro⟨e5,F6,N6,o6,b6⟩
 (try dsimp only)
 have hoz2:=eH e5 (AQ (OQ _ _) (by decide)) hol
 repeat'(first
    |((with_reducible show AI _ _ (IH _ (.ref wr) _ _ _) _ _ _);refine IC ?_;(try dsimp only))
    |((with_reducible show pN _ _∧_);refine⟨⟨_,_,GB (by k_asm) (by k_mem)⟩,?_⟩)
    |((with_reducible show AI _ _ (DK (.ref wr) _) _ _ _);(rename Fr ..=>F9);(rename AY _ _ _ _=>N9);refine OG F9 N9 (by k_mem) (by walk_at "l_upd") hoz2 ?_;clear F9 N9;walk_at "eps";rename_i h9;intro F9 N9;(try dsimp only))
    |((with_reducible show AI _ _ (DK (.ref 154) _) _ _ _);(rename Fr ..=>F9);(rename AY _ _ _ _=>N9);refine GD [] [(x,CV 143 dx),(dx,CK (wd hsh tkn (.bool BC) (.bool AU) .none .none (.bool rw) .none .none .none wr da de ns pm pr BC AU 0) ep),(da,listOf #[] n3),(out,listOf (AF ol2).toArray n4),(wr,DZ out)] F9 N9 o6 b6 (BA _) (by walk_at "l_mem") (λ_ _ z=>nomatch z) λg₂ H₂ K₂ _ back=>RL (X.keeps K₂) (T.keeps K₂) H₂ (CJ (FG zq) (by decide)) (AQ htx (by decide)) λs5 t5 H5=>?_;obtain⟨F5,N5,o5,b5⟩:=back _ _ H5;clear back F9 N9 H₂ H5;(try clear g₂);revert s5 t5;with_reducible refine let_mvar%?ns11S2x11:=(λs5 t5=>?_:OV _);EV JS (IP:ES _ (type_of%?ns11S2x11)) (?ns11S2x11 _ _);intro  F5 N5 o5 b5;(try dsimp only))
    |((with_reducible show LeaveM _ _ _ _ _);(rename Fr ..=>F9);(rename AY _ _ _ _=>N9);exact leaveM_ F9 N9 (by assumption) (by assumption) λH'=>hN _ n3 _ (ol2++[(_,_)]) (by(rw[BF,e5,BX];rfl)) (by(rw[GN];exact H')))
    |((with_reducible show Q9 _ _);refine hq9 _ _ ?_;(try dsimp only))
    |walk_at "go")
noncomputable def UG(w:BU)(A:BQ)(s:AG)(g:CW)(os:CU)(p:BH)(zw:AE AX)(zt:ER→AM AC)(mg mb:AX→AM AC)(R:FE→AG→Prop)(x dx:AH)(hsh:CC→EE)(tkn:CC→DW)(wr da de ns pm pr:AH)(ep:CC)(out:AH)(n2:CC)(ol:AE (AX×DW))(tx:AX)(tt:DW)(rw:CZ):Prop :=
 ∀(X:(hd07.heap_1 w.params).In g)(T:VO p zw zt mg mb g)(H:Ok g os [(x,CV 143 dx),(dx,CK (wd hsh tkn (.bool BC) (.bool AU) .none .none (.bool rw) .none .none .none wr da de ns pm pr BC BC 0) ep),(out,listOf (AF ol).toArray n2),(wr,DZ out)] s)(hh:A.handled=BN)(zq:A.depth<700)(hol:ol.length≤5000)(htx:tx.length≤1000)(hec:(OI tx).length≤1000)(nd:([x,dx,out,wr]:AE AH).Nodup)(hN:∀s' n4 ol3,ol3.map (·.1)=ol.map (·.1)++[AA "\n",AA "<!--"++OI tx++AA "-->"]→Ok g os [(x,CV 143 dx),(dx,CK (wd hsh tkn (.bool BC) (.bool AU) .none .none (.bool rw) .none .none .none wr da de ns pm pr BC BC 0) ep),(out,listOf (AF ol3).toArray n4),(wr,DZ out)] s'→R (.ok (.ret .none)) s'),DV (BE rw_dn0283_07.row.prog w) A (.call (.ref 133) ⟨[.ref x,.str tx tt],[]⟩) R s
theorem iX:∀{a b c d e f g h i j k l m n o p q r s t u v w x y z a1 b1},UG a b c d e f g h i j k l m n o p q r s t u v w x y z a1 b1:=by
 refine @(BK (GM KF)<|@(BK DM<|@(BK DM<|@(QZ DM<|let_mvar%?n:=(λw A s g os p zw zt mg mb R x dx hsh tkn wr da de ns pm pr ep out n2 ol tx tt rw=>?_:∀a b c d e f g h i j k l m n o p q r s t u v w x y z a1 b1,UG a b c d e f g h i j k l m n o p q r s t u v w x y z a1 b1);?n _ _ _ _ _ _ _ _ _ _ _ _ _ _ _ _ _ _ _ _ _ _ _ _ _ _ _ _))))
 intro X T H hh zq hol htx hec nd hN;revert X;k_fill;intro X;refine' KQ (λy=>DY y [("text",.str tx tt),("self",.ref x)]) H X T ?k6 ?k7 (AZ zq (by decide)) ?k9 ?kB ?km ?kl ?_ ?c1 ?c2 ?c3 ?c4
 (case k6=>k_is)
 (case k7=>k_is)
 (case k9=>exact GO rfl)
 (case kB=>exact locs rfl)
 (case km=>exact rfl)
 (case kl=>exact EB _)
 (case c1=>exact rfl)
 (case c2=>exact rfl)
 (case c3=>exact rfl)
 (case c4=>decide)
 k_whole;with_reducible refine let_mvar%?zq1:=(λL' h1 k0=>?_:PV _);FL DM (JN:ES _ (type_of%?zq1)) (?zq1 _ _ _);intro hk0 F1 N1 l1;(try k_lt l1);(try dsimp only)
 refine HK ?_;walk_at "eps2";rename_i Q9 E9;intro hq9 he9;refine ndk4 nd ?_;intro n_x_dx n_x_out n_x_wr n_dx_out n_dx_wr n_out_wr;have hoz:=eH (ol:=ol) (ol2:=ol) (l:=[]) (CQ _).symm (by decide) hol
 repeat'(first
    |((with_reducible show AI _ _ (IH _ (.ref wr) _ _ _) _ _ _);refine IC ?_;(try dsimp only))
    |((with_reducible show pN _ _∧_);refine⟨⟨_,_,GB (by k_asm) (by k_mem)⟩,?_⟩)
    |((with_reducible show AI _ _ (DK (.ref wr) _) _ _ _);(rename Fr ..=>F9);(rename AY _ _ _ _=>N9);refine OG F9 N9 (by k_mem) (by walk_at "l_upd") hoz ?_;clear F9 N9;walk_at "eps";rename_i h9;intro F9 N9;(try dsimp only))
    |((fail_if_success (with_reducible show AI _ _ (EZ (cP.Expr (Expr.Call _ [Expr.JoinedStr _ _] _ _) _::_) _) _ _ _));walk_at "go"))
 (rename AY _ _ _ _=>N8)
 rw[← GN] at N8;obtain⟨ol2,e2,N9⟩:∃ol2:AE (AX×DW),ol2.map (·.1)=ol.map (·.1)++[AA "\n"]∧AY g L' h9 [(x,CV 143 dx),(dx,CK (wd hsh tkn (.bool BC) (.bool AU) .none .none (.bool rw) .none .none .none wr da de ns pm pr BC BC 0) ep),(out,listOf (AF ol2).toArray (n2+1)),(wr,DZ out)]:=⟨_,by(rw[BF];rfl),N8⟩;clear N8;have hoz2:=eH e2 (by decide) hol
 repeat'(first
    |((with_reducible show AI _ _ (IH _ (.ref wr) _ _ _) _ _ _);refine IC ?_;(try dsimp only))
    |((with_reducible show pN _ _∧_);refine⟨⟨_,_,GB (by k_asm) (by k_mem)⟩,?_⟩)
    |((with_reducible show AI _ _ (DK (.ref wr) _) _ _ _);(rename Fr ..=>F9);(rename AY _ _ _ _=>N9);refine OG F9 N9 (by k_mem) (by walk_at "l_upd") hoz2 ?_;clear F9 N9;walk_at "eps";rename_i h9;intro F9 N9;(try dsimp only))
    |((with_reducible show AI _ _ (DK (.ref 154) _) _ _ _);(rename Fr ..=>F9);(rename AY _ _ _ _=>N9);refine GD [] [(x,CV 143 dx),(dx,CK (wd hsh tkn (.bool BC) (.bool AU) .none .none (.bool rw) .none .none .none wr da de ns pm pr BC BC 0) ep),(out,listOf (AF ol2).toArray (n2+1)),(wr,DZ out)] F9 N9 H.os H.bare (BA _) (by walk_at "l_mem") (λ_ _ z=>nomatch z) λg₂ H₂ K₂ _ back=>RL (X.keeps K₂) (T.keeps K₂) H₂ (CJ (FG zq) (by decide)) (AQ htx (by decide)) λs5 t5 H5=>?_;obtain⟨F5,N5,o5,b5⟩:=back _ _ H5;clear back F9 N9 H₂ H5;(try clear g₂);revert s5 t5;with_reducible refine let_mvar%?ns11S2x12:=(λs5 t5=>?_:OV _);EV JS (IP:ES _ (type_of%?ns11S2x12)) (?ns11S2x12 _ _);intro  F5 N5 o5 b5;(try dsimp only))
    |((with_reducible show LeaveM _ _ _ _ _);(rename Fr ..=>F9);(rename AY _ _ _ _=>N9);exact leaveM_ F9 N9 (by assumption) (by assumption) λH'=>hN _ _ (ol2++[(_,_)]) (by(rw[BF,e2,BX];rfl)) (by(rw[GN];exact H')))
    |((with_reducible show Q9 _ _);refine hq9 _ _ ?_;(try dsimp only))
    |walk_at "go")
noncomputable def gV(w:BU)(A:BQ)(s:AG)(g:CW)(os:CU)(p:BH)(zw:AE AX)(zt:ER→AM AC)(mg mb:AX→AM AC)(R:FE→AG→Prop)(x dx:AH)(hsh:CC→EE)(tkn:CC→DW)(wr da de ns pm pr:AH)(ep:CC)(out:AH)(n2:CC)(ol:AE (AX×DW))(tx tg:AX)(tt tt2:DW)(rw:CZ):Prop :=
 ∀(X:(hd07.heap_1 w.params).In g)(T:VO p zw zt mg mb g)(H:Ok g os [(x,CV 143 dx),(dx,CK (wd hsh tkn (.bool BC) (.bool AU) .none .none (.bool rw) .none .none .none wr da de ns pm pr BC BC 0) ep),(out,listOf (AF ol).toArray n2),(wr,DZ out)] s)(hh:A.handled=BN)(zq:A.depth<700)(hol:ol.length≤5000)(htx:tx.length≤1000)(hb0:((tx.length:EE) !=0)=BC)(htg:tg.length≤1000)(hec:(OI tx).length≤1000)(nd:([x,dx,out,wr]:AE AH).Nodup)(hN:∀s' n4 ol3,ol3.map (·.1)=ol.map (·.1)++[AA "\n",AA "<?"++tg++AA " "++OI tx++AA "?>"]→Ok g os [(x,CV 143 dx),(dx,CK (wd hsh tkn (.bool BC) (.bool AU) .none .none (.bool rw) .none .none .none wr da de ns pm pr BC BC 0) ep),(out,listOf (AF ol3).toArray n4),(wr,DZ out)] s'→R (.ok (.ret .none)) s'),DV (BE rw_dn0283_07.row.prog w) A (.call (.ref 140) ⟨[.ref x,.str tg tt2,.str tx tt],[]⟩) R s
theorem Df:∀{a b c d e f g h i j k l m n o p q r s t u v w x y z a1 b1 c1 d1},gV a b c d e f g h i j k l m n o p q r s t u v w x y z a1 b1 c1 d1:=by
 refine @(BK (GM KF)<|@(BK DM<|@(BK DM<|@(MU DM<|let_mvar%?n:=(λw A s g os p zw zt mg mb R x dx hsh tkn wr da de ns pm pr ep out n2 ol tx tg tt tt2 rw=>?_:∀a b c d e f g h i j k l m n o p q r s t u v w x y z a1 b1 c1 d1,gV a b c d e f g h i j k l m n o p q r s t u v w x y z a1 b1 c1 d1);?n _ _ _ _ _ _ _ _ _ _ _ _ _ _ _ _ _ _ _ _ _ _ _ _ _ _ _ _ _ _))))
 intro X T H hh zq hol htx hb0 htg hec nd hN;revert X;k_fill;intro X;refine' KQ (λy=>DY y [("data",.str tx tt),("target",.str tg tt2),("self",.ref x)]) H X T ?k6 ?k7 (AZ zq (by decide)) ?k9 ?kB ?km ?kl ?_ ?c1 ?c2 ?c3 ?c4
 (case k6=>k_is)
 (case k7=>k_is)
 (case k9=>exact GO rfl)
 (case kB=>exact locs rfl)
 (case km=>exact rfl)
 (case kl=>exact EB _)
 (case c1=>exact rfl)
 (case c2=>exact rfl)
 (case c3=>exact rfl)
 (case c4=>decide)
 k_whole;with_reducible refine let_mvar%?zq1:=(λL' h1 k0=>?_:PV _);FL DM (JN:ES _ (type_of%?zq1)) (?zq1 _ _ _);intro hk0 F1 N1 l1;(try k_lt l1);(try dsimp only)
 refine HK ?_;walk_at "eps2";rename_i Q9 E9;intro hq9 he9;refine ndk4 nd ?_;intro n_x_dx n_x_out n_x_wr n_dx_out n_dx_wr n_out_wr;have hoz:=eH (ol:=ol) (ol2:=ol) (l:=[]) (CQ _).symm (by decide) hol
 repeat'(first
    |((with_reducible show AI _ _ (IH _ (.ref wr) _ _ _) _ _ _);refine IC ?_;(try dsimp only))
    |((with_reducible show pN _ _∧_);refine⟨⟨_,_,GB (by k_asm) (by k_mem)⟩,?_⟩)
    |((with_reducible show AI _ _ (DK (.ref wr) _) _ _ _);(rename Fr ..=>F9);(rename AY _ _ _ _=>N9);refine OG F9 N9 (by k_mem) (by walk_at "l_upd") hoz ?_;clear F9 N9;walk_at "eps";rename_i h9;intro F9 N9;(try dsimp only))
    |((fail_if_success (with_reducible show AI _ _ (EZ (cP.Expr (Expr.Call _ [Expr.IfExp _ _ _ _] _ _) _::_) _) _ _ _));walk_at "go"))
 (rename AY _ _ _ _=>N8)
 rw[← GN] at N8;obtain⟨ol2,e2,N9⟩:∃ol2:AE (AX×DW),ol2.map (·.1)=ol.map (·.1)++[AA "\n"]∧AY g L' h9 [(x,CV 143 dx),(dx,CK (wd hsh tkn (.bool BC) (.bool AU) .none .none (.bool rw) .none .none .none wr da de ns pm pr BC BC 0) ep),(out,listOf (AF ol2).toArray (n2+1)),(wr,DZ out)]:=⟨_,by(rw[BF];rfl),N8⟩;clear N8;have hoz2:=eH e2 (by decide) hol
 repeat'(first
    |((with_reducible show AI _ _ (IH _ (.ref wr) _ _ _) _ _ _);refine IC ?_;(try dsimp only))
    |((with_reducible show pN _ _∧_);refine⟨⟨_,_,GB (by k_asm) (by k_mem)⟩,?_⟩)
    |((with_reducible show AI _ _ (DK (.ref wr) _) _ _ _);(rename Fr ..=>F9);(rename AY _ _ _ _=>N9);refine OG F9 N9 (by k_mem) (by walk_at "l_upd") hoz2 ?_;clear F9 N9;walk_at "eps";rename_i h9;intro F9 N9;(try dsimp only))
    |((with_reducible show AI _ _ (DK (.ref 154) _) _ _ _);(rename Fr ..=>F9);(rename AY _ _ _ _=>N9);refine GD [] [(x,CV 143 dx),(dx,CK (wd hsh tkn (.bool BC) (.bool AU) .none .none (.bool rw) .none .none .none wr da de ns pm pr BC BC 0) ep),(out,listOf (AF ol2).toArray (n2+1)),(wr,DZ out)] F9 N9 H.os H.bare (BA _) (by walk_at "l_mem") (λ_ _ z=>nomatch z) λg₂ H₂ K₂ _ back=>RL (X.keeps K₂) (T.keeps K₂) H₂ (CJ (FG zq) (by decide)) (AQ htx (by decide)) λs5 t5 H5=>?_;obtain⟨F5,N5,o5,b5⟩:=back _ _ H5;clear back F9 N9 H₂ H5;(try clear g₂);revert s5 t5;with_reducible refine let_mvar%?ns11S2x13:=(λs5 t5=>?_:OV _);EV JS (IP:ES _ (type_of%?ns11S2x13)) (?ns11S2x13 _ _);intro  F5 N5 o5 b5;(try dsimp only))
    |((with_reducible show LeaveM _ _ _ _ _);(rename Fr ..=>F9);(rename AY _ _ _ _=>N9);exact leaveM_ F9 N9 (by assumption) (by assumption) λH'=>hN _ _ (ol2++[(_,_)]) (by(rw[BF,e2,BX];rfl)) (by(rw[GN];exact H')))
    |((with_reducible show Q9 _ _);refine hq9 _ _ ?_;(try dsimp only))
    |walk_at "go")
end
theorem rs12:True∧True:=by
 (try walk1);(try w_top off)
 all_goals (first | trivial | exact ⟨trivial,trivial⟩)
section

theorem ni10{m a b c d e f g h i j:AH}(hm:m∉[a,b,c,d,e,f,g,h,i,j]):a≠m∧b≠m∧c≠m∧d≠m∧e≠m∧f≠m∧g≠m∧h≠m∧i≠m∧j≠m:=by
 simp only[AP,GK,OJ,not_or] at hm;obtain⟨q1,q2,q3,q4,q5,q6,q7,q8,q9,q0⟩:=hm;exact⟨BG q1,BG q2,BG q3,BG q4,BG q5,BG q6,BG q7,BG q8,BG q9,BG q0⟩
theorem qY{uri:AX}{decl:AE Pr}(h:(scan uri decl []).1≠BN):¬ ∃sn,scan uri decl []=(BN,sn):=λ⟨_,e⟩=>h (by rw[e])
theorem qW{uri tag txt:AX}{decl ns:AE Pr}{q:Pr}(h:(scan uri decl []).1≠BN):qn decl ns uri tag≠AK (txt,AK q):=by
 unfold qn;split
 ·intro z;injection z with z;injection z with _ z;cases z
 ·rename_i sn e
  exact absurd (by rw[e]) h
noncomputable def cW(w:BU)(A:BQ)(s:AG)(g:CW)(os:CU)(p:BH)(zw:AE AX)(zt:ER→AM AC)(mg mb:AX→AM AC)(R:FE→AG→Prop)(x dx:AH)(hsh:CC→EE)(tkn:CC→DW)(wr da de ns pm pr:AH)(rd:CZ)(ep:CC)(out:AH)(n1 n2:CC)(ds ol:AE (AX×DW))(pre:AE AC)(pv:CZ)(dl nl:AH)(its nits:CE AC)(n nde nns nn npr:CC)(dlv nlv:AE (AH×CE AC))(dps nps:AE Pr)(q uri tag:AX)(tq:DW)(rw:CZ)(oM:CY)(pq:AE (AX×(AX×DW))):Prop :=
 ∀(X:(hd07.heap_1 w.params).In g)(T:VO p zw zt mg mb g)(H:Ok g os [(x,CV 143 dx),(dx,CK (wd hsh tkn (.bool BC) (.bool AU) .none .none (.bool rw) .none .none .none wr da de ns pm pr BC rd 0) ep),(da,listOf (AF ds).toArray n1),(out,listOf (AF ol).toArray n2),(wr,DZ out),(de,listOf ((dlv++[(dl,its)]).map λp=>AR p.1).toArray nde),(dl,listOf its n),(ns,listOf ((nlv++[(nl,nits)]).map λp=>AR p.1).toArray nns),(nl,listOf nits nn),(pr,listOf (pre++[BY pv]).toArray npr),(pm,oM)] s)(hh:A.handled=BN)(zq:A.depth<700)(hok:PZ AW (ds.map (·.1))=BC)(hdz:(AF ds).toArray.size≤DA)(hdl:(FW AW (ds.map (·.1))).length≤2000)(hoz:(AF ol).toArray.size≤DA)(hDl:∀p∈dlv,g.IsList p.1 p.2)(hDz:∀p∈dlv++[(dl,its)],(p.2.size:EE)<2 ^ 63)(hDp:All2 (KM g) (comes (dlv++[(dl,its)])) dps)(hDn:dps.length<3000)(hDs:∀q∈dps,q.1.length≤200∧q.2.length≤200)(hK:rw=AU→(∀p∈nlv,g.IsList p.1 p.2∧(p.2.size:EE)<2 ^ 63)∧All2 (KM g) (comes (nlv++[(nl,nits)])) nps)(hNq:∀q∈nps,q.1.length≤200∧q.2.length≤200∧q.2≠AW)(hnz:(nits.size:EE)<2 ^ 63)(hiz:its.size≤DA)(hol:ol.length≤5000)(hq:q.length≤200)(hut:uri.length≤200∧tag.length≤200)(hn:eA q uri tag=BC)(hsome:find uri nps≠BN)(hsc:(scan uri dps []).1≠BN)(hM:HY rw_dn0283_07.row.prog w oM pq)(hMz:pq.length≤50)(hps:(pm==FB)=AU)(hu0:uri≠AW)(hP0:∀q∈dps,q.2≠AW)(hpm:pm∉[x,dx,da,out,wr,de,dl,ns,nl,pr])(hl1:dlv.length≤1000)(hl2:nlv.length≤1000)(hl3:pre.length≤1000)(nd:([x,dx,da,out,wr,de,dl,ns,nl,pr]:AE AH).Nodup)(hN:∀s' n3 n4 ol3 txt o rd2,qn dps nps uri tag=AK (txt,o)→rd2=decide (pre.length=1)→ol3.map (·.1)=ol.map (·.1)++(JE BC (JG BC (FW AW (ds.map (·.1))))++[AA "</"++txt++AA ">"])→Ok g os [(x,CV 143 dx),(dx,CK (wd hsh tkn (.bool BC) (.bool AU) .none .none (.bool rw) .none .none .none wr da de ns pm pr BC rd2 0) ep),(da,listOf #[] n3),(out,listOf (AF ol3).toArray n4),(wr,DZ out),(de,listOf (dlv.map λp=>AR p.1).toArray (nde+1)),(ns,listOf (nlv.map λp=>AR p.1).toArray (nns+1)),(pr,listOf pre.toArray (npr+1)),(pm,oM)] s'→R (.ok (.ret .none)) s'),DV (BE rw_dn0283_07.row.prog w) A (.call (.ref 126) ⟨[.ref x,.str q tq],[]⟩) R s
theorem xT:∀{w A s g os p zw zt mg mb R x dx hsh tkn wr da de ns pm pr rd ep out n1 n2 ds ol pre pv dl nl its nits n nde nns nn npr dlv nlv dps nps q uri tag tq rw oM pq},cW w A s g os p zw zt mg mb R x dx hsh tkn wr da de ns pm pr rd ep out n1 n2 ds ol pre pv dl nl its nits n nde nns nn npr dlv nlv dps nps q uri tag tq rw oM pq:=by
 refine @(BK (GM KF)<|@(BK DM<|@(BK DM<|@(BK DM<|@(BK DM<|@(BK DM<|@(UF DM<|let_mvar%?n:=(λw A s g os p zw zt mg mb R x dx hsh tkn wr da de ns pm pr rd ep out n1 n2 ds ol pre pv dl nl its nits n nde nns nn npr dlv nlv dps nps q uri tag tq rw oM pq=>?_:∀a b c d e f g h i j k l m n o p q r s t u v w x y z a1 b1 c1 d1 e1 f1 g1 h1 i1 j1 k1 l1 m1 n1 o1 p1 q1 r1 s1 t1 u1 v1 w1 x1,cW a b c d e f g h i j k l m n o p q r s t u v w x y z a1 b1 c1 d1 e1 f1 g1 h1 i1 j1 k1 l1 m1 n1 o1 p1 q1 r1 s1 t1 u1 v1 w1 x1);?n _ _ _ _ _ _ _ _ _ _ _ _ _ _ _ _ _ _ _ _ _ _ _ _ _ _ _ _ _ _ _ _ _ _ _ _ _ _ _ _ _ _ _ _ _ _ _ _ _ _)))))))
 intro X T H hh zq hok hdz hdl hoz hDl hDz hDp hDn hDs hK hNq hnz hiz hol hq hut hn hsome hsc hM hMz hps hu0 hP0 hpm hl1 hl2 hl3 nd hN;revert X;k_fill;intro X;refine' KQ (λy=>DY y [("tag",.str q tq),("self",.ref x)]) H X T ?k6 ?k7 (AZ zq (by decide)) ?k9 ?kB ?km ?kl ?_ ?c1 ?c2 ?c3 ?c4
 (case k6=>k_is)
 (case k7=>k_is)
 (case k9=>exact GO rfl)
 (case kB=>exact locs rfl)
 (case km=>exact rfl)
 (case kl=>exact EB _)
 (case c1=>exact rfl)
 (case c2=>exact rfl)
 (case c3=>exact rfl)
 (case c4=>decide)
 k_whole;with_reducible refine let_mvar%?zq1:=(λL' h1 k0=>?_:PV _);FL DM (JN:ES _ (type_of%?zq1)) (?zq1 _ _ _);intro hk0 F1 N1 l1;(try k_lt l1);(try dsimp only)
 refine HK ?_;walk_at "eps2";rename_i Q9 E9;intro hq9 he9
 have hz1:∀{k:CC},k≤1000→k+1≤DA:=λh=>by rw[BI];exact(Nl λhn1=>fk [_] (.e V0 (.k 1000) (.e (.s (.k 16777216)) (.s V0) K0)) rfl h hn1)
 have ndf:([x,dx,da,out,wr]:AE AH).Nodup:=qN nd;obtain⟨n_x_pm,n_dx_pm,n_da_pm,n_out_pm,n_wr_pm,n_de_pm,n_dl_pm,n_ns_pm,n_nl_pm,n_pr_pm⟩:=ni10 hpm;refine ndk10 nd ?_;intro n_x_dx n_x_da n_x_out n_x_wr n_x_de n_x_dl n_x_ns n_x_nl n_x_pr n_dx_da n_dx_out n_dx_wr n_dx_de n_dx_dl n_dx_ns n_dx_nl n_dx_pr n_da_out n_da_wr n_da_de n_da_dl n_da_ns n_da_nl n_da_pr n_out_wr n_out_de n_out_dl n_out_ns n_out_nl n_out_pr n_wr_de n_wr_dl n_wr_ns n_wr_nl n_wr_pr n_de_dl n_de_ns n_de_nl n_de_pr n_dl_ns n_dl_nl n_dl_pr n_ns_nl n_ns_pr n_nl_pr
 repeat'((fail_if_success (with_reducible show AI _ _ (EZ (SG (TK _ "_data" _) _ _ _::_) _) _ _ _));walk_at "go")
 refine' BR (OD (R:=λs'=>∃n3 n4 ol2,ol2.map (·.1)=ol.map (·.1)++JE BC (JG BC (FW AW (ds.map (·.1))))∧Fr g L' s'.heap (λy=>DY y [(AA "tag",EW q tq),(AA "self",AR x)])∧AY g L' s'.heap [(x,CV 143 dx),(dx,CK (wd hsh tkn (.bool BC) (.bool AU) .none .none (.bool rw) .none .none .none wr da de ns pm pr BC rd 0) ep),(da,listOf #[] n3),(out,listOf (AF ol2).toArray n4),(wr,DZ out),(de,listOf ((dlv++[(dl,its)]).map λp=>AR p.1).toArray nde),(dl,listOf its n),(ns,listOf ((nlv++[(nl,nits)]).map λp=>AR p.1).toArray nns),(nl,listOf nits nn),(pr,listOf (pre++[BY pv]).toArray npr),(pm,oM)]∧s'.os=os∧BP s'.gens) ?c1 ?c2)
 case c1 =>
  by_cases hds:ds=[]
  ·subst hds
   repeat'(first
    |((with_reducible show GI=_∧_);(rename Fr ..=>F9);(rename AY _ _ _ _=>N9);first|exact⟨rfl,_,_,_,e5,F9,N9,o5,b5⟩|exact⟨rfl,_,_,_,by(rw[IL,CQ]),F9,N9,H.os,H.bare⟩)
    |((with_reducible show Q9 _ _);refine hq9 _ _ ?_;(try dsimp only))
    |walk_at "go")
  ·have hsz:(!(AF ds).toArray.isEmpty)=BC:=mO hds
   repeat'(first
    |((with_reducible show AI _ _ (truthy (.ref da)) _ _ _);refine IJ ⟨_,GB (by k_asm) (by k_mem),rfl,_,rfl⟩ (RE hdz) ?_;(try dsimp only))
    |((with_reducible show GI=_∧_);(rename Fr ..=>F9);(rename AY _ _ _ _=>N9);first|exact⟨rfl,_,_,_,e5,F9,N9,o5,b5⟩|exact⟨rfl,_,_,_,by(rw[IL,CQ]),F9,N9,H.os,H.bare⟩)
    |((with_reducible show AI _ _ (DK (AR 99) _) _ _ _);(rename Fr ..=>F9);(rename AY _ _ _ _=>N9);refine GD [(x,CV 143 dx),(dx,CK (wd hsh tkn (.bool BC) (.bool AU) .none .none (.bool rw) .none .none .none wr da de ns pm pr BC rd 0) ep),(da,listOf (AF ds).toArray n1),(out,listOf (AF ol).toArray n2),(wr,DZ out)] [(de,listOf ((dlv++[(dl,its)]).map λp=>AR p.1).toArray nde),(dl,listOf its n),(ns,listOf ((nlv++[(nl,nits)]).map λp=>AR p.1).toArray nns),(nl,listOf nits nn),(pr,listOf (pre++[BY pv]).toArray npr),(pm,oM)] F9 N9 H.os H.bare (by walk_at "l_mem") (by walk_at "l_mem") (by walk_at "l_notin") λg₂ H₂ K₂ r₂ back=>XZ (X.keeps K₂) (T.keeps K₂) H₂ hh (CJ (FG zq) (by decide)) ⟨_,r₂ (pr,_) (by k_mem),rfl,_,rfl⟩ hok hdz ndf hdl hoz λs5 n3 n4 ol2 e5 H5=>?_;obtain⟨F5,N5,o5,b5⟩:=back _ _ H5;clear back F9 N9 H₂ H5;(try clear g₂);revert s5 n3 n4 ol2;with_reducible refine let_mvar%?ns12S4x4:=(λs5 n3 n4 ol2=>?_:ZE _);IB JS (OM:ES _ (type_of%?ns12S4x4)) (?ns12S4x4 _ _ _ _);intro e5 F5 N5 o5 b5;(try dsimp only))
    |((with_reducible show Q9 _ _);refine hq9 _ _ ?_;(try dsimp only))
    |walk_at "go")
 refine uF ?_;with_reducible refine let_mvar%?zq3:=(λs6 n3 n4 ol2=>?_:ZE _);IB JS (OM:ES _ (type_of%?zq3)) (?zq3 _ _ _ _);rintro⟨e5,F6,N6,o6,b6⟩
 (try dsimp only)
 have hoz2:=eH e5 (AQ (OQ _ _) (by decide)) hol
 refine' BR (OD (R:=λs'=>∃n4 ol3 txt o,qn dps nps uri tag=AK (txt,o)∧ol3.map (·.1)=ol.map (·.1)++(JE BC (JG BC (FW AW (ds.map (·.1))))++[AA "</"++txt++AA ">"])∧Fr g L' s'.heap (λy=>DY y [(AA "tag",EW q tq),(AA "self",AR x)])∧AY g L' s'.heap [(x,CV 143 dx),(dx,CK (wd hsh tkn (.bool BC) (.bool AU) .none .none (.bool rw) .none .none .none wr da de ns pm pr BC rd 0) ep),(da,listOf #[] n3),(out,listOf (AF ol3).toArray n4),(wr,DZ out),(de,listOf ((dlv++[(dl,its)]).map λp=>AR p.1).toArray nde),(ns,listOf ((nlv++[(nl,nits)]).map λp=>AR p.1).toArray nns),(nl,listOf nits nn),(pr,listOf (pre++[BY pv]).toArray npr),(pm,oM)]∧s'.os=os∧BP s'.gens) ?d1 ?d2)
 case d1 =>
  repeat'(first
    |((with_reducible show AI _ _ (IH _ (.ref wr) _ _ _) _ _ _);refine IC ?_;(try dsimp only))
    |((with_reducible show pN _ _∧_);refine⟨⟨_,_,GB (by k_asm) (by k_mem)⟩,?_⟩)
    |((with_reducible show AI _ _ (DK (.ref wr) _) _ _ _);(rename Fr ..=>F9);(rename AY _ _ _ _=>N9);refine OG F9 N9 (by k_mem) (by walk_at "l_upd") hoz2 ?_;clear F9 N9;walk_at "eps";rename_i h9;intro F9 N9;(try dsimp only))
    |((with_reducible show AI _ _ (DK (AR 83) _) _ _ _);(rename Fr ..=>F9);(rename AY _ _ _ _=>N9);refine GD [(x,CV 143 dx),(dx,CK (wd hsh tkn (.bool BC) (.bool AU) .none .none (.bool rw) .none .none .none wr da de ns pm pr BC rd 0) ep),(dl,listOf its n),(pm,oM)] [(da,listOf #[] n3),(out,listOf (AF ol2).toArray n4),(wr,DZ out),(de,listOf ((dlv++[(dl,its)]).map λp=>AR p.1).toArray nde),(ns,listOf ((nlv++[(nl,nits)]).map λp=>AR p.1).toArray nns),(nl,listOf nits nn),(pr,listOf (pre++[BY pv]).toArray npr)] F9 N9 o6 b6 (by walk_at "l_mem") (by walk_at "l_mem") (by walk_at "l_notin") λg₂ H₂ K₂ r₂ back=>eK (dlv:=dlv) (nlv:=nlv++[(nl,nits)]) (dps:=dps) (nps:=nps) (uri:=uri) (tag:=tag) (X.keeps K₂) (T.keeps K₂) H₂ hM hMz hps ⟨BG n_x_pm,BG n_dx_pm,BG n_dl_pm⟩ hu0 hP0 ⟨_,r₂ (de,_) (by k_mem),rfl,_,rfl⟩ (λp hp=>DX K₂ (hDl p hp)) hDz (hDp.mono λ_ _ z=>z.keeps K₂) hDn (λz hz=>⟨AQ (hDs z hz).1 (by decide),AQ (hDs z hz).2 (by decide)⟩) (λzr=>⟨⟨_,r₂ (ns,_) (by k_mem),rfl,_,rfl⟩,(by(intro z hz;rcases AT.mp hz with hz|hz;exact⟨DX K₂ ((hK zr).1 z hz).1,((hK zr).1 z hz).2⟩;(rw[BB.mp hz];exact⟨⟨_,r₂ (nl,_) (by k_mem),rfl,_,rfl⟩,hnz⟩))),(hK zr).2.mono λ_ _ z=>z.keeps K₂⟩) (λz hz=>⟨AQ (hNq z hz).1 (by decide),AQ (hNq z hz).2.1 (by decide),(hNq z hz).2.2⟩) (by walk_at "l_ne") (by walk_at "l_ne") hiz hh (CJ (FG zq) (by decide)) (AQ hq (by decide)) ⟨AQ hut.1 (by decide),AQ hut.2 (by decide)⟩ hn (λs7 txt ta t1 t2 t3 hqn l1 l2 l3 lm H7=>?_) (λs7 txt pf ta tb t1 t2 t3 t4 t5 oM' pq' _ _ hqn _ _ _ _ _ _ _ _ _ _=>absurd hqn (qW hsc)) hsome (λ_ z=>absurd z (qY hsc));(have nto:ta≠out:=ZU H7 r₂ (fK _) (show(out,_)∈_ by k_mem);obtain⟨F7,N7,o7,b7⟩:=back _ _ H7;simp only[DQ,DB] at N7;have hql:txt.length≤1000:=AQ (zH hqn (λz hz=>(hDs z hz).2) (λz hz=>(hNq z hz).2.1) hut.2) (by decide);replace l1:=ltN l1;replace l2:=ltN l2;replace l3:=ltN l3;replace lm:=ltN lm;clear back F9 N9 H₂ H7;(try dsimp only)))
    |((first|(with_reducible show GI=_∧_)|(with_reducible show True∧_));(rename Fr ..=>F9);(rename AY _ _ _ _=>N9);exact⟨by first|exact rfl|exact trivial,_,ol2++[(_,_)],_,_,hqn,by(rw[BF,e5,BX];rfl),F9,by(rw[GN];exact AY.sub N9 (by walk_at "l_mem")),by assumption,by assumption⟩)
    |((with_reducible show Q9 _ _);refine hq9 _ _ ?_;(try dsimp only))
    |walk_at "go")
 refine exs4 ?_;with_reducible refine let_mvar%?zq4:=(λs8 n4 ol3 txt o=>?_:kQ _);LU JS (UR:ES _ (type_of%?zq4)) (?zq4 _ _ _ _ _);rintro⟨hqn,e8,F8,N8,o8,b8⟩
 (try dsimp only)
 rw[BF,BF] at N8
 (try dsimp only[AE.map] at N8)
 repeat'(first
    |((with_reducible show AI _ _ (DK (.builtin "list.pop") _) _ _ _);(try dsimp only);(with_reducible show AI _ _ (DK _ [.ref pr]) _ _ _);(rename Fr ..=>F9);(rename AY _ _ _ _=>N9);refine nG F9 N9 (by walk_at "l_upd") (hz1 hl3) ?_;clear F9 N9;walk_at "eps";rename_i h9;intro F9 N9;(try dsimp only))
    |((with_reducible show AI _ _ (DK (.builtin "list.pop") _) _ _ _);(try dsimp only);(with_reducible show AI _ _ (DK _ [.ref de]) _ _ _);(rename Fr ..=>F9);(rename AY _ _ _ _=>N9);refine nG F9 N9 (by walk_at "l_upd") (hz1 (by(rw[AN];exact hl1))) ?_;clear F9 N9;walk_at "eps";rename_i h9;intro F9 N9;(try dsimp only))
    |((with_reducible show AI _ _ (DK (.builtin "list.pop") _) _ _ _);(try dsimp only);(with_reducible show AI _ _ (DK _ [.ref ns]) _ _ _);(rename Fr ..=>F9);(rename AY _ _ _ _=>N9);refine nG F9 N9 (by walk_at "l_upd") (hz1 (by(rw[AN];exact hl2))) ?_;clear F9 N9;walk_at "eps";rename_i h9;intro F9 N9;(try dsimp only))
    |((with_reducible show AI _ _ (setAttr (.ref x) _ _) _ _ _);k_dflt (refine' Ft ?k1 ?k2 ?k3 ?k4 ?k5 ?k6 ?k7 ?k8 ?k9 ?k10 ?k11 ?k12 ?k13 ?_;(case k1=>k_asm);(case k2=>k_asm);(case k3=>k_asm);(case k4=>k_inst);(case k5=>exact rfl);(case k6=>k_is);(case k7=>k_is);(case k8=>k_is);(case k9=>k_is);(case k10=>k_get);(case k11=>exact put_rd);(case k12=>walk_at "l_upd");(case k13=>exact CP rfl);k_whole;walk_at "eps";rename_i h9;intro F9 N9;(try k_sweep)))
    |((with_reducible show AI _ _ (DK (.builtin "len") [.ref pr]) _ _ _);refine call_len_list ⟨_,GB (by k_asm) (by k_mem),rfl,_,rfl⟩ (RE (by(rw[CG,BI];exact(Nl λhn1=>fk [_] (.e V0 (.k 1000) (.e (.s (.k 16777216)) V0 K0)) rfl hl3 hn1)))) ?_;(try dsimp only))
    |((with_reducible show Q9 _ _);refine hq9 _ _ ?_;(try dsimp only))
    |walk_at "go")
 rename AY _ _ _ _=>N9
 rename Fr ..=>F9
 refine leaveM_ F9 (AY.sub N9 (by walk_at "l_mem")) o8 b8 λH'=>hN _ n3 n4 ol3 txt o _ hqn ?_ e8 H';rw[CZ.eq_iff_iff,TT,HI,CG];lia
end
section
open PySem.Builtin PySem.Builtin.Str PySem.Builtin.Int
def NY(q:Pr):Prop:=q.1.length≤100∧q.2.length≤200∧(RD q.1).length≤1000∧q.2≠AW
theorem mN{q:Pr}{l:AE (AE Pr)}:q∈flat l↔∃a∈l,q∈a:=by
 unfold flat;simp[AE.mem_flatten]
theorem ID(l:AE (AE Pr))(a:AE Pr):flat (l++[a])=a++flat l:=by
 unfold flat;simp
theorem QO{α:Type}{l:AE α}(h:1≤l.length):∃b t,l=b++[t]:=by
 rcases MO l with rfl|⟨b,t,rfl⟩
 ·simp at h
 ·exact⟨b,t,by rw[MN]⟩
structure Fit (n:CC) (w:WS):Prop where
 d1:w.data.length≤n
 d2:∀d∈w.data,d.length≤2
 o1:w.out.length+(if w.data=[] then 0 else 1)≤4*n
 l1:w.decl.length=w.pre.length
 l2:w.nss.length=w.pre.length+1
 l3:w.pre.length≤n+1
 l4:1≤w.pre.length
 f1:(flat w.decl).length≤4*n+1
 f2:(flat w.nss).length≤n+7
 g1:∀q∈flat w.decl,NY q
 g2:∀q∈flat w.nss,NY q
def iN(w:WS)(n:AX):Prop:=OS n=BC∧known (flat w.nss) (cutName n).1
noncomputable def JB(w:WS):DC→Prop
 |.start tag attrs=>(tag::attrs.map (·.1)).Nodup∧attrs.length≤3∧(∀n∈tag::attrs.map (·.1),iN w n∧(cutName n).1≠AW)∧∀a∈attrs,a.2.length≤100∧(RD a.2).length≤1000
 |.stop tag=>iN w tag∧2≤w.pre.length∧w.seen=BC∧(cutName tag).1≠AW∧(scan (cutName tag).1 (flat w.decl) []).1≠BN
 |.data x=>x.length≤2
 |.comment x=>x.length≤2∧(OI x).length≤1000∧w.seen=BC
 |.pi x=>x.length≤2∧(OI x).length≤1000∧w.seen=BC∧((x.length:EE) !=0)=BC
 |.sns p u=>NY (u,p)
theorem lQ(k:KS)(d:AE AX):(k.flush d).length≤if d=[] then 0 else 1:=by
 split
 ·rename_i e;rw[e,ZQ];exact CR _
 ·exact OQ _ _
theorem vA{w:WS}{tag:AX}{attrs:AE Pr}(h:∀n∈tag::attrs.map (·.1),iN w n∧(cutName n).1≠AW) :
  (∀q∈(w.core.names tag attrs).1,q∈flat w.nss)∧(w.core.names tag attrs).1.length≤attrs.length+1:=by
 have hi:=KE (flat w.decl) (flat w.nss) (FJ GH (tag::attrs.map (·.1))) [] [] (λn hn=>(h n ((DU _ _).mem_iff.mp hn)).1.2)
 refine⟨λq hq=>?_,?_⟩
 ·rcases hi.2.1 q hq with z|z
  ·exact nomatch z
  ·exact z
 ·have h2:=(DU GH (tag::attrs.map (·.1))).length_eq
  have h3:=hi.2.2;simp at h2 h3;show(declare (flat w.decl) (flat w.nss) (FJ GH (tag::attrs.map (·.1))) [] []).1.length≤_
  exact(Nl λhn1=>fk [_,_,_] (.e V0 (.s V1) (.e V2 V0 (.e (.a (.s V1) K1) V2 K0))) rfl (El h2) h3 hn1)
theorem fB(lv:AE Pr)(ps:AE (AX×Parsed))(tag:AX)(attrs:AE Pr):(KH lv ps tag attrs).length≤3:=by
 unfold KH;split<;>simp
theorem Fit.tell{n:CC}{w:WS}(h:Fit n w){c:DC}(hc:JB w c):Fit (n+1) (w.tell c):=by
 obtain⟨d1,d2,o1,l1,l2,l3,l4,f1,f2,g1,g2⟩:=h;have hfl:=lQ w.core w.data;generalize hdz:(if w.data=[] then 0 else 1)=dz at o1 hfl
 cases c with
 |start tag attrs =>
  obtain⟨c1,c2,c3,c4⟩:=hc;obtain⟨n1,n2⟩:=vA c3;have hp:=fB (w.core.names tag attrs).1 (w.core.names tag attrs).2 tag attrs;refine⟨EH _,(λ_ z=>nomatch z),?_,?_,?_,?_,?_,?_,?_,?_,?_⟩
  ·show(w.out++(w.core.flush w.data++KH _ _ tag attrs)).length+(if ([]:AE AX)=[] then 0 else 1)≤_
   rw[BD,BD,DJ rfl];exact(BJ λhn1=>fk [_,_,_,_,_] (.c 1 (.a (.v 0) (.v 1)) (.m 4 (.v 2)) (.c 1 (.v 3) (.v 1) (.c 1 (.v 4) (.k 3) (.c 1 (.a (.m 4 (.a (.v 2) (.k 1))) (.k 1)) (.a (.a (.v 0) (.a (.v 3) (.v 4))) (.k 0)) (.k 0))))) rfl o1 hfl hp hn1)
  ·show(w.decl++[_]).length=(w.pre++[_]).length
   simp[l1]
  ·show(w.nss++[_]).length=(w.pre++[_]).length+1
   simp[l2]
  ·show(w.pre++[_]).length≤_
   simp;exact l3
  ·show 1≤(w.pre++[_]).length
   simp
  ·show(flat (w.decl++[_])).length≤_
   rw[ID,BD];exact(Nl λhn1=>fk [_,_,_,_] (.e V0 (.a (.m 4 V1) K1) (.e V2 (.k 3) (.e V3 (.s V2) (.e (.a (.a (.m 4 (.s V1)) K1) K1) (.a V3 V0) K0)))) rfl f1 c2 n2 hn1)
  ·show(flat (w.nss++[[]])).length≤_
   rw[ID,DB];exact(Nl λhn1=>fk [_,_] (.e V0 (.a V1 (.k 7)) (.e (.a (.a (.s V1) (.k 7)) K1) V0 K0)) rfl f2 hn1)
  ·show ∀q∈flat (w.decl++[_]),NY q
   intro q hq;rw[ID] at hq;rcases AT.mp hq with z|z
   ·exact g2 q (n1 q z)
   ·exact g1 q z
  ·show ∀q∈flat (w.nss++[[]]),NY q
   rw[ID,DB];exact g2
 |stop tag =>
  obtain⟨c1,c2,c3,_⟩:=hc
  obtain⟨b1,t1,e1⟩:=QO (l:=w.decl) (by exact(Nl λhn1=>fk [_,_] (.e V0 V1 (.e (.k 2) V0 (.e (.s V1) K1 K0))) rfl (Es l1) c2 hn1))
  obtain⟨b2,t2,e2⟩:=QO (l:=w.nss) (by exact(Nl λhn1=>fk [_,_] (.e (.s V0) V1 (.e (.s V1) K1 K0)) rfl (Es l2) hn1))
  rw[e1,ID] at f1 g1;rw[e2,ID] at f2 g2;rw[BD] at f1 f2;refine⟨EH _,(λ_ z=>nomatch z),?_,?_,?_,?_,?_,?_,?_,?_,?_⟩
  ·show(w.out++(w.core.flush w.data++[_])).length+(if ([]:AE AX)=[] then 0 else 1)≤_
   rw[BD,BD,DJ rfl];simp only[CD,GA];exact(BJ λhn1=>fk [_,_,_,_] (.c 1 (.a (.v 0) (.v 1)) (.m 4 (.v 2)) (.c 1 (.v 3) (.v 1) (.c 1 (.a (.m 4 (.a (.v 2) (.k 1))) (.k 1)) (.a (.a (.v 0) (.a (.v 3) (.a (.k 0) (.k 1)))) (.k 0)) (.k 0)))) rfl o1 hfl hn1)
  ·show w.decl.dropLast.length=w.pre.dropLast.length
   simp[l1]
  ·show w.nss.dropLast.length=w.pre.dropLast.length+1
   simp[l2];exact(DG (Nl λhn2=>fk [_,_] (.e (.a (.s V0) K1) V1 (.e V1 (.s V0) K0)) rfl hn2 Ln.sba) (Nl λhn3=>fk [_,_] (.e (.s V0) (.s V1) (.e (.s V1) V0 K0)) rfl hn3 (ET (fP l4))))
  ·show w.pre.dropLast.length≤_
   simp;exact(Nl λhn1=>fk [_,_] (.e V0 (.s V1) (.e (.a (.a (.a (.s V1) K1) K1) K1) V0 K0)) rfl l3 hn1)
  ·show 1≤w.pre.dropLast.length
   simp;exact(Nl λhn1=>fk [_,_] (.e (.k 2) V0 (.e (.s V1) K1 (.e V0 (.s V1) K0))) rfl c2 hn1 Ln.sba)
  ·show(flat w.decl.dropLast).length≤_
   rw[e1,DT];exact(Nl λhn1=>fk [_,_,_] (.e (.a V0 V1) (.a (.m 4 V2) K1) (.e (.a (.a (.m 4 (.s V2)) K1) K1) V1 K0)) rfl f1 hn1)
  ·show(flat w.nss.dropLast).length≤_
   rw[e2,DT];exact(Nl λhn1=>fk [_,_,_] (.e (.a V0 V1) (.a V2 (.k 7)) (.e (.a (.a (.s V2) (.k 7)) K1) V1 K0)) rfl f2 hn1)
  ·show ∀q∈flat w.decl.dropLast,NY q
   rw[e1,DT];exact λq hq=>g1 q (Mr _ hq)
  ·show ∀q∈flat w.nss.dropLast,NY q
   rw[e2,DT];exact λq hq=>g2 q (Mr _ hq)
 |data x =>
  refine⟨?_,?_,?_,l1,l2,PE l3,l4,AQ f1 (by exact(Nl λhn1=>fk [_] (.e (.a (.a (.m 4 (.s V0)) K1) K1) (.a (.m 4 V0) K1) K0) rfl hn1)),AQ f2 (by exact(Nl λhn1=>fk [_] (.e (.a (.a (.s V0) (.k 7)) K1) (.a V0 (.k 7)) K0) rfl hn1)),g1,g2⟩
  ·show(w.data++[x]).length≤_
   simp;exact d1
  ·show ∀d∈w.data++[x],d.length≤2
   intro d hd;rcases AT.mp hd with z|z
   ·exact d2 d z
   ·rw[BB.mp z];exact hc
  ·show(w.out++[]).length+(if w.data++[x]=[] then 0 else 1)≤_
   rw[CQ];split<;>omega
 |comment x =>
  refine⟨?_,?_,?_,l1,l2,PE l3,l4,AQ f1 (by exact(Nl λhn1=>fk [_] (.e (.a (.a (.m 4 (.s V0)) K1) K1) (.a (.m 4 V0) K1) K0) rfl hn1)),AQ f2 (by exact(Nl λhn1=>fk [_] (.e (.a (.a (.s V0) (.k 7)) K1) (.a V0 (.k 7)) K0) rfl hn1)),g1,g2⟩
  ·show(if w.core.done=BC then w.data else []).length≤_
   split
   ·exact(Nl λhn1=>fk [_,_] (.e V0 V1 (.e (.a (.s V1) K1) V0 K0)) rfl d1 hn1)
   ·exact EH _
  ·show ∀d∈(if w.core.done=BC then w.data else []),d.length≤2
   split
   ·exact d2
   ·exact λ_ z=>nomatch z
  ·show(w.out++(if w.core.done=BC then _ else w.core.flush w.data++[_])).length+(if (if w.core.done=BC then w.data else [])=[] then 0 else 1)≤_
   split
   ·rw[hdz,BD];simp only[CD,GA];exact(BJ λhn1=>fk [_,_,_] (.c 1 (.a (.v 0) (.v 1)) (.m 4 (.v 2)) (.c 1 (.a (.m 4 (.a (.v 2) (.k 1))) (.k 1)) (.a (.a (.v 0) (.a (.a (.k 0) (.k 1)) (.k 1))) (.v 1)) (.k 0))) rfl o1 hn1)
   ·rw[DJ rfl,BD,BD];simp only[CD,GA];exact(BJ λhn1=>fk [_,_,_,_] (.c 1 (.a (.v 0) (.v 1)) (.m 4 (.v 2)) (.c 1 (.v 3) (.v 1) (.c 1 (.a (.m 4 (.a (.v 2) (.k 1))) (.k 1)) (.a (.a (.v 0) (.a (.v 3) (.a (.k 0) (.k 1)))) (.k 0)) (.k 0)))) rfl o1 hfl hn1)
 |pi x =>
  refine⟨?_,?_,?_,l1,l2,PE l3,l4,AQ f1 (by exact(Nl λhn1=>fk [_] (.e (.a (.a (.m 4 (.s V0)) K1) K1) (.a (.m 4 V0) K1) K0) rfl hn1)),AQ f2 (by exact(Nl λhn1=>fk [_] (.e (.a (.a (.s V0) (.k 7)) K1) (.a V0 (.k 7)) K0) rfl hn1)),g1,g2⟩
  ·show(if w.core.done=BC then w.data else []).length≤_
   split
   ·exact(Nl λhn1=>fk [_,_] (.e V0 V1 (.e (.a (.s V1) K1) V0 K0)) rfl d1 hn1)
   ·exact EH _
  ·show ∀d∈(if w.core.done=BC then w.data else []),d.length≤2
   split
   ·exact d2
   ·exact λ_ z=>nomatch z
  ·show(w.out++(if w.core.done=BC then _ else w.core.flush w.data++[_])).length+(if (if w.core.done=BC then w.data else [])=[] then 0 else 1)≤_
   split
   ·rw[hdz,BD];simp only[CD,GA];exact(BJ λhn1=>fk [_,_,_] (.c 1 (.a (.v 0) (.v 1)) (.m 4 (.v 2)) (.c 1 (.a (.m 4 (.a (.v 2) (.k 1))) (.k 1)) (.a (.a (.v 0) (.a (.a (.k 0) (.k 1)) (.k 1))) (.v 1)) (.k 0))) rfl o1 hn1)
   ·rw[DJ rfl,BD,BD];simp only[CD,GA];exact(BJ λhn1=>fk [_,_,_,_] (.c 1 (.a (.v 0) (.v 1)) (.m 4 (.v 2)) (.c 1 (.v 3) (.v 1) (.c 1 (.a (.m 4 (.a (.v 2) (.k 1))) (.k 1)) (.a (.a (.v 0) (.a (.v 3) (.a (.k 0) (.k 1)))) (.k 0)) (.k 0)))) rfl o1 hfl hn1)
 |sns p u =>
  obtain⟨b2,t2,e2⟩:=QO (l:=w.nss) (by exact(Nl λhn1=>fk [_,_] (.e (.s V0) V1 (.e (.s V1) K1 K0)) rfl (Es l2) hn1))
  have e3:NZ (u,p) w.nss=b2++[t2++[(u,p)]]:=by rw[e2,MY]
  rw[e2,ID] at f2 g2;rw[BD] at f2;refine⟨EH _,(λ_ z=>nomatch z),?_,l1,?_,PE l3,l4,AQ f1 (by exact(Nl λhn1=>fk [_] (.e (.a (.a (.m 4 (.s V0)) K1) K1) (.a (.m 4 V0) K1) K0) rfl hn1)),?_,g1,?_⟩
  ·show(w.out++w.core.flush w.data).length+(if ([]:AE AX)=[] then 0 else 1)≤_
   rw[BD,DJ rfl];exact(BJ λhn1=>fk [_,_,_,_] (.c 1 (.a (.v 0) (.v 1)) (.m 4 (.v 2)) (.c 1 (.v 3) (.v 1) (.c 1 (.a (.m 4 (.a (.v 2) (.k 1))) (.k 1)) (.a (.a (.v 0) (.v 3)) (.k 0)) (.k 0)))) rfl o1 hfl hn1)
  ·show(NZ (u,p) w.nss).length=w.pre.length+1
   rw[e3,← l2,e2];simp
  ·show(flat (NZ (u,p) w.nss)).length≤_
   rw[e3,ID];simp;exact(Nl λhn1=>fk [_,_,_] (.e (.a V0 V1) (.a V2 (.k 7)) (.e (.a (.a (.s V2) (.k 7)) K1) (.a V0 (.s V1)) K0)) rfl f2 hn1)
  ·show ∀q∈flat (NZ (u,p) w.nss),NY q
   rw[e3,ID];intro q hq;simp only[AT,BB] at hq;rcases hq with(z|rfl)|z
   ·exact g2 q (Ml _ z)
   ·exact hc
   ·exact g2 q (Mr _ z)
theorem Fit.hush{n:CC}{w:WS}(h:Fit n w):Fit n w.hush:=by
 refine⟨EH _,(λ_ z=>nomatch z),?_,h.l1,h.l2,h.l3,h.l4,h.f1,h.f2,h.g1,h.g2⟩;show(w.out++w.core.flush w.data).length+(if ([]:AE AX)=[] then 0 else 1)≤_;rw[BD,DJ rfl];exact AQ (Ge (lQ _ _) _) h.o1
theorem Fit.o2{n:CC}{w:WS}(h:Fit n w):w.out.length≤4*n:=AQ (CC.le_add_right _ _) h.o1
end
section
open PySem.Builtin PySem.Builtin.Str PySem.Builtin.Int
theorem tW{n:CC}{w:WS}(h:Fit n w)(hn:n≤100):PZ AW w.data=BC∧(FW AW w.data).length≤2000:=by
 have hb:∀l:AE AX,(∀d∈l,d.length≤2)→(l.map (·.length)).sum≤2*l.length:=by
  intro l
  induction l with
  |nil=>intro _;simp
  |cons q l ih =>
   intro h
   have:=ih λr hr=>h r (.tail _ hr)
   have h2:=h q (.head _)
   simp only[EC,AE.sum_cons,CD]
   exact(Nl λhn1=>fk [_,_,_] (.e V0 (.m 2 V1) (.e V2 (.k 2) (.e (.a (.m 2 (.s V1)) K1) (.a V2 V0) K0))) rfl this h2 hn1)
 have h2:=hb w.data h.d2;have h1:=h.d1;constructor
 ·have:=joinOk_filter (sep:=AW) (ss:=w.data) (pz:=λ_=>BC) (by exact(Nl λhn1=>fk [_,_,_] (.c 3 V0 (.k 100) (.e V1 (.m 2 V2) (.c 3 V2 V0 (.e (.s (.k 1048576)) (.a V1 V2) K0)))) rfl hn h2 h1 hn1)) (by decide)
  rw[cM.mpr (λ_ _=>rfl)] at this;simpa using this
 ·have h3:(FW AW w.data).length≤(w.data.map (·.length)).sum+w.data.length*AW.length:=by
   show(Ha AW w.data).length≤_;rw[StrLaws.glued_eq_join];exact StrLaws.join_length_le AW w.data
  have h4:AW.length=0:=rfl;rw[h4] at h3
  exact(Nl λhn1=>fk [_,_,_,_] (.c 2 V0 (.k 100) (.e V1 (.m 2 V2) (.c 2 V2 V0 (.e V3 (.a V1 (.w V2 0)) (.e (.s (.k 2000)) V3 K0))))) rfl hn h2 h1 h3 hn1)
end
section

set_option genSizeOf false in
set_option genInjectivity false in
structure FD where
 (dx wr da de ns pm pr out:AH)
 hsh:CC→EE
 tkn:CC→DW
 (ep n1 n2 nde nns npr:CC)
 (ds ol:AE (AX×DW))
 (dlv nlv:AE (AH×CE AC))
 rest:AE (AH×CY)
 rw:CZ
 oM:CY
 pq:AE (AX×(AX×DW))
 cap:CC
theorem RQ:FV FD:=⟨⟨0,0,0,0,0,0,0,0,λ_=>0,λ_=>default,0,0,0,0,0,0,[],[],[],[],[],AU,default,[],0⟩⟩
theorem jL:FV WS:=⟨⟨AU,AU,[],[],[],[],[]⟩⟩
theorem eB:FV DC:=⟨.data AW⟩
noncomputable abbrev FD.base(f:FD)(w:WS)(x:AH):AE (AH×CY):=[(x,CV 143 f.dx),(f.dx,CK (wd f.hsh f.tkn (.bool BC) (.bool AU) .none .none (.bool f.rw) .none .none .none f.wr f.da f.de f.ns f.pm f.pr w.seen w.done 0) f.ep),(f.da,listOf (AF f.ds).toArray f.n1),(f.out,listOf (AF f.ol).toArray f.n2),(f.wr,DZ f.out),(f.de,listOf (f.dlv.map λp=>.ref p.1).toArray f.nde),(f.ns,listOf (f.nlv.map λp=>.ref p.1).toArray f.nns),(f.pr,listOf (w.pre.map .bool).toArray f.npr),(f.pm,f.oM)]
noncomputable abbrev FD.own(f:FD)(w:WS)(x:AH):AE (AH×CY):=[(x,CV 143 f.dx),(f.dx,CK (wd f.hsh f.tkn (.bool BC) (.bool AU) .none .none (.bool f.rw) .none .none .none f.wr f.da f.de f.ns f.pm f.pr w.seen w.done 0) f.ep),(f.da,listOf (AF f.ds).toArray f.n1),(f.out,listOf (AF f.ol).toArray f.n2),(f.wr,DZ f.out),(f.de,listOf (f.dlv.map λp=>.ref p.1).toArray f.nde),(f.ns,listOf (f.nlv.map λp=>.ref p.1).toArray f.nns),(f.pr,listOf (w.pre.map .bool).toArray f.npr),(f.pm,f.oM)]++f.rest
noncomputable abbrev FD.eight(f:FD)(x:AH):AE AH:=[x,f.dx,f.da,f.out,f.wr,f.de,f.ns,f.pr,f.pm]
abbrev FD.Off(f:FD)(x:AH)(tabs:AE (AH×CY)):Prop:=∀r∈tabs,r.1∉f.eight x∧∀q∈f.rest,r.1≠q.1
noncomputable def FD.ks(f:FD):AE AX:=f.pq.map (·.1)
noncomputable abbrev FD.key(f:FD):AH×CZ×CC×AE AX:=(f.out,f.rw,f.cap,f.ks)
structure More (W:BU) (rw:CZ) (nlv:AE (AH×CE AC)) (cap:CC) (pm:AH) (oM:CY) (pq:AE (AX×(AX×DW))) (nss:AE (AE Pr)) (k:CC):Prop where
 nn:rw=BC→nlv.length=k
 cap:∀p∈nlv,p.2.size≤cap
 pro:rw=BC→∃a b j,nss=a::b::HN j []
 dic:HY rw_dn0283_07.row.prog W oM pq
 val:PqAt rw (flat nss) pq pq
 sys:(pm==FB)=AU
 off:rw=AU→pq=[]
structure FD.Is (W:BU) (f:FD) (w:WS) (x:AH):Prop where
 data:f.ds.map (·.1)=w.data
 out:f.ol.map (·.1)=w.out
 dl:∀p∈f.dlv,∃n,(p.1,listOf p.2 n)∈f.rest
 nl:∀p∈f.nlv,∃n,(p.1,listOf p.2 n)∈f.rest
 dp:All2 (λ(p:AH×CE AC)l=>All2 (GP f.rest) p.2.toList l) f.dlv w.decl
 np:f.rw=AU→All2 (λ(p:AH×CE AC)l=>All2 (GP f.rest) p.2.toList l) f.nlv w.nss
 nd:(f.eight x).Nodup
 off:∀r∈f.rest,r.1∉f.eight x
 ndl:(f.dlv.map (·.1)++f.nlv.map (·.1)).Nodup
 more:More W f.rw f.nlv f.cap f.pm f.oM f.pq w.nss w.pre.length
section
variable{W:BU}{f:FD}{w:WS}{x:AH}{tabs:AE (AH×CY)}{n:CC}
theorem FD.Is.pre(hI:f.Is W w x)(hT:f.Off x tabs)(k:CC):(∀q∈(f.base w x).take k,q∈f.own w x++tabs)∧(∀q∈(f.base w x).drop k++(f.rest++tabs),q∈f.own w x++tabs)∧(∀q∈(f.base w x).drop k++(f.rest++tabs),q.1∉((f.base w x).take k).map (·.1)):=by
 have e8:f.eight x=(f.base w x).map (·.1):=rfl;have nd:=hI.nd;rw[e8,← JW k (f.base w x),BF] at nd;refine⟨λq hq=>Ml _ (Ml _ (QS hq)),λq hq=>?_,λq hq z=>?_⟩
 ·rcases AT.mp hq with h|h
  ·exact Ml _ (Ml _ (Fi h))
  ·rcases AT.mp h with h|h
   ·exact Ml _ (Mr _ h)
   ·exact Mr _ h
 ·have z8:q.1∈f.eight x:=by
   obtain⟨r,hr,e⟩:=CO.mp z
   rw[← e,e8];exact BV (QS hr)
  rcases AT.mp hq with h|h
  ·exact(DP.mp nd).2.2 _ z _ (BV h) rfl
  ·rcases AT.mp h with h|h
   ·exact hI.off q h z8
   ·exact(hT q h).1 z8
theorem FD.Is.preN(hI:f.Is W w x)(hT:f.Off x tabs)(k:CC){nl:AH}{o:CY}(hnl:(nl,o)∈f.rest){filt:AE (AH×CY)}(hout:∀r∈filt,r∈f.rest∧r.1≠nl) :
  (∀q∈(f.base w x).take k++[(nl,o)],q∈f.own w x++tabs)∧(∀q∈(f.base w x).drop k++(filt++tabs),q∈f.own w x++tabs)∧(∀q∈(f.base w x).drop k++(filt++tabs),q.1∉((f.base w x).take k++[(nl,o)]).map (·.1)):=by
 obtain⟨p1,p2,p3⟩:=hI.pre hT k
 have up:∀q∈(f.base w x).drop k++(filt++tabs),q∈(f.base w x).drop k++(f.rest++tabs)∧q.1≠nl:=λq hq=>by
  rcases AT.mp hq with h|h
  ·refine⟨Ml _ h,λe=>hI.off _ hnl ?_⟩
   show nl∈f.eight x
   rw[← e];exact BV (f:=(·.1)) (l:=f.base w x) (Fi h)
  ·rcases AT.mp h with h|h
   ·exact⟨Mr _ (Ml _ (hout q h).1),(hout q h).2⟩
   ·exact⟨Mr _ (Mr _ h),(hT q h).2 _ hnl⟩
 refine⟨λq hq=>?_,λq hq=>p2 q (up q hq).1,λq hq z=>?_⟩
 ·rcases AT.mp hq with h|h
  ·exact p1 q h
  ·rw[BB.mp h];exact Ml _ (Mr _ hnl)
 ·rw[BF] at z
  rcases AT.mp z with z|z
  ·exact p3 q (up q hq).1 z
  ·exact(up q hq).2 (BB.mp z)
theorem FD.Is.bounds(hI:f.Is W w x)(hf:Fit n w)(hn:n≤100):PZ AW (f.ds.map (·.1))=BC∧(AF f.ds).toArray.size≤DA∧(FW AW (f.ds.map (·.1))).length≤2000∧(AF f.ol).toArray.size≤DA∧f.ol.length≤400:=by
 have h1:=tW hf hn;have h2:=hf.d1;have h3:=hf.o2;rw[← hI.data] at h1;rw[← hI.data,AN] at h2;rw[← hI.out,AN] at h3
 have e:∀l:AE (AX×DW),(AF l).toArray.size=l.length:=λl=>by simp[AF]
 rw[e,e,BI];exact⟨h1.1,by exact(Nl λhn1=>fk [_,_] (.e V0 (.k 100) (.e V1 V0 (.e (.s (.k 16777216)) V1 K0))) rfl hn h2 hn1),h1.2,by exact(Nl λhn1=>fk [_,_] (.c 4 V0 (.k 100) (.e V1 (.m 4 V0) (.e (.s (.k 16777216)) V1 K0))) rfl hn h3 hn1),by exact(Nl λhn1=>fk [_,_] (.c 4 V0 (.k 100) (.e V1 (.m 4 V0) (.e (.s (.k 400)) V1 K0))) rfl hn h3 hn1)⟩
theorem FD.Is.nl1(hI:f.Is W w x)(hf:Fit n w):1≤f.nlv.length∧f.nlv.length≤w.pre.length+1:=by
 by_cases h:f.rw=BC
 ·rw[hI.more.nn h];exact⟨hf.l4,QW _⟩
 ·have h':f.rw=AU:=by revert h;cases f.rw<;>simp
  rw[(hI.np h').length,hf.l2];exact⟨EB _,CR _⟩
theorem Fit.lastOf(hf:Fit n w):∃b pv,w.pre=b++[pv]∧w.core.last=pv∧w.pre.map BY=b.map BY++[BY pv]:=by
 obtain⟨b,pv,e⟩:=QO hf.l4;exact⟨b,pv,e,by unfold KS.last WS.core;rw[e];simp[UD],by rw[e];simp⟩
theorem FD.Is.nd3(hI:f.Is W w x):([x,f.dx,f.da]:AE AH).Nodup:=TL (iL 3 (f.eight x)) hI.nd
theorem FD.Is.nd5(hI:f.Is W w x):([x,f.dx,f.da,f.out,f.wr]:AE AH).Nodup:=TL (iL 5 (f.eight x)) hI.nd
theorem FD.Is.nd4(hI:f.Is W w x):([x,f.dx,f.out,f.wr]:AE AH).Nodup:=TL (.cons_cons _ (.cons_cons _ (.cons _ (AE.Sublist.refl _)))) hI.nd5
end
theorem PU{l:AE AH}{a:AH}(h:l.Nodup)(ha:a∉l):(l++[a]).Nodup:=DP.mpr ⟨h,(by simp),λb hb c hc e=>ha (by rw[← BB.mp hc,← e];exact hb)⟩
theorem Cv{a b c d e f g h i j:AH}(n8:([a,b,c,d,e,f,g,h]:AE AH).Nodup)(hi:i∉[a,b,c,d,e,f,g,h])(hj:j∉[a,b,c,d,e,f,g,h])(hij:i≠j):([a,b,c,d,e,f,i,g,j,h]:AE AH).Nodup:=by
 have p:([a,b,c,d,e,f,i,g,j,h]:AE AH).Perm ([a,b,c,d,e,f,g,h]++[i]++[j]):=by
  refine .cons _ (.cons _ (.cons _ (.cons _ (.cons _ (.cons _ ?_)))))
  show([i,g,j,h]:AE AH).Perm [g,h,i,j]
  refine(tG _ _ _).trans (.cons _ ?_)
  show([i,j,h]:AE AH).Perm [h,i,j]
  exact(PX (l₁:=[i,j]) (l₂:=[h]))
 refine p.symm.nodup (PU (PU n8 hi) λz=>?_)
 rcases AT.mp z with z|z
 ·exact hj z
 ·exact hij (BB.mp z).symm
end
section

theorem All2.unsnoc{α β:Type}{P:α→β→Prop}{a:α}:∀{l:AE α}{R:AE β},All2 P (l++[a]) R→∃r b,R=r++[b]∧All2 P l r∧P a b:=by
 intro l
 induction l with
 |nil =>
  intro R h
  cases h with
  |cons z t=>cases t;exact⟨[],_,rfl,.nil,z⟩
 |cons c l ih =>
  intro R h
  cases h with
  |cons z h =>
   obtain⟨r,b,e,h1,h2⟩:=ih h;exact⟨_::r,b,BW _ e,.cons z h1,h2⟩
theorem kA{α:Type}{a b c d e:α}:∀q∈[a,b,d,e],q∈[a,b,c,d,e]:=Fc (.head _) (Fc (.tail _ (.head _)) (Fc (.tail _ (.tail _ (.tail _ (.head _)))) (Fc (.tail _ (.tail _ (.tail _ (.tail _ (.head _))))) (λ_ z=>nomatch z))))
theorem sE{a b c d e:AH}(n:([a,b,c,d,e]:AE AH).Nodup):c∉[a,b,d,e]:=by simp at n ⊢;exact⟨BG n.1.2.1,BG n.2.1.1,n.2.2.1.1,n.2.2.1.2⟩
theorem sY{α:Type}{a b c d e:α}{l t:AE α}:∀q∈([a,b,c,d,e]++l)++t,q∈[a,b,d,e]++(c::(l++t)):=Fp (Fp (Fc (.head _) (Fc (.tail _ (.head _)) (Fc (.tail _ (.tail _ (.tail _ (.tail _ (.head _))))) (Fc (.tail _ (.tail _ (.head _))) (Fc (.tail _ (.tail _ (.tail _ (.head _)))) (BA _)))))) (λ_ h=>.tail _ (.tail _ (.tail _ (.tail _ (.tail _ (Ml _ h))))))) (λ_ h=>.tail _ (.tail _ (.tail _ (.tail _ (.tail _ (Mr _ h))))))
theorem US{h:CW}{a l:AH}{o its:CE AC}{k:CC}(g1:h.get? a=AK (DO o))(g2:h.get? l=AK (listOf its k)):a≠l:=λe=>by
 subst e;rw[g1] at g2
 exact absurd (BW Bn (HB g2)) (by simp)
theorem Cc(nl:AH)(l:AE (AH×CY)):∃filt:AE (AH×CY),(∀r∈l,r.1≠nl→r∈filt)∧∀r∈filt,r∈l∧r.1≠nl:=⟨l.filter λr=>decide (r.1≠nl),λr hr e=>JM.mpr ⟨hr,CN e⟩,λr hr=>⟨(JM.mp hr).1,MT (JM.mp hr).2⟩⟩
theorem YD{β:Type}(nb:AE (AH×β)){nl:AH}{i:β}:nl∈(nb++[(nl,i)]).map (·.1):=by simp
theorem Cw{β:Type}{nb:AE (AH×β)}{nl:AH}{i:β}{q:AH×β}(nd:((nb++[(nl,i)]).map (·.1)).Nodup)(hq:q∈nb):q.1≠nl:=by
 rw[BF] at nd;exact λe=>(DP.mp nd).2.2 q.1 (BV (f:=(·.1)) hq) nl (by simp) e
theorem notin9{a b c d e f g h i t:AH}(h1:t≠a)(h2:t≠b)(h3:t≠c)(h4:t≠d)(h5:t≠e)(h6:t≠f)(h7:t≠g)(h8:t≠h)(h9:t≠i):t∉[a,b,c,d,e,f,g,h,i]:=BM h1 (BM h2 (BM h3 (BM h4 (BM h5 (BM h6 (BM h7 (BM h8 (BM h9 GC))))))))
theorem zR{α:Type}{a b c d e f g h i t n:α}{l ts:AE α}:∀q∈([a,b,c,d,e,f,g,h,i]++(t::n::l))++ts,q∈[t,a,b,c,d,e,n]++([f,g,h,i]++(l++ts)):=Fp (Fp (Fc (.tail _ (.head _)) (Fc (.tail _ (.tail _ (.head _))) (Fc (.tail _ (.tail _ (.tail _ (.head _)))) (Fc (.tail _ (.tail _ (.tail _ (.tail _ (.head _))))) (Fc (.tail _ (.tail _ (.tail _ (.tail _ (.tail _ (.head _)))))) (Fc (.tail _ (.tail _ (.tail _ (.tail _ (.tail _ (.tail _ (.tail _ (.head _)))))))) (Fc (.tail _ (.tail _ (.tail _ (.tail _ (.tail _ (.tail _ (.tail _ (.tail _ (.head _))))))))) (Fc (.tail _ (.tail _ (.tail _ (.tail _ (.tail _ (.tail _ (.tail _ (.tail _ (.tail _ (.head _)))))))))) (Fc (.tail _ (.tail _ (.tail _ (.tail _ (.tail _ (.tail _ (.tail _ (.tail _ (.tail _ (.tail _ (.head _))))))))))) (BA _)))))))))) (Fc (.head _) (Fc (.tail _ (.tail _ (.tail _ (.tail _ (.tail _ (.tail _ (.head _))))))) (λ_ h=>.tail _ (.tail _ (.tail _ (.tail _ (.tail _ (.tail _ (.tail _ (.tail _ (.tail _ (.tail _ (.tail _ (show _∈l++ts from Ml _ h))))))))))))))) (λ_ h=>.tail _ (.tail _ (.tail _ (.tail _ (.tail _ (.tail _ (.tail _ (.tail _ (.tail _ (.tail _ (.tail _ (show _∈l++ts from Mr _ h))))))))))))
theorem Dt(b:CZ)(w:WS)(p u:AX):(RU b w p u).seen=w.seen∧(RU b w p u).done=w.done∧(RU b w p u).decl=w.decl∧(RU b w p u).pre=w.pre∧(RU b w p u).data=[]∧(RU b w p u).out=w.out++w.core.flush w.data∧(b=BC→(RU b w p u).nss=w.nss)∧(b=AU→(RU b w p u).nss=NZ (u,p) w.nss):=by
 cases b
 ·exact⟨rfl,rfl,rfl,rfl,rfl,rfl,λz=>(by cases z),λ_=>rfl⟩
 ·exact⟨rfl,rfl,rfl,rfl,rfl,rfl,λ_=>rfl,λz=>(by cases z)⟩
theorem Dd{f:FD}{x:AH}{b:CZ}{w:WS}{p u:AX}:f.own (RU b w p u) x=f.own w x:=by cases b<;>rfl
section
variable{W:BU}{A:BQ}{E:AC→AG→Prop}{s:AG}{g:CW}{os:CU}{p:BH}{zw:AE AX}{zt:ER→AM AC}{mg mb:AX→AM AC}{L:AH}{m:AX→AM AC}{Q:AC→AG→Prop}{w:WS}{f:FD}{x:AH}{tabs:AE (AH×CY)}{n:CC}
noncomputable def aZ(W:BU)(A:BQ)(s:AG)(E:AC→AG→Prop)(g:CW)(os:CU)(p:BH)(zw:AE AX)(zt:ER→AM AC)(mg mb:AX→AM AC)(L:AH)(m:AX→AM AC)(Q:AC→AG→Prop)(x:AH)(tabs:AE (AH×CY))(n:CC)(d:AX)(td:DW)(w:WS)(f:FD):Prop :=
 ∀(X:(hd07.heap_1 W.params).In g)(T:VO p zw zt mg mb g)(hh:A.handled=BN)(zq:A.depth<600)(F:Fr g L s.heap m)(N:AY g L s.heap (f.own w x++tabs))(o1:s.os=os)(b1:BP s.gens)(hI:f.Is W w x)(hT:f.Off x tabs)(hf:Fit n w)(hn:n≤100)(hc:JB w (.data d))(h:∀(f':FD)(s':AG),f'.key=f.key→f'.Is W (w.tell (.data d)) x→f'.Off x tabs→Fr g L s'.heap m→AY g L s'.heap (f'.own (w.tell (.data d)) x++tabs)→s'.os=os→BP s'.gens→Q .none s'),AI (BE rw_dn0283_07.row.prog W) A (DK (.ref 90) [.ref x,.str d td]) Q E s
theorem vZ:∀{W A s E g os p zw zt mg mb L m Q x tabs n d td w f},aZ W A s E g os p zw zt mg mb L m Q x tabs n d td w f:=by
 refine @(BK (GM KF)<|@(BK DM<|@(OY DM<|@(HF jL<|@(HF RQ<|let_mvar%?n:=(λW A s E g os p zw zt mg mb L m Q x tabs n d td w f=>?_:∀a b c d e f g h i j k l m n o p q r s t u,aZ a b c d e f g h i j k l m n o p q r s t u);?n _ _ _ _ _ _ _ _ _ _ _ _ _ _ _ _ _ _ _ _ _)))))
 intro X T hh zq F N o1 b1 hI hT hf hn hc h;obtain⟨p1,p2,p3⟩:=hI.pre hT 3;obtain⟨y1,y2,y3,y4,y5⟩:=hI.bounds hf hn;refine GD [(x,CV 143 f.dx),(f.dx,CK (wd f.hsh f.tkn (.bool BC) (.bool AU) .none .none (.bool f.rw) .none .none .none f.wr f.da f.de f.ns f.pm f.pr w.seen w.done 0) f.ep),(f.da,listOf (AF f.ds).toArray f.n1)] ([(f.out,listOf (AF f.ol).toArray f.n2),(f.wr,DZ f.out),(f.de,listOf (f.dlv.map λp=>.ref p.1).toArray f.nde),(f.ns,listOf (f.nlv.map λp=>.ref p.1).toArray f.nns),(f.pr,listOf (w.pre.map .bool).toArray f.npr),(f.pm,f.oM)]++(f.rest++tabs)) F N o1 b1 p1 p2 p3 λg₂ H₂ K₂ r₂ back=>?_;refine tX (X.keeps K₂) (T.keeps K₂) H₂ hh (AZ zq (by decide)) y2 hI.nd3 λs' n3 H'=>?_;obtain⟨F',N',o',b'⟩:=back _ _ H';refine h { f with ds:=f.ds++[(d,td)],n1:=n3 } s' rfl ⟨?_,?_,hI.dl,hI.nl,hI.dp,hI.np,hI.nd,hI.off,hI.ndl,hI.more⟩ hT F' N' o' b'
 ·show(f.ds++[(d,td)]).map (·.1)=w.data++[d]
  rw[BF,hI.data];rfl
 ·show f.ol.map (·.1)=w.out++[]
  rw[CQ];exact hI.out
noncomputable def UQ(W:BU)(A:BQ)(s:AG)(E:AC→AG→Prop)(g:CW)(os:CU)(p:BH)(zw:AE AX)(zt:ER→AM AC)(mg mb:AX→AM AC)(L:AH)(m:AX→AM AC)(Q:AC→AG→Prop)(x:AH)(tabs:AE (AH×CY))(n:CC)(d:AX)(td:DW)(w:WS)(f:FD):Prop :=
 ∀(X:(hd07.heap_1 W.params).In g)(T:VO p zw zt mg mb g)(hh:A.handled=BN)(zq:A.depth<600)(F:Fr g L s.heap m)(N:AY g L s.heap (f.own w x++tabs))(o1:s.os=os)(b1:BP s.gens)(hI:f.Is W w x)(hT:f.Off x tabs)(hf:Fit n w)(hn:n≤100)(hc:JB w (.comment d))(hdn:w.done=AU)(h:∀(f':FD)(s':AG),f'.key=f.key→f'.Is W (w.tell (.comment d)) x→f'.Off x tabs→Fr g L s'.heap m→AY g L s'.heap (f'.own (w.tell (.comment d)) x++tabs)→s'.os=os→BP s'.gens→Q .none s'),AI (BE rw_dn0283_07.row.prog W) A (DK (.ref 133) [.ref x,.str d td]) Q E s
theorem kF:∀{a b c d e f g h i j k l m n o p q r s t u},UQ a b c d e f g h i j k l m n o p q r s t u:=by
 refine @(BK (GM KF)<|@(BK DM<|@(OY DM<|@(HF jL<|@(HF RQ<|let_mvar%?n:=(λW A s E g os p zw zt mg mb L m Q x tabs n d td w f=>?_:∀a b c d e f g h i j k l m n o p q r s t u,UQ a b c d e f g h i j k l m n o p q r s t u);?n _ _ _ _ _ _ _ _ _ _ _ _ _ _ _ _ _ _ _ _ _)))))
 intro X T hh zq F N o1 b1 hI hT hf hn hc hdn h;obtain⟨p1,p2,p3⟩:=hI.pre hT 5;obtain⟨y1,y2,y3,y4,y5⟩:=hI.bounds hf hn;obtain⟨b,pv,epv,hlast,epm⟩:=hf.lastOf;obtain⟨hc1,hc2,hsn⟩:=hc;obtain⟨wsn,wdn,wdecl,wnss,wpre,wdata,wout⟩:=w;obtain rfl:wsn=BC:=hsn;obtain rfl:wdn=AU:=hdn;refine GD [(x,CV 143 f.dx),(f.dx,CK (wd f.hsh f.tkn (.bool BC) (.bool AU) .none .none (.bool f.rw) .none .none .none f.wr f.da f.de f.ns f.pm f.pr BC AU 0) f.ep),(f.da,listOf (AF f.ds).toArray f.n1),(f.out,listOf (AF f.ol).toArray f.n2),(f.wr,DZ f.out)] ([(f.de,listOf (f.dlv.map λp=>.ref p.1).toArray f.nde),(f.ns,listOf (f.nlv.map λp=>.ref p.1).toArray f.nns),(f.pr,listOf (wpre.map .bool).toArray f.npr),(f.pm,f.oM)]++(f.rest++tabs)) F N o1 b1 p1 p2 p3 λg₂ H₂ K₂ r₂ back=>?_
 have hpr:g₂.IsList f.pr (b.map BY++[BY pv]).toArray:=by rw[← epm];exact⟨_,r₂ (f.pr,_) (Ml _ (.tail _ (.tail _ (.head _)))),rfl,_,rfl⟩
 refine iY (X.keeps K₂) (T.keeps K₂) H₂ hh (AZ zq (by decide)) hpr y1 y2 y3 y4 (AQ y5 (by decide)) (AQ hc1 (by decide)) hc2 hI.nd5 λs' n3 n4 ol3 e3 H'=>?_;obtain⟨F',N',o',b'⟩:=back _ _ H';refine h { f with ds:=[],n1:=n3,ol:=ol3,n2:=n4 } s' rfl ⟨?_,?_,hI.dl,hI.nl,hI.dp,hI.np,hI.nd,hI.off,hI.ndl,hI.more⟩ hT F' ?_ o' b'
 ·rfl
 ·show ol3.map (·.1)=wout++(KS.flush ⟨BC,AU,wdecl,wnss,wpre⟩ wdata++["<!--"++OI d++"-->"])
  rw[e3,hI.out,hI.data];rfl
 ·exact N'
noncomputable def iC(W:BU)(A:BQ)(s:AG)(E:AC→AG→Prop)(g:CW)(os:CU)(p:BH)(zw:AE AX)(zt:ER→AM AC)(mg mb:AX→AM AC)(L:AH)(m:AX→AM AC)(Q:AC→AG→Prop)(x:AH)(tabs:AE (AH×CY))(n:CC)(d:AX)(td ti:DW)(w:WS)(f:FD):Prop :=
 ∀(X:(hd07.heap_1 W.params).In g)(T:VO p zw zt mg mb g)(hh:A.handled=BN)(zq:A.depth<600)(F:Fr g L s.heap m)(N:AY g L s.heap (f.own w x++tabs))(o1:s.os=os)(b1:BP s.gens)(hI:f.Is W w x)(hT:f.Off x tabs)(hf:Fit n w)(hn:n≤100)(hc:JB w (.pi d))(hdn:w.done=AU)(h:∀(f':FD)(s':AG),f'.key=f.key→f'.Is W (w.tell (.pi d)) x→f'.Off x tabs→Fr g L s'.heap m→AY g L s'.heap (f'.own (w.tell (.pi d)) x++tabs)→s'.os=os→BP s'.gens→Q .none s'),AI (BE rw_dn0283_07.row.prog W) A (DK (.ref 140) [.ref x,.str "i" ti,.str d td]) Q E s
theorem Dw:∀{a b c d e f g h i j k l m n o p q r s t u v},iC a b c d e f g h i j k l m n o p q r s t u v:=by
 refine @(BK (GM KF)<|@(BK DM<|@(QZ DM<|@(HF jL<|@(HF RQ<|let_mvar%?n:=(λW A s E g os p zw zt mg mb L m Q x tabs n d td ti w f=>?_:∀a b c d e f g h i j k l m n o p q r s t u v,iC a b c d e f g h i j k l m n o p q r s t u v);?n _ _ _ _ _ _ _ _ _ _ _ _ _ _ _ _ _ _ _ _ _ _)))))
 intro X T hh zq F N o1 b1 hI hT hf hn hc hdn h;obtain⟨p1,p2,p3⟩:=hI.pre hT 5;obtain⟨y1,y2,y3,y4,y5⟩:=hI.bounds hf hn;obtain⟨b,pv,epv,hlast,epm⟩:=hf.lastOf;obtain⟨hc1,hc2,hsn,hc5⟩:=hc;obtain⟨wsn,wdn,wdecl,wnss,wpre,wdata,wout⟩:=w;obtain rfl:wsn=BC:=hsn;obtain rfl:wdn=AU:=hdn;refine GD [(x,CV 143 f.dx),(f.dx,CK (wd f.hsh f.tkn (.bool BC) (.bool AU) .none .none (.bool f.rw) .none .none .none f.wr f.da f.de f.ns f.pm f.pr BC AU 0) f.ep),(f.da,listOf (AF f.ds).toArray f.n1),(f.out,listOf (AF f.ol).toArray f.n2),(f.wr,DZ f.out)] ([(f.de,listOf (f.dlv.map λp=>.ref p.1).toArray f.nde),(f.ns,listOf (f.nlv.map λp=>.ref p.1).toArray f.nns),(f.pr,listOf (wpre.map .bool).toArray f.npr),(f.pm,f.oM)]++(f.rest++tabs)) F N o1 b1 p1 p2 p3 λg₂ H₂ K₂ r₂ back=>?_
 have hpr:g₂.IsList f.pr (b.map BY++[BY pv]).toArray:=by rw[← epm];exact⟨_,r₂ (f.pr,_) (Ml _ (.tail _ (.tail _ (.head _)))),rfl,_,rfl⟩
 refine Dg (X.keeps K₂) (T.keeps K₂) H₂ hh (AZ zq (by decide)) hpr y1 y2 y3 y4 (AQ y5 (by decide)) (AQ hc1 (by decide)) hc5 (by decide) hc2 hI.nd5 λs' n3 n4 ol3 e3 H'=>?_;obtain⟨F',N',o',b'⟩:=back _ _ H';refine h { f with ds:=[],n1:=n3,ol:=ol3,n2:=n4 } s' rfl ⟨?_,?_,hI.dl,hI.nl,hI.dp,hI.np,hI.nd,hI.off,hI.ndl,hI.more⟩ hT F' ?_ o' b'
 ·rfl
 ·show ol3.map (·.1)=wout++(KS.flush ⟨BC,AU,wdecl,wnss,wpre⟩ wdata++["<?"++"i"++" "++OI d++"?>"])
  rw[e3,hI.out,hI.data];rfl
 ·exact N'
noncomputable def bB(W:BU)(A:BQ)(s:AG)(E:AC→AG→Prop)(g:CW)(os:CU)(p:BH)(zw:AE AX)(zt:ER→AM AC)(mg mb:AX→AM AC)(L:AH)(m:AX→AM AC)(Q:AC→AG→Prop)(x:AH)(tabs:AE (AH×CY))(n:CC)(d:AX)(td:DW)(w:WS)(f:FD):Prop :=
 ∀(X:(hd07.heap_1 W.params).In g)(T:VO p zw zt mg mb g)(hh:A.handled=BN)(zq:A.depth<600)(F:Fr g L s.heap m)(N:AY g L s.heap (f.own w x++tabs))(o1:s.os=os)(b1:BP s.gens)(hI:f.Is W w x)(hT:f.Off x tabs)(hf:Fit n w)(hn:n≤100)(hc:JB w (.comment d))(hdn:w.done=BC)(h:∀(f':FD)(s':AG),f'.key=f.key→f'.Is W (w.tell (.comment d)) x→f'.Off x tabs→Fr g L s'.heap m→AY g L s'.heap (f'.own (w.tell (.comment d)) x++tabs)→s'.os=os→BP s'.gens→Q .none s'),AI (BE rw_dn0283_07.row.prog W) A (DK (.ref 133) [.ref x,.str d td]) Q E s
theorem wA:∀{a b c d e f g h i j k l m n o p q r s t u},bB a b c d e f g h i j k l m n o p q r s t u:=by
 refine @(BK (GM KF)<|@(BK DM<|@(OY DM<|@(HF jL<|@(HF RQ<|let_mvar%?n:=(λW A s E g os p zw zt mg mb L m Q x tabs n d td w f=>?_:∀a b c d e f g h i j k l m n o p q r s t u,bB a b c d e f g h i j k l m n o p q r s t u);?n _ _ _ _ _ _ _ _ _ _ _ _ _ _ _ _ _ _ _ _ _)))))
 intro X T hh zq F N o1 b1 hI hT hf hn hc hdn h;obtain⟨p1,p2,p3⟩:=hI.pre hT 5;obtain⟨y1,y2,y3,y4,y5⟩:=hI.bounds hf hn;obtain⟨hc1,hc2,hsn⟩:=hc;obtain⟨wsn,wdn,wdecl,wnss,wpre,wdata,wout⟩:=w;obtain rfl:wsn=BC:=hsn;obtain rfl:wdn=BC:=hdn;have nda:=hI.nd5;refine GD [(x,CV 143 f.dx),(f.dx,CK (wd f.hsh f.tkn (.bool BC) (.bool AU) .none .none (.bool f.rw) .none .none .none f.wr f.da f.de f.ns f.pm f.pr BC BC 0) f.ep),(f.out,listOf (AF f.ol).toArray f.n2),(f.wr,DZ f.out)] ([(f.da,listOf (AF f.ds).toArray f.n1),(f.de,listOf (f.dlv.map λp=>.ref p.1).toArray f.nde),(f.ns,listOf (f.nlv.map λp=>.ref p.1).toArray f.nns),(f.pr,listOf (wpre.map .bool).toArray f.npr),(f.pm,f.oM)]++(f.rest++tabs)) F N o1 b1 (λq hq=>p1 q (kA q hq)) (λq hq=>?_) (λq hq z=>?_) λg₂ H₂ K₂ r₂ back=>?_
 ·rcases AP.mp hq with h|h
  ·rw[h];exact p1 _ (.tail _ (.tail _ (.head _)))
  ·exact p2 q h
 ·have z':=kA (c:=f.da) _ z
  rcases AP.mp hq with h|h
  ·rw[h] at z;exact sE nda z
  ·exact p3 q h z'
 refine iX (X.keeps K₂) (T.keeps K₂) H₂ hh (AZ zq (by decide)) (AQ y5 (by decide)) (AQ hc1 (by decide)) hc2 hI.nd4 λs' n4 ol3 e3 H'=>?_;obtain⟨F',N',o',b'⟩:=back _ _ H';refine h { f with ol:=ol3,n2:=n4 } s' rfl ⟨hI.data,?_,hI.dl,hI.nl,hI.dp,hI.np,hI.nd,hI.off,hI.ndl,hI.more⟩ hT F' (AY.sub N' sY) o' b';show ol3.map (·.1)=wout++[AA "\n",AA "<!--"++OI d++AA "-->"];rw[e3,hI.out]
noncomputable def WB(W:BU)(A:BQ)(s:AG)(E:AC→AG→Prop)(g:CW)(os:CU)(p:BH)(zw:AE AX)(zt:ER→AM AC)(mg mb:AX→AM AC)(L:AH)(m:AX→AM AC)(Q:AC→AG→Prop)(x:AH)(tabs:AE (AH×CY))(n:CC)(d:AX)(td ti:DW)(w:WS)(f:FD):Prop :=
 ∀(X:(hd07.heap_1 W.params).In g)(T:VO p zw zt mg mb g)(hh:A.handled=BN)(zq:A.depth<600)(F:Fr g L s.heap m)(N:AY g L s.heap (f.own w x++tabs))(o1:s.os=os)(b1:BP s.gens)(hI:f.Is W w x)(hT:f.Off x tabs)(hf:Fit n w)(hn:n≤100)(hc:JB w (.pi d))(hdn:w.done=BC)(h:∀(f':FD)(s':AG),f'.key=f.key→f'.Is W (w.tell (.pi d)) x→f'.Off x tabs→Fr g L s'.heap m→AY g L s'.heap (f'.own (w.tell (.pi d)) x++tabs)→s'.os=os→BP s'.gens→Q .none s'),AI (BE rw_dn0283_07.row.prog W) A (DK (.ref 140) [.ref x,.str "i" ti,.str d td]) Q E s
theorem oU:∀{a b c d e f g h i j k l m n o p q r s t u v},WB a b c d e f g h i j k l m n o p q r s t u v:=by
 refine @(BK (GM KF)<|@(BK DM<|@(QZ DM<|@(HF jL<|@(HF RQ<|let_mvar%?n:=(λW A s E g os p zw zt mg mb L m Q x tabs n d td ti w f=>?_:∀a b c d e f g h i j k l m n o p q r s t u v,WB a b c d e f g h i j k l m n o p q r s t u v);?n _ _ _ _ _ _ _ _ _ _ _ _ _ _ _ _ _ _ _ _ _ _)))))
 intro X T hh zq F N o1 b1 hI hT hf hn hc hdn h;obtain⟨p1,p2,p3⟩:=hI.pre hT 5;obtain⟨y1,y2,y3,y4,y5⟩:=hI.bounds hf hn;obtain⟨hc1,hc2,hsn,hc5⟩:=hc;obtain⟨wsn,wdn,wdecl,wnss,wpre,wdata,wout⟩:=w;obtain rfl:wsn=BC:=hsn;obtain rfl:wdn=BC:=hdn;have nda:=hI.nd5;refine GD [(x,CV 143 f.dx),(f.dx,CK (wd f.hsh f.tkn (.bool BC) (.bool AU) .none .none (.bool f.rw) .none .none .none f.wr f.da f.de f.ns f.pm f.pr BC BC 0) f.ep),(f.out,listOf (AF f.ol).toArray f.n2),(f.wr,DZ f.out)] ([(f.da,listOf (AF f.ds).toArray f.n1),(f.de,listOf (f.dlv.map λp=>.ref p.1).toArray f.nde),(f.ns,listOf (f.nlv.map λp=>.ref p.1).toArray f.nns),(f.pr,listOf (wpre.map .bool).toArray f.npr),(f.pm,f.oM)]++(f.rest++tabs)) F N o1 b1 (λq hq=>p1 q (kA q hq)) (λq hq=>?_) (λq hq z=>?_) λg₂ H₂ K₂ r₂ back=>?_
 ·rcases AP.mp hq with h|h
  ·rw[h];exact p1 _ (.tail _ (.tail _ (.head _)))
  ·exact p2 q h
 ·have z':=kA (c:=f.da) _ z
  rcases AP.mp hq with h|h
  ·rw[h] at z;exact sE nda z
  ·exact p3 q h z'
 refine Df (X.keeps K₂) (T.keeps K₂) H₂ hh (AZ zq (by decide)) (AQ y5 (by decide)) (AQ hc1 (by decide)) hc5 (by decide) hc2 hI.nd4 λs' n4 ol3 e3 H'=>?_;obtain⟨F',N',o',b'⟩:=back _ _ H';refine h { f with ol:=ol3,n2:=n4 } s' rfl ⟨hI.data,?_,hI.dl,hI.nl,hI.dp,hI.np,hI.nd,hI.off,hI.ndl,hI.more⟩ hT F' (AY.sub N' sY) o' b';show ol3.map (·.1)=wout++[AA "\n",AA "<?"++AA "i"++AA " "++OI d++AA "?>"];rw[e3,hI.out]
noncomputable def fG(W:BU)(A:BQ)(s:AG)(E:AC→AG→Prop)(g:CW)(os:CU)(p:BH)(zw:AE AX)(zt:ER→AM AC)(mg mb:AX→AM AC)(L:AH)(m:AX→AM AC)(Q:AC→AG→Prop)(x:AH)(tabs:AE (AH×CY))(n:CC)(pf uri:AX)(tp tu:DW)(w:WS)(f:FD):Prop :=
 ∀(X:(hd07.heap_1 W.params).In g)(T:VO p zw zt mg mb g)(hh:A.handled=BN)(zq:A.depth<600)(F:Fr g L s.heap m)(N:AY g L s.heap (f.own w x++tabs))(o1:s.os=os)(b1:BP s.gens)(hI:f.Is W w x)(hT:f.Off x tabs)(hf:Fit n w)(hn:n≤100)(hcap:f.cap≤1000)(h:∀(f':FD)(s':AG),f'.key=(f.out,f.rw,f.cap+1,f.ks)→f'.Is W (RU f.rw w pf uri) x→f'.Off x tabs→Fr g L s'.heap m→AY g L s'.heap (f'.own (RU f.rw w pf uri) x++tabs)→s'.os=os→BP s'.gens→Q .none s'),AI (BE rw_dn0283_07.row.prog W) A (DK (.ref 106) [.ref x,.str pf tp,.str uri tu]) Q E s
theorem oV:∀{W A s E g os p zw zt mg mb L m Q x tabs n pf uri tp tu w f},fG W A s E g os p zw zt mg mb L m Q x tabs n pf uri tp tu w f:=by
 refine @(BK (GM KF)<|@(BK DM<|@(RA DM<|@(HF jL<|@(HF RQ<|let_mvar%?n:=(λW A s E g os p zw zt mg mb L m Q x tabs n pf uri tp tu w f=>?_:∀a b c d e f g h i j k l m n o p q r s t u v w,fG a b c d e f g h i j k l m n o p q r s t u v w);?n _ _ _ _ _ _ _ _ _ _ _ _ _ _ _ _ _ _ _ _ _ _ _)))))
 intro X T hh zq F N o1 b1 hI hT hf hn hcap h;obtain⟨y1,y2,y3,y4,y5⟩:=hI.bounds hf hn;obtain⟨b,pv,epv,hlast,epm⟩:=hf.lastOf;have hI0:=hI;obtain⟨i1,i2,i3,i4,i5,i6,nd,off,ndl,more⟩:=hI;obtain⟨nb,⟨nl,its⟩,enl⟩:=QO (l:=f.nlv) (hI0.nl1 hf).1
 have hmnl:(nl,its)∈f.nlv:=by rw[enl];exact Mr _ (.head _)
 obtain⟨cnt,hnl⟩:=i4 (nl,its) hmnl;rw[enl] at ndl;have htup:∀a o,(a,DO o)∈f.rest→a≠nl:=λa o hm=>US (N _ (Ml _ (Mr _ hm))).1 (N _ (Ml _ (Mr _ hnl))).1;obtain⟨filt,hin,hout⟩:=Cc nl f.rest;obtain⟨p1,p2,p3⟩:=hI0.preN hT 5 hnl hout
 have hiz:its.size≤DA:=by rw[BI];exact AQ (more.cap _ hmnl) (AQ hcap (by decide))
 refine GD [(x,CV 143 f.dx),(f.dx,CK (wd f.hsh f.tkn (.bool BC) (.bool AU) .none .none (.bool f.rw) .none .none .none f.wr f.da f.de f.ns f.pm f.pr w.seen w.done 0) f.ep),(f.da,listOf (AF f.ds).toArray f.n1),(f.out,listOf (AF f.ol).toArray f.n2),(f.wr,DZ f.out),(nl,listOf its cnt)] ([(f.de,listOf (f.dlv.map λp=>.ref p.1).toArray f.nde),(f.ns,listOf (f.nlv.map λp=>.ref p.1).toArray f.nns),(f.pr,listOf (w.pre.map .bool).toArray f.npr),(f.pm,f.oM)]++(filt++tabs)) F N o1 b1 p1 p2 p3 λg₂ H₂ K₂ r₂ back=>?_
 have hpr:g₂.IsList f.pr (b.map BY++[BY pv]).toArray:=by rw[← epm];exact⟨_,r₂ (f.pr,_) (Ml _ (.tail _ (.tail _ (.head _)))),rfl,_,rfl⟩
 have hns:g₂.IsList f.ns ((nb.map λp=>AR p.1)++[AR nl]).toArray:=by
  have enm:f.nlv.map (λp=>AR p.1)=(nb.map λp=>AR p.1)++[AR nl]:=by rw[enl,BF];rfl
  rw[← enm];exact⟨_,r₂ (f.ns,_) (Ml _ (.tail _ (.head _))),rfl,_,rfl⟩
 refine gA (X.keeps K₂) (T.keeps K₂) H₂ hh (AZ zq (by decide)) hpr y1 y2 y3 y4 hns hiz (PU hI0.nd5 λz=>off _ hnl (QS (i:=5) z)) λs' n3 n4 ol2 tb l1 l2 l3 l4 l5 l6 e3 H'=>?_;obtain⟨e1,e2,e4,e0,e5,e6,e7,e8⟩:=Dt f.rw w pf uri
 have hne:∀r∈[(f.de,listOf (f.dlv.map λp=>.ref p.1).toArray f.nde),(f.ns,listOf (f.nlv.map λp=>.ref p.1).toArray f.nns),(f.pr,listOf (w.pre.map .bool).toArray f.npr),(f.pm,f.oM)]++(filt++tabs),tb≠r.1:=λr hr=>ZU H' r₂ (.head _) (show(r.1,r.2)∈_ from hr)
 obtain⟨F',N',o',b'⟩:=back _ _ H'
 have enm2:f.nlv.map (λp=>AR p.1)=(nb++[(nl,its.push (.ref tb))]).map λp=>AR p.1:=by rw[enl,BF,BF];rfl
 rw[enm2] at N';have mono:∀{v:AC}{q:Pr},GP f.rest v q→GP ((tb,DO #[.str uri tu,.str pf tp])::(nl,listOf (its.push (.ref tb)) (cnt+1))::filt) v q:=λ⟨a',y1,y2,e,hm⟩=>⟨a',y1,y2,e,.tail _ (.tail _ (hin _ hm (htup _ _ hm)))⟩;refine h { f with ds:=[],n1:=n3,ol:=ol2,n2:=n4,nlv:=nb++[(nl,its.push (.ref tb))],rest:=(tb,DO #[.str uri tu,.str pf tp])::(nl,listOf (its.push (.ref tb)) (cnt+1))::filt,cap:=f.cap+1 } s' rfl ⟨e5.symm,?_,?_,?_,?_,?_,nd,?_,?_,?more⟩ ?_ F' ?nw o' b'
 case nw=>rw[Dd];exact AY.sub N' zR
 case more =>
  refine⟨λhr=>?_,?_,λhr=>?_,more.dic,?_,more.sys,more.off⟩
  ·show(nb++[(nl,its.push (.ref tb))]).length=(RU f.rw w pf uri).pre.length
   have z:=more.nn hr;rw[enl] at z;rw[e0,← z,BD,BD];rfl
  ·show ∀p∈nb++[(nl,its.push (.ref tb))],p.2.size≤f.cap+1
   refine Fp (λq hq=>PE (more.cap q (by rw[enl];exact Ml _ hq))) (Fc ?_ (BA _))
   show(its.push (.ref tb)).size≤f.cap+1
   rw[pM];exact LI (more.cap _ hmnl)
  ·show ∃a b j,(RU f.rw w pf uri).nss=a::b::HN j []
   rw[e7 hr];exact more.pro hr
  ·show PqAt f.rw (flat (RU f.rw w pf uri).nss) f.pq f.pq
   exact⟨λhr=>by rw[e7 hr];exact more.val.v hr,λ_=>rfl⟩
 ·show ol2.map (·.1)=(RU f.rw w pf uri).out
  rw[e3,i2,i1,e6];rfl
 ·intro q hq
  obtain⟨k,hk⟩:=i3 q hq;exact⟨k,.tail _ (.tail _ (hin _ hk λe=>(DP.mp ndl).2.2 q.1 (BV (f:=(·.1)) hq) nl (YD nb) e))⟩
 ·intro q hq
  rcases AT.mp hq with hq|hq
  ·obtain⟨k,hk⟩:=i4 q (by rw[enl];exact Ml _ hq)
   exact⟨k,.tail _ (.tail _ (hin _ hk (Cw (β:=CE AC) (q:=q) (DP.mp ndl).2.1 hq)))⟩
  ·rw[BB.mp hq]
   exact⟨cnt+1,.tail _ (.head _)⟩
 ·show All2 _ f.dlv (RU f.rw w pf uri).decl
  rw[e4];exact i5.mono λ_ _ z=>z.mono λ_ _=>mono
 ·intro hr
  show All2 _ (nb++[(nl,its.push (.ref tb))]) (RU f.rw w pf uri).nss;have i7:=i6 hr;rw[enl] at i7;obtain⟨r0,b0,ens,j1,j2⟩:=All2.unsnoc i7;rw[e8 hr,ens,MY];refine(j1.mono λ_ _ z=>z.mono λ_ _=>mono).snoc ?_
  show All2 _ (its.push (.ref tb)).toList (b0++[(uri,pf)])
  rw[MR];exact(j2.mono λ_ _=>mono).snoc ⟨tb,tu,tp,rfl,.head _⟩
 ·intro r hr
  rcases AP.mp hr with rfl|hr
  ·exact notin9 (AJ l1) (AJ l2) (AJ l3) (AJ l4) (AJ l5) (hne (f.de,_) (Ml _ (.head _))) (hne (f.ns,_) (Ml _ (.tail _ (.head _)))) (hne (f.pr,_) (Ml _ (.tail _ (.tail _ (.head _))))) (hne (f.pm,_) (Ml _ (.tail _ (.tail _ (.tail _ (.head _))))))
  rcases AP.mp hr with rfl|hr
  ·exact off (nl,listOf its cnt) hnl
  ·exact off r (hout r hr).1
 ·show(f.dlv.map (·.1)++(nb++[(nl,its.push (.ref tb))]).map (·.1)).Nodup
  rw[BF] at ndl ⊢;exact ndl
 ·intro r hr
  refine⟨(hT r hr).1,λq hq=>?_⟩;rcases AP.mp hq with rfl|hq
  ·exact BG (hne r (Mr _ (Mr _ hr)))
  rcases AP.mp hq with rfl|hq
  ·exact(hT r hr).2 (nl,listOf its cnt) hnl
  ·exact(hT r hr).2 q (hout q hq).1
end
end
section

theorem SM{P:AC→Pr→Prop}:∀{dlv:AE (AH×CE AC)}{decl:AE (AE Pr)},All2 (λ(p:AH×CE AC)l=>All2 P p.2.toList l) dlv decl→All2 P (comes dlv) (flat decl):=by
 intro dlv decl h
 induction h with
 |nil=>exact .nil
 |cons z h ih =>
  have:=ih.append z;unfold comes flat at *;simpa using this
theorem dR{P:AC→Pr→Prop}{dlv:AE (AH×CE AC)}{decl:AE (AE Pr)}(h:All2 (λ(p:AH×CE AC)l=>All2 P p.2.toList l) dlv decl):∀p∈dlv,p.2.size≤(flat decl).length:=by
 induction h with
 |nil=>exact λ_ z=>nomatch z
 |@cons p l dlv decl z h ih =>
  intro q hq
  have e:(flat (l::decl)).length=(flat decl).length+l.length:=by unfold flat;simp
  rcases AP.mp hq with rfl|hq
  ·have:=z.length
   simp only[GV] at this
   exact(Nl λhn1=>fk [_,_,_,_] (.e (.a V0 V1) V2 (.e V3 V1 (.e (.s V2) V3 K0))) rfl (Es e) (El this) hn1)
  ·have:=ih q hq
   exact(Nl λhn1=>fk [_,_,_,_] (.e (.a V0 V1) V2 (.e V3 V0 (.e (.s V2) V3 K0))) rfl (Es e) this hn1)
theorem shuf10{α:Type}{a b c d e f g h i j k:α}:∀q∈[a,b,c,d,e,f,i,g,j,h,k],q∈[a,b,c,d,e,f,g,h,k]++[i,j]:=Fc (.head _) (Fc (.tail _ (.head _)) (Fc (.tail _ (.tail _ (.head _))) (Fc (.tail _ (.tail _ (.tail _ (.head _)))) (Fc (.tail _ (.tail _ (.tail _ (.tail _ (.head _))))) (Fc (.tail _ (.tail _ (.tail _ (.tail _ (.tail _ (.head _)))))) (Fc (.tail _ (.tail _ (.tail _ (.tail _ (.tail _ (.tail _ (.tail _ (.tail _ (.tail _ (.head _)))))))))) (Fc (.tail _ (.tail _ (.tail _ (.tail _ (.tail _ (.tail _ (.head _))))))) (Fc (.tail _ (.tail _ (.tail _ (.tail _ (.tail _ (.tail _ (.tail _ (.tail _ (.tail _ (.tail _ (.head _))))))))))) (Fc (.tail _ (.tail _ (.tail _ (.tail _ (.tail _ (.tail _ (.tail _ (.head _)))))))) (Fc (.tail _ (.tail _ (.tail _ (.tail _ (.tail _ (.tail _ (.tail _ (.tail _ (.head _))))))))) (BA _)))))))))))
theorem nH{nss:AE (AE Pr)}(h:∃a b j,nss=a::b::HN j [])(h3:3≤nss.length):(∃a b j,nss.dropLast=a::b::HN j [])∧flat nss.dropLast=flat nss:=by
 obtain⟨a,b,j,rfl⟩:=h
 cases j with
 |zero=>exact absurd h3 (by simp)
 |succ j =>
  have e:(a::b::HN (j+1) ([]:AE Pr))=(a::b::HN j [])++[[]]:=by rw[QU];rfl
  rw[e,DT];exact⟨⟨a,b,j,rfl⟩,by rw[ID];rfl⟩
theorem ni10_{x a b c d e f g h dl nl:AH}(hn:([a,b,c,d,e,f,g,h,x]:AE AH).Nodup)(h1:dl∉[a,b,c,d,e,f,g,h,x])(h2:nl∉[a,b,c,d,e,f,g,h,x]):x∉[a,b,c,d,e,f,dl,g,nl,h]:=by
 have h0:x∉[a,b,c,d,e,f,g,h]:=λz=>(DP.mp (show([a,b,c,d,e,f,g,h]++[x]).Nodup from hn)).2.2 x z x (.head _) rfl
 exact BM (HD h0 (by k_mem)) (BM (HD h0 (by k_mem)) (BM (HD h0 (by k_mem)) (BM (HD h0 (by k_mem)) (BM (HD h0 (by k_mem)) (BM (HD h0 (by k_mem)) (BM (BG (HD h1 (by k_mem))) (BM (HD h0 (by k_mem)) (BM (BG (HD h2 (by k_mem))) (BM (HD h0 (by k_mem)) GC)))))))))
theorem yA(nl dl:AH)(l:AE (AH×CY)):∃filt:AE (AH×CY),(∀r∈l,r.1≠nl→r.1≠dl→r∈filt)∧∀r∈filt,r∈l∧r.1≠nl∧r.1≠dl:=⟨l.filter λr=>decide (r.1≠nl∧r.1≠dl),λr hr e e'=>JM.mpr ⟨hr,CN ⟨e,e'⟩⟩,λr hr=>⟨(JM.mp hr).1,MT (JM.mp hr).2⟩⟩
theorem nd_two{β:Type}{db nb:AE (AH×β)}{dl nl:AH}{i j:β}(nd:((db++[(dl,i)]).map (·.1)++(nb++[(nl,j)]).map (·.1)).Nodup):dl≠nl∧(∀q∈db,q.1≠dl∧q.1≠nl)∧(∀q∈nb,q.1≠dl∧q.1≠nl)∧(db.map (·.1)++nb.map (·.1)).Nodup:=by
 obtain⟨n1,n2,n3⟩:=DP.mp nd;rw[BF] at n1 n2
 have up:∀{l:AE (AH×β)}{q a:AH×β},q∈l→q.1∈(l++[a]).map (·.1):=λh=>BV (Ml _ h)
 refine⟨n3 dl (YD db) nl (YD nb),λq hq=>⟨(DP.mp n1).2.2 q.1 (BV hq) dl (.head _),n3 q.1 (up hq) nl (YD nb)⟩,λq hq=>⟨BG (n3 dl (YD db) q.1 (up hq)),(DP.mp n2).2.2 q.1 (BV hq) nl (.head _)⟩,?_⟩;refine DP.mpr ⟨(DP.mp n1).1,(DP.mp n2).1,λa ha c hc=>n3 a ?_ c ?_⟩
 ·rw[BF];exact Ml _ ha
 ·rw[BF];exact Ml _ hc
noncomputable def bE(W:BU)(A:BQ)(s:AG)(E:AC→AG→Prop)(g:CW)(os:CU)(p:BH)(zw:AE AX)(zt:ER→AM AC)(mg mb:AX→AM AC)(L:AH)(m:AX→AM AC)(Q:AC→AG→Prop)(x:AH)(tabs:AE (AH×CY))(n:CC)(d:AX)(td:DW)(w:WS)(f:FD):Prop :=
 ∀(X:(hd07.heap_1 W.params).In g)(T:VO p zw zt mg mb g)(hh:A.handled=BN)(zq:A.depth<600)(F:Fr g L s.heap m)(N:AY g L s.heap (f.own w x++tabs))(o1:s.os=os)(b1:BP s.gens)(hI:f.Is W w x)(hT:f.Off x tabs)(hf:Fit n w)(hn:n≤100)(hc:JB w (.stop d))(hcap:f.cap≤1000)(hks:f.ks.length≤40)(h:∀(f':FD)(s':AG),f'.key=f.key→f'.Is W (w.tell (.stop d)) x→f'.Off x tabs→Fr g L s'.heap m→AY g L s'.heap (f'.own (w.tell (.stop d)) x++tabs)→s'.os=os→BP s'.gens→Q .none s'),AI (BE rw_dn0283_07.row.prog W) A (DK (.ref 126) [.ref x,.str d td]) Q E s
theorem wD:∀{W A s E g os p zw zt mg mb L m Q x tabs n d td w f},bE W A s E g os p zw zt mg mb L m Q x tabs n d td w f:=by
 refine @(BK (GM KF)<|@(BK DM<|@(OY DM<|@(HF jL<|@(HF RQ<|let_mvar%?n:=(λW A s E g os p zw zt mg mb L m Q x tabs n d td w f=>?_:∀a b c d e f g h i j k l m n o p q r s t u,bE a b c d e f g h i j k l m n o p q r s t u);?n _ _ _ _ _ _ _ _ _ _ _ _ _ _ _ _ _ _ _ _ _)))))
 intro X T hh zq F N o1 b1 hI hT hf hn hc hcap hks h;obtain⟨y1,y2,y3,y4,y5⟩:=hI.bounds hf hn;obtain⟨b,pv,epv,hlast,epm⟩:=hf.lastOf;have hI0:=hI;obtain⟨i1,i2,i3,i4,i5,i6,nd,off,ndl,more⟩:=hI;obtain⟨hnm,hpl,hsn,hu0,hsc⟩:=hc;have hg:=MZ hnm.1;obtain⟨nb,⟨nl,nits⟩,enl⟩:=QO (l:=f.nlv) (hI0.nl1 hf).1
 obtain⟨db,⟨dl,its⟩,edl⟩:=QO (l:=f.dlv) (by rw[i5.length,hf.l1];exact hf.l4)
 obtain⟨cn,hnl⟩:=i4 (nl,nits) (by rw[enl];exact Mr _ (.head _))
 obtain⟨cd,hdl⟩:=i3 (dl,its) (by rw[edl];exact Mr _ (.head _))
 have hmnl:(nl,nits)∈f.nlv:=by rw[enl];exact Mr _ (.head _)
 rw[enl] at ndl;rw[edl] at i5 ndl;obtain⟨r1,t1,eds,k1,k2⟩:=All2.unsnoc i5
 have hmr:∀q∈f.rest,q∈f.own w x++tabs:=λq hq=>Ml _ (Mr _ hq)
 have htup:∀a o,(a,DO o)∈f.rest→a≠nl∧a≠dl:=λa o hm=>⟨US (N _ (hmr _ hm)).1 (N _ (hmr _ hnl)).1,US (N _ (hmr _ hm)).1 (N _ (hmr _ hdl)).1⟩;obtain⟨filt,hin,hout⟩:=yA nl dl f.rest;obtain⟨hdn,hbd,hbn,ndl2⟩:=nd_two ndl
 have up8:∀q∈[(x,CV 143 f.dx),(f.dx,CK (wd f.hsh f.tkn (.bool BC) (.bool AU) .none .none (.bool f.rw) .none .none .none f.wr f.da f.de f.ns f.pm f.pr w.seen w.done 0) f.ep),(f.da,listOf (AF f.ds).toArray f.n1),(f.out,listOf (AF f.ol).toArray f.n2),(f.wr,DZ f.out),(f.de,listOf ((db++[(dl,its)]).map λp=>AR p.1).toArray f.nde),(dl,listOf its cd),(f.ns,listOf ((nb++[(nl,nits)]).map λp=>AR p.1).toArray f.nns),(nl,listOf nits cn),(f.pr,listOf (b.map BY++[BY pv]).toArray f.npr),(f.pm,f.oM)],q∈f.base w x++[(dl,listOf its cd),(nl,listOf nits cn)]:=by
  rw[← edl,← enl,← epm];exact shuf10
 have h1:∀q∈[(x,CV 143 f.dx),(f.dx,CK (wd f.hsh f.tkn (.bool BC) (.bool AU) .none .none (.bool f.rw) .none .none .none f.wr f.da f.de f.ns f.pm f.pr w.seen w.done 0) f.ep),(f.da,listOf (AF f.ds).toArray f.n1),(f.out,listOf (AF f.ol).toArray f.n2),(f.wr,DZ f.out),(f.de,listOf ((db++[(dl,its)]).map λp=>AR p.1).toArray f.nde),(dl,listOf its cd),(f.ns,listOf ((nb++[(nl,nits)]).map λp=>AR p.1).toArray f.nns),(nl,listOf nits cn),(f.pr,listOf (b.map BY++[BY pv]).toArray f.npr),(f.pm,f.oM)],q∈f.own w x++tabs:=λq hq=>by
  rcases AT.mp (up8 q hq) with z|z
  ·exact Ml _ (Ml _ z)
  ·rcases AP.mp z with z|z
   ·rw[z];exact hmr _ hdl
   ·rw[BB.mp z];exact hmr _ hnl
 have h2:∀q∈filt++tabs,q∈f.own w x++tabs:=λq hq=>by
  rcases AT.mp hq with z|z
  ·exact hmr q (hout q z).1
  ·exact Mr _ z
 have hor:∀r∈filt++tabs,r.1∉f.eight x∧r.1≠nl∧r.1≠dl:=λr hr=>by
  rcases AT.mp hr with z|z
  ·exact⟨off r (hout r z).1,(hout r z).2⟩
  ·exact⟨(hT r z).1,(hT r z).2 _ hnl,(hT r z).2 _ hdl⟩
 have h3:∀q∈filt++tabs,q.1∉([(x,CV 143 f.dx),(f.dx,CK (wd f.hsh f.tkn (.bool BC) (.bool AU) .none .none (.bool f.rw) .none .none .none f.wr f.da f.de f.ns f.pm f.pr w.seen w.done 0) f.ep),(f.da,listOf (AF f.ds).toArray f.n1),(f.out,listOf (AF f.ol).toArray f.n2),(f.wr,DZ f.out),(f.de,listOf ((db++[(dl,its)]).map λp=>AR p.1).toArray f.nde),(dl,listOf its cd),(f.ns,listOf ((nb++[(nl,nits)]).map λp=>AR p.1).toArray f.nns),(nl,listOf nits cn),(f.pr,listOf (b.map BY++[BY pv]).toArray f.npr),(f.pm,f.oM)]:AE (AH×CY)).map (·.1):=λq hq z=>by
  obtain⟨r,hr,e⟩:=CO.mp z;obtain⟨v1,v2,v3⟩:=hor q hq;rcases AT.mp (up8 r hr) with u|u
  ·exact v1 (e ▸ BV (f:=(·.1)) (l:=f.base w x) u)
  ·rcases AP.mp u with u|u
   ·rw[u] at e;exact v3 e.symm
   ·rw[BB.mp u] at e;exact v2 e.symm
 have f1:=hf.f1;have f2:=hf.f2;have z5:=dR i5;have l3:=hf.l3;have l1:=i5.length;have l2:=(hI0.nl1 hf).2;rw[hf.l1,BD,Ee] at l1;rw[enl,BD,Ee] at l2
 have l0:w.pre.length=b.length+1:=by rw[epv];exact BD
 refine GD [(x,CV 143 f.dx),(f.dx,CK (wd f.hsh f.tkn (.bool BC) (.bool AU) .none .none (.bool f.rw) .none .none .none f.wr f.da f.de f.ns f.pm f.pr w.seen w.done 0) f.ep),(f.da,listOf (AF f.ds).toArray f.n1),(f.out,listOf (AF f.ol).toArray f.n2),(f.wr,DZ f.out),(f.de,listOf ((db++[(dl,its)]).map λp=>AR p.1).toArray f.nde),(dl,listOf its cd),(f.ns,listOf ((nb++[(nl,nits)]).map λp=>AR p.1).toArray f.nns),(nl,listOf nits cn),(f.pr,listOf (b.map BY++[BY pv]).toArray f.npr),(f.pm,f.oM)] (filt++tabs) F N o1 b1 h1 h2 h3 λg₂ H₂ K₂ r₂ back=>?_;rw[hsn] at H₂
 have hrf:∀q∈filt,g₂.get? q.1=AK q.2:=λq hq=>r₂ q (Ml _ hq)
 have mono:∀{v:AC}{q:Pr},GP f.rest v q→GP filt v q:=λ⟨a',y1,y2,e,hm⟩=>⟨a',y1,y2,e,hin _ hm (htup _ _ hm).1 (htup _ _ hm).2⟩;refine xT (dlv:=db) (nlv:=nb) (dps:=flat w.decl) (nps:=flat w.nss) (uri:=(cutName d).1) (tag:=(cutName d).2) (X.keeps K₂) (T.keeps K₂) H₂ hh (AZ zq (by decide)) y1 y2 y3 y4 ?a1 ?a2 ?a3 (by exact(Nt λhn1=>fk [_,_] (.c 4 V0 (.k 100) (.e V1 (.a (.m 4 V0) K1) (.e (.k 3000) V1 K0))) rfl hn f1 hn1)) (λq hq=>⟨AQ (hf.g1 q hq).1 (by decide),(hf.g1 q hq).2.1⟩) (λzr=>⟨?a4,?a5⟩) (λq hq=>⟨AQ (hf.g2 q hq).1 (by decide),(hf.g2 q hq).2.1,(hf.g2 q hq).2.2.2⟩) ?a6 ?a7 (by exact(Nl λhn1=>fk [_] (.e V0 (.k 400) (.e (.s (.k 5000)) V0 K0)) rfl y5 hn1)) hg.2.1 ⟨hg.2.2.1,hg.2.2.2⟩ hg.1 (WZ hu0 hnm.2) hsc more.dic (by rw[← AN (f:=(·.1))];exact AQ hks (by decide)) more.sys hu0 (λq hq=>(hf.g1 q hq).2.2.2) (ni10_ nd (off _ hdl) (off _ hnl)) (by exact(Nl λhn1=>fk [_,_,_] (.e V0 (.k 100) (.e V1 (.s V0) (.e (.s V2) V1 (.e (.s (.k 1000)) V2 K0)))) rfl hn l3 (El l1) hn1)) (by exact(Nl λhn1=>fk [_,_,_] (.e V0 (.k 100) (.e V1 (.s V0) (.e (.s V2) (.s V1) (.e (.s (.k 1000)) V2 K0)))) rfl hn l3 l2 hn1)) (by rw[AN];exact(Nl λhn1=>fk [_,_,_] (.e V0 (.k 100) (.e V1 (.s V0) (.e (.s V2) V1 (.e (.s (.k 1000)) V2 K0)))) rfl hn l3 (Es l0) hn1)) (Cv (TL (iL 8 (f.eight x)) hI0.nd) (λz=>off _ hdl (Ml [f.pm] z)) (λz=>off _ hnl (Ml [f.pm] z)) hdn) λs' n3 n4 ol3 txt o rd2 hqn hrd e3 H'=>?z3
 case a1 =>
  intro q hq
  obtain⟨k,hk⟩:=i3 q (by rw[edl];exact Ml _ hq)
  exact⟨_,hrf _ (hin _ hk (hbd q hq).2 (hbd q hq).1),rfl,_,rfl⟩
 case a2=>intro q hq;have:=z5 q hq;lia
 case a3=>exact(SM i5).mono λ_ _ z=>RS hrf (mono z)
 case a4 =>
  intro q hq
  obtain⟨k,hk⟩:=i4 q (by rw[enl];exact Ml _ hq)
  have:=more.cap q (by rw[enl];exact Ml _ hq)
  exact⟨⟨_,hrf _ (hin _ hk (hbn q hq).2 (hbn q hq).1),rfl,_,rfl⟩,by lia⟩
 case a5=>have i7:=i6 zr;rw[enl] at i7;exact(SM i7).mono λ_ _ z=>RS hrf (mono z)
 case a6=>have:=more.cap (nl,nits) hmnl;simp only at this;lia
 case a7=>have:=z5 (dl,its) (by simp);simp only at this;rw[BI];exact(Nl λhn1=>fk [_,_,_] (.c 4 V0 (.k 100) (.e V1 (.a (.m 4 V0) K1) (.e V2 V1 (.e (.s (.k 16777216)) V2 K0)))) rfl hn f1 this hn1)
 case z3 =>
  obtain⟨F',N',o',b'⟩:=back _ _ H';have e1:(w.tell (.stop d)).seen=BC:=hsn
  have e2:(w.tell (.stop d)).done=rd2:=by
   show decide (w.pre.length=2)=rd2;rw[hrd,AN,l0];exact decide_eq_decide.mpr ⟨λe=>XM e,λe=>BW CC.succ e⟩
  have e3':(w.tell (.stop d)).pre.map BY=b.map BY:=by show w.pre.dropLast.map BY=_;rw[epv,DT]
  refine h { f with ds:=[],n1:=n3,ol:=ol3,n2:=n4,dlv:=db,nde:=f.nde+1,nlv:=nb,nns:=f.nns+1,npr:=f.npr+1,rest:=filt } s' rfl ⟨rfl,?_,?_,?_,?_,?_,nd,?_,ndl2,?more⟩ ?_ F' ?_ o' b'
  case more =>
   have hp3:3≤w.nss.length:=by rw[hf.l2];exact LI hpl
   refine⟨λhr=>?_,λq hq=>more.cap q (by rw[enl];exact Ml _ hq),λhr=>(nH (more.pro hr) hp3).1,more.dic,⟨λhr=>?_,λ_=>rfl⟩,more.sys,more.off⟩
   ·show nb.length=w.pre.dropLast.length
    have z:=more.nn hr;rw[enl,epv,BD,BD] at z;rw[epv,DT];exact XM z
   ·show ∀e∈f.pq,find e.1 (flat w.nss.dropLast)=AK e.2.1
    rw[(nH (more.pro hr) hp3).2];exact more.val.v hr
  ·show ol3.map (·.1)=w.out++(w.core.flush w.data++["</"++w.core.endText d++">"])
   have ht:w.core.endText d=txt:=by
    unfold KS.endText;rw[show qn (flat w.core.decl) (flat w.core.nss) (cutName d).1 (cutName d).2=AK (txt,o) from hqn]
   rw[e3,i2,i1,ht];unfold KS.flush;rw[show w.core.seen=BC from hsn]
  ·intro q hq
   obtain⟨k,hk⟩:=i3 q (by rw[edl];exact Ml _ hq)
   exact⟨k,hin _ hk (hbd q hq).2 (hbd q hq).1⟩
  ·intro q hq
   obtain⟨k,hk⟩:=i4 q (by rw[enl];exact Ml _ hq)
   exact⟨k,hin _ hk (hbn q hq).2 (hbn q hq).1⟩
  ·show All2 _ db w.decl.dropLast
   rw[eds,DT];exact k1.mono λ_ _ z=>z.mono λ_ _=>mono
  ·intro hr
   show All2 _ nb w.nss.dropLast;have i7:=i6 hr;rw[enl] at i7;obtain⟨r0,t0,ens,j1,j2⟩:=All2.unsnoc i7;rw[ens,DT];exact j1.mono λ_ _ z=>z.mono λ_ _=>mono
  ·exact λr hr=>off r (hout r hr).1
  ·exact λr hr=>⟨(hT r hr).1,λq hq=>(hT r hr).2 q (hout q hq).1⟩
  ·show AY g L s'.heap (([(x,CV 143 f.dx),(f.dx,CK (wd f.hsh f.tkn (.bool BC) (.bool AU) .none .none (.bool f.rw) .none .none .none f.wr f.da f.de f.ns f.pm f.pr (w.tell (.stop d)).seen (w.tell (.stop d)).done 0) f.ep),(f.da,listOf #[] n3),(f.out,listOf (AF ol3).toArray n4),(f.wr,DZ f.out),(f.de,listOf (db.map λp=>.ref p.1).toArray (f.nde+1)),(f.ns,listOf (nb.map λp=>.ref p.1).toArray (f.nns+1)),(f.pr,listOf ((w.tell (.stop d)).pre.map .bool).toArray (f.npr+1)),(f.pm,f.oM)]++filt)++tabs)
   rw[e1,e2,e3'];exact N'
end
section

theorem zS{α:Type}{a b c d e f g h k dl nl:α}{p t:AE α}:∀q∈dl::nl::(p++t),q∈[a,b,c,d,e,f,dl,g,nl,h,k]++(p++t):=Fc (.tail _ (.tail _ (.tail _ (.tail _ (.tail _ (.tail _ (.head _))))))) (Fc (.tail _ (.tail _ (.tail _ (.tail _ (.tail _ (.tail _ (.tail _ (.tail _ (.head _))))))))) (λ_ h=>.tail _ (.tail _ (.tail _ (.tail _ (.tail _ (.tail _ (.tail _ (.tail _ (.tail _ (.tail _ (.tail _ (h)))))))))))))
theorem zT{α:Type}{P:α→Prop}{a b c d e f g h k dl nl:α}{pf prs r t:AE α}(hp:∀r∈pf,r∈prs∧P r):∀q∈([a,b,c,d,e,f,g,h,k]++(dl::nl::(pf++r)))++t,q∈([a,b,c,d,e,f,dl,g,nl,h,k]++(prs++t))++r:=Fp (Fp (Fc (.head _) (Fc (.tail _ (.head _)) (Fc (.tail _ (.tail _ (.head _))) (Fc (.tail _ (.tail _ (.tail _ (.head _)))) (Fc (.tail _ (.tail _ (.tail _ (.tail _ (.head _))))) (Fc (.tail _ (.tail _ (.tail _ (.tail _ (.tail _ (.head _)))))) (Fc (.tail _ (.tail _ (.tail _ (.tail _ (.tail _ (.tail _ (.tail _ (.head _)))))))) (Fc (.tail _ (.tail _ (.tail _ (.tail _ (.tail _ (.tail _ (.tail _ (.tail _ (.tail _ (.head _)))))))))) (Fc (.tail _ (.tail _ (.tail _ (.tail _ (.tail _ (.tail _ (.tail _ (.tail _ (.tail _ (.tail _ (.head _))))))))))) (BA _)))))))))) (Fc (.tail _ (.tail _ (.tail _ (.tail _ (.tail _ (.tail _ (.head _))))))) (Fc (.tail _ (.tail _ (.tail _ (.tail _ (.tail _ (.tail _ (.tail _ (.tail _ (.head _))))))))) (Fp (λ_ h=>.tail _ (.tail _ (.tail _ (.tail _ (.tail _ (.tail _ (.tail _ (.tail _ (.tail _ (.tail _ (.tail _ (show _∈(prs++t)++r from Ml _ (Ml _ (hp _ h).1))))))))))))) (λ_ h=>.tail _ (.tail _ (.tail _ (.tail _ (.tail _ (.tail _ (.tail _ (.tail _ (.tail _ (.tail _ (.tail _ (show _∈(prs++t)++r from Mr _ h)))))))))))))))) (λ_ h=>.tail _ (.tail _ (.tail _ (.tail _ (.tail _ (.tail _ (.tail _ (.tail _ (.tail _ (.tail _ (.tail _ (show _∈(prs++t)++r from Ml _ (Mr _ h)))))))))))))
noncomputable def ksN(rw:CZ)(ks ks':AE AX):AE AX:=match rw with
 |true=>ks'
 |false=>ks
theorem ksN_of{rw:CZ}{pq pq0:AE (AX×(AX×DW))}{ks':AE AX}{ns:AE Pr}(h1:rw=BC→pq.map (·.1)=ks')(h2:PqAt rw ns pq0 pq):pq.map (·.1)=ksN rw (pq0.map (·.1)) ks':=by
 cases rw with
 |true=>exact h1 rfl
 |false=>rw[h2.same rfl];rfl
theorem nd9_8{a:AH}{l:AE AH}(h:(l++[a]).Nodup):l.Nodup∧a∉l:=⟨(DP.mp h).1,λz=>(DP.mp h).2.2 a z a (.head _) rfl⟩
noncomputable def YU(W:BU)(A:BQ)(s:AG)(E:AC→AG→Prop)(g:CW)(os:CU)(p:BH)(zw:AE AX)(zt:ER→AM AC)(mg mb:AX→AM AC)(L:AH)(m:AX→AM AC)(Q:AC→AG→Prop)(x:AH)(tabs:AE (AH×CY))(n:CC)(tag:AX)(tt:DW)(at_:AH)(na:CC)(l:AE ((AX×DW)×(AX×DW)))(ks':AE AX)(w:WS)(f:FD):Prop :=
 ∀(X:(hd07.heap_1 W.params).In g)(T:VO p zw zt mg mb g)(hh:A.handled=BN)(zq:A.depth<600)(F:Fr g L s.heap m)(N:AY g L s.heap (f.own w x++tabs))(o1:s.os=os)(b1:BP s.gens)(hI:f.Is W w x)(hT:f.Off x tabs)(hf:Fit n w)(hn:n≤100)(hc:JB w (.start tag (l.map λp=>(p.1.1,p.2.1))))(hat:g.get? at_=AK (CK (IM W.params l) na))(hsys:(at_==FB)=AU)(hcap:f.cap≤1000)(hks:f.ks.length≤40)(hNR:f.rw=BC→LC (flat w.decl) (flat w.nss) (FJ GH (tag::l.map (·.1.1))) [] f.ks ks')(hu:A.units<8000)(C116:kP g 118 116)(hLT:PO 116 ⟨136,71,136,96⟩ "C14NWriterTarget._start.<locals>.<lambda>" tabs) (h:∀(f':FD)(s':AG)(zp:AE (AH×CY)),PO 116 ⟨136,71,136,96⟩ "C14NWriterTarget._start.<locals>.<lambda>" zp→f'.key=(f.out,f.rw,f.cap,ksN f.rw f.ks ks')→f'.Is W (w.tell (.start tag (l.map λp=>(p.1.1,p.2.1)))) x→f'.Off x zp→Fr g L s'.heap m→AY g L s'.heap (f'.own (w.tell (.start tag (l.map λp=>(p.1.1,p.2.1)))) x++zp)→s'.os=os→BP s'.gens→Q .none s'),AI (BE rw_dn0283_07.row.prog W) A (DK (.ref 113) [.ref x,.str tag tt,.ref at_]) Q E s
theorem rN:∀{W A s E g os p zw zt mg mb L m Q x tabs n tag tt at_ na l ks' w f},YU W A s E g os p zw zt mg mb L m Q x tabs n tag tt at_ na l ks' w f:=by
 refine @(BK (GM KF)<|@(BK DM<|@(RB DM<|@(HF jL<|@(HF RQ<|let_mvar%?n:=(λW A s E g os p zw zt mg mb L m Q x tabs n tag tt at_ na l ks' w f=>?_:∀a b c d e f g h i j k l m n o p q r s t u v w x y,YU a b c d e f g h i j k l m n o p q r s t u v w x y);?n _ _ _ _ _ _ _ _ _ _ _ _ _ _ _ _ _ _ _ _ _ _ _ _ _)))))
 intro X T hh zq F N o1 b1 hI hT hf hn hc hat hsys hcap hks hNR hu C116 hLT h;obtain⟨y1,y2,y3,y4,y5⟩:=hI.bounds hf hn
 have hzz2:=hf.lastOf;revert hzz2;refine VP ?_;with_reducible refine let_mvar%?zz1:=(λb pv=>?_:OV _);EV DM (IP:ES _ (type_of%?zz1)) (?zz1 _ _);rintro⟨epv,hlast,epm⟩
 have hnl1:=hI.nl1 hf;obtain⟨i1,i2,i3,i4,i5,i6,nd,off,ndl,more⟩:=hI;obtain⟨nd8,hpm⟩:=nd9_8 (l:=[x,f.dx,f.da,f.out,f.wr,f.de,f.ns,f.pr]) (a:=f.pm) nd;obtain⟨c1,c2,c3,c4⟩:=hc;have emm:((l.map λp=>(p.1.1,p.2.1)).map (·.1))=l.map (·.1.1):=GG;rw[emm] at c1 c3;rw[AN] at c2
 have h1:∀q∈([(x,CV 143 f.dx),(f.dx,CK (wd f.hsh f.tkn (.bool BC) (.bool AU) .none .none (.bool f.rw) .none .none .none f.wr f.da f.de f.ns f.pm f.pr w.seen w.done 0) f.ep),(f.da,listOf (AF f.ds).toArray f.n1),(f.out,listOf (AF f.ol).toArray f.n2),(f.wr,DZ f.out),(f.de,listOf (f.dlv.map λp=>AR p.1).toArray f.nde),(f.ns,listOf (f.nlv.map λp=>AR p.1).toArray f.nns),(f.pr,listOf (b.map BY++[BY pv]).toArray f.npr),(f.pm,f.oM)]++tabs),q∈f.own w x++tabs:=by
  rw[← epm];intro q hq;rcases AT.mp hq with hq|hq
  ·exact Ml _ (Ml _ hq)
  ·exact Mr _ hq
 have h2:∀q∈f.rest,q∈f.own w x++tabs:=λq hq=>Ml _ (Mr _ hq)
 have h3:∀q∈f.rest,q.1∉(([(x,CV 143 f.dx),(f.dx,CK (wd f.hsh f.tkn (.bool BC) (.bool AU) .none .none (.bool f.rw) .none .none .none f.wr f.da f.de f.ns f.pm f.pr w.seen w.done 0) f.ep),(f.da,listOf (AF f.ds).toArray f.n1),(f.out,listOf (AF f.ol).toArray f.n2),(f.wr,DZ f.out),(f.de,listOf (f.dlv.map λp=>AR p.1).toArray f.nde),(f.ns,listOf (f.nlv.map λp=>AR p.1).toArray f.nns),(f.pr,listOf (b.map BY++[BY pv]).toArray f.npr),(f.pm,f.oM)]++tabs)).map (·.1):=by
  intro q hq z;rw[BF] at z;rcases AT.mp z with z|z
  ·exact off q hq z
  ·obtain⟨r,hr,e⟩:=CO.mp z
   exact(hT r hr).2 q hq e
 have f1:=hf.f1;have f2:=hf.f2;have z5:=dR i5;have l3:=hf.l3;have l1:=i5.length;have l2:=hnl1.2;rw[hf.l1] at l1
 have l0:w.pre.length=b.length+1:=by rw[epv];exact BD
 refine GD ([(x,CV 143 f.dx),(f.dx,CK (wd f.hsh f.tkn (.bool BC) (.bool AU) .none .none (.bool f.rw) .none .none .none f.wr f.da f.de f.ns f.pm f.pr w.seen w.done 0) f.ep),(f.da,listOf (AF f.ds).toArray f.n1),(f.out,listOf (AF f.ol).toArray f.n2),(f.wr,DZ f.out),(f.de,listOf (f.dlv.map λp=>AR p.1).toArray f.nde),(f.ns,listOf (f.nlv.map λp=>AR p.1).toArray f.nns),(f.pr,listOf (b.map BY++[BY pv]).toArray f.npr),(f.pm,f.oM)]++tabs) f.rest F N o1 b1 h1 h2 h3 ?_;with_reducible refine let_mvar%?zz2:=(λg₂=>?_:Fa _);HZ DM (UA:ES _ (type_of%?zz2)) (?zz2 _);intro H₂ K₂ r₂ back
 refine rH (ks':=ks') (dlv:=f.dlv) (nlv:=f.nlv) (lower:=flat w.decl) (nps:=flat w.nss) (l:=l) (na:=na) (tabs:=tabs) (X.keeps K₂) (T.keeps K₂) H₂ hh (AZ zq (by decide)) ?cc y1 y2 y3 y4 hu hLT (K₂ _ _ hat) c2 hsys c1 (λn hn=>(c3 n hn).1) ?vl ?a1 ?a2 ?a3 (by exact(Nt λhn1=>fk [_,_] (.c 4 V0 (.k 100) (.e V1 (.a (.m 4 V0) K1) (.e (.k 2900) V1 K0))) rfl hn f1 hn1)) (λq hq=>⟨AQ (hf.g1 q hq).1 (by decide),(hf.g1 q hq).2.1⟩) (λzr=>⟨?a4,?a5⟩) hf.g2 more.dic (by rw[← AN (f:=(·.1))];exact hks) more.sys (λn hn=>(c3 n hn).2) (λq hq=>(hf.g1 q hq).2.2.2) more.val hNR (by exact(Nl λhn1=>fk [_] (.e V0 (.k 400) (.e (.s (.k 4000)) V0 K0)) rfl y5 hn1)) (by exact(Nl λhn1=>fk [_,_,_] (.e V0 (.k 100) (.e V1 (.s V0) (.e V2 V1 (.e (.s (.k 1000)) V2 K0)))) rfl hn l3 (El l1) hn1)) (by exact(Nl λhn1=>fk [_,_,_] (.e V0 (.k 100) (.e V1 (.s V0) (.e V2 (.s V1) (.e (.s (.k 1000)) V2 K0)))) rfl hn l3 l2 hn1)) (by rw[AN];exact(Nl λhn1=>fk [_,_,_] (.e V0 (.k 100) (.e V1 (.s V0) (.e (.s V2) V1 (.e (.s (.k 1000)) V2 K0)))) rfl hn l3 (Es l0) hn1)) (λq hq=>(hT q hq).1) nd8 hpm λs' n2 n3 n4 n5 n6 nl dl ol2 itsd ndd prs zp oM pq hM2 hPq2 hks2 e7 hits hT' hoff hnl hdl hne H'=>?z3
 case cc =>
  obtain⟨o,vs,file,tf,fl,tg,inF,text,tt',y1,y2⟩:=C116;exact⟨o,vs,file,tf,fl,tg,inF,text,tt',K₂ _ _ y1,y2⟩
 case vl=>exact λq hq=>c4 (q.1.1,q.2.1) (BV (f:=λp:(AX×DW)×(AX×DW)=>(p.1.1,p.2.1)) hq)
 case a1 =>
  intro q hq;obtain⟨k,hk⟩:=i3 q hq;exact⟨_,r₂ _ hk,rfl,_,rfl⟩
 case a2=>intro q hq;have:=z5 q hq;lia
 case a3=>exact(SM i5).mono λ_ _ z=>RS r₂ z
 case a4 =>
  intro q hq;obtain⟨k,hk⟩:=i4 q hq;have:=more.cap q hq;exact⟨⟨_,r₂ _ hk,rfl,_,rfl⟩,by lia⟩
 case a5=>exact(SM (i6 zr)).mono λ_ _ z=>RS r₂ z
 case z3 =>
  have hfr:∀a o,(a,o)∈(dl,listOf itsd ndd)::(nl,listOf #[] 0)::(prs++zp)→∀r∈f.rest,a≠r.1:=λa o ha r hr=>ZU H' r₂ (o:=o) (zS _ ha) (show(r.1,r.2)∈_ from hr)
  obtain⟨F',N',o',b'⟩:=back _ _ H';obtain⟨pf,hpf⟩:∃l,l=prs.filter (λr=>decide (r.1∉zp.map (·.1))):=⟨_,rfl⟩
  have hpin:∀r∈pf,r∈prs∧∀t∈zp,t.1≠r.1:=λr hr=>by
   rw[hpf] at hr;have:=JM.mp hr;exact⟨this.1,λt ht e=>(MT this.2) (e ▸ BV (f:=(·.1)) ht)⟩
  have hfld:∀t∈zp,∃vs,t.2.data=.fields vs:=λt ht=>by
   rcases hT' with rfl|⟨c',oc,vs,t',rfl,y1,_⟩
   ·rw[BB.mp ht];exact⟨_,rfl⟩
   ·rcases AP.mp ht with rfl|ht
    ·exact⟨_,rfl⟩
    ·rw[BB.mp ht];exact⟨_,y1⟩
  have mono2:∀{v:AC}{q:Pr},GP prs v q→GP pf v q:=λ⟨a',y1,y2,e,hm⟩=>⟨a',y1,y2,e,by
   rw[hpf];refine JM.mpr ⟨hm,CN λhz=>?_⟩;obtain⟨t,ht,e1⟩:=CO.mp hz;have g1:=(N' _ (Ml _ (Mr _ (Ml _ hm)))).1;have g2:=(N' t (Ml _ (Mr _ (Mr _ ht)))).1;rw[e1,g1] at g2;obtain⟨vs,y⟩:=hfld t ht;rw[← HB g2] at y
   cases y⟩
  have mono:∀{v:AC}{q:Pr},GP f.rest v q→GP ((dl,listOf itsd ndd)::(nl,listOf #[] 0)::(pf++f.rest)) v q:=λ⟨a',y1,y2,e,hm⟩=>⟨a',y1,y2,e,.tail _ (.tail _ (Mr _ hm))⟩;refine h { f with ds:=[],n1:=n2,ol:=ol2,n2:=n3,dlv:=f.dlv++[(dl,itsd)],nde:=n6,nlv:=f.nlv++[(nl,#[])],nns:=n4,npr:=n5,rest:=(dl,listOf itsd ndd)::(nl,listOf #[] 0)::(pf++f.rest),oM:=oM,pq:=pq } s' zp hT' (by show(f.out,f.rw,f.cap,pq.map (·.1))=_;rw[ksN_of hks2 hPq2];rfl) ⟨rfl,?_,?_,?_,?_,?_,nd,?_,?_,?more⟩ ?_ F' ?_ o' b'
  case more =>
   have efl:flat (w.nss++[[]])=flat w.nss:=by rw[ID];rfl
   refine⟨λhr=>?_,?_,λhr=>?_,hM2,?_,more.sys,λhr=>(hPq2.same hr).trans (more.off hr)⟩
   ·show(f.nlv++[(nl,#[])]).length=(w.pre++[_]).length
    rw[BD,BD,more.nn hr];rfl
   ·show ∀p∈f.nlv++[(nl,(#[]:CE AC))],p.2.size≤f.cap
    exact Fp more.cap (Fc (EH _) (BA _))
   ·obtain⟨a,b,j,e⟩:=more.pro hr
    exact⟨a,b,j+1,by show w.nss++[[]]=_;rw[e,QU];rfl⟩
   ·show PqAt f.rw (flat (w.nss++[[]])) pq pq
    rw[efl];exact⟨hPq2.v,λ_=>rfl⟩
  ·show ol2.map (·.1)=w.out++(w.core.flush w.data++KH (w.core.names tag (l.map λp=>(p.1.1,p.2.1))).1 (w.core.names tag (l.map λp=>(p.1.1,p.2.1))).2 tag (l.map λp=>(p.1.1,p.2.1)))
   rw[e7,i2,i1];unfold KS.names;rw[emm];rfl
  ·intro q hq
   rcases AT.mp hq with hq|hq
   ·obtain⟨k,hk⟩:=i3 q hq
    exact⟨k,.tail _ (.tail _ (Mr _ hk))⟩
   ·rw[BB.mp hq];exact⟨ndd,.head _⟩
  ·intro q hq
   rcases AT.mp hq with hq|hq
   ·obtain⟨k,hk⟩:=i4 q hq
    exact⟨k,.tail _ (.tail _ (Mr _ hk))⟩
   ·rw[BB.mp hq];exact⟨0,.tail _ (.head _)⟩
  ·show All2 _ (f.dlv++[(dl,itsd)]) (w.decl++[(w.core.names tag (l.map λp=>(p.1.1,p.2.1))).1])
   refine(i5.mono λ_ _ z=>z.mono λ_ _=>mono).snoc ?_;unfold KS.names;rw[emm]
   exact hits.mono λ_ _ z=>(mono2 z).mono λ_ hq=>.tail _ (.tail _ (Ml _ hq))
  ·intro hr
   show All2 _ (f.nlv++[(nl,#[])]) (w.nss++[[]])
   exact((i6 hr).mono λ_ _ z=>z.mono λ_ _=>mono).snoc .nil
  ·intro r hr
   rcases AP.mp hr with rfl|hr
   ·exact hdl
   rcases AP.mp hr with rfl|hr
   ·exact hnl
   rcases AT.mp hr with hr|hr
   ·exact(hoff r (Ml _ (hpin r hr).1)).1
   ·exact off r hr
  ·show((f.dlv++[(dl,itsd)]).map (λp:AH×CE AC=>p.1)++(f.nlv++[(nl,(#[]:CE AC))]).map (λp:AH×CE AC=>p.1)).Nodup
   have hA:∀a∈f.dlv.map (·.1),a≠dl∧a≠nl:=λa ha=>by
    obtain⟨q,hq,rfl⟩:=CO.mp ha;obtain⟨k,hk⟩:=i3 q hq;exact⟨BG (hfr dl _ (.head _) _ hk),BG (hfr nl _ (.tail _ (.head _)) _ hk)⟩
   have hB:∀a∈f.nlv.map (·.1),a≠dl∧a≠nl:=λa ha=>by
    obtain⟨q,hq,rfl⟩:=CO.mp ha;obtain⟨k,hk⟩:=i4 q hq;exact⟨BG (hfr dl _ (.head _) _ hk),BG (hfr nl _ (.tail _ (.head _)) _ hk)⟩
   obtain⟨m1,m2,m3⟩:=DP.mp ndl;rw[BF,BF];refine DP.mpr ⟨DP.mpr ⟨m1,by simp,λa ha c hc=>by rw[BB.mp hc];exact(hA a ha).1⟩,DP.mpr ⟨m2,by simp,λa ha c hc=>by rw[BB.mp hc];exact(hB a ha).2⟩,λa ha c hc=>?_⟩;rcases AT.mp ha with ha|ha
   ·rcases AT.mp hc with hc|hc
    ·exact m3 a ha c hc
    ·rw[BB.mp hc];exact(hA a ha).2
   ·rw[BB.mp ha]
    rcases AT.mp hc with hc|hc
    ·exact BG (hB c hc).1
    ·rw[BB.mp hc];exact BG hne
  ·intro r hr
   refine⟨(hoff r (Mr _ hr)).1,λq hq=>?_⟩;rcases AP.mp hq with rfl|hq
   ·exact(hoff r (Mr _ hr)).2.2
   rcases AP.mp hq with rfl|hq
   ·exact(hoff r (Mr _ hr)).2.1
   rcases AT.mp hq with hq|hq
   ·exact(hpin q hq).2 r hr
   ·exact hfr r.1 r.2 (.tail _ (.tail _ (Mr _ hr))) q hq
  ·have epd:(w.tell (.start tag (l.map λp=>(p.1.1,p.2.1)))).pre.map BY=b.map BY++[BY pv,BY (JI pv (l.map λp=>(p.1.1,p.2.1)))]:=by
    show(w.pre++[JI w.core.last (l.map λp=>(p.1.1,p.2.1))]).map BY=_;rw[hlast,BF,epm,BX];rfl
   have N9:=AY.sub N' (zT hpin)
   show AY g L s'.heap (([(x,CV 143 f.dx),(f.dx,CK (wd f.hsh f.tkn (.bool BC) (.bool AU) .none .none (.bool f.rw) .none .none .none f.wr f.da f.de f.ns f.pm f.pr BC w.done 0) f.ep),(f.da,listOf #[] n2),(f.out,listOf (AF ol2).toArray n3),(f.wr,DZ f.out),(f.de,listOf ((f.dlv++[(dl,itsd)]).map λ(p:AH×CE AC)=>.ref p.1).toArray n6),(f.ns,listOf ((f.nlv++[(nl,(#[]:CE AC))]).map λ(p:AH×CE AC)=>.ref p.1).toArray n4),(f.pr,listOf ((w.tell (.start tag (l.map λp=>(p.1.1,p.2.1)))).pre.map .bool).toArray n5),(f.pm,oM)]++((dl,listOf itsd ndd)::(nl,listOf #[] 0)::(pf++f.rest)))++zp)
   rw[epd];exact N9
end
section

noncomputable def cQ(W:BU)(g:CW)(a:AH):DC→Prop
 |.start tag attrs=>∃t tt at_ na l,WI g a #[.int 0 t,.str tag tt,.ref at_]∧g.get? at_=AK (CK (IM W.params l) na)∧(at_==FB)=AU∧attrs=l.map λp=>(p.1.1,p.2.1)
 |.stop tag=>∃t tt,WI g a #[.int 1 t,.str tag tt,.none]
 |.data x=>∃t tt,WI g a #[.int 2 t,.str x tt,.none]
 |.comment x=>∃t tt,WI g a #[.int 3 t,.str x tt,.none]
 |.pi x=>∃t tt,WI g a #[.int 4 t,.str x tt,.none]
 |.sns _ _=>NF
noncomputable def ZG(rw:CZ)(w:WS)(ks ks':AE AX):DC→Prop
 |.start tag attrs=>rw=BC→LC (flat w.decl) (flat w.nss) (FJ GH (tag::attrs.map (·.1))) [] ks ks'
 |_=>ks'=ks
theorem UL{rw:CZ}{ks:AE AX}:ksN rw ks ks=ks:=by cases rw<;>rfl
end
theorem rs13:True∧True:=by
 (try walk1);(try w_top off)
 all_goals (first | trivial | exact ⟨trivial,trivial⟩)
section

theorem Ah{P:DC→Prop}(h1:∀tag attrs,P (.start tag attrs))(h2:∀d,P (.stop d))(h3:∀p u,P (.sns p u))(h4:∀d,P (.data d))(h5:∀d,P (.comment d))(h6:∀d,P (.pi d))(c:DC):P c:=by
 cases c with
 |start a b=>exact h1 a b
 |stop a=>exact h2 a
 |sns a b=>exact h3 a b
 |data a=>exact h4 a
 |comment a=>exact h5 a
 |pi a=>exact h6 a
noncomputable def rK(W:BU)(A:BQ)(s:AG)(E:AC→AG→Prop)(g:CW)(os:CU)(p:BH)(zw:AE AX)(zt:ER→AM AC)(mg mb:AX→AM AC)(L:AH)(m:AX→AM AC)(Q:AC→AG→Prop)(x:AH)(tabs:AE (AH×CY))(n:CC)(d:AX)(td:DW)(w:WS)(f:FD):Prop :=
 ∀(X:(hd07.heap_1 W.params).In g)(T:VO p zw zt mg mb g)(hh:A.handled=BN)(zq:A.depth<600)(F:Fr g L s.heap m)(N:AY g L s.heap (f.own w x++tabs))(o1:s.os=os)(b1:BP s.gens)(hI:f.Is W w x)(hT:f.Off x tabs)(hf:Fit n w)(hn:n≤100)(hc:JB w (.comment d))(h:∀(f':FD)(s':AG),f'.key=f.key→f'.Is W (w.tell (.comment d)) x→f'.Off x tabs→Fr g L s'.heap m→AY g L s'.heap (f'.own (w.tell (.comment d)) x++tabs)→s'.os=os→BP s'.gens→Q .none s'),AI (BE rw_dn0283_07.row.prog W) A (DK (.ref 133) [.ref x,.str d td]) Q E s
theorem Ae:∀{W A s E g os p zw zt mg mb L m Q x tabs n d td w f},rK W A s E g os p zw zt mg mb L m Q x tabs n d td w f:=by
 intro W A s E g os p zw zt mg mb L m Q x tabs n d td w f X T hh zq F N o1 b1 hI hT hf hn hc h
 by_cases hd:w.done=BC
 ·exact wA X T hh zq F N o1 b1 hI hT hf hn hc hd h
 ·exact kF X T hh zq F N o1 b1 hI hT hf hn hc (by revert hd;cases w.done<;>simp) h
noncomputable def rM(W:BU)(A:BQ)(s:AG)(E:AC→AG→Prop)(g:CW)(os:CU)(p:BH)(zw:AE AX)(zt:ER→AM AC)(mg mb:AX→AM AC)(L:AH)(m:AX→AM AC)(Q:AC→AG→Prop)(x:AH)(tabs:AE (AH×CY))(n:CC)(d:AX)(td ti:DW)(w:WS)(f:FD):Prop :=
 ∀(X:(hd07.heap_1 W.params).In g)(T:VO p zw zt mg mb g)(hh:A.handled=BN)(zq:A.depth<600)(F:Fr g L s.heap m)(N:AY g L s.heap (f.own w x++tabs))(o1:s.os=os)(b1:BP s.gens)(hI:f.Is W w x)(hT:f.Off x tabs)(hf:Fit n w)(hn:n≤100)(hc:JB w (.pi d))(h:∀(f':FD)(s':AG),f'.key=f.key→f'.Is W (w.tell (.pi d)) x→f'.Off x tabs→Fr g L s'.heap m→AY g L s'.heap (f'.own (w.tell (.pi d)) x++tabs)→s'.os=os→BP s'.gens→Q .none s'),AI (BE rw_dn0283_07.row.prog W) A (DK (.ref 140) [.ref x,.str "i" ti,.str d td]) Q E s
theorem Af:∀{W A s E g os p zw zt mg mb L m Q x tabs n d td ti w f},rM W A s E g os p zw zt mg mb L m Q x tabs n d td ti w f:=by
 intro W A s E g os p zw zt mg mb L m Q x tabs n d td ti w f X T hh zq F N o1 b1 hI hT hf hn hc h
 by_cases hd:w.done=BC
 ·exact oU X T hh zq F N o1 b1 hI hT hf hn hc hd h
 ·exact Dw X T hh zq F N o1 b1 hI hT hf hn hc (by revert hd;cases w.done<;>simp) h
noncomputable def bD(W:BU)(A:BQ)(s:AG)(g:CW)(os:CU)(p:BH)(zw:AE AX)(zt:ER→AM AC)(mg mb:AX→AM AC)(R:FE→AG→Prop)(x ca:AH)(tabs:AE (AH×CY))(n:CC)(ks':AE AX)(w:WS)(f:FD)(c:DC):Prop :=
 ∀(X:(hd07.heap_1 W.params).In g)(T:VO p zw zt mg mb g)(H:Ok g os (f.own w x++tabs) s)(hh:A.handled=BN)(zq:A.depth<500)(hu:A.units<7000)(C116:kP g 118 116)(hI:f.Is W w x)(hT:f.Off x tabs)(hLT:PO 116 ⟨136,71,136,96⟩ "C14NWriterTarget._start.<locals>.<lambda>" tabs) (hf:Fit n w) (hn:n≤100) (hc:JB w c) (hcap:f.cap≤1000) (hks:f.ks.length≤40) (hNF:ZG f.rw w f.ks ks' c) (hca:cQ W g ca c) (hN:∀(f':FD)(s':AG)(zp:AE (AH×CY)),PO 116 ⟨136,71,136,96⟩ "C14NWriterTarget._start.<locals>.<lambda>" zp→f'.key=(f.out,f.rw,f.cap,ksN f.rw f.ks ks')→f'.Is W (w.tell c) x→f'.Off x zp→Ok g os (f'.own (w.tell c) x++zp) s'→R (.ok (.ret .none)) s'),DV (BE rw_dn0283_07.row.prog W) A (.call (.ref 175) ⟨[.ref x,.ref ca],[]⟩) R s
theorem wC:∀{a b c d e f g h i j k l m n o p q r s},bD a b c d e f g h i j k l m n o p q r s:=by
 refine @(BK (GM KF)<|@(BK DM<|@(HF jL<|@(HF RQ<|@(HF eB<|let_mvar%?n:=(λW A s g os p zw zt mg mb R x ca tabs n ks' w f c=>?_:∀a b c d e f g h i j k l m n o p q r s,bD a b c d e f g h i j k l m n o p q r s);?n _ _ _ _ _ _ _ _ _ _ _ _ _ _ _ _ _ _ _)))))
 intro X T H hh zq hu C116 hI hT hLT hf hn hc hcap hks hNF hca hN;revert X;k_fill;intro X;refine' KQ (λy=>DY y [("call",.ref ca),("target",.ref x)]) H X T ?k6 ?k7 (AZ zq (by decide)) ?k9 ?kB ?km ?kl ?_ ?c1 ?c2 ?c3 ?c4
 (case k6=>k_is)
 (case k7=>k_is)
 (case k9=>exact GO rfl)
 (case kB=>exact locs rfl)
 (case km=>exact rfl)
 (case kl=>exact EB _)
 (case c1=>exact rfl)
 (case c2=>exact rfl)
 (case c3=>exact rfl)
 (case c4=>decide)
 k_whole;with_reducible refine let_mvar%?za:=(λL' h1 k0=>?_:PV _);FL DM (JN:ES _ (type_of%?za)) (?za _ _ _);intro hk0 F1 N1 l1;(try k_lt l1);(try dsimp only)
 revert c;refine Ah ?start ?stop ?sns ?data ?comment ?pi
 case data =>
  walk_at "eps";rename_i d;intro hc hNF hca hN;revert hca;refine VP ?_;walk_at "eps2";rename_i t tt;intro hca
  repeat'(first
   |((with_reducible show AI _ _ (assign (XJ _ _ _) _ (.ref ca)) _ _ _);(rename Fr ..=>F9);(rename AY _ _ _ _=>N9);refine MV hh F9 N9 (by obtain⟨o,y1,y2⟩:=hca;exact⟨o,F9.keep _ _ y1,y2⟩) ?_ rfl rfl rfl rfl;clear F9 N9;walk_at "eps2";rename_i h20 tk20;intro F20 N20;(try dsimp only))
   |((fail_if_success (with_reducible show AI _ _ (DK (.ref 90) _) _ _ _));walk_at "go"))
  (try any_goals(exact AW))
  (try any_goals(exact .none))
  (try any_goals(exact L'))
  (rename Fr ..=>F9);(rename AY _ _ _ _=>N9)
  refine vZ (os:=os) (f:=f) (w:=w) (tabs:=tabs) (n:=n) X T ?hhdata ?rmdata F9 N9 ?osdata ?brdata hI hT hf hn hc ?zzdata
  case osdata=>exact H.os
  case brdata=>exact H.bare
  case hhdata=>exact hh
  case rmdata=>show A.depth+1<600;exact(Nt λhn1=>fk [_] (.e (.s V0) (.k 500) (.e (.k 600) (.s V0) K0)) rfl zq hn1)
  with_reducible refine let_mvar%?zezzdata:=(λf' s'=>?_:OV _);EV (RQ.elim λf=>⟨(f,{})⟩) (IP:ES _ (type_of%?zezzdata)) (?zezzdata _ _);intro ho' hI' hT' F' N' o' b'
  repeat'((fail_if_success (with_reducible show LeaveM _ _ _ _ _));walk_at "go")
  (try any_goals(exact AW))
  (try any_goals(exact .none))
  (try any_goals(exact L'))
  exact leaveM_ F' N' o' b' λH'=>hN f' s' tabs hLT (by rw[ho',show ks'=f.ks from hNF,UL]) hI' hT' H'
 case stop =>
  walk_at "eps";rename_i d;intro hc hNF hca hN;revert hca;refine VP ?_;walk_at "eps2";rename_i t tt;intro hca
  repeat'(first
   |((with_reducible show AI _ _ (assign (XJ _ _ _) _ (.ref ca)) _ _ _);(rename Fr ..=>F9);(rename AY _ _ _ _=>N9);refine MV hh F9 N9 (by obtain⟨o,y1,y2⟩:=hca;exact⟨o,F9.keep _ _ y1,y2⟩) ?_ rfl rfl rfl rfl;clear F9 N9;walk_at "eps2";rename_i h20 tk20;intro F20 N20;(try dsimp only))
   |((fail_if_success (with_reducible show AI _ _ (DK (.ref 126) _) _ _ _));walk_at "go"))
  (try any_goals(exact AW))
  (try any_goals(exact .none))
  (try any_goals(exact L'))
  (rename Fr ..=>F9);(rename AY _ _ _ _=>N9)
  refine wD (os:=os) (f:=f) (w:=w) (tabs:=tabs) (n:=n) X T ?hhstop ?rmstop F9 N9 ?osstop ?brstop hI hT hf hn hc hcap hks ?zzstop
  case osstop=>exact H.os
  case brstop=>exact H.bare
  case hhstop=>exact hh
  case rmstop=>show A.depth+1<600;exact(Nt λhn1=>fk [_] (.e (.s V0) (.k 500) (.e (.k 600) (.s V0) K0)) rfl zq hn1)
  with_reducible refine let_mvar%?zezzstop:=(λf' s'=>?_:OV _);EV (RQ.elim λf=>⟨(f,{})⟩) (IP:ES _ (type_of%?zezzstop)) (?zezzstop _ _);intro ho' hI' hT' F' N' o' b'
  repeat'((fail_if_success (with_reducible show LeaveM _ _ _ _ _));walk_at "go")
  (try any_goals(exact AW))
  (try any_goals(exact .none))
  (try any_goals(exact L'))
  exact leaveM_ F' N' o' b' λH'=>hN f' s' tabs hLT (by rw[ho',show ks'=f.ks from hNF,UL]) hI' hT' H'
 case sns=>exact λ_ _ _ _ h=>h.elim
 case pi =>
  walk_at "eps";rename_i d;intro hc hNF hca hN;revert hca;refine VP ?_;walk_at "eps2";rename_i t tt;intro hca
  repeat'(first
   |((with_reducible show AI _ _ (assign (XJ _ _ _) _ (.ref ca)) _ _ _);(rename Fr ..=>F9);(rename AY _ _ _ _=>N9);refine MV hh F9 N9 (by obtain⟨o,y1,y2⟩:=hca;exact⟨o,F9.keep _ _ y1,y2⟩) ?_ rfl rfl rfl rfl;clear F9 N9;walk_at "eps2";rename_i h20 tk20;intro F20 N20;(try dsimp only))
   |((fail_if_success (with_reducible show AI _ _ (DK (.ref 140) _) _ _ _));walk_at "go"))
  (try any_goals(exact AW))
  (try any_goals(exact .none))
  (try any_goals(exact L'))
  (rename Fr ..=>F9);(rename AY _ _ _ _=>N9)
  refine Af (os:=os) (f:=f) (w:=w) (tabs:=tabs) (n:=n) X T ?hhpi ?rmpi F9 N9 ?ospi ?brpi hI hT hf hn hc ?zzpi
  case ospi=>exact H.os
  case brpi=>exact H.bare
  case hhpi=>exact hh
  case rmpi=>show A.depth+1<600;exact(Nt λhn1=>fk [_] (.e (.s V0) (.k 500) (.e (.k 600) (.s V0) K0)) rfl zq hn1)
  with_reducible refine let_mvar%?zezzpi:=(λf' s'=>?_:OV _);EV (RQ.elim λf=>⟨(f,{})⟩) (IP:ES _ (type_of%?zezzpi)) (?zezzpi _ _);intro ho' hI' hT' F' N' o' b'
  repeat'((fail_if_success (with_reducible show LeaveM _ _ _ _ _));walk_at "go")
  (try any_goals(exact AW))
  (try any_goals(exact .none))
  (try any_goals(exact L'))
  exact leaveM_ F' N' o' b' λH'=>hN f' s' tabs hLT (by rw[ho',show ks'=f.ks from hNF,UL]) hI' hT' H'
 case comment =>
  walk_at "eps";rename_i d;intro hc hNF hca hN;revert hca;refine VP ?_;walk_at "eps2";rename_i t tt;intro hca
  repeat'(first
   |((with_reducible show AI _ _ (assign (XJ _ _ _) _ (.ref ca)) _ _ _);(rename Fr ..=>F9);(rename AY _ _ _ _=>N9);refine MV hh F9 N9 (by obtain⟨o,y1,y2⟩:=hca;exact⟨o,F9.keep _ _ y1,y2⟩) ?_ rfl rfl rfl rfl;clear F9 N9;walk_at "eps2";rename_i h20 tk20;intro F20 N20;(try dsimp only))
   |((fail_if_success (with_reducible show AI _ _ (DK (.ref 133) _) _ _ _));walk_at "go"))
  (try any_goals(exact AW))
  (try any_goals(exact .none))
  (try any_goals(exact L'))
  (rename Fr ..=>F9);(rename AY _ _ _ _=>N9)
  refine Ae (os:=os) (f:=f) (w:=w) (tabs:=tabs) (n:=n) X T ?hhcomment ?rmcomment F9 N9 ?oscomment ?brcomment hI hT hf hn hc ?zzcomment
  case oscomment=>exact H.os
  case brcomment=>exact H.bare
  case hhcomment=>exact hh
  case rmcomment=>show A.depth+1<600;exact(Nt λhn1=>fk [_] (.e (.s V0) (.k 500) (.e (.k 600) (.s V0) K0)) rfl zq hn1)
  with_reducible refine let_mvar%?zezzcomment:=(λf' s'=>?_:OV _);EV (RQ.elim λf=>⟨(f,{})⟩) (IP:ES _ (type_of%?zezzcomment)) (?zezzcomment _ _);intro ho' hI' hT' F' N' o' b'
  repeat'((fail_if_success (with_reducible show LeaveM _ _ _ _ _));walk_at "go")
  (try any_goals(exact AW))
  (try any_goals(exact .none))
  (try any_goals(exact L'))
  exact leaveM_ F' N' o' b' λH'=>hN f' s' tabs hLT (by rw[ho',show ks'=f.ks from hNF,UL]) hI' hT' H'
 case start =>
  walk_at "eps2";rename_i tag attrs;intro hc hNF hca hN
  revert hca;refine Ca ?_;with_reducible refine let_mvar%?zc12:=(λt tt at_ na l=>?_:kQ _);LU DM (UR:ES _ (type_of%?zc12)) (?zc12 _ _ _ _ _);rintro⟨hca,hat,hsys,rfl⟩
  repeat'(first
   |((with_reducible show AI _ _ (assign (XJ _ _ _) _ (.ref ca)) _ _ _);(rename Fr ..=>F9);(rename AY _ _ _ _=>N9);refine MV hh F9 N9 (by obtain⟨o,y1,y2⟩:=hca;exact⟨o,F9.keep _ _ y1,y2⟩) ?_ rfl rfl rfl rfl;clear F9 N9;walk_at "eps2";rename_i h20 tk20;intro F20 N20;(try dsimp only))
   |((fail_if_success (with_reducible show AI _ _ (DK (.ref 113) _) _ _ _));walk_at "go"))
  (try any_goals(exact AW))
  (try any_goals(exact .none))
  (try any_goals(exact L'))
  (rename Fr ..=>F9);(rename AY _ _ _ _=>N9)
  refine rN (ks':=ks') (os:=os) (f:=f) (w:=w) (tabs:=tabs) (n:=n) X T ?hhstart ?rmstart F9 N9 ?osstart ?brstart hI hT hf hn hc hat hsys hcap hks (λz=>by have y:LC (flat w.decl) (flat w.nss) (FJ GH (tag::(l.map λp=>(p.1.1,p.2.1)).map (·.1))) [] f.ks ks':=hNF z;rw[GG] at y;exact y) (show A.units+3<8000 by exact(Nt λhn1=>fk [_] (.e (.s V0) (.k 7000) (.e (.k 8000) (.a V0 (.k 3)) K0)) rfl hu hn1)) C116 hLT ?zzstart
  case osstart=>exact H.os
  case brstart=>exact H.bare
  case hhstart=>exact hh
  case rmstart=>show A.depth+1<600;exact(Nt λhn1=>fk [_] (.e (.s V0) (.k 500) (.e (.k 600) (.s V0) K0)) rfl zq hn1)
  with_reducible refine let_mvar%?zezzstart:=(λf' s' zp=>?_:PV _);FL (RQ.elim λf=>⟨(f,{},default)⟩) (JN:ES _ (type_of%?zezzstart)) (?zezzstart _ _ _);intro hLT' ho' hI' hT' F' N' o' b'
  repeat'((fail_if_success (with_reducible show LeaveM _ _ _ _ _));walk_at "go")
  (try any_goals(exact AW))
  (try any_goals(exact .none))
  (try any_goals(exact L'))
  exact leaveM_ F' N' o' b' λH'=>hN f' s' zp hLT' ho' hI' hT' H'
end
section

def MX(a b:AE (AH×CY)):Prop:=∀p∈a,∀q∈b,p.1≠q.1
noncomputable def GW(N:AE Pr):WS:={ seen:=AU,done:=AU,decl:=[[("http://www.w3.org/XML/1998/namespace","xml")]],nss:=[IQ,N],pre:=[AU],data:=[],out:=[] }
theorem shuf_w{α:Type}{pr pm nl ns de dl D da x dx wr out:α}{own7:AE α}:∀q∈[x,dx,da,out,wr,de,ns,pr,pm]++(nl::dl::D::own7),q∈[pr,pm,nl,ns,de,dl,D,da,x,dx]++own7++[wr,out]:=by
 intro q hq
 have u:∀{r},r∈[pr,pm,nl,ns,de,dl,D,da,x,dx]→r∈[pr,pm,nl,ns,de,dl,D,da,x,dx]++own7++[wr,out]:=λh=>Ml _ (Ml _ h)
 have v:∀{r},r∈[wr,out]→r∈[pr,pm,nl,ns,de,dl,D,da,x,dx]++own7++[wr,out]:=λh=>Mr _ h;revert q
 exact Fp (Fc (u (by k_mem)) (Fc (u (by k_mem)) (Fc (u (by k_mem)) (Fc (v (by k_mem)) (Fc (v (by k_mem)) (Fc (u (by k_mem)) (Fc (u (by k_mem)) (Fc (u (by k_mem)) (Fc (u (by k_mem)) (BA _)))))))))) (Fc (u (by k_mem)) (Fc (u (by k_mem)) (Fc (u (by k_mem)) λq h=>Ml _ (Mr _ h))))
theorem Et{a b:AH}{l:AE AH}(h8:a∉l)(h:a≠b):a∉l++[b]:=λz=>(AT.mp z).elim h8 λz=>h (BB.mp z)
theorem gS{x dx da out wr de ns pr a:CC}(h1:out<wr)(h2:wr<dx)(h3:dx<x)(h4:x<da)(h5:da<de)(h6:de<ns)(h7:ns<a)(h8:a<pr):a∉[x,dx,da,out,wr,de,ns,pr]:=by
 have g1:=AZ h6 h7;have g2:=AZ h5 g1;have g3:=AZ h4 g2;have g4:=AZ h3 g3;have g5:=AZ h2 g4
 exact BM (AJ g3) (BM (AJ g4) (BM (AJ g2) (BM (AJ (AZ h1 g5)) (BM (AJ g5) (BM (AJ g1) (BM (AJ h7) (BM (AO h8) GC)))))))
theorem vD{x dx da out wr de ns pr a:CC}(h1:out<wr)(h2:wr<dx)(h3:dx<x)(h4:x<da)(h7:da<a)(h8:a<de)(h6:de<ns)(h9:ns<pr):a∉[x,dx,da,out,wr,de,ns,pr]:=by
 have g3:=AZ h4 h7;have g4:=AZ h3 g3;have g5:=AZ h2 g4;have g6:=AZ h8 h6
 exact BM (AJ g3) (BM (AJ g4) (BM (AJ h7) (BM (AJ (AZ h1 g5)) (BM (AJ g5) (BM (AO h8) (BM (AO g6) (BM (AO (AZ g6 h9)) GC)))))))
theorem SW{a b:CC}{t:AE CC}(h:a<b)(p:(b::t).Pairwise (·<·)):(a::b::t).Pairwise (·<·):=.cons (λc hc=>by
 rcases AP.mp hc with rfl|hc
 ·exact h
 ·exact AZ h (wV p hc)) p
theorem nd8_of{x dx da out wr de ns pr:CC}(h1:out<wr)(h2:wr<dx)(h3:dx<x)(h4:x<da)(h5:da<de)(h6:de<ns)(h7:ns<pr):([x,dx,da,out,wr,de,ns,pr]:AE CC).Nodup:=by
 have h:([out,wr,dx,x,da,de,ns,pr]:AE CC).Pairwise (·<·):=SW h1 (SW h2 (SW h3 (SW h4 (SW h5 (SW h6 (SW h7 (.cons (λ_ z=>nomatch z) .nil)))))))
 have n:([out,wr,dx,x,da,de,ns,pr]:AE CC).Nodup:=h.imp λz=>AO z;refine AE.Perm.nodup ?_ n;have p1:([out,wr,dx,x,da,de,ns,pr]:AE CC).Perm ([dx,x,da]++[out,wr]++[de,ns,pr]):=(PX (l₁:=[out,wr]) (l₂:=[dx,x,da])).append_right _
 exact p1.trans (.swap _ _ _)
theorem vC{l:AE AH}(h:l.length≤1):l.Nodup:=by
 cases l with
 |nil=>exact .nil
 |cons a l=>cases l with
  |nil=>simp
  |cons _ _=>exact absurd h (by simp)
noncomputable def WC(W:BU)(A:BQ)(s:AG)(E:AC→AG→Prop)(g:CW)(os:CU)(p:BH)(zw:AE AX)(zt:ER→AM AC)(mg mb:AX→AM AC)(L:AH)(m:AX→AM AC)(Q:AC→AG→Prop)(out:AH)(n2:CC)(rest news:AE (AH×CY))(rw:CZ)(NN:AE Pr):Prop :=
 ∀(X:(hd07.heap_1 W.params).In g)(T:VO p zw zt mg mb g)(hh:A.handled=BN)(zq:A.depth<500)(F:Fr g L s.heap m)(N:AY g L s.heap news)(o1:s.os=os)(b1:BP s.gens)(hNN:rw=AU→NN=[])(hout:(out,listOf #[] n2)∈news)(hrest:∀q∈rest,q∈news)(dis:∀q∈rest,q.1≠out)(h:∀(f:FD)(x:AH)(s':AG),f.key=(out,rw,7,[])→f.Is W (GW NN) x→Fr g L s'.heap m→AY g L s'.heap (f.own (GW NN) x++rest)→MX (f.own (GW NN) x) rest→s'.os=os→BP s'.gens→Q (.ref x) s'),AI (BE rw_dn0283_07.row.prog W) A (DK (.ref 168) [.ref out,.bool rw]) Q E s
theorem bH:∀{W A s E g os p zw zt mg mb L m Q out n2 rest news rw NN},WC W A s E g os p zw zt mg mb L m Q out n2 rest news rw NN:=by
 refine @(BK (GM KF)<|@(BK DM<|@(QZ DM<|let_mvar%?n:=(λW A s E g os p zw zt mg mb L m Q out n2 rest news rw NN=>?_:∀a b c d e f g h i j k l m n o p q r s t,WC a b c d e f g h i j k l m n o p q r s t);?n _ _ _ _ _ _ _ _ _ _ _ _ _ _ _ _ _ _ _ _)))
 intro X T hh zq F N o1 b1 hNN hout hrest dis h;refine GD [(out,listOf #[] n2)] rest F N o1 b1 (λq hq=>by rw[BB.mp hq];exact hout) hrest (λq hq z=>dis q hq (BB.mp z)) ?_
 with_reducible refine let_mvar%?zg:=(λg₂=>?_:Fa _);HZ DM (UA:ES _ (type_of%?zg)) (?zg _);intro H₂ K₂ r₂ back
 refine pC (X.keeps K₂) (T.keeps K₂) H₂ hh (AZ zq (by decide)) ?_
 with_reducible refine let_mvar%?zw0:=(λs' x dx wr hsh tkn ep=>?_:An _);RC JS (gB:ES _ (type_of%?zw0)) (?zw0 _ _ _ _ _ _ _)
 with_reducible refine let_mvar%?zw7:=(λn1 m2 n4 n5 n6 n7=>?_:Be _);SJ DM (kG:ES _ (type_of%?zw7)) (?zw7 _ _ _ _ _ _)
 with_reducible refine let_mvar%?zw14:=(λpr pm nl ns de dl D da=>?_:Bf _);SK DM (kI:ES _ (type_of%?zw14)) (?zw14 _ _ _ _ _ _ _ _)
 with_reducible refine let_mvar%?zw21:=(λoM tD tE lv own7=>?_:kQ _);LU DM (UR:ES _ (type_of%?zw21)) (?zw21 _ _ _ _ _)
 intro h1 h2 h3 hps hM h7 h8 H';obtain⟨F',N',o',b'⟩:=back _ _ H';obtain⟨c1,c2,c3,c4⟩:=h1;obtain⟨c5,c6,c7,c8⟩:=h2;obtain⟨d1,d2,d3⟩:=h3;obtain⟨v1,v2,v3,v4,v5,v6⟩:=h7
 have c57:=AZ c5 (AZ c6 c7)
 have d12:=AZ d1 d2;have ltnp:=AZ d12 d3
 have hi:∀{a:AH},ns<a→a<pm→a∉[x,dx,da,out,wr,de,ns,pr]++[pm]:=λu v=>Et (gS c1 c2 c3 c4 c57 c8 u (AZ v d3)) (AO v)
 have lo:∀{a:AH},da<a→a<de→a∉[x,dx,da,out,wr,de,ns,pr]++[pm]:=λu v=>Et (vD c1 c2 c3 c4 u v c8 ltnp) (AO (AZ v (AZ c8 d12)))
 have lv2:∀p∈lv,ns<p.1∧p.1<nl:=λp hp=>by
  obtain⟨k,hk⟩:=v2 p hp;exact⟨v1 _ hk,h8 _ hk⟩
 have hsub:∀q∈FD.own { dx:=dx,wr:=wr,da:=da,de:=de,ns:=ns,pm:=pm,pr:=pr,out:=out,hsh:=hsh,tkn:=tkn,ep:=ep,n1:=n7,n2:=n2,nde:=n5,nns:=n4,npr:=n1,ds:=[],ol:=[],dlv:=[(dl,#[.ref D])],nlv:=lv++[(nl,#[])],rest:=(nl,listOf #[] m2)::(dl,listOf #[.ref D] n6)::(D,DO #[.str "http://www.w3.org/XML/1998/namespace" tD,.str "xml" tE])::own7,rw:=rw,oM:=oM,pq:=[],cap:=7 } (GW NN) x,q∈([(pr,listOf #[.bool AU] n1),(pm,oM),(nl,listOf #[] m2),(ns,listOf ((lv.map λp=>AR p.1)++[AR nl]).toArray n4),(de,listOf #[.ref dl] n5),(dl,listOf #[.ref D] n6),(D,DO #[.str "http://www.w3.org/XML/1998/namespace" tD,.str "xml" tE]),(da,listOf #[] n7),(x,CV 143 dx),(dx,CK (wd hsh tkn (.bool BC) (.bool AU) .none .none (.bool rw) .none .none .none wr da de ns pm pr AU AU 0) ep)]++own7++[(wr,DZ out),(out,listOf #[] n2)]):=by
  have e:(lv++[(nl,(#[]:CE AC))]).map (λp=>AR p.1)=(lv.map λp=>AR p.1)++[AR nl]:=by rw[BF];rfl
  unfold FD.own;dsimp only;rw[e];exact shuf_w
 refine h { dx:=dx,wr:=wr,da:=da,de:=de,ns:=ns,pm:=pm,pr:=pr,out:=out,hsh:=hsh,tkn:=tkn,ep:=ep,n1:=n7,n2:=n2,nde:=n5,nns:=n4,npr:=n1,ds:=[],ol:=[],dlv:=[(dl,#[.ref D])],nlv:=lv++[(nl,#[])],rest:=(nl,listOf #[] m2)::(dl,listOf #[.ref D] n6)::(D,DO #[.str "http://www.w3.org/XML/1998/namespace" tD,.str "xml" tE])::own7,rw:=rw,oM:=oM,pq:=[],cap:=7 } x s' rfl ⟨rfl,rfl,?dl,?nl,?dp,?np,?nd,?off,?ndl,?more⟩ F' (AY.sub N' ?sub) ?dis o' b'
 case dl=>intro q hq;rw[BB.mp hq];exact⟨n6,.tail _ (.head _)⟩
 case nl =>
  intro q hq;rcases AT.mp hq with hq|hq
  ·obtain⟨k,hk⟩:=v2 q hq
   exact⟨k,.tail _ (.tail _ (.tail _ hk))⟩
  ·rw[BB.mp hq];exact⟨m2,.head _⟩
 case dp=>exact .cons (.cons ⟨D,_,_,rfl,.tail _ (.tail _ (.head _))⟩ .nil) .nil
 case np =>
  intro hr;rw[hNN hr];exact((v4 hr).mono λ_ _ z=>z.mono λ_ _ z=>z.mono λ_ h=>.tail _ (.tail _ (.tail _ h))).snoc (b:=[]) .nil
 case nd=>exact PU (nd8_of c1 c2 c3 c4 c57 c8 ltnp) (gS c1 c2 c3 c4 c57 c8 d12 d3)
 case off=>exact Fc (hi d1 d2) (Fc (lo (AZ c5 c6) c7) (Fc (lo c5 (AZ c6 c7)) λq hq=>hi (v1 q hq) (AZ (h8 q hq) d2)))
 case ndl =>
  show(dl::(lv++[(nl,(#[]:CE AC))]).map (·.1)).Nodup;have ldn:dl<ns:=AZ c7 c8;refine DF.mpr ⟨λz=>?_,?_⟩
  ·rw[BF] at z
   rcases AT.mp z with z|z
   ·obtain⟨p,hp,e⟩:=CO.mp z
    exact absurd e (AJ (AZ ldn (lv2 p hp).1))
   ·exact absurd (BB.mp z) (AO (AZ ldn d1))
  ·rw[BF]
   refine PU (vC (by rw[AN];exact v3)) λz=>?_;obtain⟨p,hp,e⟩:=CO.mp z
   exact absurd e (AO (lv2 p hp).2)
 case more =>
  refine⟨λhr=>by show(lv++[(nl,(#[]:CE AC))]).length=1;rw[v5 hr];rfl,Fp v6 (Fc (EH _) (BA _)),λ_=>⟨IQ,NN,0,rfl⟩,hM,⟨(λ_ _ he=>nomatch he),λ_=>rfl⟩,hps,λ_=>rfl⟩
 case sub =>
  intro q hq;rcases AT.mp hq with z|z
  ·exact Ml _ (hsub q z)
  ·exact Mr _ z
 case dis =>
  intro q hq r hr e;have z1:=(H'.own q (hsub q hq)).2;rw[e,r₂ r hr] at z1;cases z1
end
section
open PySem.Builtin PySem.Builtin.Str PySem.Builtin.Int
noncomputable abbrev pD:AX:="http://www.w3.org/2001/XMLSchema"
noncomputable def pick{α:Type}(d:α)(l:AE α)(i:EE):α:=l.getD i.toNat d
noncomputable abbrev HL:AE AX:=["urn:a","urn:b","urn:c","urn:d","urn:e","urn:f","urn:g","urn:h","urn:i","urn:j","urn:k","http://www.w3.org/2001/XMLSchema"]
noncomputable def rQ(i:EE):AX:=pick AW HL (i % 12)
noncomputable abbrev OA:AX:="{http://www.w3.org/XML/1998/namespace}lang"
noncomputable def nm(i:EE)(l:AX):AX:=AA "{"++rQ i++l
noncomputable def kT:AX:="}t"
noncomputable def kU:AX:="}u"
noncomputable def kV:AX:="}v"
noncomputable def fX(c:Prop)[PY c](q:Pr):AE Pr:=if c then [q] else []
noncomputable def SL(x:EE):AE Pr :=
 (fX (x % 6=2) (nm (x / 6 / 144) kU,"2<")++fX (x % 6>0) (nm (x / 6 / 12) kV,"1"))++fX (x / 6 % 7=0) (OA,"e")
noncomputable def QP(x:EE):AX:=nm (x / 6) kT
noncomputable def FH(st:AE DC×AE AX)(x:EE):AE DC×AE AX :=
 if x % 6<3∧st.2.length<7 then(st.1++[.start (QP x) (SL x)],st.2++[QP x])
 else if x % 6<4∧1<st.2.length then(st.1++[.stop (st.2.getLastD AW)],st.2.dropLast)
 else if x % 6=5 then(st.1++[if x / 6 % 2=0 then .comment "c" else .pi "c"],st.2)
 else(st.1++[.data (pick AW ["t","&","","<>"] (x / 6 % 4))],st.2)
noncomputable def VF:AE DC×AE AX:=([.start "{urn:f}r" [("{urn:a}u","1")]],["{urn:f}r"])
noncomputable def GS(xs:AE EE):AE DC×AE AX:=(([12,3]:AE EE)++xs).foldl FH VF
noncomputable def BO(xs:AE EE):AE DC:=((GS xs).1++(GS xs).2.reverse.map .stop)++[.comment "c",.pi "d"]
structure ScriptOk (st:AE DC×AE AX):Prop where
 ge1:1≤st.2.length
 few:st.2.length≤7
theorem ScriptOk.step{st:AE DC×AE AX}(h:ScriptOk st)(x:EE):ScriptOk (FH st x):=by
 have hs:=h.ge1;have hf:=h.few;unfold FH;split
 ·rename_i hx
  exact⟨by simp,by simp;exact He hx.2⟩
 split
 ·rename_i hx
  exact⟨by simp;exact CC.le_sub_of_add_le hx.2,by simp;exact AQ hf (by decide)⟩
 (repeat' split)<;>exact⟨hs,hf⟩
theorem XD:ScriptOk VF:=⟨by decide,by decide⟩
theorem vL(xs:AE EE):∀st,ScriptOk st→ScriptOk (xs.foldl FH st):=by
 induction xs with
 |nil=>exact λ_ h=>h
 |cons x xs ih=>exact λst h=>ih _ (h.step x)
theorem jU(xs:AE EE):ScriptOk (GS xs):=vL _ _ XD
theorem zF{l:AE AX}(i:EE):pick AW l i∈AW::l:=by
 unfold pick;rw[EX]
 cases e:l[i.toNat]? with
 |none=>exact .head _
 |some v=>exact .tail _ (GR e)
theorem JJ(i:EE):rQ i∈HL:=by
 have h0:0≤i % 12:=EE.emod_nonneg _ (by decide)
 have h1:i % 12<12:=Gk _ (by decide)
 obtain⟨k,hk⟩:=WH h0
 have hk2:k<12:=by rw[hk] at h1;exact EE.ofNat_lt.mp h1
 unfold rQ pick;rw[hk,FF,EX,BL (show k<HL.length from hk2)];exact QA _
theorem yQ:∀a∈HL,∀b∈HL,AA "{"++b++kV≠AA "{"++a++kU:=by decide +kernel
theorem YB:∀a∈HL,OA≠AA "{"++a++kU∧OA≠AA "{"++a++kV:=by decide +kernel
theorem nm_len(i:EE)(l:AX)(h:l.length≤2):(nm i l).length≤50:=by
 have h1:(rQ i).length≤40:=(show ∀a∈HL,a.length≤40 by decide +kernel) _ (JJ i)
 have h2:(nm i l).length=(AA "{"++rQ i).length+l.length:=PF _ _;have h3:(AA "{"++rQ i).length=(AA "{").length+(rQ i).length:=PF _ _
 have h4:(AA "{").length=1:=by decide
 omega
noncomputable def HP(W:BU)(own:AE (AH×CY))(v:AC):DC→Prop
 |.start tag attrs=>∃a t tt at_ na l,v=.ref a∧(a,DO #[.int 0 t,.str tag tt,.ref at_])∈own∧(at_,CK (IM W.params l) na)∈own∧(at_==FB)=AU∧attrs=l.map λp=>(p.1.1,p.2.1)
 |.stop tag=>∃a t tt,v=.ref a∧(a,DO #[.int 1 t,.str tag tt,.none])∈own
 |.data x=>∃a t tt,v=.ref a∧(a,DO #[.int 2 t,.str x tt,.none])∈own
 |.comment x=>∃a t tt,v=.ref a∧(a,DO #[.int 3 t,.str x tt,.none])∈own
 |.pi x=>∃a t tt,v=.ref a∧(a,DO #[.int 4 t,.str x tt,.none])∈own
 |.sns _ _=>NF
theorem HP.sub{W:BU}{o1 o2:AE (AH×CY)}{v:AC}{c:DC}(k:∀p∈o1,p∈o2)(x:HP W o1 v c):HP W o2 v c:=by
 cases c with
 |start tag attrs=>obtain⟨a,t,tt,at_,na,l,e,y1,y2,y3⟩:=x;exact⟨a,t,tt,at_,na,l,e,k _ y1,k _ y2,y3⟩
 |stop tag=>obtain⟨a,t,tt,e,y⟩:=x;exact⟨a,t,tt,e,k _ y⟩
 |data x'=>obtain⟨a,t,tt,e,y⟩:=x;exact⟨a,t,tt,e,k _ y⟩
 |comment x'=>obtain⟨a,t,tt,e,y⟩:=x;exact⟨a,t,tt,e,k _ y⟩
 |pi x'=>obtain⟨a,t,tt,e,y⟩:=x;exact⟨a,t,tt,e,k _ y⟩
 |sns p u=>exact x
theorem HP.told{W:BU}{own:AE (AH×CY)}{g:CW}{v:AC}{c:DC}(k:∀p∈own,g.get? p.1=AK p.2)(x:HP W own v c):∃a,v=.ref a∧cQ W g a c:=by
 cases c with
 |start tag attrs=>obtain⟨a,t,tt,at_,na,l,e,y1,y2,y3⟩:=x;exact⟨a,e,t,tt,at_,na,l,⟨_,k _ y1,rfl,_,rfl⟩,k _ y2,y3⟩
 |stop tag=>obtain⟨a,t,tt,e,y⟩:=x;exact⟨a,e,t,tt,⟨_,k _ y,rfl,_,rfl⟩⟩
 |data x'=>obtain⟨a,t,tt,e,y⟩:=x;exact⟨a,e,t,tt,⟨_,k _ y,rfl,_,rfl⟩⟩
 |comment x'=>obtain⟨a,t,tt,e,y⟩:=x;exact⟨a,e,t,tt,⟨_,k _ y,rfl,_,rfl⟩⟩
 |pi x'=>obtain⟨a,t,tt,e,y⟩:=x;exact⟨a,e,t,tt,⟨_,k _ y,rfl,_,rfl⟩⟩
 |sns p u=>exact x.elim
theorem ss_es{prog:BH}{w:BU}:∀{es:AE DictEntry}{kvs:AE (AX×AC)}{q:AE (AX×(AX×DW))},(∀e∈es,∃k,(strKind prog w).is k e.key=BC∧e.hash=(strKind prog w).hash k)→Pairs (strKind prog w) es kvs→kvs=q.map (λp=>(p.1,.str p.2.1 p.2.2)) →
  ∃l,es=IM w.params l∧(l.map λp=>(p.1.1,p.2.1))=q.map λp=>(p.1,p.2.1):=by
 intro es kvs q
 induction q generalizing es kvs with
 |nil=>intro _ hp he;subst he;cases hp;exact⟨[],rfl,rfl⟩
 |cons p q ih =>
  intro hk hp he;obtain⟨k,v,t⟩:=p;subst he;rw[EC] at hp
  cases es with
  |nil=>cases hp
  |cons e es =>
  cases hp with
  |cons a b r =>
  obtain⟨l,hl,hq⟩:=ih (λe he=>hk e (.tail _ he)) r rfl
  obtain⟨k',h1,h2⟩:=hk _ (.head _)
  have:=(strKind prog w).inj _ _ _ a h1;dsimp only at this;subst this;obtain⟨tk',ek⟩:=cR a;obtain⟨eh,ekey,ev⟩:=e;dsimp only at ek b h2;subst ek b h2;exact⟨((k,tk'),(v,t))::l,by rw[hl];rfl,by rw[EC,hq];rfl⟩
theorem Ex{prog:BH}{w:BU}{o:CY}{kvs:AE (AX×AC)}{q:AE (AX×(AX×DW))}(h:o.IsDictOf (strKind prog w) kvs)(e:kvs=q.map λp=>(p.1,.str p.2.1 p.2.2)) :
  ∃l n,o=CK (IM w.params l) n∧(l.map λp=>(p.1.1,p.2.1))=q.map λp=>(p.1,p.2.1):=by
 obtain⟨es,ep,⟨x1,x2,x3⟩,hd,hk,hp,hn⟩:=h;obtain⟨l,e1,e2⟩:=ss_es (λe he=>hk e (by simpa using he)) hp e;refine⟨l,ep,?_,e2⟩;obtain⟨c,d,dt,sl⟩:=o;dsimp only at x1 x2 x3 hd;subst x1 x2 x3 hd;rw[← e1]
section
variable{prog:BH}{w:BU}{A:BQ}{E:AC→AG→Prop}{s:AG}{h₀:CW}{L:AH}{m:AX→AM AC}{news:AE (AH×CY)}
theorem rP{t:AH}{v1 v2:AC}{n:CC}{Q:AE AC→AG→Prop}(hh:A.handled=BN)(hF:Fr h₀ L s.heap m)(N:AY h₀ L s.heap ((t,DO #[v1,v2])::news))
  (hQ:∀h',Fr h₀ L h' m→AY h₀ L h' news→Q [v1,v2] { s with heap:=h' }) (hn:n=2):AI (BE prog w) A (pL (.ref t) n BN) Q E s:=by
 subst hn
 exact VJ (items:=#[v1,v2]) hh ⟨_,(N _ (.head _)).1,rfl,_,rfl⟩ λh' he=>hQ h' (kR hF he (CR _)) (AY.sub (AY.ext N he) λ_ z=>.tail _ z)
theorem iA{value slice:EK}{a:AH}{l:AE (AX×DW)}{i:EE}{t:DW}{Q:AC→AG→Prop}(hl:s.heap.IsList a (AF l).toArray)(h0:0≤i)(h1:i<l.length)(h2:l.length≤100)
  (h:∀t',Q (.str (pick AW (l.map (·.1)) i) t') s)
  (hs:subscripted slice AU (.ref a) (.int i t)=operate [.ref a,.int i t] (SO (.ref a) (.int i t)):=by with_unfolding_all rfl) :
  AI (BE prog w) A (BZ value slice (.ref a) (.int i t)) Q E s:=by
 obtain⟨k,rfl⟩:=WH h0
 have hk:k<l.length:=by lia
 have e1:l[k]?=AK l[k]:=BL hk
 have e2:pick AW (l.map (·.1)) (k:EE)=l[k].1:=by
  unfold pick;rw[FF,EX,DH,e1];rfl
 refine vY hl.typeIs wX.lookup (Gy hl h0 (by lia) (x:=.str l[k].1 l[k].2) ?_ (e2 ▸ h l[k].2)) hs;rw[FF,FI];unfold AF;rw[DH,e1];rfl
end
theorem nF{l:AE AX}{n:CC}(h:∀x∈l,x.length≤n)(i:EE):(pick AW l i).length≤n:=by
 unfold pick;rw[EX]
 cases e:l[i.toNat]? with
 |none=>exact EH _
 |some v=>exact h v (GR e)
theorem Eo(a:EE){b:EE}(h:0<b):0≤a.fmod b:=EE.fmod_nonneg_of_pos a h
theorem En(a:EE){b:EE}(h:0<b):a.fmod b<b:=EE.fmod_lt_of_pos a h
theorem lS(a:EE){b:EE}(h:0<b):a.fmod b=a % b:=EE.fmod_eq_emod_of_nonneg a (EE.le_of_lt h)
theorem xZ(a:EE){b:EE}(h:0<b):a.fdiv b=a / b:=EE.fdiv_eq_ediv_of_nonneg a (EE.le_of_lt h)
section
variable{prog:BH}{w:BU}{A:BQ}{E:AC→AG→Prop}{s:AG}
theorem RT{value slice:EK}{o:AH}{l:AE (AX×DW)}{a b:EE}{n:CC}{t:DW}{Q:AC→AG→Prop}(hl:s.heap.IsList o (AF l).toArray)(hn:l.length=n)(hb:0<b)(hbn:b=(n:EE))(h2:n≤100)
  (h:∀t',Q (.str (pick AW (l.map (·.1)) (a % b)) t') s)
  (hs:subscripted slice AU (.ref o) (.int (a.fmod b) t)=operate [.ref o,.int (a.fmod b) t] (SO (.ref o) (.int (a.fmod b) t)):=by with_unfolding_all rfl) :
  AI (BE prog w) A (BZ value slice (.ref o) (.int (a.fmod b) t)) Q E s :=
 iA hl (Eo a hb) (by rw[hn,← hbn];exact En a hb) (by rw[hn];exact h2) (by rw[lS a hb];exact h) hs
theorem zE(names:AE AX){value slice:EK}{o:AH}{vs:AE AC}{a b:EE}{t:DW}{Q:AC→AG→Prop}(hl:s.heap.IsList o vs.toArray)(hv:∃l:AE (AX×DW),vs=AF l∧l.map (·.1)=names)(hb:0<b)(hbn:b=(names.length:EE))(h2:names.length≤100)
  (h:∀t',Q (.str (pick AW names (a % b)) t') s)
  (hs:subscripted slice AU (.ref o) (.int (a.fmod b) t)=operate [.ref o,.int (a.fmod b) t] (SO (.ref o) (.int (a.fmod b) t)):=by with_unfolding_all rfl) :
  AI (BE prog w) A (BZ value slice (.ref o) (.int (a.fmod b) t)) Q E s:=by
 obtain⟨l,rfl,rfl⟩:=hv;exact RT (n:=l.length) hl rfl hb (by simpa using hbn) (by simpa using h2) h hs
theorem tail_push{value slice:EK}{l:AH}{its:CE AC}{v:AC}{t:DW}{Q:AC→AG→Prop}(hl:s.heap.IsList l (its.push v))(h:Q v s)
  (hs:subscripted slice AU (.ref l) (.int (-1) t)=operate [.ref l,.int (-1) t] (SO (.ref l) (.int (-1) t)):=by with_unfolding_all rfl) :
  AI (BE prog w) A (BZ value slice (.ref l) (.int (-1) t)) Q E s :=
 PN (vs:=its.toList) (v:=v) (by(have e:(its.toList++[v]).toArray=its.push v:=by cases its;exact(KL _ _).symm);rw[e];exact hl) h hs
end
section
variable{prog:BH}{w:BU}{A:BQ}{E:AC→AG→Prop}{s:AG}{h₀:CW}{L d:AH}{m:AX→AM AC}{news:AE (AH×CY)}{g:CY→AE (AH×CY)}{o:CY}
theorem HY.ss{q:AE (AX×(AX×DW))}(h:HY prog w o q):∃l n,o=CK (IM w.params l) n∧(l.map λp=>(p.1.1,p.2.1))=q.map λp=>(p.1,p.2.1):=Ex h.1 rfl
theorem mL{a b c d e:AX}{m m0:AX→AM AC}(h:∀y,y≠a→y≠b→y≠c→y≠d→y≠e→m y=m0 y):m=m5 a b c d e m0 (m a) (m b) (m c) (m d) (m e):=funext λy=>VV (BW m) λh1=>VV (BW m) λh2=>VV (BW m) λh3=>VV (BW m) λh4=>VV (BW m) λh5=>h y h5 h4 h3 h2 h1
end
end
section

noncomputable abbrev XR(sa ur cl sd:AH):AX→AM AC:=λy=>if y="standing" then AK (.ref sd) else if y="calls" then AK (.ref cl) else DY y [("uris",.ref ur),("script",.ref sa)]
noncomputable abbrev SE(sa ur cl sd:AH)(u1 u2 u3 u4 u5:AM AC):AX→AM AC:=m5 "x" "kind" "more" "tag" "attrs" (XR sa ur cl sd) u1 u2 u3 u4 u5
noncomputable def JX(xs:AE (EE×DW)):AE AC:=xs.map λx=>.int x.1 x.2
inductive CallsJ (w:BU) (xs zs:AE (EE×DW)) (sa ur cl sd src:AH) (rem:AE AC) (m:AX→AM AC) (own:AE (AH×CY)):Prop
 |mk (ys:AE (EE×DW)) (st:AE DC×AE AX) (cv:AE AC) (nC nS:CC) (sv:AE (AX×DW)) (ob:AE (AH×CY)) (u1 u2 u3 u4 u5:AM AC) (h0:rem=JX ys) (h1:(ys.map (·.1)).foldl FH st=GS (xs.map (·.1))) (h2:ScriptOk st) (h3:st.1.length+ys.length≤70) (h4:m=SE sa ur cl sd u1 u2 u3 u4 u5) (h5:sv.map (·.1)=st.2) (h6:All2 (HP w ob) cv st.1) (h7:own=(cl,listOf cv.toArray nC)::(sd,listOf (AF sv).toArray nS)::(src,listOf (JX zs).toArray 0)::ob) (h8:(∀q∈ob,q.1≠cl∧q.1≠sd∧q.1≠src)):CallsJ w xs zs sa ur cl sd src rem m own
theorem All2.imp{α β:Type}{P P':α→β→Prop}(hP:∀a b,P a b→P' a b){l:AE α}{r:AE β}(h:All2 P l r):All2 P' l r:=h.mono hP
section
variable{w:BU}{xs zs ys:AE (EE×DW)}{sa ur cl sd src I L:AH}{oI so:CY}{m:AX→AM AC}{g h':CW}{st:AE DC×AE AX}{cv:AE AC}{nC nS:CC}{ob news:AE (AH×CY)}{x:EE}{tx:DW}{os:CU}
theorem PP{h9:CW}{os9:CU}{gs9:_}(c:DC)(v:AC)(nw:AE (AH×CY))(sv':AE (AX×DW))(F:Fr g L h9 m)(N:AY g L h9 news)
  (zh:FH st x=(st.1++[c],sv'.map (·.1))) (hv:HP w (nw++ob) v c) (hso:so=listOf (AF sv').toArray nS)
  (hsub:∀q∈[(I,oI),(cl,listOf (cv.toArray.push v) (nC+1)),(sd,so),(src,listOf (JX zs).toArray 0)],q∈news) (hnn:∀q∈nw,q∈news) (hob:∀q∈ob,q∈news)
  (hnw:∀q∈nw,q.1≠cl∧q.1≠sd∧q.1≠src∧q.1≠I)
  (hm:∀y,y≠AA "x"→y≠AA "kind"→y≠AA "more"→y≠AA "tag"→y≠AA "attrs"→m y=XR sa ur cl sd y)
  (eF:(((x,tx)::ys).map (·.1)).foldl FH st=GS (xs.map (·.1))) (sO:ScriptOk st) (eL:st.1.length+((x,tx)::ys).length≤70) (eC:All2 (HP w ob) cv st.1)
  (off:∀q∈ob,q.1≠cl∧q.1≠sd∧q.1≠src) (n1:cl≠I) (n2:sd≠I) (n4:src≠I) (n5:∀q∈ob,q.1≠I) (o1:os9=os) (b1:BP gs9) :
  ∃m'' own',CallsJ w xs zs sa ur cl sd src (JX ys) m'' own'∧Fr g L h9 m''∧AY g L h9 ((I,oI)::own')∧(∀p∈own',p.1≠I)∧os9=os∧BP gs9:=by
 have epush:cv.toArray.push v=(cv++[v]).toArray:=KL _ _;subst hso
 refine⟨m,(cl,listOf (cv++[v]).toArray (nC+1))::(sd,listOf (AF sv').toArray nS)::(src,listOf (JX zs).toArray 0)::(nw++ob),
  ⟨ys,FH st x,cv++[v],nC+1,nS,sv',nw++ob,_,_,_,_,_,rfl,eF,sO.step x,?_,mL hm,by rw[zh],?_,rfl,?_⟩,F,?_,?_,o1,b1⟩
 ·rw[zh];simp only[BD,CD,GA] at eL ⊢;exact(Nl λhn1=>fk [_,_] (.e (.a V0 (.s V1)) (.k 70) (.e (.s (.k 70)) (.a (.a V0 (.s K0)) V1) K0)) rfl eL hn1)
 ·rw[zh]
  exact(eC.mono λa b z=>z.sub λp hp=>Mr _ hp).snoc hv
 ·exact Fp (λq z=>⟨(hnw q z).1,(hnw q z).2.1,(hnw q z).2.2.1⟩) off
 ·rw[epush] at hsub
  exact AY.sub N (Fc (hsub _ (.head _)) (Fc (hsub _ (.tail _ (.head _))) (Fc (hsub _ (.tail _ (.tail _ (.head _)))) (Fc (hsub _ (.tail _ (.tail _ (.tail _ (.head _))))) (Fp hnn hob)))))
 ·exact Fc n1 (Fc n2 (Fc n4 (Fp (λq h=>(hnw q h).2.2.2) n5)))
end
end
theorem rs14:True∧True:=by
 (try walk1);(try w_top off)
 all_goals (first | trivial | exact ⟨trivial,trivial⟩)
section

open PyProof.Rows.LCg
section
variable{prog:BH}{w:BU}{A:BQ}{E:AC→AG→Prop}{s:AG}{h₀:CW}{L:AH}{m:AX→AM AC}{env:XH}
noncomputable def UE(w:BU)(A:BQ)(s:AG)(prog:BH)(E:AC→AG→Prop)(h₀:CW)(L:AH)(m:AX→AM AC)(env:XH)(elt iter:EK)(x:AX)(px:OP)(scope:KO)(cl:AE (AX×AH))(pos:OP)(Q:AC→AG→Prop):Prop :=
 ∀(hclos:QD scope env=pure cl)(hcell:∀y∈scope.names,y.2≠.cell)(hkind:scope.kind=.function)(hnames:∀y∈scope.names,y.2=.local→scope.names.lookup y.1=AK .local)(hx:scope.names.lookup x=AK .local)(h:AI (BE prog w) A (eval iter env) (λxv s₁=>∃(I ax:AH)(vs:AE AC)(news:AE (AH×CY)),xv=.ref I∧A.handled=BN∧Fr h₀ L s₁.heap m∧AY h₀ L s₁.heap ((I,nN ax ((vs.length:EE)-1))::news)∧(∀p∈news,p.1≠I)∧ax≠I∧RZ h₀ ax vs.toArray news∧vs.length≤DA ∧
   CompRest prog w A h₀ L m env elt x scope cl s₁ (RZ h₀ ax vs.toArray) (λi v=>vs.toArray[vs.toArray.size-1-i]?=AK v) (FinE h₀ L m s₁ Q) vs.toArray.size 0 [] news) E s)(hs:∀x,HJ iter env x=pure x),AI (BE prog w) A (eval (.ListComp elt [⟨.Name x px,iter,[],0⟩] scope pos) env) Q E s
theorem ZF:∀a b c d e f g h i j k l m n o p q,UE a b c d e f g h i j k l m n o p q:=by
 refine BK (GM KF)<|BK DM<|HF DM<|let_mvar%?n:=(λw A s prog E h₀ L m env elt iter x px scope cl pos Q=>?_:∀a b c d e f g h i j k l m n o p q,UE a b c d e f g h i j k l m n o p q);?n _ _ _ _ _ _ _ _ _ _ _ _ _ _ _ _ _
 intro hclos hcell hkind hnames hx h hs;rw[eval_ListComp]
 refine JH (use:=BN) rfl hs hclos hkind hnames (DI h (λxv s₁ h₁=>?_) λ_ _ e=>e)
 obtain⟨I,ax,vs,news,rfl,hh,F,N,off,hne,S,hsz,R⟩:=h₁
 have N':AY h₀ L s₁.heap news:=λp hp=>N p (.tail _ hp)
 have hl:=S.list F.keep N'
 have hI:=N _ (.head _)
 have hit:s₁.heap.IsRevIter I ax ((vs.toArray.size:EE)-1):=⟨_,hI.1,rfl,by simp[nN]⟩;refine cC hit ?_
 refine block_U (Walks.listRev hh I ax hne vs.toArray) (by simpa using hsz) (λi h st=>by obtain⟨o,e,_⟩:=st.2.1;exact⟨o,e⟩) (λi h h' o nw st e e' k N S=>⟨st.1,by obtain⟨o',q,r⟩:=st.2.1;rw[e] at q;cases q;exact⟨o,e',r⟩,S.list k N⟩)
  hcell hkind hx ⟨EH _,by simpa using hit,hl⟩ (λb hb=>?_) F N' (BG hI.2.1) hI.2.2 off S R ?_
 ·rcases AP.mp hb with rfl|hb
  ·exact BS hI.1
  ·rw[BB.mp hb];obtain⟨_,e,_⟩:=hl;exact BS e
 ·intro D C h tk m' ys news' F' N' o1 hn hC₀ hD₀ hCL hDL hCD offC fin
  refine⟨m',hn,λh'' hs''=>fin D h'' tk (F'.change hs'' hCL hC₀) (λp hp=>?_) o1⟩;refine⟨hs''.extBut _ _ ?_ (N' p hp).1,(N' p hp).2⟩;rcases AP.mp hp with rfl|hp
  ·exact BG hCD
  ·exact offC p hp
theorem iM{elt iter:EK}{x:AX}{px:OP}{scope:KO}{cl:AE (AX×AH)}{pos:OP}{Q:AC→AG→Prop}
  (hclos:QD scope env=pure cl) (hcell:∀y∈scope.names,y.2≠.cell) (hkind:scope.kind=.function)
  (hnames:∀y∈scope.names,y.2=.local→scope.names.lookup y.1=AK .local) (hx:scope.names.lookup x=AK .local)
  (h:AI (BE prog w) A (eval iter env) (λxv s₁=>∃(I ax:AH)(vs:AE AC)(news:AE (AH×CY)),xv=.ref I∧A.handled=BN∧Fr h₀ L s₁.heap m∧AY h₀ L s₁.heap ((I,nN ax ((vs.length:EE)-1))::news)∧(∀p∈news,p.1≠I)∧ax≠I∧RZ h₀ ax vs.toArray news∧vs.length≤DA ∧
   CompRest prog w A h₀ L m env elt x scope cl s₁ (RZ h₀ ax vs.toArray) (λi v=>vs.toArray[vs.toArray.size-1-i]?=AK v) (FinE h₀ L m s₁ Q) vs.toArray.size 0 [] news) E s)
  (hs:∀x,HJ iter env x=pure x:=by intro _;rfl) :
  AI (BE prog w) A (eval (.ListComp elt [⟨.Name x px,iter,[],0⟩] scope pos) env) Q E s:=ZF w A s prog E h₀ L m env elt iter x px scope cl pos Q hclos hcell hkind hnames hx h hs
end
noncomputable abbrev sV:KO:={ kind:=.function,names:=[(".0",.local),("tag",.local)],isGenerator:=AU,isCoroutine:=AU,more:=[] }
noncomputable abbrev Ey(p1 p2 p3 p4:OP):EK:=.Tuple [.Constant (.int 1) 0 p1,.Name "tag" p2,.Constant .none 0 p3] 0 p4
theorem st_elt{w:BU}{A:BQ}{E:AC→AG→Prop}{s:AG}{g:CW}{L C:AH}{m m₂:AX→AM AC}{news:AE (AH×CY)}{env:XH}{cl:AE (AX×AH)}{oC:CY}{d:AX}{td:DW}{p1 p2 p3 p4:OP}{Q:AC→AG→Prop}
  (F1:Fr g L s.heap m) (N1:AY g L s.heap ((C,oC)::news)) (hC:tI oC m₂) (hu:m₂ "tag"=AK (.str d td))
  (h:∀(T':AH)t3 h' tk,Fr g L h' m→AY g L h' ((T',DO #[.int 1 t3,.str d td,.none])::(C,oC)::news)→(∀r∈(C,oC)::news,r.1<T')→Q (.ref T') { s with heap:=h',toks:=tk }) :
  AI (BE rw_dn0283_07.row.prog w) A (eval (Ey p1 p2 p3 p4) (EY sV cl C env)) Q E s:=by
 repeat'(first
    |((with_reducible show AI _ _ (NP _) _ _ _);refine JP F1 N1 ?_ (by rw[BI];exact CP rfl);intro T' h' F' N' l')
    |((with_reducible show AI _ _ (eval (cD _ _) _) _ _ _);refine UU N1 (.head _) hC hu ?_)
    |walk_at "go")
 exact h T' _ h' _ F' N' l'
theorem mW{D:AH}:∀{l:AE (AH×CY)},Off1 D l→∀p∈l,p.1≠D
 |[],_,_,h=>nomatch h
 |q::l,h,p,hp=>by
  rcases AP.mp hp with rfl|hp
  ·exact h.1
  ·exact mW h.2 p hp
theorem YE{n:CC}(h:n≤1000):VL n=AU:=by
 unfold VL;have:=BI
 simp;exact(Nl λhn1=>fk [_,_] (.e V0 (.k 1000) (.e (.k 16777216) V1 (.e (.s V1) V0 K0))) rfl h (Es this) hn1)
section
variable{w:BU}{A:BQ}{s:AG}{g:CW}{L:AH}{m:AX→AM AC}{env:XH}{cl:AE (AX×AH)}{p1 p2 p3 p4:OP}{Q:AC→AG→Prop}
theorem nO{ax:AH}{tags:AE (AX×DW)}{base:AE (AH×CY)}(hS:RZ g ax (AF tags).toArray base)
  (fin:∀ys tu,All2 (HP w tu) ys ((tags.map (·.1)).reverse.map DC.stop)→(∀q∈tu,∀r∈base,r.1≠q.1)→FinE g L m s Q ys (tu++base)) :
  ∀k i ys tu,i+k=tags.length→All2 (HP w tu) ys (((tags.map (·.1)).reverse.take i).map DC.stop)→(∀q∈tu,∀r∈base,r.1≠q.1) →
   CompRest rw_dn0283_07.row.prog w A g L m env (Ey p1 p2 p3 p4) "tag" sV cl s (RZ g ax (AF tags).toArray) (λi v=>(AF tags).toArray[(AF tags).toArray.size-1-i]?=AK v) (FinE g L m s Q) k i ys (tu++base)
 |0,i,ys,tu,hi,hy,ho=>by
  have e:i=(tags.map (·.1)).reverse.length:=by simp;exact(DG (Nl λhn2=>fk [_,_] (.e (.a V0 K0) V1 (.e (.s V1) V0 K0)) rfl (El hi) hn2) (Nl λhn3=>fk [_,_] (.e V0 (.a V1 K0) (.e (.s V1) V0 K0)) rfl (Es hi) hn3))
  rw[e,kX] at hy;exact fin ys tu hy ho
 |k+1,i,ys,tu,hi,hy,ho=>by
  intro v I oI C oC D m₂ h tk E' hP hC hv F1 N1 off hne
  have hlt:tags.length-1-i<tags.length:=by exact(Nt λhn1=>fk [_,_,_] (.e V0 V1 (.e V1 V2 (.e (.s V2) V0 K0))) rfl hn1 (CC.sub_le _ _) (ET (fP (Nl λhn3=>fk [_,_,_] (.e (.a V0 (.s V1)) V2 (.e (.s V2) K1 K0)) rfl (El hi) hn3))))
  have hv':v=.str tags[tags.length-1-i].1 tags[tags.length-1-i].2:=by
   rw[FI] at hP;simp only[AF,CG,AN,DH,BL hlt,KC] at hP;exact(HB hP).symm
  subst hv'
  have N2:AY g L h ((C,oC)::(I,oI)::(D,lst ys)::(tu++base)):=AY.sub N1 (by walk_at "l_sub")
  refine st_elt (s:={ s with heap:=h,toks:=tk }) F1 N2 hC hv λT' t3 h' tk' F' N' l'=>?_
  have e9:(tags.map (·.1)).reverse.take (i+1)=(tags.map (·.1)).reverse.take i++[tags[tags.length-1-i].1]:=by
   rw[PC (by simp;exact(Nt λhn1=>fk [_,_,_] (.e (.a V0 (.s V1)) V2 (.e V2 V0 K0)) rfl (El hi) hn1))];simp
  refine⟨h',tk',((T',DO #[.int 1 t3,.str tags[tags.length-1-i].1 tags[tags.length-1-i].2,.none])::tu)++base,rfl,F',AY.sub N' ?_,?_,?_,?_⟩
  ·dsimp only[DQ]
   walk_at "l_sub"
  ·have o:=off.mem
   refine Off3.of λp hp=>?_;rcases AP.mp hp with rfl|hp
   ·exact⟨AJ (l' (I,oI) (.tail _ (.head _))),AJ (l' (C,oC) (.head _)),AJ (l' (D,lst ys) (.tail _ (.tail _ (.head _))))⟩
   ·exact o p hp
  ·rcases hS with z|⟨o,hm,r⟩
   ·exact .inl z
   ·exact .inr ⟨o,Mr _ hm,r⟩
  ·refine nO hS fin k (i+1) _ _ (by exact(DG (Nl λhn2=>fk [_,_,_] (.e (.a V0 (.s V1)) V2 (.e (.s V2) (.a (.s V0) V1) K0)) rfl (El hi) hn2) (Nl λhn5=>fk [_,_,_] (.e V0 (.a V1 (.s V2)) (.e (.a (.a (.s V1) V2) K1) V0 K0)) rfl (Es hi) hn5))) ?_ ?_
   ·rw[e9,BF]
    exact(hy.mono λa b z=>z.sub λp hp=>.tail _ hp).snoc ⟨T',_,_,rfl,.head _⟩
   ·intro q hq r hr
    rcases AP.mp hq with rfl|hq
    ·exact AO (l' r (by simp[hr]))
    ·exact ho q hq r hr
end
end
theorem rs15:True∧True:=by
 (try walk1);(try w_top off)
 all_goals (first | trivial | exact ⟨trivial,trivial⟩)
section

theorem CallsJ.out{w:BU}{xs zs:AE (EE×DW)}{sa ur cl sd src:AH}{rem:AE AC}{m:AX→AM AC}{own:AE (AH×CY)}{G:Prop}(h:CallsJ w xs zs sa ur cl sd src rem m own)
  (k:∀(ys:AE (EE×DW))(st:AE DC×AE AX)(cv:AE AC)(nC nS:CC)(sv:AE (AX×DW))(ob:AE (AH×CY))(u1 u2 u3 u4 u5:AM AC),rem=JX ys→(ys.map (·.1)).foldl FH st=GS (xs.map (·.1))→ScriptOk st→st.1.length+ys.length≤70→m=SE sa ur cl sd u1 u2 u3 u4 u5→sv.map (·.1)=st.2→All2 (HP w ob) cv st.1→own=(cl,listOf cv.toArray nC)::(sd,listOf (AF sv).toArray nS)::(src,listOf (JX zs).toArray 0)::ob→(∀q∈ob,q.1≠cl∧q.1≠sd∧q.1≠src)→G):G :=
 h.casesOn λys st cv nC nS sv ob u1 u2 u3 u4 u5 h0 h1 h2 h3 h4 h5 h6 h7 h8=>k ys st cv nC nS sv ob u1 u2 u3 u4 u5 h0 h1 h2 h3 h4 h5 h6 h7 h8
theorem ne9k{d a:AH}{o:CY}{news:AE (AH×CY)}(l:∀p∈news,p.1<d)(h:(a,o)∈news):a≠d:=AO (l _ h)
theorem RI{sa ur cl sd:AH}{u1 u2 u3 u4 u5:AM AC}{y:AX}(h1:y≠"x")(h2:y≠"kind")(h3:y≠"more")(h4:y≠"tag")(h5:y≠"attrs"):SE sa ur cl sd u1 u2 u3 u4 u5 y=XR sa ur cl sd y:=by
 simp[SE,m5,h1,h2,h3,h4,h5]
theorem iZ{w:BU}{prog:BH}{M:QV}{A:BQ}{e:kZ WG}{g:CW}{L d:AH}{mm:AX→AM AC}{rest:AE (AH×CY)}{o:CY}{q:AE (AX×(AX×DW))}(c:Prop)[PY c](kv:Pr){Q:WG→AG→Prop}{E:AC→AG→Prop}{s:AG}(F:Fr g L s.heap mm)(N:AY g L s.heap ((d,o)::rest))(hd:HY prog w o q)
  (a:AI M A e (λfl s'=>∃o' t h' tk,fl=.next∧s'={ s with heap:=h',toks:=tk }∧Fr g L h' mm∧AY g L h' ((d,o')::rest)∧HY prog w o' (q++if c then [(kv.1,(kv.2,t))] else [])) E s)
  (b:∀o' q' h' tk,Fr g L h' mm→AY g L h' ((d,o')::rest)→HY prog w o' q'→q'.map (λp=>(p.1,p.2.1))=q.map (λp=>(p.1,p.2.1))++fX c kv→Q .next { s with heap:=h',toks:=tk }):AI M A e Q E s :=
 DI a (λfl s'⟨o',t,h',tk,e0,e1,e2,e3,e4⟩=>by
  rw[e0,e1];refine b o' _ h' tk e2 e3 e4 ?_
  rw[BF];unfold fX;split<;>rfl) λ_ _ z=>z
theorem lM{M:QV}{A:BQ}{e:kZ CZ}(c:Prop)[PY c]{Q:CZ→AG→Prop}{E:AC→AG→Prop}{s:AG}
  (a:AI M A e (λb s'=>b=decide c∧∃tk,s'={ s with toks:=tk }) E s) (b:∀tk,Q (decide c) { s with toks:=tk }):AI M A e Q E s :=
 DI a (λv s'⟨e1,tk,e2⟩=>by rw[e1,e2];exact b tk) λ_ _ z=>z
theorem iR(i:EE):(AA "{").length+(pick AW HL i).length≤DA:=by
 have h1:(pick AW HL i).length≤40:=nF (by decide +kernel) i
 have h4:(AA "{").length=1:=by decide
 rw[BI];omega
theorem iS(i:EE){l:AX}(h:l.length≤2):(AA "{"++pick AW HL i).length+l.length≤DA:=by
 have h1:(pick AW HL i).length≤40:=nF (by decide +kernel) i;have h3:(AA "{"++pick AW HL i).length=(AA "{").length+(pick AW HL i).length:=PF _ _
 have h4:(AA "{").length=1:=by decide
 rw[BI];omega
theorem eE(c:Prop)[PY c](q:Pr):(fX c q).length≤1:=by unfold fX;split<;>simp
theorem sG{k:AX}{q:AE (AX×(AX×DW))}{l:AE Pr}(h:q.map (λp=>(p.1,p.2.1))=l)(hk:∀p∈l,k≠p.1):k∉q.map (·.1):=λz=>by
 obtain⟨p,hp,e⟩:=CO.mp z;exact hk (p.1,p.2.1) (h ▸ BV (f:=λp:AX×(AX×DW)=>(p.1,p.2.1)) hp) e.symm
theorem dZ{c:Prop}[PY c]{q p:Pr}(h:p∈fX c q):p=q:=by
 unfold fX at h;split at h
 ·exact BB.mp h
 ·exact nomatch h
theorem len12{l:AE (AX×DW)}(h:l.map (·.1)=HL):l.length=12:=by rw[← AN (f:=(·.1)),h];rfl
theorem pV{w:BU}{g h:CW}{L src lit sd cl a1 d0 sa ur:AH}{c3 c4 t1 t2 t3:DW}{xs:AE (EE×DW)}{olit:CY}{l0:AE ((AX×DW)×(AX×DW))}{n0:CC}(hxl:xs.length≤63)(N:AY g L h ((src,listOf ([LM 12 c3,LM 3 c4]++xs.map λx=>LM x.1 x.2).toArray 0)::(lit,olit)::(sd,listOf #[.str "{urn:f}r" t1] 0)::(cl,listOf #[.ref a1] 0)::(a1,DO #[.int 0 t2,.str "{urn:f}r" t3,.ref d0])::[(d0,CK (IM w.params l0) n0)]))
  (lo0:(d0==FB)=AU) (hl0:(l0.map λp=>(p.1.1,p.2.1))=[((AA "{urn:a}u"),(AA "1"))]) (e1:d0<a1) (e2:a1<cl) (e3:cl<sd) (e4:sd<src) :
  ∃zs own,CallsJ w xs zs sa ur cl sd src (JX zs) (SE sa ur cl sd BN BN BN BN BN) own∧AY g L h own∧zs.length=xs.length+2:=by
 have h2:=AZ e1 e2;have h3:=AZ e2 e3;have h4:=AZ h2 e3;have h5:=AZ h3 e4;have h6:=AZ h4 e4;refine⟨[(12,c3),(3,c4)]++xs,(cl,listOf [AR a1].toArray 0)::(sd,listOf (AF [("{urn:f}r",t1)]).toArray 0)::(src,listOf (JX ([(12,c3),(3,c4)]++xs)).toArray 0)::[(a1,DO #[.int 0 t2,.str "{urn:f}r" t3,.ref d0]),(d0,CK (IM w.params l0) n0)],⟨[(12,c3),(3,c4)]++xs,VF,[.ref a1],0,0,[("{urn:f}r",t1)],[(a1,DO #[.int 0 t2,.str "{urn:f}r" t3,.ref d0]),(d0,CK (IM w.params l0) n0)],BN,BN,BN,BN,BN,rfl,rfl,XD,?_,rfl,rfl,?_,rfl,?_⟩,AY.sub N ?_,rfl⟩
 ·show 1+(xs.length+1+1)≤70
  omega
 ·exact .cons ⟨a1,_,_,d0,n0,l0,rfl,.head _,.tail _ (.head _),lo0,hl0.symm⟩ .nil
 ·exact Fc ⟨AO e2,AO h3,AO h5⟩ (Fc ⟨AO h2,AO h4,AO h6⟩ (BA _))
 ·exact Fc (.tail _ (.tail _ (.tail _ (.head _)))) (Fc (.tail _ (.tail _ (.head _))) (Fc (.head _) (Fc (.tail _ (.tail _ (.tail _ (.tail _ (.head _))))) (Fc (.tail _ (.tail _ (.tail _ (.tail _ (.tail _ (.head _)))))) (BA _)))))
section
variable{prog:BH}{w:BU}{A:BQ}{E:AC→AG→Prop}{s:AG}{h₀:CW}{L:AH}{m:AX→AM AC}{news:AE (AH×CY)}
theorem ext_K{D b:AH}{its its2:CE AC}{n n2:CC}{news':CC→AE (AH×CY)}{Q:AC→AG→Prop}(F:Fr h₀ L s.heap m)(N:AY h₀ L s.heap news)(hb:(b,listOf its2 n2)∈news)
  (U:∀k,Upd D (listOf its n) (listOf (its++its2) k) news (news' k)) (hz:its.size+its2.size≤1000)
  (h:∀k h',Fr h₀ L h' m→AY h₀ L h' (news' k)→Q .none { s with heap:=h' }):AI (BE prog w) A (DK (.builtin "list.extend") [.ref D,.ref b]) Q E s:=by
 have hz1:its.size+its2.size≤DA:=by rw[BI];exact(BJ λhn1=>fk [_,_] (.c 1 (.a (.v 0) (.v 1)) (.k 1000) (.c 1 (.a (.k 16777216) (.k 1)) (.a (.v 0) (.v 1)) (.k 0))) rfl hz hn1)
 have hd:¬(!its.isEmpty&&VL (its.size+its2.size))=BC:=by rw[YE hz];simp
 by_cases e:its2.toList.length=0
 ·have e2:its2=#[]:=WF.mp (GQ e)
  subst e2;obtain⟨pre,post,e3,e4,a,c⟩:=(U n).split;subst e3
  have z:=N (D,listOf its n) (AT.mpr (.inr (.head _)))
  refine call_meets PySem.F.slot_list_extend ⟨_,z.1,rfl⟩ PySem.F.entry_list_extend (PySem.F.args_list_extend_2 _ _) (PySem.AutoSeq1.list_extend_list_list_0 D its n b #[] n2 hd (by exact(BJ λhn1=>fk [_,_,_] (.c 1 (.a (.v 0) (.v 1)) (.v 2) (.c 1 (.a (.v 2) (.k 1)) (.v 0) (.k 0))) rfl hz1 hn1)) (by exact(BJ λhn1=>fk [_,_,_] (.c 1 (.a (.v 0) (.v 1)) (.v 2) (.c 1 (.a (.a (.v 2) (.k 1)) (.k 1)) (.a (.v 0) (.v 1)) (.k 0))) rfl hz1 hn1))) ⟨z.1,(N _ hb).1,h n _ (F.change (DR ..) z.2.1 z.2.2) ?_⟩;rw[e4]
  exact kl_turn0 _ N a c rfl (by simp)
 ·exact kl_extend (l:=(its++its2).toList) F N hb CE.toList_append.symm e (U (n+1)) hd (by rw[GV];exact(BJ λhn1=>fk [_,_,_] (.c 1 (.a (.v 0) (.v 1)) (.v 2) (.c 1 (.a (.v 2) (.k 1)) (.v 0) (.k 0))) rfl hz1 hn1)) (by exact(BJ λhn1=>fk [_,_,_] (.c 1 (.a (.v 0) (.v 1)) (.v 2) (.c 1 (.a (.a (.v 2) (.k 1)) (.k 1)) (.a (.v 0) (.v 1)) (.k 0))) rfl hz1 hn1)) (h (n+1))
end
noncomputable def XT(w:BU)(A:BQ)(s:AG)(g:CW)(os:CU)(p:BH)(zw:AE AX)(zt:ER→AM AC)(mg mb:AX→AM AC)(R:FE→AG→Prop)(sa ur:AH)(xs:AE (EE×DW))(ul:AE (AX×DW)):Prop :=
 ∀(X:(hd07.heap_1 w.params).In g)(T:VO p zw zt mg mb g)(H:Ok g os [] s)(hh:A.handled=BN)(zq:A.depth<800)(hu:A.units<7000)(hs:g.IsList sa (xs.map λx=>.int x.1 x.2).toArray)(hxl:xs.length≤63)(hur:g.IsList ur (AF ul).toArray)(hul1:ul.map (·.1)=HL)(hN:∀(r:AH)(vs:AE AC)(n:CC)(cs:AE (AH×CY))(s':AG),(r,listOf vs.toArray n)∈cs→All2 (HP w cs) vs (BO (xs.map (·.1)))→Ok g os cs s'→R (.ok (.ret (.ref r))) s'),DV (BE rw_dn0283_07.row.prog w) A (.call (.ref 180) ⟨[.ref sa,.ref ur],[]⟩) R s
theorem pW:∀{w A s g os p zw zt mg mb R sa ur xs ul},XT w A s g os p zw zt mg mb R sa ur xs ul:=by
 refine @(BK (GM KF)<|@(RB DM<|let_mvar%?n:=(λw A s g os p zw zt mg mb R sa ur xs ul=>?_:∀a b c d e f g h i j k l m n o,XT a b c d e f g h i j k l m n o);?n _ _ _ _ _ _ _ _ _ _ _ _ _ _ _))
 intro X T H hh zq hu hs hxl hur hul1 hN;have hul:=len12 hul1;revert X;k_fill;intro X;refine' KQ (λy=>DY y [("uris",.ref ur),("script",.ref sa)]) H X T ?k6 ?k7 (AZ zq (by decide)) ?k9 ?kB ?km ?kl ?_ ?c1 ?c2 ?c3 ?c4
 (case k6=>k_is)
 (case k7=>k_is)
 (case k9=>exact GO rfl)
 (case kB=>exact locs rfl)
 (case km=>exact rfl)
 (case kl=>exact EB _)
 (case c1=>exact rfl)
 (case c2=>exact rfl)
 (case c3=>exact rfl)
 (case c4=>decide)
 k_whole;with_reducible refine let_mvar%?zq1:=(λL' h1 k0=>?_:PV _);FL DM (JN:ES _ (type_of%?zq1)) (?zq1 _ _ _);intro hk0 F1 N1 l1;(try k_lt l1);(try dsimp only)
 refine HK ?_;walk_at "eps2";rename_i Q9 E9;intro hq9 he9
 repeat'(first
  |((with_reducible show AI _ _ (eval (Am [_] [_] _) _) _ _ _);refine kdn_str (by rfl) F1 N1 T.nolimit rfl rfl (AE.cons_ne_nil _ _) (CP rfl) ?_;with_reducible refine let_mvar%?zd1:=(λd0 h2 o2=>?_:PV _);FL DM (JN:ES _ (type_of%?zd1)) (?zd1 _ _ _);intro F2 N2 ld0 lo0 hd2;clear F1 N1;(try dsimp only))
  |((with_reducible show KdnMade _ _ _ _ _ _ _);refine kdn_made_strF F2 N2 (lC (BA _)) hd2 rfl (DF.mpr ⟨GK,NJ⟩) rfl ?_;with_reducible refine let_mvar%?zd2:=(λh3 o3=>?_:OV _);EV DM (IP:ES _ (type_of%?zd2)) (?zd2 _ _);intro F3 N3 hs0 hs1;clear F2 N2;(try dsimp only))
  |((fail_if_success (with_reducible show AI _ _ (exec (QX _ _ _ _ _) _) _ _ _));walk_at "go"))
 rename_i t1 _ e1 cl _ e2 _ sd _ e3 _ F9 N9;have hy0:=Ex (q:=[(AA "{urn:a}u",(AA "1",_))]) hs0 rfl;clear hs0 hs1 hd2 ld0;revert hy0;refine VP ?_;walk_at "eps2";rename_i l0 n0;rintro⟨rfl,hl0⟩;refine iG (λ_=>rfl) ?_
 repeat'((fail_if_success (with_reducible show AI _ _ (WO _ _ _) _ _ _));walk_at "go")
 (rename Fr ..=>F8);(rename AY _ _ _ _=>N8)
 have lt0:=λp hp=>BS (N8 p hp).1;walk_at "go";clear F8 N8
 (rename Fr ..=>F8);(rename AY _ _ _ _=>N8)
 (try dsimp only at N8 F8 lt0)
 try dsimp only
 rename_i h12 _ h13;revert h13;walk_at "eps";rename_i h13;intro F8 N8;have hy1:∃src,h12.objs.size=src:=⟨_,rfl⟩;revert hy1;refine XX ?_;walk_at "eps";rename_i src;intro hsrc;rw[hsrc] at N8 lt0 ⊢
 have hy2:=pV (sa:=sa) (ur:=ur) hxl N8 lo0 hl0 e1 e2.1 e3.1 (lt0 (sd,_) (.tail _ (.head _)))
 revert hy2;refine VP ?_;walk_at "eps2";rename_i zs own0;rintro⟨hJ0,N7,hzl⟩;refine RM (its:=(JX zs).toArray) (ax:=src) (os:=os) (L:=L') (h₀:=g) (λrem m own=>CallsJ w xs zs sa ur cl sd src rem m own) (λown v m m'=>m'=λy=>if y=AA "x" then AK v else m y) ?hh ?hsrc ?hown ?hasg ?step ?done hJ0 (m:=(SE sa ur cl sd BN BN BN BN BN)) (own:=own0) ?F N7 ?os ?br
 case hh=>exact hh
 case os=>exact H.os
 case br=>exact H.bare
 case F=>(show Fr g L' _ (SE sa ur cl sd BN BN BN BN BN);rw[SE,← jK (m0:=XR sa ur cl sd) rfl rfl rfl rfl rfl];exact F8)
 case hsrc =>
  rintro rem m own ⟨ys,st,cv,nC,nS,sv,ob,u1,u2,u3,u4,u5,eR,eF,sO,eL,rfl,eS,eC,rfl,off⟩;exact .inr ⟨_,.tail _ (.tail _ (.head _)),rfl,_,rfl⟩
 case hown =>
  intro I i v s1 Q E' _ _ hq;exact Wp hq
 case hasg =>
  intro s1 v rem m own news Q E' _ _ F1 N1 hq
  exact EO (TZ F1 N1 (λh2 F2 N2=>hq h2 _ _ F2 N2 rfl) rfl rfl)
 case done =>
  with_reducible refine let_mvar%?zq7:=(λs1 m own=>?_:PV _);FL JS (JN:ES _ (type_of%?zq7)) (?zq7 _ _ _);intro hJ9 F1 N1 o1 b1;revert F1 N1;refine CallsJ.out hJ9 ?_;with_reducible refine let_mvar%?zq8:=(λys st cv nC nS sv=>?_:Be _);SJ DM (kG:ES _ (type_of%?zq8)) (?zq8 _ _ _ _ _ _);with_reducible refine let_mvar%?zq9:=(λob u1 u2 u3 u4 u5=>?_:Be _);SJ DM (kG:ES _ (type_of%?zq9)) (?zq9 _ _ _ _ _ _);rintro eR eF sO eL rfl eS eC rfl off F1 N1
  have ey:ys=[]:=by
   cases ys with
   |nil=>rfl
   |cons q ys'=>exact absurd eR (by simp[JX])
  subst ey;have eF':st=GS (xs.map (·.1)):=eF;have oc:∀q∈ob,q.1≠cl:=λq hq=>(off q hq).1;have hcl:=eC.length
  have eL':st.1.length≤70:=by simpa using eL
  clear eL
  have zf:sv.length=st.2.length:=by rw[← eS,AN]
  have hf:=sO.few;have hs1:=sO.ge1;dsimp only
  repeat'(first
   |((with_reducible show AI _ _ (IH _ (.builtin _) [_] _ _) _ _ _);refine LN ?_;(try dsimp only))
   |((fail_if_success (with_reducible show AI _ _ (eval (xB _ _ _ _) _) _ _ _));walk_at "go"))
  (rename Fr ..=>F9);(rename AY _ _ _ _=>N9)
  refine iM (h₀:=g) (L:=L') (m:=SE sa ur cl sd u1 u2 u3 u4 u5) (cl:=[]) rfl (by decide) rfl (by decide) rfl ?_
  repeat'(first
   |((with_reducible show AI _ _ (DK (JT _) [.ref _]) _ _ _);refine krv_reversed (vs:=AF sv) F9 N9 (by exact⟨_,(N9 _ (.tail _ (.head _))).1,rfl,_,rfl⟩) ?_;clear F9 N9;walk_at "eps2";rename_i I h9;intro F9 N9 lI)
   |walk_at "go")
  refine⟨I,sd,AF sv,_,rfl,hh,F9,N9,λp hp=>AO (lI p hp),ne9k lI (by k_mem),.inr ⟨_,.tail _ (.head _),rfl,_,rfl⟩,?sz1,nO (tu:=[]) (.inr ⟨_,.tail _ (.head _),rfl,_,rfl⟩) ?fin1 _ 0 [] ?k1 .nil (λ_ z=>nomatch z)⟩
  case sz1=>rw[BI];simp only[AF,AN];exact(Nl λhn1=>fk [_,_] (.e V0 V1 (.e V1 (.k 7) (.e (.s (.k 16777216)) V0 K0))) rfl (El zf) hf hn1)
  case k1=>simp[AF]
  case fin1 =>
   walk_at "eps2";rename_i ys tu;intro hy ho;unfold LCg.FinE;with_reducible refine let_mvar%?zq15:=(λD h8 tk8=>?_:PV _);FL DM (JN:ES _ (type_of%?zq15)) (?zq15 _ _ _);intro F8 N8 o8
   have oD:∀p∈(tu++(cl,listOf cv.toArray nC)::(sd,listOf (AF sv).toArray nS)::(src,listOf (JX zs).toArray 0)::ob),p.1≠D:=mW o8;have hyl:=hy.length;simp only[AN,LG] at hyl
   have N7:=AY.sub (news':=(cl,listOf cv.toArray nC)::(D,listOf ys.toArray ys.length)::(tu++ob)) N8 (by
    intro q hq;simp only[AP,AT] at hq ⊢;rcases hq with h|h|h|h
    ·simp[h]
    ·exact .inl (h.trans rfl)
    ·simp[h]
    ·simp[h])
   clear F9 N9 N8
   have hU:∀p∈(D,listOf ys.toArray ys.length)::(tu++ob),p.1≠cl:=by
    intro p hp;rcases AP.mp hp with rfl|hp
    ·exact BG (oD (cl,listOf cv.toArray nC) (by simp))
    ·rcases AT.mp hp with z|z
     ·exact BG (ho p z (cl,_) (.head _))
     ·exact oc p z
   have hyn:ys.toArray.size=st.2.length:=by rw[CG,hyl,zf]
   repeat'(first
    |((with_reducible show AI _ _ (DK (.builtin "list.extend") [.ref cl,.ref D]) _ _ _);refine ext_K (its:=cv.toArray) (its2:=ys.toArray) F8 N7 (.tail _ (.head _)) (λk=>.head hU) (by rw[hyn,CG];omega) ?_;clear F8 N7;walk_at "eps2";rename_i k9 h9;intro F9 N9;(try dsimp only))
    |((with_reducible show AI _ _ (NP [.int 3 _,_,_]) _ _ _);(rename Fr ..=>F9);(rename AY _ _ _ _=>N9);refine JP F9 N9 ?_ (by rw[BI];exact CP rfl);clear F9 N9;walk_at "eps2";rename_i ta h9;intro F9 N9 lt9;(try dsimp only))
    |((with_reducible show AI _ _ (NP [.int 4 _,_,_]) _ _ _);(rename Fr ..=>F9);(rename AY _ _ _ _=>N9);refine JP F9 N9 ?_ (by rw[BI];exact CP rfl);clear F9 N9;walk_at "eps2";rename_i tb h9;intro F9 N9 lt9;(try dsimp only))
    |((with_reducible show AI _ _ (JL _) _ _ _);(rename Fr ..=>F9);(rename AY _ _ _ _=>N9);refine OW F9 N9 ?_ (by rw[BI];exact CP rfl);clear F9 N9;walk_at "eps2";rename_i l9 h9;intro F9 N9 lt9;(try dsimp only))
    |((fail_if_success (with_reducible show Q9 _ _));(fail_if_success (with_reducible show AI _ _ (WO _ _ _) _ _ _));walk_at "go"))
   refine Fq (zs:=(cv++ys)++[.ref ta,.ref tb]) F9 N9 (its:=cv.toArray++ys.toArray) (its2:=#[.ref ta,.ref tb]) (by exact⟨_,(N9 _ (.tail _ (.tail _ (.tail _ (.head _))))).1,rfl,_,rfl⟩) (by exact⟨_,(N9 _ (.head _)).1,rfl,_,rfl⟩) (by simp) ?_ (by rw[BI,GV,Gz,hyn,CG];show cv.length+st.2.length+2≤_;omega)
   clear F9 N9;walk_at "eps2";rename_i r9 h9;intro F9 N9 lr9;(try dsimp only)
   refine hq9 _ _ (leaveM_ F9 N9 o1 b1 λH'=>hN r9 _ 0 _ _ (.head _) ?_ H')
   unfold BO;rw[← eF',← eS]
   refine((eC.mono λa b z=>z.sub ?_).append (hy.mono λa b z=>z.sub ?_)).append (.cons ⟨ta,_,_,rfl,.tail _ (.tail _ (.tail _ (.head _)))⟩ (.cons ⟨tb,_,_,rfl,.tail _ (.tail _ (.head _))⟩ .nil))
   ·exact λp hp=>.tail _ (.tail _ (.tail _ (.tail _ (.tail _ (.tail _ (Mr _ hp))))))
   ·exact λp hp=>.tail _ (.tail _ (.tail _ (.tail _ (.tail _ (.tail _ (Ml _ hp))))))
 case step =>
  with_reducible refine let_mvar%?zq10:=(λs1 v rem m m' own I oI=>?_:Bf _);SK JS (kI:ES _ (type_of%?zq10)) (?zq10 _ _ _ _ _ _ _ _);intro hJ9 hm9 F1 N1 nI o1 b1;subst hm9;revert F1 N1 nI;refine CallsJ.out hJ9 ?_;with_reducible refine let_mvar%?zq11:=(λys st cv nC nS sv=>?_:Be _);SJ DM (kG:ES _ (type_of%?zq11)) (?zq11 _ _ _ _ _ _);with_reducible refine let_mvar%?zq12:=(λob u1 u2 u3 u4 u5=>?_:Be _);SJ DM (kG:ES _ (type_of%?zq12)) (?zq12 _ _ _ _ _ _);rintro eR eF sO eL rfl eS eC rfl off N1 nI F1
  have hy3:∃x tx ys',ys=(x,tx)::ys':=by
   cases ys with
   |nil=>exact absurd eR (by simp[JX])
   |cons q ys'=>exact⟨q.1,q.2,ys',rfl⟩
  revert hy3;refine fV ?_;with_reducible refine let_mvar%?zq13:=(λx tx ys5=>?_:PV _);FL DM (JN:ES _ (type_of%?zq13)) (?zq13 _ _ _);rintro rfl
  unfold JX at eR;rw[EC] at eR;injection eR with eV eR;subst eV;have eR':rem=JX ys5:=eR;subst eR';clear eR;refine HK ?_;walk_at "eps2";rename_i Q8 E8;intro hq8 he8
  repeat'(first
     |((with_reducible show AI _ _ (pL _ _ _) _ _ _);(rename Fr ..=>F9);(rename AY _ _ _ _=>N9);refine' rP ?up1 F9 N9 ?up2 ?up3;(case up1=>exact hh);(case up3=>rfl);clear F9 N9;walk_at "eps";rename_i h9;intro F9 N9;(try dsimp only))
     |((fail_if_success (with_reducible show AI _ _ (EZ (SG _ _ _ _::_) _) _ _ _));(try((with_reducible show AI _ _ (EZ _ _) _ _ _);(conv=>(arg 6;dsimp only))));walk_at "go"))
  (rename Fr ..=>F9);(rename AY _ _ _ _=>N9)
  (try dsimp only at F9 N9)
  rw[lS x (b:=6) (by decide),xZ x (b:=6) (by decide)] at F9
  have zf:sv.length=st.2.length:=by rw[← eS,AN]
  have hf:=sO.few;have hs1:=sO.ge1;have hcl:=eC.length;have hys:(EG ys5:CC)+1=((x,tx)::ys5).length:=rfl;have oc:∀q∈ob,q.1≠cl:=λq hq=>(off q hq).1;have osd:∀q∈ob,q.1≠sd:=λq hq=>(off q hq).2.1
  have n1:=nI (cl,_) (.head _)
  have n2:=nI (sd,_) (.tail _ (.head _))
  have n4:=nI (src,_) (.tail _ (.tail _ (.head _)))
  have n5:∀q∈ob,q.1≠I:=λq hq=>nI q (.tail _ (.tail _ (.tail _ hq)))
  dsimp only at n1 n2 n4
  have hszS:((AF sv).toArray.size:EE)<2 ^ 63:=by simp only[AF,CG,AN];lia
  have hszS2:(AF sv).toArray.size≤DA:=by rw[BI];simp only[AF,CG,AN];exact(Nl λhn1=>fk [_,_] (.e V0 V1 (.e V1 (.k 7) (.e (.s (.k 16777216)) V0 K0))) rfl (El zf) hf hn1)
  have hszC:cv.toArray.size≤DA:=by rw[BI];simp only[CG];exact(Nl λhn1=>fk [_,_,_] (.e (.a V0 V1) (.k 70) (.e V2 V0 (.e (.s (.k 16777216)) V2 K0))) rfl eL (El hcl) hn1)
  have b6:0≤x % 6∧x % 6<6:=⟨EE.emod_nonneg _ (by decide),Gk _ (by decide)⟩
  (try(conv=>(arg 6;dsimp only)))
  refine BR (Fu (lM (x % 6<3∧st.2.length<7) ?ta1 ?tb1))
  case ta1 =>
   refine HK ?_;walk_at "eps2";rename_i Q7 E7;intro hq7 he7
   by_cases c0:x % 6<3
   ·by_cases c9:st.2.length<7
    ·have c12:((AF sv).toArray.size:EE)<7:=by simp only[AF,CG,AN];lia
     repeat'(first
      |((with_reducible show(if _=BC then _ else _));first|refine HE (CN (by with_reducible assumption)) ?_|refine HA (CL (CF (by with_reducible assumption))) ?_)
      |((with_reducible show AI _ _ (DK (.builtin "len") [.ref sd]) _ _ _);refine GF (items:=(AF sv).toArray) (by exact⟨_,GB (by k_asm) (by k_mem),rfl,_,rfl⟩) hszS ?_;(try dsimp only))
      |((with_reducible show Q7 _ _);refine hq7 _ _ ⟨(CN ⟨c0,c9⟩).symm,_,rfl⟩)
      |((try((with_reducible show AI _ _ (EZ _ _) _ _ _);(conv=>(arg 6;dsimp only))));walk_at "go"))
    ·have c12:¬((AF sv).toArray.size:EE)<7:=by simp only[AF,CG,AN];lia
     repeat'(first
      |((with_reducible show(if _=BC then _ else _));first|refine HE (CN (by with_reducible assumption)) ?_|refine HA (CL (CF (by with_reducible assumption))) ?_)
      |((with_reducible show AI _ _ (DK (.builtin "len") [.ref sd]) _ _ _);refine GF (items:=(AF sv).toArray) (by exact⟨_,GB (by k_asm) (by k_mem),rfl,_,rfl⟩) hszS ?_;(try dsimp only))
      |((with_reducible show Q7 _ _);refine hq7 _ _ ⟨(CF λz=>c9 z.2).symm,_,rfl⟩)
      |((try((with_reducible show AI _ _ (EZ _ _) _ _ _);(conv=>(arg 6;dsimp only))));walk_at "go"))
   ·skip
    repeat'(first
     |((with_reducible show(if _=BC then _ else _));first|refine HE (CN (by with_reducible assumption)) ?_|refine HA (CL (CF (by with_reducible assumption))) ?_)
     |((with_reducible show AI _ _ (DK (.builtin "len") [.ref sd]) _ _ _);refine GF (items:=(AF sv).toArray) (by exact⟨_,GB (by k_asm) (by k_mem),rfl,_,rfl⟩) hszS ?_;(try dsimp only))
     |((with_reducible show Q7 _ _);refine hq7 _ _ ⟨(CF λz=>c0 z.1).symm,_,rfl⟩)
     |((try((with_reducible show AI _ _ (EZ _ _) _ _ _);(conv=>(arg 6;dsimp only))));walk_at "go"))
  walk_at "eps";rename_i tk1
  (try dsimp only)
  by_cases c1:x % 6<3∧st.2.length<7
  ·have c11:=c1.1
   have c13:=c1.2;refine HE (CN c1) ?_
   repeat'(first
    |((with_reducible show(if _=BC then _ else _));first|refine HE (CN (by with_reducible assumption)) ?_|refine HA (CL (CF (by with_reducible assumption))) ?_)
    |((with_reducible show AI _ _ (DK (.builtin "len") [.ref sd]) _ _ _);refine GF (items:=(AF sv).toArray) (by exact⟨_,GB (by k_asm) (by k_mem),rfl,_,rfl⟩) hszS ?_;(try dsimp only))
    |((with_reducible show AI _ _ (BZ _ _ (.ref ur) (.int (tF _ 12) _)) _ _ _);refine RT (n:=12) (l:=ul) (DX (QI (by k_asm)) hur) hul (by decide) rfl (by decide) ?_;walk_at "eps";rename_i tu;rw[hul1];(try dsimp only))
    |((with_reducible show AI _ _ (WO XO (.str _ _) (.str _ _)) _ _ _);refine Hh ?_ (by first|exact iR _|exact iS _ (by decide));walk_at "eps2";rename_i tg tk9;(try dsimp only))
    |((with_reducible show AI _ _ (eval (Am [] [] _) _) _ _ _);(rename Fr ..=>F9);(rename AY _ _ _ _=>N9);refine mP F9 N9 (ZA (by k_asm)) ?_;clear F9 N9;walk_at "eps";rename_i d9;walk_at "eps2";rename_i h9 o9;intro F9 N9 lt9 ld9 ds9;have z1:cl≠d9:=AO (lt9 (cl,_) (by k_mem));have z2:sd≠d9:=AO (lt9 (sd,_) (by k_mem));have z3:src≠d9:=AO (lt9 (src,_) (by k_mem));have z4:I≠d9:=AO (lt9 (I,_) (by k_mem));have z6:∀q∈ob,q.1≠d9:=λq hq=>AO (lt9 q (by repeat'(first|exact hq|refine MM _ ?_)));have ltd:=lt9;(try dsimp only))
    |((try((with_reducible show AI _ _ (EZ _ _) _ _ _);(conv=>(arg 6;dsimp only))));(fail_if_success (with_reducible show AI _ _ (EZ (SG (Expr.Compare (cD "kind" _) [CmpOp.Eq] _ _) _ _ _::_) _) _ _ _));walk_at "go"))
   (rename Fr ..=>F9)
   rw[show AA "{"++pick AW HL (x / 6 % 12)++AA "}t"=QP x from rfl] at F9
   (rename Fr ..=>F9);(rename AY _ _ _ _=>N9)
   (try(conv=>(arg 6;dsimp only)))
   refine BR (iZ (x % 6=2) (nm (x / 6 / 144) kU,"2<") F9 N9 ds9 ?ca1 ?cb1)
   case ca1 =>
    refine HK ?_;walk_at "eps2";rename_i Q7 E7;intro hq7 he7
    by_cases c2:x % 6=2
    ·repeat'(first
      |((with_reducible show(if _=BC then _ else _));first|refine HE (CN (by with_reducible assumption)) ?_|refine HA (CL (CF (by with_reducible assumption))) ?_)
      |((with_reducible show Q7 _ _);(rename Fr ..=>F9);(rename AY _ _ _ _=>N9);refine hq7 _ _ ⟨_,_,_,_,rfl,rfl,F9,N9,by rw[DJ c2];exact ds9⟩)
      |((with_reducible show AI _ _ (BZ _ _ (.ref ur) (.int (tF _ 12) _)) _ _ _);refine RT (n:=12) (l:=ul) (DX (QI (by k_asm)) hur) hul (by decide) rfl (by decide) ?_;walk_at "eps";rename_i tu;rw[hul1];rw[xZ (x / 6) (b:=144) (by decide)];(try dsimp only))
      |((with_reducible show AI _ _ (WO XO (.str _ _) (.str _ _)) _ _ _);refine Hh ?_ (by first|exact iR _|exact iS _ (by decide));walk_at "eps2";rename_i tg tk9;(try dsimp only))
      |((with_reducible show AI _ _ (YN (.ref d9) (.str _ _) (.str _ _)) _ _ _);(rename Fr ..=>F9);(rename AY _ _ _ _=>N9);refine UN (m:=_) F9 N9 (lC (λp hp=>AO (ltd p hp))) ds9 GK (EH _) ?_;clear F9 N9 ds9;walk_at "eps";rename_i h9;walk_at "eps2";rename_i o9 tk9;intro F9 N9 ds9;(try dsimp only at N9);(try dsimp only))
      |((try((with_reducible show AI _ _ (EZ _ _) _ _ _);(conv=>(arg 6;dsimp only))));(fail_if_success (with_reducible show AI _ _ (BZ _ _ _ _) _ _ _));(fail_if_success (with_reducible show Q7 _ _));walk_at "go"))
    ·repeat'(first
      |((with_reducible show(if _=BC then _ else _));first|refine HE (CN (by with_reducible assumption)) ?_|refine HA (CL (CF (by with_reducible assumption))) ?_)
      |((with_reducible show Q7 _ _);(rename Fr ..=>F9);(rename AY _ _ _ _=>N9);refine hq7 _ _ ⟨_,default,_,_,rfl,rfl,F9,N9,by rw[CA c2,CQ];exact ds9⟩)
      |((try((with_reducible show AI _ _ (EZ _ _) _ _ _);(conv=>(arg 6;dsimp only))));(fail_if_success (with_reducible show AI _ _ (BZ _ _ _ _) _ _ _));(fail_if_success (with_reducible show Q7 _ _));walk_at "go"))
   clear F9 N9 ds9
   walk_at "eps2";rename_i o9 q1;walk_at "eps2";rename_i h9 tk9;intro F9 N9 ds9 hq1;(try dsimp only)
   (rename Fr ..=>F9);(rename AY _ _ _ _=>N9)
   (try(conv=>(arg 6;dsimp only)))
   refine BR (iZ (x % 6>0) (nm (x / 6 / 12) kV,"1") F9 N9 ds9 ?ca2 ?cb2)
   case ca2 =>
    refine HK ?_;walk_at "eps2";rename_i Q7 E7;intro hq7 he7
    by_cases c2:x % 6>0
    ·repeat'(first
      |((with_reducible show(if _=BC then _ else _));first|refine HE (CN (by with_reducible assumption)) ?_|refine HA (CL (CF (by with_reducible assumption))) ?_)
      |((with_reducible show Q7 _ _);(rename Fr ..=>F9);(rename AY _ _ _ _=>N9);refine hq7 _ _ ⟨_,_,_,_,rfl,rfl,F9,N9,by rw[DJ c2];exact ds9⟩)
      |((with_reducible show AI _ _ (BZ _ _ (.ref ur) (.int (tF _ 12) _)) _ _ _);refine RT (n:=12) (l:=ul) (DX (QI (by k_asm)) hur) hul (by decide) rfl (by decide) ?_;walk_at "eps";rename_i tu;rw[hul1];rw[xZ (x / 6) (b:=12) (by decide)];(try dsimp only))
      |((with_reducible show AI _ _ (WO XO (.str _ _) (.str _ _)) _ _ _);refine Hh ?_ (by first|exact iR _|exact iS _ (by decide));walk_at "eps2";rename_i tg tk9;(try dsimp only))
      |((with_reducible show AI _ _ (YN (.ref d9) (.str _ _) (.str _ _)) _ _ _);(rename Fr ..=>F9);(rename AY _ _ _ _=>N9);refine UN (m:=_) F9 N9 (lC (λp hp=>AO (ltd p hp))) ds9 (sG hq1 λp hp=>by rw[PA,DB] at hp;rw[dZ hp];exact yQ _ (JJ _) _ (JJ _)) (by have z:=BW EG hq1;have z2:=eE (x % 6=2) (nm (x / 6 / 144) kU,"2<");rw[AN,PA,DB] at z;omega) ?_;clear F9 N9 ds9;walk_at "eps";rename_i h9;walk_at "eps2";rename_i o9 tk9;intro F9 N9 ds9;(try dsimp only at N9);(try dsimp only))
      |((try((with_reducible show AI _ _ (EZ _ _) _ _ _);(conv=>(arg 6;dsimp only))));(fail_if_success (with_reducible show AI _ _ (BZ _ _ _ _) _ _ _));(fail_if_success (with_reducible show Q7 _ _));walk_at "go"))
    ·repeat'(first
      |((with_reducible show(if _=BC then _ else _));first|refine HE (CN (by with_reducible assumption)) ?_|refine HA (CL (CF (by with_reducible assumption))) ?_)
      |((with_reducible show Q7 _ _);(rename Fr ..=>F9);(rename AY _ _ _ _=>N9);refine hq7 _ _ ⟨_,default,_,_,rfl,rfl,F9,N9,by rw[CA c2,CQ];exact ds9⟩)
      |((try((with_reducible show AI _ _ (EZ _ _) _ _ _);(conv=>(arg 6;dsimp only))));(fail_if_success (with_reducible show AI _ _ (BZ _ _ _ _) _ _ _));(fail_if_success (with_reducible show Q7 _ _));walk_at "go"))
   clear F9 N9 ds9
   walk_at "eps2";rename_i o9 q2;walk_at "eps2";rename_i h9 tk9;intro F9 N9 ds9 hq2;(try dsimp only)
   (rename Fr ..=>F9);(rename AY _ _ _ _=>N9)
   (try(conv=>(arg 6;dsimp only)))
   refine BR (iZ (x / 6 % 7=0) (OA,"e") F9 N9 ds9 ?ca3 ?cb3)
   case ca3 =>
    refine HK ?_;walk_at "eps2";rename_i Q7 E7;intro hq7 he7
    by_cases c2:x / 6 % 7=0
    all_goals have c3:=c2;rw[← lS (x / 6) (b:=7) (by decide)] at c3
    ·repeat'(first
      |((with_reducible show(if _=BC then _ else _));first|refine HE (CN (by with_reducible assumption)) ?_|refine HA (CL (CF (by with_reducible assumption))) ?_)
      |((with_reducible show Q7 _ _);(rename Fr ..=>F9);(rename AY _ _ _ _=>N9);refine hq7 _ _ ⟨_,_,_,_,rfl,rfl,F9,N9,by rw[DJ c2];exact ds9⟩)
      |((with_reducible show AI _ _ (BZ _ _ (.ref ur) (.int (tF _ 12) _)) _ _ _);refine RT (n:=12) (l:=ul) (DX (QI (by k_asm)) hur) hul (by decide) rfl (by decide) ?_;walk_at "eps";rename_i tu;rw[hul1];(try dsimp only))
      |((with_reducible show AI _ _ (WO XO (.str _ _) (.str _ _)) _ _ _);refine Hh ?_ (by first|exact iR _|exact iS _ (by decide));walk_at "eps2";rename_i tg tk9;(try dsimp only))
      |((with_reducible show AI _ _ (YN (.ref d9) (.str _ _) (.str _ _)) _ _ _);(rename Fr ..=>F9);(rename AY _ _ _ _=>N9);refine UN (m:=_) F9 N9 (lC (λp hp=>AO (ltd p hp))) ds9 (sG hq2 λp hp=>by rw[hq1,PA,DB] at hp;rcases AT.mp hp with hp|hp;(rw[dZ hp];exact(YB _ (JJ _)).1);(rw[dZ hp];exact(YB _ (JJ _)).2)) (by have z:=BW EG hq2;have z0:=BW EG hq1;have z2:=eE (x % 6=2) (nm (x / 6 / 144) kU,"2<");have z3:=eE (x % 6>0) (nm (x / 6 / 12) kV,"1");rw[BD,AN,AN] at z;rw[AN,PA,DB] at z0;omega) ?_;clear F9 N9 ds9;walk_at "eps";rename_i h9;walk_at "eps2";rename_i o9 tk9;intro F9 N9 ds9;(try dsimp only at N9);(try dsimp only))
      |((try((with_reducible show AI _ _ (EZ _ _) _ _ _);(conv=>(arg 6;dsimp only))));(fail_if_success (with_reducible show AI _ _ (BZ _ _ _ _) _ _ _));(fail_if_success (with_reducible show Q7 _ _));walk_at "go"))
    ·repeat'(first
      |((with_reducible show(if _=BC then _ else _));first|refine HE (CN (by with_reducible assumption)) ?_|refine HA (CL (CF (by with_reducible assumption))) ?_)
      |((with_reducible show Q7 _ _);(rename Fr ..=>F9);(rename AY _ _ _ _=>N9);refine hq7 _ _ ⟨_,default,_,_,rfl,rfl,F9,N9,by rw[CA c2,CQ];exact ds9⟩)
      |((try((with_reducible show AI _ _ (EZ _ _) _ _ _);(conv=>(arg 6;dsimp only))));(fail_if_success (with_reducible show AI _ _ (BZ _ _ _ _) _ _ _));(fail_if_success (with_reducible show Q7 _ _));walk_at "go"))
   clear F9 N9 ds9
   walk_at "eps2";rename_i o9 q3;walk_at "eps2";rename_i h9 tk9;intro F9 N9 ds9 hq3;(try dsimp only)
   repeat'(first
    |((with_reducible show(if _=BC then _ else _));first|refine HE (CN (by with_reducible assumption)) ?_|refine HA (CL (CF (by with_reducible assumption))) ?_)
    |((with_reducible show AI _ _ (NP _) _ _ _);(rename Fr ..=>F9);(rename AY _ _ _ _=>N9);refine JP F9 N9 ?_ (by rw[BI];exact CP rfl);clear F9 N9;walk_at "eps2";rename_i t9 h9;intro F9 N9 lt9;have z1:cl≠t9:=AO (lt9 (cl,_) (by k_mem));have z2:sd≠t9:=AO (lt9 (sd,_) (by k_mem));have z3:src≠t9:=AO (lt9 (src,_) (by k_mem));have z4:I≠t9:=AO (lt9 (I,_) (by k_mem));have z6:∀q∈ob,q.1≠t9:=λq hq=>AO (lt9 q (by repeat'(first|exact hq|refine MM _ ?_)));(try dsimp only))
    |((with_reducible show AI _ _ (DK (.builtin "list.append") [.ref sd,_]) _ _ _);(rename Fr ..=>F9);(rename AY _ _ _ _=>N9);refine KP F9 N9 (by walk_at "l_upd") ?_ hszS2;clear F9 N9;walk_at "eps";rename_i h9;intro F9 N9;(try k_sweep))
    |((with_reducible show AI _ _ (DK (.builtin "list.append") [.ref cl,_]) _ _ _);(rename Fr ..=>F9);(rename AY _ _ _ _=>N9);refine KP F9 N9 (by walk_at "l_upd") ?_ hszC;clear F9 N9;walk_at "eps";rename_i h9;intro F9 N9;(try k_sweep))
    |((try((with_reducible show AI _ _ (EZ _ _) _ _ _);(conv=>(arg 6;dsimp only))));(fail_if_success (with_reducible show AI _ _ (YN _ _ _) _ _ _));(fail_if_success (with_reducible show AI _ _ (BZ _ _ _ _) _ _ _));(fail_if_success (with_reducible show Q8 _ _));walk_at "go"))
   revert ds9;intro ds9;obtain⟨l,nl,rfl,hl⟩:=ds9.ss
   (rename Fr ..=>F9);(rename AY _ _ _ _=>N9)
   (try dsimp only)
   refine hq8 _ _ ?_;refine PP (x:=x) (tx:=tx) (ys:=ys5) (xs:=xs) (st:=st) (nC:=nC) (cv:=cv) (so:=listOf ((AF sv).toArray.push (.str (QP x) tg)) (nS+1)) (nS:=nS+1) (.start (QP x) (SL x)) (.ref t9) [(t9,DO #[.int 0 ?ti1x1,.str (QP x) tg,.ref d9]),(d9,CK (IM w.params l) nl)] (sv++[(QP x,tg)]) F9 N9 ?st1 ?tv1 ?so1 ?sb1 ?HG ?ob1 ?nw1 ?hm1 eF sO eL eC off n1 n2 n4 n5 ?o1 ?b1
   case sb1=>walk_at "l_mem"
   case HG=>walk_at "l_mem"
   case ob1=>walk_at "l_sub"
   case nw1=>exact(Fc ⟨by first|assumption|exact BG (by assumption),by first|assumption|exact BG (by assumption),by first|assumption|exact BG (by assumption),by first|assumption|exact BG (by assumption)⟩ (Fc ⟨by first|assumption|exact BG (by assumption),by first|assumption|exact BG (by assumption),by first|assumption|exact BG (by assumption),by first|assumption|exact BG (by assumption)⟩ (BA _)))
   case hm1=>(intro y h1 h2 h3 h4 h5;repeat'(first|exact RI h1 h2 h3 h4 h5|refine(CA (by assumption)).trans ?_))
   case o1=>exact o1
   case b1=>exact b1
   case so1=>simp[AF]
   case tv1=>exact⟨t9,_,_,d9,nl,l,rfl,.head _,.tail _ (.head _),ld9,by rw[hl,hq3,hq2,hq1];rfl⟩
   case st1=>(unfold FH;rw[DJ ⟨c11,c13⟩,BF,eS];rfl)
  refine HA (CL (CF c1)) ?_
  (try(conv=>(arg 6;dsimp only)))
  refine BR (Fu (lM (x % 6<4∧1<st.2.length) ?ta2 ?tb2))
  case ta2 =>
   refine HK ?_;walk_at "eps2";rename_i Q7 E7;intro hq7 he7
   by_cases c0:x % 6<4
   ·by_cases c9:1<st.2.length
    ·have c12:((AF sv).toArray.size:EE)>1:=by simp only[AF,CG,AN];lia
     repeat'(first
      |((with_reducible show(if _=BC then _ else _));first|refine HE (CN (by with_reducible assumption)) ?_|refine HA (CL (CF (by with_reducible assumption))) ?_)
      |((with_reducible show AI _ _ (DK (.builtin "len") [.ref sd]) _ _ _);refine GF (items:=(AF sv).toArray) (by exact⟨_,GB (by k_asm) (by k_mem),rfl,_,rfl⟩) hszS ?_;(try dsimp only))
      |((with_reducible show Q7 _ _);refine hq7 _ _ ⟨(CN ⟨c0,c9⟩).symm,_,rfl⟩)
      |((try((with_reducible show AI _ _ (EZ _ _) _ _ _);(conv=>(arg 6;dsimp only))));walk_at "go"))
    ·have c12:¬((AF sv).toArray.size:EE)>1:=by simp only[AF,CG,AN];lia
     repeat'(first
      |((with_reducible show(if _=BC then _ else _));first|refine HE (CN (by with_reducible assumption)) ?_|refine HA (CL (CF (by with_reducible assumption))) ?_)
      |((with_reducible show AI _ _ (DK (.builtin "len") [.ref sd]) _ _ _);refine GF (items:=(AF sv).toArray) (by exact⟨_,GB (by k_asm) (by k_mem),rfl,_,rfl⟩) hszS ?_;(try dsimp only))
      |((with_reducible show Q7 _ _);refine hq7 _ _ ⟨(CF λz=>c9 z.2).symm,_,rfl⟩)
      |((try((with_reducible show AI _ _ (EZ _ _) _ _ _);(conv=>(arg 6;dsimp only))));walk_at "go"))
   ·skip
    repeat'(first
     |((with_reducible show(if _=BC then _ else _));first|refine HE (CN (by with_reducible assumption)) ?_|refine HA (CL (CF (by with_reducible assumption))) ?_)
     |((with_reducible show AI _ _ (DK (.builtin "len") [.ref sd]) _ _ _);refine GF (items:=(AF sv).toArray) (by exact⟨_,GB (by k_asm) (by k_mem),rfl,_,rfl⟩) hszS ?_;(try dsimp only))
     |((with_reducible show Q7 _ _);refine hq7 _ _ ⟨(CF λz=>c0 z.1).symm,_,rfl⟩)
     |((try((with_reducible show AI _ _ (EZ _ _) _ _ _);(conv=>(arg 6;dsimp only))));walk_at "go"))
  walk_at "eps";rename_i tk2
  (try dsimp only)
  by_cases c2:x % 6<4∧1<st.2.length
  ·refine HE (CN c2) ?_
   have hzz3:=QO (l:=sv) (by rw[zf];exact hs1);revert hzz3;refine VP ?_;with_reducible refine let_mvar%?zz5:=(λsv0 y=>?_:OV _);EV DM (IP:ES _ (type_of%?zz5)) (?zz5 _ _);rintro rfl
   (rename Fr ..=>F9);(rename AY _ _ _ _=>N9)
   have esv:AF (sv0++[y])=AF sv0++[.str y.1 y.2]:=by simp[AF]
   rw[esv] at N9
   have hlen2:sv0.length+1=st.2.length:=by rw[← zf];simp
   have hszP:(AF sv0).length+1≤DA:=by rw[BI];simp only[AF,AN];exact(Nl λhn1=>fk [_,_] (.e V0 (.k 7) (.e (.s V1) V0 (.e (.s (.k 16777216)) (.s V1) K0))) rfl hf (El hlen2) hn1)
   repeat'(first
    |((with_reducible show(if _=BC then _ else _));first|refine HE (CN (by with_reducible assumption)) ?_|refine HA (CL (CF (by with_reducible assumption))) ?_)
    |((with_reducible show AI _ _ (IH _ (.builtin _) [_] _ _) _ _ _);refine LN ?_;(try dsimp only))
    |((with_reducible show AI _ _ (NP _) _ _ _);(rename Fr ..=>F9);(rename AY _ _ _ _=>N9);refine JP F9 N9 ?_ (by rw[BI];exact CP rfl);clear F9 N9;walk_at "eps2";rename_i t9 h9;intro F9 N9 lt9;have z1:cl≠t9:=AO (lt9 (cl,_) (by k_mem));have z2:sd≠t9:=AO (lt9 (sd,_) (by k_mem));have z3:src≠t9:=AO (lt9 (src,_) (by k_mem));have z4:I≠t9:=AO (lt9 (I,_) (by k_mem));have z6:∀q∈ob,q.1≠t9:=λq hq=>AO (lt9 q (by repeat'(first|exact hq|refine MM _ ?_)));(try dsimp only))
    |((with_reducible show AI _ _ (DK (.builtin "list.append") [.ref cl,_]) _ _ _);(rename Fr ..=>F9);(rename AY _ _ _ _=>N9);refine KP F9 N9 (by walk_at "l_upd") ?_ hszC;clear F9 N9;walk_at "eps";rename_i h9;intro F9 N9;(try k_sweep))
    |((with_reducible show AI _ _ (DK (.builtin "list.pop") [.ref sd]) _ _ _);(rename Fr ..=>F9);(rename AY _ _ _ _=>N9);refine nG F9 N9 (by walk_at "l_upd") hszP ?_;clear F9 N9;walk_at "eps";rename_i h9;intro F9 N9;(try dsimp only))
    |((try((with_reducible show AI _ _ (EZ _ _) _ _ _);(conv=>(arg 6;dsimp only))));(fail_if_success (with_reducible show AI _ _ (YN _ _ _) _ _ _));(fail_if_success (with_reducible show AI _ _ (BZ _ _ _ _) _ _ _));(fail_if_success (with_reducible show Q8 _ _));walk_at "go"))
   (rename Fr ..=>F9);(rename AY _ _ _ _=>N9)
   (try dsimp only)
   refine hq8 _ _ ?_;refine PP (x:=x) (tx:=tx) (ys:=ys5) (xs:=xs) (st:=st) (nC:=nC) (cv:=cv) (so:=listOf (AF sv0).toArray (nS+1)) (nS:=nS+1) (.stop y.1) (.ref t9) [(t9,DO #[.int 1 ?ti2x1,.str y.1 y.2,.none])] (sv0) F9 N9 ?st2 ?tv2 ?so2 ?sb2 ?EJ ?ob2 ?nw2 ?hm2 eF sO eL eC off n1 n2 n4 n5 ?o2 ?b2
   case sb2=>walk_at "l_mem"
   case EJ=>walk_at "l_mem"
   case ob2=>walk_at "l_sub"
   case nw2=>exact(Fc ⟨by first|assumption|exact BG (by assumption),by first|assumption|exact BG (by assumption),by first|assumption|exact BG (by assumption),by first|assumption|exact BG (by assumption)⟩ (BA _))
   case hm2=>(intro y h1 h2 h3 h4 h5;repeat'(first|exact RI h1 h2 h3 h4 h5|refine(CA (by assumption)).trans ?_))
   case o2=>exact o1
   case b2=>exact b1
   case so2=>simp[AF]
   case tv2=>exact⟨t9,_,_,rfl,.head _⟩
   case st2=>(unfold FH;rw[CA c1,DJ c2,← eS];simp)
  refine HA (CL (CF c2)) ?_
  by_cases c4:x % 6=5
  ·rcases (by lia:x / 6 % 2=0∨x / 6 % 2=1).imp (λk=>TC k (show(3+(x / 6).fmod 2:EE)=3 from by rw[lS _ (by decide),k];rfl)) (λk=>TC k (show(3+(x / 6).fmod 2:EE)=4 from by rw[lS _ (by decide),k];rfl)) with⟨k,e3⟩|⟨k,e3⟩
   all_goals repeat'(first
     |((with_reducible show(if _=BC then _ else _));first|refine HE (CN (by with_reducible assumption)) ?_|refine HA (CL (CF (by with_reducible assumption))) ?_)
     |((with_reducible show AI _ _ (IH _ (.builtin _) [_] _ _) _ _ _);refine LN ?_;(try dsimp only))
     |((with_reducible show AI _ _ (NP _) _ _ _);(rename Fr ..=>F9);(rename AY _ _ _ _=>N9);refine JP F9 N9 ?_ (by rw[BI];exact CP rfl);clear F9 N9;walk_at "eps2";rename_i t9 h9;intro F9 N9 lt9;have z1:cl≠t9:=AO (lt9 (cl,_) (by k_mem));have z2:sd≠t9:=AO (lt9 (sd,_) (by k_mem));have z3:src≠t9:=AO (lt9 (src,_) (by k_mem));have z4:I≠t9:=AO (lt9 (I,_) (by k_mem));have z6:∀q∈ob,q.1≠t9:=λq hq=>AO (lt9 q (by repeat'(first|exact hq|refine MM _ ?_)));(try dsimp only))
     |((with_reducible show AI _ _ (DK (.builtin "list.append") [.ref cl,_]) _ _ _);(rename Fr ..=>F9);(rename AY _ _ _ _=>N9);refine KP F9 N9 (by walk_at "l_upd") ?_ hszC;clear F9 N9;walk_at "eps";rename_i h9;intro F9 N9;(try k_sweep))
     |((try((with_reducible show AI _ _ (EZ _ _) _ _ _);(conv=>(arg 6;dsimp only))));(fail_if_success (with_reducible show AI _ _ (YN _ _ _) _ _ _));(fail_if_success (with_reducible show AI _ _ (BZ _ _ _ _) _ _ _));(fail_if_success (with_reducible show Q8 _ _));walk_at "go"))
   ·skip
    (rename Fr ..=>F9);(rename AY _ _ _ _=>N9)
    (try dsimp only)
    refine hq8 _ _ ?_;refine PP (x:=x) (tx:=tx) (ys:=ys5) (xs:=xs) (st:=st) (nC:=nC) (cv:=cv) (so:=listOf (AF sv).toArray nS) (nS:=nS) (.comment "c") (.ref t9) [(t9,DO #[.int (3+(x / 6).fmod 2) ?ti3x1,.str "c" ?ti3x2,.none])] (sv) F9 N9 ?st3 ?tv3 ?so3 ?sb3 ?nn3 ?ob3 ?nw3 ?hm3 eF sO eL eC off n1 n2 n4 n5 ?o3 ?b3
    case sb3=>walk_at "l_mem"
    case nn3=>walk_at "l_mem"
    case ob3=>walk_at "l_sub"
    case nw3=>exact(Fc ⟨by first|assumption|exact BG (by assumption),by first|assumption|exact BG (by assumption),by first|assumption|exact BG (by assumption),by first|assumption|exact BG (by assumption)⟩ (BA _))
    case hm3=>(intro y h1 h2 h3 h4 h5;repeat'(first|exact RI h1 h2 h3 h4 h5|refine(CA (by assumption)).trans ?_))
    case o3=>exact o1
    case b3=>exact b1
    case so3=>simp[AF]
    case tv3=>exact⟨t9,_,_,rfl,by rw[e3];exact .head _⟩
    case st3=>(unfold FH;rw[CA c1,CA c2,DJ c4,DJ k,eS])
   ·skip
    (rename Fr ..=>F9);(rename AY _ _ _ _=>N9)
    (try dsimp only)
    refine hq8 _ _ ?_;refine PP (x:=x) (tx:=tx) (ys:=ys5) (xs:=xs) (st:=st) (nC:=nC) (cv:=cv) (so:=listOf (AF sv).toArray nS) (nS:=nS) (.pi "c") (.ref t9) [(t9,DO #[.int (3+(x / 6).fmod 2) ?ti4x1,.str "c" ?ti4x2,.none])] (sv) F9 N9 ?st4 ?tv4 ?so4 ?sb4 ?nn4 ?ob4 ?nw4 ?hm4 eF sO eL eC off n1 n2 n4 n5 ?o4 ?b4
    case sb4=>walk_at "l_mem"
    case nn4=>walk_at "l_mem"
    case ob4=>walk_at "l_sub"
    case nw4=>exact(Fc ⟨by first|assumption|exact BG (by assumption),by first|assumption|exact BG (by assumption),by first|assumption|exact BG (by assumption),by first|assumption|exact BG (by assumption)⟩ (BA _))
    case hm4=>(intro y h1 h2 h3 h4 h5;repeat'(first|exact RI h1 h2 h3 h4 h5|refine(CA (by assumption)).trans ?_))
    case o4=>exact o1
    case b4=>exact b1
    case so4=>simp[AF]
    case tv4=>exact⟨t9,_,_,rfl,by rw[e3];exact .head _⟩
    case st4=>(unfold FH;rw[CA c1,CA c2,DJ c4,CA (by lia),eS])
  ·skip
   repeat'(first
    |((with_reducible show(if _=BC then _ else _));first|refine HE (CN (by with_reducible assumption)) ?_|refine HA (CL (CF (by with_reducible assumption))) ?_)
    |((with_reducible show AI _ _ (IH _ (.builtin _) [_] _ _) _ _ _);refine LN ?_;(try dsimp only))
    |((with_reducible show AI _ _ (JL _) _ _ _);(rename Fr ..=>F9);(rename AY _ _ _ _=>N9);refine OW F9 N9 ?_ (by rw[BI];exact CP rfl);clear F9 N9;walk_at "eps2";rename_i l9 h9;intro F9 N9 lt9;have z1:cl≠l9:=AO (lt9 (cl,_) (by k_mem));have z2:sd≠l9:=AO (lt9 (sd,_) (by k_mem));have z3:src≠l9:=AO (lt9 (src,_) (by k_mem));have z4:I≠l9:=AO (lt9 (I,_) (by k_mem));have z6:∀q∈ob,q.1≠l9:=λq hq=>AO (lt9 q (by repeat'(first|exact hq|refine MM _ ?_)));(try dsimp only))
    |((with_reducible show AI _ _ (NP _) _ _ _);(rename Fr ..=>F9);(rename AY _ _ _ _=>N9);refine JP F9 N9 ?_ (by rw[BI];exact CP rfl);clear F9 N9;walk_at "eps2";rename_i t9 h9;intro F9 N9 lt9;have z1:cl≠t9:=AO (lt9 (cl,_) (by k_mem));have z2:sd≠t9:=AO (lt9 (sd,_) (by k_mem));have z3:src≠t9:=AO (lt9 (src,_) (by k_mem));have z4:I≠t9:=AO (lt9 (I,_) (by k_mem));have z6:∀q∈ob,q.1≠t9:=λq hq=>AO (lt9 q (by repeat'(first|exact hq|refine MM _ ?_)));(try dsimp only))
    |((with_reducible show AI _ _ (DK (.builtin "list.append") [.ref cl,_]) _ _ _);(rename Fr ..=>F9);(rename AY _ _ _ _=>N9);refine KP F9 N9 (by walk_at "l_upd") ?_ hszC;clear F9 N9;walk_at "eps";rename_i h9;intro F9 N9;(try k_sweep))
    |((with_reducible show AI _ _ (BZ _ _ (.ref l9) (.int (tF _ 4) _)) _ _ _);(rename AY _ _ _ _=>N9);refine zE ["t","&","","<>"] (by exact⟨_,(N9 _ (.head _)).1,rfl,_,rfl⟩) (by exact⟨[(_,_),(_,_),(_,_),(_,_)],rfl,rfl⟩) (by decide) (by exact rfl) (by decide) ?_;walk_at "eps";rename_i tv;(try dsimp only))
    |((try((with_reducible show AI _ _ (EZ _ _) _ _ _);(conv=>(arg 6;dsimp only))));(fail_if_success (with_reducible show AI _ _ (YN _ _ _) _ _ _));(fail_if_success (with_reducible show AI _ _ (BZ _ _ _ _) _ _ _));(fail_if_success (with_reducible show Q8 _ _));walk_at "go"))
   (rename Fr ..=>F9);(rename AY _ _ _ _=>N9)
   (try dsimp only)
   refine hq8 _ _ ?_;refine PP (x:=x) (tx:=tx) (ys:=ys5) (xs:=xs) (st:=st) (nC:=nC) (cv:=cv) (so:=listOf (AF sv).toArray nS) (nS:=nS) (.data (pick AW ["t","&","","<>"] (x / 6 % 4))) (.ref t9) [(t9,DO #[.int 2 ?ti5x1,.str (pick AW ["t","&","","<>"] (x / 6 % 4)) ?ti5x2,.none])] (sv) F9 N9 ?st5 ?tv5 ?so5 ?sb5 ?nn5 ?ob5 ?nw5 ?hm5 eF sO eL eC off n1 n2 n4 n5 ?o5 ?b5
   case sb5=>walk_at "l_mem"
   case nn5=>walk_at "l_mem"
   case ob5=>walk_at "l_sub"
   case nw5=>exact(Fc ⟨by first|assumption|exact BG (by assumption),by first|assumption|exact BG (by assumption),by first|assumption|exact BG (by assumption),by first|assumption|exact BG (by assumption)⟩ (BA _))
   case hm5=>(intro y h1 h2 h3 h4 h5;repeat'(first|exact RI h1 h2 h3 h4 h5|refine(CA (by assumption)).trans ?_))
   case o5=>exact o1
   case b5=>exact b1
   case so5=>simp[AF]
   case tv5=>exact⟨t9,_,_,rfl,.head _⟩
   case st5=>(unfold FH;rw[CA c1,CA c2,CA c4,eS])
end
theorem rs16:True∧True:=by
 (try walk1);(try w_top off)
 all_goals (first | trivial | exact ⟨trivial,trivial⟩)
section

noncomputable def IA(n:AX):AX:=pick AW (lB (LJ n (AK 1) BN) (AA "}")) 0
noncomputable abbrev xmlUri:AX:="http://www.w3.org/XML/1998/namespace"
noncomputable def FQ(ks:AE AX)(u:AX):AE AX:=if u≠xmlUri∧u∉ks then ks++[u] else ks
noncomputable def II(ks:AE AX):DC→AE AX
 |.start tag attrs=>(FJ LA (SX IA (tag::attrs.map (·.1)))).foldl FQ ks
 |_=>ks
noncomputable def CT(cs:AE DC):AE AX:=cs.foldl II []
noncomputable def numsOf(ks:AE AX):AE Pr:=ks.zipIdx.map λp=>(p.1,XA p.2)
theorem aP(ks:AE AX)(u:AX):numsOf (ks++[u])=numsOf ks++[(u,XA ks.length)]:=by
 unfold numsOf;rw[Gm,BF];simp
theorem QN(ks:AE AX):(numsOf ks).map (·.1)=ks:=by
 unfold numsOf;rw[GG];show ks.zipIdx.map (λp=>p.1)=ks;exact AE.zipIdx_map_fst 0 ks
theorem vE(ks:AE AX)(u:AX):ks.length≤(FQ ks u).length:=by
 unfold FQ;split
 ·simp
 ·exact CR _
theorem eD(us:AE AX):∀ks:AE AX,ks.length≤(us.foldl FQ ks).length:=by
 induction us with
 |nil=>exact λ_=>CR _
 |cons u us ih=>exact λks=>AQ (vE ks u) (ih _)
theorem mV(cs:AE DC):∀ks:AE AX,ks.length≤(cs.foldl II ks).length:=by
 induction cs with
 |nil=>exact λ_=>CR _
 |cons c cs ih =>
  intro ks
  refine AQ ?_ (ih _)
  cases c with
  |start tag attrs=>exact eD _ _
  |_=>exact CR _
noncomputable def kY:DC→Prop
 |.start tag attrs=>attrs.length≤3∧(attrs.map (·.1)).Nodup∧∀n∈tag::attrs.map (·.1),n.length≤200∧lB (LJ n (AK 1) BN) (AA "}")≠[]∧(lB (LJ n (AK 1) BN) (AA "}")).length≤100
 |_=>True
inductive TTup (W:BU) (g:CW) (c:DC) (k:EE) (x:AX) (z:AC):Prop
 |a (h:k=0) (h1:∃attrs at_ na l,c=.start x attrs∧z=.ref at_∧g.get? at_=AK (CK (IM W.params l) na)∧(at_==FB)=AU∧attrs=l.map λp=>(p.1.1,p.2.1)):TTup W g c k x z
 |d (h:k≠0) (h1:k≤4) (h2:0≤k) (h3:∀ks,II ks c=ks):TTup W g c k x z
theorem oW{W:BU}{g:CW}{a:AH}{c:DC}(h:cQ W g a c):∃k tk x tx z,WI g a #[.int k tk,.str x tx,z]∧TTup W g c k x z:=by
 cases c with
 |start tag attrs=>exact h.elim λt h=>h.elim λtt h=>h.elim λat_ h=>h.elim λna h=>h.elim λl h=>⟨0,t,tag,tt,_,h.1,.a rfl ⟨attrs,at_,na,l,rfl,rfl,h.2⟩⟩
 |stop tag=>exact h.elim λt h=>h.elim λtt h=>⟨1,t,tag,tt,_,h,.d (by decide) (by decide) (by decide) λ_=>rfl⟩
 |data tag=>exact h.elim λt h=>h.elim λtt h=>⟨2,t,tag,tt,_,h,.d (by decide) (by decide) (by decide) λ_=>rfl⟩
 |comment tag=>exact h.elim λt h=>h.elim λtt h=>⟨3,t,tag,tt,_,h,.d (by decide) (by decide) (by decide) λ_=>rfl⟩
 |pi tag=>exact h.elim λt h=>h.elim λtt h=>⟨4,t,tag,tt,_,h,.d (by decide) (by decide) (by decide) λ_=>rfl⟩
 |sns p u=>exact h.elim
noncomputable abbrev qQ(ca D:AH):AX→AM AC:=λy=>if y="numbers" then AK (.ref D) else DY y [("calls",.ref ca)]
noncomputable abbrev iO(ca D:AH)(u1 u2 u3 u4 u5:AM AC):AX→AM AC:=m5 "kind" "what" "more" "uri" "name" (qQ ca D) u1 u2 u3 u4 u5
theorem cE{ca D:AH}{u1 u2 u3 u4 u5:AM AC}{y:AX}(h1:y≠"kind")(h2:y≠"what")(h3:y≠"more")(h4:y≠"uri")(h5:y≠"name"):iO ca D u1 u2 u3 u4 u5 y=qQ ca D y:=by
 simp[iO,m5,h1,h2,h3,h4,h5]
def SH(W:BU)(g:CW)(v:AC)(c:DC):Prop:=∃a,v=.ref a∧cQ W g a c
theorem yM{g:CW}{a:AH}{xs ys:CE AC}(h1:WI g a xs)(h2:WI g a ys):xs=ys:=by
 obtain⟨o1,e1,_,n1,d1⟩:=h1;obtain⟨o2,e2,_,n2,d2⟩:=h2;rw[e1] at e2;have:=HB e2;subst this;rw[d1] at d2;injection d2
theorem TB:∀{kvs:AE (AX×AC)}{vs:AE AC},vs.length=kvs.length→(∀(j:CC)(v:AC),vs[j]?=AK v→∃(k:AX)(x:AC),kvs[j]?=AK (k,x)∧∃t:DW,v=EW k t)→∃l:AE (AX×DW),vs=AF l∧l.map (·.1)=kvs.map (·.1)
 |[],[],_,_=>⟨[],rfl,rfl⟩
 |[],_::_,h,_=>by simp at h
 |_::_,[],h,_=>by simp at h
 |q::r,v::vs,hl,hv=>by
  obtain⟨k,x,e,t,ev⟩:=hv 0 v rfl;simp only[GJ,IG] at e;subst e ev
  obtain⟨l,e1,e2⟩:=TB (kvs:=r) (vs:=vs) (by simpa using hl) λj u hu=>by simpa using hv (j+1) u (by simpa using hu)
  exact⟨(k,t)::l,by rw[e1];rfl,by rw[EC,e2];rfl⟩
theorem uY{prog:BH}{w:BU}{A:BQ}{E:AC→AG→Prop}{s:AG}{h₀:CW}{L at_:AH}{m:AX→AM AC}{news:AE (AH×CY)}{l:AE ((AX×DW)×(AX×DW))}{na:CC}{Q:AC→AG→Prop}(hh:A.handled=BN)(F:Fr h₀ L s.heap m)(N:AY h₀ L s.heap news)(hat:s.heap.get? at_=AK (CK (IM w.params l) na))(hnd:(l.map (·.1.1)).Nodup)(lo:(at_==FB)=AU)(hz:l.length≤100)
  (h:∀(D:AH)c h' tk(ks:AE (AX×DW)),ks.map (·.1)=l.map (·.1.1)→Fr h₀ L h' m→AY h₀ L h' ((D,listOf (AF ks).toArray c)::news)→(∀q∈news,q.1<D)→Q (.ref D) { s with heap:=h',toks:=tk }):AI (BE prog w) A (DK (.type "list") [.ref at_]) Q E s:=by
 have hd:s.heap.DictOf (EL prog w) at_ (OF l):=MF.mpr ⟨_,hat,VH hnd⟩;obtain⟨ep,hda⟩:=hd.dictAt
 have hkl:(OF l).length=l.length:=by unfold OF;rw[AN]
 refine kdl_N (kdl_dict (knd:=EL prog w) (kvs:=OF l) (ep:=ep) lo) hh F N hda (by rw[hkl,BI];exact AQ hz (by decide)) λB c h' tk vs F' N' l1 hl hv=>?_
 obtain⟨ks,rfl,e2⟩:=TB hl λj u hu=>by
  obtain⟨k,x,hx,hk⟩:=hv j u hu;exact⟨k,x,hx,cR hk⟩
 exact h B c h' tk ks (by rw[e2];unfold OF;rw[GG];rfl) F' N' l1
theorem Dl{w:BU}{g:CW}{cv:AE AC}{cs:AE DC}(h:All2 (SH w g) cv cs):∀v∈cv,∃a,v=.ref a:=by
 induction h with
 |nil=>exact λ_ z=>nomatch z
 |cons z _ ih=>exact Fc (z.elim λa h=>⟨a,h.1⟩) ih
theorem szS{n:AX}(h:n.length≤200):(LJ n (AK 1) BN).length+2≤DA:=by
 rw[BI];have:=AQ (Txt.slice_le n (AK 1) BN) h
 exact(BJ λhn1=>fk [_] (.c 1 (.v 0) (.k 200) (.c 1 (.a (.k 16777216) (.k 1)) (.a (.v 0) (.k 2)) (.k 0))) rfl this hn1)
theorem ls_pos{ls:AE (AX×DW)}{q:AE AX}(e:ls.map (·.1)=q)(h:q≠[]):(0:EE)<ls.length:=by
 cases ls with
 |nil=>exact absurd e.symm h
 |cons _ _=>exact EE.ofNat_lt.mpr (EB _)
theorem ls_len{ls:AE (AX×DW)}{q:AE AX}(e:ls.map (·.1)=q)(h:q.length≤100):ls.length≤100:=by rw[← AN (f:=(·.1)),e];exact h
theorem lD(y:AX)(ks:AE AX):1≤(QY y ks).length:=by
 unfold QY;split
 ·rename_i h;exact Bk h
 ·exact EB _
theorem zO{f:AX→AX}{n:AX}{l:AE AX}(h:l.length≤3):1≤(SX f (n::l)).length∧(SX f (n::l)).length≤4:=by
 refine⟨?_,AQ (nU f (n::l)) (LI h)⟩
 have hm:∀(l:AE AX)(ks:AE AX),1≤ks.length→1≤(l.foldl (λks n=>QY (f n) ks) ks).length:=by
  intro l
  induction l with
  |nil=>exact λ_ h=>h
  |cons n l ih=>exact λks _=>ih _ (lD _ _)
 exact hm l _ (lD _ _)
theorem HR(cs:AE DC)(c:DC):CT (cs++[c])=II (CT cs) c:=by unfold CT;rw[FO];rfl
theorem tV{M:QV}{A:BQ}{e:kZ CZ}(c:Prop)[PY c]{Q:CZ→AG→Prop}{E:AC→AG→Prop}{s:AG}
  (a:AI M A e (λb s'=>b=decide c∧∃tk,s'={ s with toks:=tk }) E s) (b:∀tk,Q (decide c) { s with toks:=tk }):AI M A e Q E s :=
 DI a (λv s'⟨e1,tk,e2⟩=>by rw[e1,e2];exact b tk) λ_ _ z=>z
inductive NumJ (w:BU) (g:CW) (ca D:AH) (cs:AE DC) (rem:AE AC) (m:AX→AM AC) (own:AE (AH×CY)):Prop
 |mk (cs1 cs2:AE DC) (pq:AE (AX×(AX×DW))) (oD:CY) (u1 u2 u3 u4 u5:AM AC) (h0:cs=cs1++cs2) (h1:All2 (SH w g) rem cs2) (h2:m=iO ca D u1 u2 u3 u4 u5) (h3:own=[(D,oD)]) (h4:HY rw_dn0283_07.row.prog w oD pq) (h5:pq.map (λp=>(p.1,p.2.1))=numsOf (CT cs1)):NumJ w g ca D cs rem m own
theorem NumJ.elim_{w:BU}{g:CW}{ca D:AH}{cs:AE DC}{rem:AE AC}{m:AX→AM AC}{own:AE (AH×CY)}{G:Prop}(h:NumJ w g ca D cs rem m own)(k:∀(cs1 cs2:AE DC)(pq:AE (AX×(AX×DW)))(oD:CY)(u1 u2 u3 u4 u5:AM AC),cs=cs1++cs2→All2 (SH w g) rem cs2→m=iO ca D u1 u2 u3 u4 u5→own=[(D,oD)]→HY rw_dn0283_07.row.prog w oD pq→pq.map (λp=>(p.1,p.2.1))=numsOf (CT cs1)→G):G:=h.casesOn k
inductive NumK (w:BU) (ca D:AH) (outn:AE (AX×DW)) (tl:AE (AH×CY)) (ks:AE AX) (rem:AE AC) (m:AX→AM AC) (own:AE (AH×CY)):Prop
 |mk (l1 l2:AE (AX×DW)) (pq:AE (AX×(AX×DW))) (oD:CY) (u1 u2 u3 u4 u5:AM AC) (h0:outn=l1++l2) (h1:rem=AF l2) (h2:m=iO ca D u1 u2 u3 u4 u5) (h3:own=(D,oD)::tl) (h4:HY rw_dn0283_07.row.prog w oD pq) (h5:pq.map (λp=>(p.1,p.2.1))=numsOf ((l1.map (·.1)).foldl FQ ks)):NumK w ca D outn tl ks rem m own
theorem NumK.elim_{w:BU}{ca D:AH}{outn:AE (AX×DW)}{tl:AE (AH×CY)}{ks:AE AX}{rem:AE AC}{m:AX→AM AC}{own:AE (AH×CY)}{G:Prop}(h:NumK w ca D outn tl ks rem m own)(k:∀(l1 l2:AE (AX×DW))(pq:AE (AX×(AX×DW)))(oD:CY)(u1 u2 u3 u4 u5:AM AC),outn=l1++l2→rem=AF l2→m=iO ca D u1 u2 u3 u4 u5→own=(D,oD)::tl→HY rw_dn0283_07.row.prog w oD pq→pq.map (λp=>(p.1,p.2.1))=numsOf ((l1.map (·.1)).foldl FQ ks)→G):G:=h.casesOn k
noncomputable def UM(w:BU)(A:BQ)(s:AG)(g:CW)(os:CU)(p:BH)(zw:AE AX)(zt:ER→AM AC)(mg mb:AX→AM AC)(R:FE→AG→Prop)(ca:AH)(cv:AE AC)(cs:AE DC):Prop :=
 ∀(X:(hd07.heap_1 w.params).In g)(T:VO p zw zt mg mb g)(H:Ok g os [] s)(hh:A.handled=BN)(zq:A.depth<800)(hu:A.units<7000)(hca:g.IsList ca cv.toArray)(hcs:All2 (SH w g) cv cs)(hcl:cs.length≤100)(hcn:∀c∈cs,kY c)(hk40:(CT cs).length≤40)(hN:∀(D:AH)(oD:CY)(pq:AE (AX×(AX×DW)))(s':AG),HY rw_dn0283_07.row.prog w oD pq→(D==FB)=AU→pq.map (λp=>(p.1,p.2.1))=numsOf (CT cs)→Ok g os [(D,oD)] s'→R (.ok (.ret (.ref D))) s'),DV (BE rw_dn0283_07.row.prog w) A (.call (.ref 185) ⟨[.ref ca],[]⟩) R s
theorem jP:∀{w A s g os p zw zt mg mb R ca cv cs},UM w A s g os p zw zt mg mb R ca cv cs:=by
 refine @(BK (GM KF)<|@(MU DM<|let_mvar%?n:=(λw A s g os p zw zt mg mb R ca cv cs=>?_:∀a b c d e f g h i j k l m n,UM a b c d e f g h i j k l m n);?n _ _ _ _ _ _ _ _ _ _ _ _ _ _))
 intro X T H hh zq hu hca hcs hcl hcn hk40 hN;have hcvl:=hcs.length;revert X;k_fill;intro X;refine' KQ (λy=>DY y [("calls",.ref ca)]) H X T ?k6 ?k7 (AZ zq (by decide)) ?k9 ?kB ?km ?kl ?_ ?c1 ?c2 ?c3 ?c4
 (case k6=>k_is)
 (case k7=>k_is)
 (case k9=>exact GO rfl)
 (case kB=>exact locs rfl)
 (case km=>exact rfl)
 (case kl=>exact EB _)
 (case c1=>exact rfl)
 (case c2=>exact rfl)
 (case c3=>exact rfl)
 (case c4=>decide)
 k_whole;with_reducible refine let_mvar%?zq1:=(λL' h1 k0=>?_:PV _);FL DM (JN:ES _ (type_of%?zq1)) (?zq1 _ _ _);intro hk0 F1 N1 l1;(try k_lt l1);(try dsimp only)
 refine HK ?_;walk_at "eps2";rename_i Q9 E9;intro hq9 he9
 repeat'(first
  |((with_reducible show AI _ _ (eval (Am [] [] _) _) _ _ _);refine mP F1 N1 (ZA (by k_asm)) ?_;clear F1 N1;with_reducible refine let_mvar%?zd1:=(λD h2 o2=>?_:PV _);FL DM (JN:ES _ (type_of%?zd1)) (?zd1 _ _ _);intro F2 N2 _ lo0 hd2;(try dsimp only))
  |((fail_if_success (with_reducible show AI _ _ (exec (QX _ _ _ _ _) _) _ _ _));walk_at "go"))
 (rename Fr ..=>F8)
 refine iG (λ_=>rfl) ?_
 repeat'((fail_if_success (with_reducible show AI _ _ (IY _) _ _ _));walk_at "go")
 refine RM (its:=cv.toArray) (ax:=ca) (os:=os) (L:=L') (h₀:=g) (λrem m own=>NumJ w g ca D cs rem m own)
  (λown v m m'=>∃a v1 v2 v3,v=.ref a∧WI g a #[v1,v2,v3]∧m'=λy=>if y=AA "more" then AK v3 else if y=AA "what" then AK v2 else if y=AA "kind" then AK v1 else m y) ?hh ?hsrc ?hown ?hasg ?step ?done ⟨[],cs,[],o2,BN,BN,BN,BN,BN,rfl,hcs,rfl,rfl,hd2,rfl⟩ ?F (by assumption) ?os ?br
 case hh=>exact hh
 case os=>exact H.os
 case br=>exact H.bare
 case F=>(show Fr g L' _ (iO ca D BN BN BN BN BN);rw[iO,← jK (m0:=qQ ca D) rfl rfl rfl rfl rfl];exact F8)
 case hsrc =>
  rintro rem m own _;exact .inl hca
 case hown =>
  intro I i v s1 Q E' hit hv hq;obtain⟨a,rfl⟩:=Dl hcs v hv;exact QG hit hq
 case hasg =>
  rintro s1 v rem m own news Q E' ⟨cs1,cs2,pq,oD,u1,u2,u3,u4,u5,e1,e2,rfl,rfl,hd,hp⟩ hsub F1 N1 hq
  cases e2 with
  |cons z _ =>
   obtain⟨a,rfl,hta⟩:=z;obtain⟨k,tk,x,tx,zz,htup,_⟩:=oW hta;exact MV hh F1 N1 (htup.keeps F1.keep) (λh' tk' F2 N2=>hq h' tk' _ F2 N2 ⟨a,_,_,_,rfl,htup,rfl⟩) rfl rfl rfl rfl
 case done =>
  rintro s1 m own ⟨cs1,cs2,pq,oD,u1,u2,u3,u4,u5,e1,e2,rfl,rfl,hd,hp⟩ F1 N1 o1 b1;cases e2;rw[CQ] at e1;subst e1;dsimp only
  repeat'((fail_if_success (with_reducible show Q9 _ _));walk_at "go")
  exact hq9 _ _ (leaveM_ F1 N1 o1 b1 λH'=>hN D oD pq _ hd lo0 hp H')
 case step =>
  with_reducible refine let_mvar%?zq19:=(λs1 v rem m m' own I oI=>?_:Bf _);SK JS (kI:ES _ (type_of%?zq19)) (?zq19 _ _ _ _ _ _ _ _);intro hJ9 hB9 F1 N1 off9 o1 b1
  refine HK ?_;walk_at "eps2";rename_i Q8 E8;intro hq8 he8
  refine hJ9.elim_ ?_;clear hJ9;with_reducible refine let_mvar%?zq20:=(λcs1 cs2 pq oD=>?_:ZE _);IB DM (OM:ES _ (type_of%?zq20)) (?zq20 _ _ _ _);with_reducible refine let_mvar%?zq21:=(λu1 u2 u3 u4 u5=>?_:kQ _);LU DM (UR:ES _ (type_of%?zq21)) (?zq21 _ _ _ _ _);rintro e1 e2 rfl rfl hd hp
  have hy3:∃c cs2',cs2=c::cs2'∧SH w g v c∧All2 (SH w g) rem cs2':=by
   cases e2 with
   |cons z e2=>exact⟨_,_,rfl,z,e2⟩
  clear e2
  revert hy3;refine VP ?_;with_reducible refine let_mvar%?zq13:=(λc cs2'=>?_:OV _);EV (eB.elim λc=>⟨(c,[])⟩) (IP:ES _ (type_of%?zq13)) (?zq13 _ _);rintro⟨rfl,hv9,e2⟩
  revert hv9;refine XX ?_;with_reducible refine let_mvar%?zq77:=(λa=>?_:Fa _);HZ DM (UA:ES _ (type_of%?zq77)) (?zq77 _);rintro⟨rfl,hta⟩
  have hnc:=hcn c (by rw[e1];exact Mr _ (.head _))
  have hkc:(II (CT cs1) c).length≤40:=by
   have z:=mV cs2' (CT (cs1++[c]))
   rw[HR] at z
   refine AQ z (AQ (ET ?_) hk40)
   rw[e1];unfold CT;rw[FO,HO]
  have hy4:=oW hta
  revert hy4;refine Ca ?_;with_reducible refine let_mvar%?zq14:=(λk tk x tx zz=>?_:kQ _);LU DM (UR:ES _ (type_of%?zq14)) (?zq14 _ _ _ _ _);rintro⟨htup,hk⟩
  have hm9:m'=λy=>if y=AA "more" then AK zz else if y=AA "what" then AK (.str x tx) else if y=AA "kind" then AK (.int k tk) else iO ca D u1 u2 u3 u4 u5 y:=by
   obtain⟨a',v1,v2,v3,ea,htup2,rfl⟩:=hB9;injection ea with ea;subst ea;have et:=yM htup2 htup;simp only[TH,MG,TS] at et;obtain⟨rfl,rfl,rfl⟩:=et;rfl
  subst hm9;clear hB9;rcases hk with⟨rfl,hk⟩|⟨k0,_,_,hks⟩
  ·revert hk;refine uD ?_;with_reducible refine let_mvar%?zq15:=(λattrs at_ na l=>?_:ZE _);IB DM (OM:ES _ (type_of%?zq15)) (?zq15 _ _ _ _)
   rintro⟨rfl,rfl,hat,hsys,hal⟩;have hz0:(0:EE)=0:=rfl
   repeat'(first
    |((with_reducible show AI _ _ (exec (QX _ _ _ _ _) _) _ _ _);refine iG (λ_=>rfl) ?_)
    |((fail_if_success (with_reducible show AI _ _ (eval (Expr.SetComp _ _ _ _) _) _ _ _));walk_at "go"))
   refine Dq rfl (λ_=>rfl) rfl (by decide) ?_;have hl3:attrs.length≤3:=hnc.1
   have hnd:(l.map (·.1.1)).Nodup:=by have z:=hnc.2.1;rw[hal,GG] at z;exact z
   have hll:l.length=attrs.length:=by rw[hal,AN]
   repeat'(first
    |((with_reducible show AI _ _ (DK (.type "list") [.ref at_]) _ _ _);(rename Fr ..=>F9);(rename AY _ _ _ _=>N9);refine uY hh F9 N9 (F9.keep _ _ hat) hnd hsys (by exact(BJ λhn1=>fk [_,_] (.c 1 (.v 0) (.k 3) (.c 1 (.v 1) (.v 0) (.c 1 (.a (.k 100) (.k 1)) (.v 1) (.k 0)))) rfl hl3 (ET hll) hn1)) ?_;clear F9 N9;with_reducible refine let_mvar%?zc1:=(λlk c9 h9 tk9 ks=>?_:kQ _);LU DM (UR:ES _ (type_of%?zc1)) (?zc1 _ _ _ _ _);intro hks F9 N9 _;(try dsimp only))
    |((with_reducible show AI _ _ (JL _) _ _ _);(rename Fr ..=>F9);(rename AY _ _ _ _=>N9);refine OW F9 N9 ?_ (by rw[BI];exact CP rfl);clear F9 N9;walk_at "eps2";rename_i l9 h9;intro F9 N9 lt9;(try dsimp only))
    |((with_reducible show AI _ _ (WO XO (.ref _) (.ref _)) _ _ _);(rename Fr ..=>F9);(rename AY _ _ _ _=>N9);refine Fq (zs:=AF ((x,tx)::ks)) F9 N9 (its:=#[.str x tx]) (its2:=(AF ks).toArray) (by exact⟨_,(N9 _ (.tail _ (.head _))).1,rfl,_,rfl⟩) (by exact⟨_,(N9 _ (.head _)).1,rfl,_,rfl⟩) (by simp[AF]) ?_ (by have z:=BW EG hks;rw[AN,AN] at z;show 1+(AF ks).length≤DA;rw[BI];unfold AF;rw[AN];exact(BJ λhn1=>fk [_,_,_] (.c 1 (.v 0) (.k 3) (.c 1 (.v 1) (.v 0) (.c 1 (.v 2) (.v 1) (.c 1 (.a (.k 16777216) (.k 1)) (.a (.k 1) (.v 2)) (.k 0))))) rfl hl3 (ET hll) (ET z) hn1));clear F9 N9;walk_at "eps2";rename_i r9 h9;intro F9 N9 lr9;(try dsimp only))
    |((fail_if_success (with_reducible show rZ _ _ _ _ _ _ _ _ _ _ _ _ _ _));walk_at "go"))
   have hkl:ks.length≤3:=by have z:=BW EG hks;rw[AN,AN] at z;exact(BJ λhn1=>fk [_,_,_] (.c 1 (.v 0) (.k 3) (.c 1 (.v 1) (.v 0) (.c 1 (.v 2) (.v 1) (.c 1 (.a (.k 3) (.k 1)) (.v 2) (.k 0))))) rfl hl3 (ET hll) (ET z) hn1)
   have hnames:((x,tx)::ks).map (·.1)=x::attrs.map (·.1):=by rw[EC,hks,hal,GG];rfl
   have hnf:=hnc.2.2;refine zP (f:=IA) (l:=(x,tx)::ks) (c1:=0) (by decide) rfl rfl (by decide) hh F9 N9 o1 b1 (.head _) (by show ks.length+1≤50;exact(BJ λhn1=>fk [_] (.c 1 (.v 0) (.k 3) (.c 1 (.a (.k 50) (.k 1)) (.a (.v 0) (.k 1)) (.k 0))) rfl hkl hn1)) ?hE ?fin
   case hE =>
    clear hN hq8 he8 hq9 he9 F9 N9
    with_reducible refine let_mvar%?ze1:=(λs2 C own oC m₂ n tn=>?_:An _);RC JS (gB:ES _ (type_of%?ze1)) (?ze1 _ _ _ _ _ _ _);with_reducible refine let_mvar%?ze2:=(λQ7 E7=>?_:OV _);EV DM (IP:ES _ (type_of%?ze2)) (?ze2 _ _);intro hnm F9 N9 hC hB hq7
    rw[hnames] at hnm;obtain⟨hn1,hn2,hn3⟩:=hnf n hnm
    have hn4:n.length≤DA:=by rw[BI];exact AQ hn1 (by decide)
    repeat'(first
     |((with_reducible show AI _ _ (eval (cD _ _) _) _ _ _);refine UU N9 (.head _) hC hB ?_ rfl rfl)
     |((with_reducible show AI _ _ (DK (.builtin "str.split") _) _ _ _);(rename Fr ..=>F9);(rename AY _ _ _ _=>N9);refine KSpl.split1 F9 N9 (by decide) ?_ (szS hn1);clear F9 N9;with_reducible refine let_mvar%?ze3:=(λd9 ls h9 tk9=>?_:ZE _);IB DM (OM:ES _ (type_of%?ze3)) (?ze3 _ _ _ _);intro els _ F8 N8 _;(try dsimp only))
     |((with_reducible show AI _ _ (BZ _ _ (.ref d9) (.int 0 _)) _ _ _);refine iA (l:=ls) (by exact⟨_,(N8 _ (.head _)).1,rfl,_,rfl⟩) (EE.le_refl _) (ls_pos els hn2) (ls_len els hn3) ?_;walk_at "eps";rename_i t9;(try dsimp only))
     |((with_reducible show Q7 _ _);rw[els];refine hq7 _ _ _ F8 (AY.sub N8 (λq hq=>by repeat'(first|exact hq|refine .tail _ ?_))))
     |walk_at "go")
   case fin =>
    clear F9 N9
    with_reducible refine let_mvar%?zf1:=(λs3 DS oS=>?_:PV _);FL JS (JN:ES _ (type_of%?zf1)) (?zf1 _ _ _);intro hT offS F5 N5 o5 b5
    rw[hnames] at hT
    obtain⟨hS1,hS4⟩:=zO (f:=IA) (n:=x) (l:=attrs.map (·.1)) (by rw[AN];exact hl3)
    repeat'(first
     |((with_reducible show AI _ _ (DK (GU "sorted") _) _ _ _);refine zX hh F5 N5 (.head _) hT hS1 hS4 ?_;with_reducible refine let_mvar%?zf2:=(λDL outn c1_=>?_:PV _);FL DM (JN:ES _ (type_of%?zf2)) (?zf2 _ _ _);with_reducible refine let_mvar%?zf3:=(λs4=>?_:Fa _);HZ neS (UA:ES _ (type_of%?zf3)) (?zf3 _);intro g4 o4 hout hlt F6 N6;(try dsimp only))
     |((fail_if_success (with_reducible show AI _ _ (IY _) _ _ _));walk_at "go"))
    have hDI:D≠I:=off9 (D,oD) (.head _)
    have hDL1:D≠DL:=AO (hlt (D,oD) (by k_mem))
    have hDL2:I≠DL:=AO (hlt (I,oI) (by k_mem))
    have N7:AY g L' s4.heap ((D,oD)::(I,oI)::[(DL,listOf (AF outn).toArray c1_)]):=AY.sub N6 (by walk_at "l_mem")
    have hol:outn.length≤4:=by have z:=BW EG hout;rw[AN,(DU _ _).length_eq] at z;exact(BJ λhn1=>fk [_,_] (.c 1 (.v 0) (.k 4) (.c 1 (.v 1) (.v 0) (.c 1 (.a (.k 4) (.k 1)) (.v 1) (.k 0)))) rfl hS4 (ET z) hn1)
    clear F5 N5 N6
    refine RM (its:=(AF outn).toArray) (ax:=DL) (os:=os) (L:=L') (h₀:=g) (λrem m own=>NumK w ca D outn ((I,oI)::[(DL,listOf (AF outn).toArray c1_)]) (CT cs1) rem m own)
     (λown v m m'=>m'=λy=>if y=AA "uri" then AK v else m y) ?hh2 ?hsrc2 ?hown2 ?hasg2 ?step2 ?done2 ⟨[],outn,pq,oD,_,_,_,_,_,rfl,rfl,mL ?hm2,rfl,hd,hp⟩ F6 N7 (o4.trans o5) (by rw[g4];exact b5)
    case hm2=>intro y h1 h2 h3 h4 h5;rw[CA h3,CA h2,CA h1];exact cE h1 h2 h3 h4 h5
    case hh2=>exact hh
    case hsrc2 =>
     rintro rem m own ⟨l1,l2,pq2,oD2,u1,u2,u3,u4,u5,_,_,_,rfl,_,_⟩;exact .inr ⟨_,.tail _ (.tail _ (.head _)),rfl,_,rfl⟩
    case hown2 =>
     intro I i v s1 Q E' _ _ hq;exact Wp hq
    case hasg2 =>
     intro s1 v rem m own news Q E' _ _ F1 N1 hq
     exact EO (TZ F1 N1 (λh2 F2 N2=>hq h2 _ _ F2 N2 rfl) rfl rfl)
    case done2 =>
     rintro s5 m own ⟨l1,l2,pq2,oD2,u1,u2,u3,u4,u5,e1',e2',rfl,rfl,hd2',hp2⟩ F9 N9 o9 b9;have:l2=[]:=Gc.mp e2'.symm;subst this;rw[CQ] at e1';subst e1'
     repeat'(first
      |((with_reducible show Q8 _ _);refine hq8 _ _ ?_;(try dsimp only))
      |((fail_if_success (with_reducible show ∃_,_));walk_at "go"))
     refine⟨_,[(D,oD2)],⟨cs1++[.start x attrs],cs2',pq2,oD2,_,_,_,_,_,by rw[e1,BX];rfl,e2,rfl,rfl,hd2',by rw[hp2,HR,hout];rfl⟩,F9,AY.sub N9 (by walk_at "l_mem"),Fc hDI (BA _),o9,b9⟩
    case step2 =>
     clear F6 N7
     with_reducible refine let_mvar%?zg1:=(λs5 v rem m m' own I2 oI2=>?_:Bf _);SK JS (kI:ES _ (type_of%?zg1)) (?zg1 _ _ _ _ _ _ _ _);intro hJ9 hB9 F1 N1 off2 o1' b1'
     subst hB9;refine HK ?_;walk_at "eps2";rename_i Q6 E6;intro hq6 he6
     refine hJ9.elim_ ?_;clear hJ9;with_reducible refine let_mvar%?zg2:=(λl1 l2 pq2 oD2=>?_:ZE _);IB DM (OM:ES _ (type_of%?zg2)) (?zg2 _ _ _ _);with_reducible refine let_mvar%?zg3:=(λw1 w2 w3 w4 w5=>?_:kQ _);LU DM (UR:ES _ (type_of%?zg3)) (?zg3 _ _ _ _ _);rintro e1' e2' rfl rfl hd2' hp2
     have hy6:∃u tu l2',l2=(u,tu)::l2'∧v=.str u tu∧rem=AF l2':=by
      cases l2 with
      |nil=>cases e2'
      |cons q l2'=>obtain⟨n,tn⟩:=q;injection e2' with e1 e2;exact⟨n,tn,l2',rfl,e1,e2⟩
     clear e2'
     revert hy6;refine fV ?_;with_reducible refine let_mvar%?zg4:=(λu tu l2'=>?_:PV _);FL DM (JN:ES _ (type_of%?zg4)) (?zg4 _ _ _);rintro⟨rfl,rfl,rfl⟩
     have hkeys:pq2.map (·.1)=(l1.map (·.1)).foldl FQ (CT cs1):=by
      have z:=BW (λl=>l.map (·.1)) hp2;simp only[GG] at z;rw[QN] at z;exact z
     have hpl:pq2.length≤40:=by
      rw[← AN (f:=(·.1)),hkeys]
      refine AQ (eD (u::l2'.map (·.1)) _) (AQ (ET ?_) hkc)
      show _=((FJ LA (SX IA (x::attrs.map (·.1)))).foldl FQ (CT cs1)).length;rw[← hout,e1',BF,FO];rfl
     (try(conv=>(arg 6;dsimp only)))
     refine BR (Fu (tV (u≠xmlUri∧u∉pq2.map (·.1)) ?tA ?tB))
     case tA =>
      refine HK ?_;walk_at "eps2";rename_i Q5 E5;intro hq5 he5
      by_cases c1:u=xmlUri
      ·have f1:(u !=AA "http://www.w3.org/XML/1998/namespace")=AU:=by rw[c1];exact UX _
       repeat'(first
        |((with_reducible show Q5 _ _);refine hq5 _ _ ⟨(CF λz=>z.1 c1).symm,_,rfl⟩)
        |((with_reducible show AI _ _ (LO pF (.str _ _) (.ref D)) _ _ _);(rename AY _ _ _ _=>N9);refine jO lo0 (N9 (D,oD2) (by k_mem)).1 hd2' ?_;(try dsimp only))
        |walk_at "go")
      ·have f1:(u !=AA "http://www.w3.org/XML/1998/namespace")=BC:=tO.mpr c1
       by_cases c2:u∈pq2.map (·.1)
       ·have f2:(!decide (u∈pq2.map (·.1)))=AU:=by rw[CN c2];rfl
        repeat'(first
         |((with_reducible show Q5 _ _);refine hq5 _ _ ⟨(CF λz=>z.2 c2).symm,_,rfl⟩)
         |((with_reducible show AI _ _ (LO pF (.str _ _) (.ref D)) _ _ _);(rename AY _ _ _ _=>N9);refine jO lo0 (N9 (D,oD2) (by k_mem)).1 hd2' ?_;(try dsimp only))
         |walk_at "go")
       ·have f2:(!decide (u∈pq2.map (·.1)))=BC:=by rw[CF c2];rfl
        repeat'(first
         |((with_reducible show Q5 _ _);refine hq5 _ _ ⟨(CN ⟨c1,c2⟩).symm,_,rfl⟩)
         |((with_reducible show AI _ _ (LO pF (.str _ _) (.ref D)) _ _ _);(rename AY _ _ _ _=>N9);refine jO lo0 (N9 (D,oD2) (by k_mem)).1 hd2' ?_;(try dsimp only))
         |walk_at "go")
     walk_at "eps";rename_i tk7
     (try dsimp only)
     by_cases c1:u≠xmlUri∧u∉pq2.map (·.1)
     ·refine HE (CN c1) ?_
      repeat'(first
       |((with_reducible show AI _ _ (DK (.builtin "len") [.ref D]) _ _ _);(rename AY _ _ _ _=>N9);refine Er lo0 (N9 (D,oD2) (by k_mem)).1 hd2' (by exact(BJ λhn1=>fk [_] (.c 1 (.v 0) (.k 40) (.c 1 (.a (.k 100) (.k 1)) (.v 0) (.k 0))) rfl hpl hn1)) ?_;(try dsimp only))
       |((with_reducible show AI _ _ (YN (.ref D) (.str _ _) (.str _ _)) _ _ _);(rename Fr ..=>F9);(rename AY _ _ _ _=>N9);refine UN (m:=_) F9 N9 (UpdF.tail (BG (off2 (D,oD2) (.head _))) (lC (Fc (BG hDI) (Fc (BG hDL1) (BA _))))) hd2' c1.2 (AQ hpl (by decide)) ?_;clear F9 N9;with_reducible refine let_mvar%?zp1:=(λh9 o9 tk9=>?_:PV _);FL DM (JN:ES _ (type_of%?zp1)) (?zp1 _ _ _);intro F9 N9 ds9;(try dsimp only))
       |((with_reducible show Q6 _ _);refine hq6 _ _ ?_;(try dsimp only))
       |((fail_if_success (with_reducible show ∃_,_));walk_at "go"))
      have hyes:(l1.map (·.1)++[u]).foldl FQ (CT cs1)=(l1.map (·.1)).foldl FQ (CT cs1)++[u]:=by
       rw[FO,← hkeys];show FQ (pq2.map (·.1)) u=_;unfold FQ;rw[DJ c1]
      refine⟨_,(D,o9)::(I,oI)::[(DL,listOf (AF outn).toArray c1_)],⟨l1++[(u,tu)],l2',_,o9,_,_,_,_,_,by rw[e1',BX];rfl,rfl,mL ?hm4,rfl,ds9,?hkv⟩,F9,N9,?off4,o1',b1'⟩
      case hm4=>intro y h1 h2 h3 h4 h5;rw[CA h4];exact cE h1 h2 h3 h4 h5
      case hkv =>
       rw[BF,hp2,BF]
       refine Eq.trans ?_ (BW numsOf hyes.symm)
       rw[aP,← hkeys,AN];rfl
      case off4=>exact Fc (off2 (D,oD2) (.head _)) (λq hq=>off2 q (.tail _ hq))
     ·refine HA (CL (CF c1)) ?_
      repeat'(first
       |((with_reducible show Q6 _ _);refine hq6 _ _ ?_;(try dsimp only))
       |((fail_if_success (with_reducible show ∃_,_));walk_at "go"))
      have hno:(l1.map (·.1)++[u]).foldl FQ (CT cs1)=(l1.map (·.1)).foldl FQ (CT cs1):=by
       rw[FO,← hkeys];show FQ (pq2.map (·.1)) u=_;unfold FQ;rw[CA c1]
      refine⟨_,(D,oD2)::(I,oI)::[(DL,listOf (AF outn).toArray c1_)],⟨l1++[(u,tu)],l2',pq2,oD2,_,_,_,_,_,by rw[e1',BX];rfl,rfl,mL ?hm3,rfl,hd2',by rw[BF,hp2];exact BW numsOf hno.symm⟩,F1,N1,off2,o1',b1'⟩
      case hm3=>intro y h1 h2 h3 h4 h5;rw[CA h4];exact cE h1 h2 h3 h4 h5
  ·have hk0:decide (k=0)=AU:=CF k0
   repeat'(first
    |((with_reducible show(if _=BC then _ else _));refine HA (CL hk0) ?_)
    |((with_reducible show Q8 _ _);refine hq8 _ _ ?_;(try dsimp only))
    |walk_at "go")
   refine⟨_,[(D,oD)],⟨cs1++[c],cs2',pq,oD,_,_,_,_,_,by rw[e1,BX];rfl,e2,mL ?hm1,rfl,hd,by rw[hp,HR,hks]⟩,F1,N1,off9,o1,b1⟩
   case hm1=>intro y h1 h2 h3 h4 h5;rw[CA h3,CA h2,CA h1];exact cE h1 h2 h3 h4 h5
end
theorem rs17:True∧True:=by
 (try walk1);(try w_top off)
 all_goals (first | trivial | exact ⟨trivial,trivial⟩)
section

noncomputable def FZ(l:AE DC):DC→AE DC
 |.start tag attrs=>l++[.start tag attrs]
 |.stop _=>l.dropLast
 |_=>l
inductive TKind (c:DC) (k:EE):Prop
 |a (h:k=0) (h2:∀l,FZ l c=l++[c]):TKind c k
 |b (h:k=1) (h1:∃tag,c=.stop tag) (h2:∀l,FZ l c=l.dropLast):TKind c k
 |d (h:k≠0) (h1:k≠1) (h2:∀l,FZ l c=l):TKind c k
theorem wF{W:BU}{g:CW}{a:AH}{c:DC}(h:cQ W g a c):∃k tk v2 v3,WI g a #[.int k tk,v2,v3]∧TKind c k:=by
 cases c with
 |start tag attrs=>exact h.elim λt h=>h.elim λtt h=>h.elim λat_ h=>h.elim λna h=>h.elim λl h=>⟨0,t,_,_,h.1,.a rfl λ_=>rfl⟩
 |stop tag=>exact h.elim λt h=>h.elim λtt h=>⟨1,t,_,_,h,.b rfl ⟨tag,rfl⟩ λ_=>rfl⟩
 |data tag=>exact h.elim λt h=>h.elim λtt h=>⟨2,t,_,_,h,.d (by decide) (by decide) λ_=>rfl⟩
 |comment tag=>exact h.elim λt h=>h.elim λtt h=>⟨3,t,_,_,h,.d (by decide) (by decide) λ_=>rfl⟩
 |pi tag=>exact h.elim λt h=>h.elim λtt h=>⟨4,t,_,_,h,.d (by decide) (by decide) λ_=>rfl⟩
 |sns p u=>exact h.elim
theorem fA(cs:AE DC):∀l:AE DC,(cs.foldl FZ l).length≤l.length+cs.length:=by
 induction cs with
 |nil=>exact λ_=>CR _
 |cons c cs ih =>
  intro l
  have h1:=ih (FZ l c)
  have h2:(FZ l c).length≤l.length+1:=by cases c<;>simp[FZ]<;>exact(BJ λhn1=>fk [_] (.c 1 (.a (.a (.a (.v 0) (.k 1)) (.k 1)) (.k 1)) (.v 0) (.k 0)) rfl hn1)
  show(cs.foldl FZ (FZ l c)).length≤_
  rw[CD];exact(BJ λhn1=>fk [_,_,_,_] (.c 1 (.v 0) (.a (.v 1) (.v 2)) (.c 1 (.v 1) (.a (.v 3) (.k 1)) (.c 1 (.a (.a (.v 3) (.a (.v 2) (.k 1))) (.k 1)) (.v 0) (.k 0)))) rfl h1 h2 hn1)
noncomputable abbrev XG(ca r:AH):AX→AM AC:=λy=>if y="standing" then AK (.ref r) else DY y [("calls",.ref ca)]
inductive StdJ (ca:AH) (cs:AE DC) (P:AC→DC→Prop) (r:AH) (rem:AE AC) (m:AX→AM AC) (own:AE (AH×CY)):Prop
 |mk (cs1:AE DC) (cs2:AE DC) (vs:AE AC) (n:CC) (u:AM AC) (h0:cs=cs1++cs2) (h1:All2 P rem cs2) (h2:m=(λy=>if y=AA "call" then u else XG ca r y)) (h3:own=[(r,listOf vs.toArray n)]) (h4:All2 P vs (cs1.foldl FZ [])):StdJ ca cs P r rem m own
theorem StdJ.elim_{ca:AH}{cs:AE DC}{P:AC→DC→Prop}{r:AH}{rem:AE AC}{m:AX→AM AC}{own:AE (AH×CY)}{G_:Prop}(h:StdJ ca cs P r rem m own)(k:∀(cs1:AE DC)(cs2:AE DC)(vs:AE AC)(n:CC)(u:AM AC),cs=cs1++cs2→All2 P rem cs2→m=(λy=>if y=AA "call" then u else XG ca r y)→own=[(r,listOf vs.toArray n)]→All2 P vs (cs1.foldl FZ [])→G_):G_:=h.casesOn k
noncomputable def TF(w:BU)(A:BQ)(s:AG)(g:CW)(os:CU)(p:BH)(zw:AE AX)(zt:ER→AM AC)(mg mb:AX→AM AC)(R:FE→AG→Prop)(ca:AH)(cv:AE AC)(cs:AE DC)(P:AC→DC→Prop):Prop :=
 ∀(X:(hd07.heap_1 w.params).In g)(T:VO p zw zt mg mb g)(H:Ok g os [] s)(hh:A.handled=BN)(zq:A.depth<800)(hca:g.IsList ca cv.toArray)(hP:∀v c,P v c→SH w g v c)(hcs:All2 P cv cs)(hcl:cs.length≤100)(hst:∀a tag b,cs=a++.stop tag::b→1≤(a.foldl FZ []).length)(hN:∀(r:AH)(vs:AE AC)(n:CC)(s':AG),All2 P vs (cs.foldl FZ [])→Ok g os [(r,listOf vs.toArray n)] s'→R (.ok (.ret (.ref r))) s'),DV (BE rw_dn0283_07.row.prog w) A (.call (.ref 192) ⟨[.ref ca],[]⟩) R s
theorem fZ:∀{w A s g os p zw zt mg mb R ca cv cs P},TF w A s g os p zw zt mg mb R ca cv cs P:=by
 refine @(BK (GM KF)<|@(RB DM<|let_mvar%?n:=(λw A s g os p zw zt mg mb R ca cv cs P=>?_:∀a b c d e f g h i j k l m n o,TF a b c d e f g h i j k l m n o);?n _ _ _ _ _ _ _ _ _ _ _ _ _ _ _))
 intro X T H hh zq hca hP hcs hcl hst hN;have hcvl:=hcs.length;revert X;k_fill;intro X;refine' KQ (λy=>DY y [("calls",.ref ca)]) H X T ?k6 ?k7 (AZ zq (by decide)) ?k9 ?kB ?km ?kl ?_ ?c1 ?c2 ?c3 ?c4
 (case k6=>k_is)
 (case k7=>k_is)
 (case k9=>exact GO rfl)
 (case kB=>exact locs rfl)
 (case km=>exact rfl)
 (case kl=>exact EB _)
 (case c1=>exact rfl)
 (case c2=>exact rfl)
 (case c3=>exact rfl)
 (case c4=>decide)
 k_whole;with_reducible refine let_mvar%?zq1:=(λL' h1 k0=>?_:PV _);FL DM (JN:ES _ (type_of%?zq1)) (?zq1 _ _ _);intro hk0 F1 N1 l1;(try k_lt l1);(try dsimp only)
 refine HK ?_;walk_at "eps2";rename_i Q9 E9;intro hq9 he9
 repeat'(first
  |((with_reducible show AI _ _ (JL _) _ _ _);refine OW F1 N1 ?_ (by rw[BI];exact CP rfl);clear F1 N1;with_reducible refine let_mvar%?zd1:=(λr h2=>?_:OV _);EV DM (IP:ES _ (type_of%?zd1)) (?zd1 _ _);intro F2 N2 _;(try dsimp only))
  |((fail_if_success (with_reducible show AI _ _ (exec (QX _ _ _ _ _) _) _ _ _));walk_at "go"))
 (rename Fr ..=>F8)
 refine iG (λ_=>rfl) ?_
 repeat'((fail_if_success (with_reducible show AI _ _ (IY _) _ _ _));walk_at "go")
 refine RM (its:=cv.toArray) (ax:=ca) (os:=os) (L:=L') (h₀:=g) (λrem m own=>StdJ ca cs P r rem m own)
  (λown v m m'=>m'=λy=>if y=AA "call" then AK v else m y) ?hh ?hsrc ?hown ?hasg ?step ?done ⟨[],cs,[],0,BN,rfl,hcs,?hm,rfl,.nil⟩ F8 (by assumption) ?os ?br
 case hh=>exact hh
 case os=>exact H.os
 case br=>exact H.bare
 case hm=>exact(funext λy=>by by_cases h:y=AA "call";(rw[DJ h,h];rfl);rw[CA h])
 case hsrc =>
  rintro rem m own _;exact .inl hca
 case hown =>
  intro I i v s1 Q E' hit hv hq;exact Wp hq
 case hasg =>
  intro s1 v rem m own news Q E' _ _ F1 N1 hq
  exact EO (TZ F1 N1 (λh2 F2 N2=>hq h2 _ _ F2 N2 rfl) rfl rfl)
 case done =>
  rintro s1 m own ⟨cs1,cs2,vs,n,u,e1,e2,rfl,rfl,hp⟩ F1 N1 o1 b1;cases e2;rw[CQ] at e1;subst e1;dsimp only
  repeat'((fail_if_success (with_reducible show Q9 _ _));walk_at "go")
  exact hq9 _ _ (leaveM_ F1 N1 o1 b1 λH'=>hN r vs n _ hp H')
 case step =>
  with_reducible refine let_mvar%?zq19:=(λs1 v rem m m' own I oI=>?_:Bf _);SK JS (kI:ES _ (type_of%?zq19)) (?zq19 _ _ _ _ _ _ _ _);intro hJ9 hB9 F1 N1 off9 o1 b1
  subst hB9;refine HK ?_;walk_at "eps2";rename_i Q8 E8;intro hq8 he8
  refine hJ9.elim_ ?_;clear hJ9;with_reducible refine let_mvar%?zq20:=(λcs1 cs2 vs n u=>?_:kQ _);LU DM (UR:ES _ (type_of%?zq20)) (?zq20 _ _ _ _ _);rintro e1 e2 rfl rfl hp
  have hy3:∃c cs2',cs2=c::cs2'∧P v c∧All2 P rem cs2':=by
   cases e2 with
   |cons z e2=>exact⟨_,_,rfl,z,e2⟩
  clear e2
  revert hy3;refine VP ?_;with_reducible refine let_mvar%?zq13:=(λc cs2'=>?_:OV _);EV (eB.elim λc=>⟨(c,[])⟩) (IP:ES _ (type_of%?zq13)) (?zq13 _ _);rintro⟨rfl,hv9,e2⟩
  have hv8:=hv9;replace hv9:=hP _ _ hv9
  revert hv9;refine XX ?_;with_reducible refine let_mvar%?zq77:=(λa=>?_:Fa _);HZ DM (UA:ES _ (type_of%?zq77)) (?zq77 _);rintro⟨rfl,hta⟩
  have hy4:=wF hta
  revert hy4;refine uD ?_;with_reducible refine let_mvar%?zq14:=(λk tk v2 v3=>?_:ZE _);IB DM (OM:ES _ (type_of%?zq14)) (?zq14 _ _ _ _);rintro⟨htup,hk⟩
  have zf:vs.length≤100:=by
   rw[hp.length];have z:=fA cs1 [];have z2:=BW EG e1;rw[BD] at z2
   rw[GA] at z;exact(BJ λhn1=>fk [_,_,_,_] (.c 1 (.v 0) (.k 100) (.c 1 (.v 1) (.a (.k 0) (.v 2)) (.c 1 (.a (.v 2) (.v 3)) (.v 0) (.c 1 (.a (.k 100) (.k 1)) (.v 1) (.k 0))))) rfl hcl z (ET (Bc z2)) hn1)
  have hfold:∀l,(cs1++[c]).foldl FZ l=FZ (cs1.foldl FZ l) c:=λl=>by rw[FO];rfl
  have e1':cs=(cs1++[c])++cs2':=by rw[e1,BX];rfl
  have hrI:r≠I:=off9 (r,listOf vs.toArray n) (.head _)
  have hM:(λy=>if y=AA "call" then AK (AR a) else(λy=>if y=AA "call" then u else XG ca r y) y)=λy=>if y=AA "call" then AK (AR a) else XG ca r y:=funext λy=>by by_cases h:y=AA "call";(simp only[DJ h]);(simp only[CA h])
  rcases hk with⟨rfl,hk⟩|⟨rfl,⟨tag,rfl⟩,hk⟩|⟨k0,k1,hk⟩
  ·repeat'(first
    |((with_reducible show AI _ _ (BZ _ _ (AR a) (LM 0 _)) _ _ _);refine OL (htup.keeps (QI (by k_asm))) ?_;(try dsimp only))
    |((with_reducible show AI _ _ (IH _ (.builtin _) [_] _ _) _ _ _);refine LN ?_;(try dsimp only))
    |((with_reducible show AI _ _ (DK (.builtin "list.append") [.ref r,_]) _ _ _);(rename Fr ..=>F9);(rename AY _ _ _ _=>N9);refine KP F9 N9 (.tail (BG (off9 (r,_) (.head _))) (.head (BA _))) ?_ (by rw[BI,CG];exact AQ zf (by decide));clear F9 N9;walk_at "eps";rename_i h9;intro F9 N9;(try k_sweep))
    |((with_reducible show Q8 _ _);refine hq8 _ _ ?_;(try dsimp only))
    |((fail_if_success (with_reducible show ∃_,_));walk_at "go"))
   (rename Fr ..=>F9);(rename AY _ _ _ _=>N9)
   exact⟨(λy=>if y=AA "call" then AK (AR a) else XG ca r y),[(r,listOf (vs++[AR a]).toArray (n+1))],⟨cs1++[c],cs2',vs++[AR a],n+1,AK (.ref a),e1',e2,rfl,rfl,by rw[hfold,hk];exact hp.snoc hv8⟩,hM ▸ F9,by(rw[← KL];exact N9),(λp hp'=>by rcases BB.1 hp' with rfl;exact hrI),o1,b1⟩
  ·have hne:=hst cs1 tag cs2' e1
   rw[← hp.length] at hne
   have hvs:∃vs0 v',vs=vs0++[v']:=by
    rcases MO vs with e|⟨l,b,e⟩
    ·rw[e] at hne;exact absurd hne (by decide)
    ·exact⟨l,b,by rw[e,MN]⟩
   clear hne
   revert hvs;refine VP ?_;with_reducible refine let_mvar%?zq15:=(λvs0 v'=>?_:OV _);EV DM (IP:ES _ (type_of%?zq15)) (?zq15 _ _);rintro rfl
   have hszP:vs0.length+1≤DA:=by rw[BI];exact AQ (AQ (ET (by rw[BD];rfl)) zf) (by decide)
   repeat'(first
    |((with_reducible show AI _ _ (BZ _ _ (AR a) (LM 0 _)) _ _ _);refine OL (htup.keeps (QI (by k_asm))) ?_;(try dsimp only))
    |((with_reducible show AI _ _ (IH _ (.builtin _) [_] _ _) _ _ _);refine LN ?_;(try dsimp only))
    |((with_reducible show AI _ _ (DK (.builtin "list.pop") [.ref r]) _ _ _);(rename Fr ..=>F9);(rename AY _ _ _ _=>N9);refine nG F9 N9 (.tail (BG (off9 (r,_) (.head _))) (.head (BA _))) hszP ?_;clear F9 N9;walk_at "eps";rename_i h9;intro F9 N9;(try dsimp only))
    |((with_reducible show Q8 _ _);refine hq8 _ _ ?_;(try dsimp only))
    |((fail_if_success (with_reducible show ∃_,_));walk_at "go"))
   (rename Fr ..=>F9);(rename AY _ _ _ _=>N9)
   obtain⟨r9,b9,e9,hp9,_⟩:=hp.unsnoc;exact⟨(λy=>if y=AA "call" then AK (AR a) else XG ca r y),[(r,listOf vs0.toArray (n+1))],⟨cs1++[.stop tag],cs2',vs0,n+1,AK (.ref a),e1',e2,rfl,rfl,by rw[hfold,hk,e9,DT];exact hp9⟩,hM ▸ F9,N9,(λp hp'=>by rcases BB.1 hp' with rfl;exact hrI),o1,b1⟩
  ·have k0':(k==0)=AU:=cS.2 k0
   have k1':(k==1)=AU:=cS.2 k1
   repeat'(first
    |((with_reducible show AI _ _ (BZ _ _ (AR a) (LM 0 _)) _ _ _);refine OL (htup.keeps (QI (by k_asm))) ?_;(try dsimp only))
    |((with_reducible show AI _ _ (IH _ (.builtin _) [_] _ _) _ _ _);refine LN ?_;(try dsimp only))
    |((with_reducible show(if _=BC then _ else _));first|refine HE (by with_reducible assumption) ?_|refine HA (CL (by with_reducible assumption)) ?_)
    |((with_reducible show Q8 _ _);refine hq8 _ _ ?_;(try dsimp only))
    |((fail_if_success (with_reducible show ∃_,_));walk_at "go"))
   (rename Fr ..=>F9);(rename AY _ _ _ _=>N9)
   exact⟨(λy=>if y=AA "call" then AK (AR a) else XG ca r y),[(r,listOf vs.toArray n)],⟨cs1++[c],cs2',vs,n,AK (.ref a),e1',e2,rfl,rfl,by rw[hfold,hk];exact hp⟩,hM ▸ F9,N9,(λp hp'=>by rcases BB.1 hp' with rfl;exact hrI),o1,b1⟩
end
section
open PyProof.Rows.LCg
noncomputable def HW{α:Type}(ok:α→CZ):CC→AE α→AE EE
 |_,[]=>[]
 |i,v::r=>if ok v then(i:EE)::HW ok (i+1) r else HW ok (i+1) r
theorem SP{α:Type}(ok:α→CZ)(v:α):∀(l:AE α)(i:CC),HW ok i (l++[v])=HW ok i l++(if ok v then [((i+l.length:CC):EE)] else [])
 |[],i=>by simp[HW]
 |u::l,i=>by
  have e:i+1+l.length=i+(l.length+1):=by exact(DG (Nl λhn2=>fk [_,_] (.e (.a (.a V0 (.s V1)) K1) (.a (.s V0) V1) K0) rfl hn2) (Nl λhn3=>fk [_,_] (.e (.a (.a (.s V0) V1) K1) (.a V0 (.s V1)) K0) rfl hn3))
  simp only[DQ,HW,SP ok v l (i+1),CD,e];split<;>simp
def iH(ys:AE AC)(is:AE EE):Prop:=All2 (λv(i:EE)=>∃t,v=.int i t) ys is
section
variable{prog:BH}{w:BU}{A:BQ}{E:AC→AG→Prop}{s:AG}{h₀:CW}{L:AH}{m:AX→AM AC}{env:XH}{os:CU}
inductive EncJ (h₀:CW) (L:AH) (m:AX→AM AC) (os:CU) (en:AH) (it:AH) (ax:AH) (its:CE AC) (news:AE (AH×CY)) (D:AH) (ok:AC→CZ) (n:CC) (s':AG):Prop
 |mk (i:CC) (rem:AE AC) (ys:AE AC) (oC':CY) (mC:AX→AM AC) (old:AC) (h0:n=rem.length) (h1:its.toList.drop i=rem) (h2:i+rem.length=its.size) (h3:iH ys (HW ok 0 (its.toList.take i))) (h4:tI oC' mC) (h5:Fr h₀ L s'.heap m) (h6:AY h₀ L s'.heap ((D+1,oC')::(D,lst ys)::news)) (h7:VN s'.heap en it (i:EE) old) (h8:s'.heap.IsListIter it ax i) (h9:s'.os=os) (h10:BP s'.gens):EncJ h₀ L m os en it ax its news D ok n s'
noncomputable def aG(w:BU)(A:BQ)(s₁:AG)(prog:BH)(E:AC→AG→Prop)(h₀:CW)(L:AH)(m:AX→AM AC)(env:XH)(os:CU)(iter test:EK)(x1 x2:AX)(pe p1 p2 tp pos:OP)(k:CC)(scope:KO)(cl:AE (AX×AH))(en it ax:AH)(its:CE AC)(news:AE (AH×CY))(RR:AC→AH→FE→AG→Prop):Prop :=
 ∀(ok:AC→CZ)(hcell:∀y∈scope.names,y.2≠.cell)(hkind:scope.kind=.function)(hx1:scope.names.lookup x1=AK .local)(hx2:scope.names.lookup x2=AK .local)(hxx:x1≠x2)(hd1:(x1==("__debug__":AX))=AU) (hh:A.handled=BN) (F:Fr h₀ L s₁.heap m) (N:AY h₀ L s₁.heap news) (ho:s₁.os=os) (hb:BP s₁.gens) (hen:VN s₁.heap en it 0 .none) (hit:s₁.heap.IsListIter it ax 0) (hei:en≠it) (en0:h₀.get? en=BN∧en≠L) (it0:h₀.get? it=BN∧it≠L) (off:∀p∈news,p.1≠en∧p.1≠it) (S:RZ h₀ ax its news) (hz:its.size≤1000) (htest:∀v C oC m₂(s':AG)(QT:CZ→AG→Prop)(E':AC→AG→Prop),v∈its.toList→tI oC m₂→m₂ x2=AK v→Fr h₀ L s'.heap m→AY h₀ L s'.heap ((C,oC)::news)→(∀tk,QT (ok v) { s' with toks:=tk })→AI (BE prog w) A (isTrue test (EY scope cl C env) (eval test (EY scope cl C env))) QT E' s') (hfin:∀s1 D C ys mC,iH ys (HW ok 0 its.toList)→Fr h₀ L s1.heap m→AY h₀ L s1.heap ((D,lst ys)::news)→(∀p∈news,p.1≠D)→s1.heap.Ns C mC→h₀.get? C=BN→C≠L→(∀p∈(D,lst ys)::news,p.1≠C)→s1.os=os→BP s1.gens→RR (.ref D) C (.ok .next) s1),AI (BE prog w) A (IY (.ref en)) (λit s₂=>AI (BE prog w) A (JL []) (λacc s₃=>AI (BE prog w) A (TU scope env.globals cl [] env.qual BN .none (AK env)) (λcenv s₄ =>
   DV (BE prog w) A (.compStart (.ListComp (.Name x1 pe) [⟨.Tuple [.Name x1 p1,.Name x2 p2] k tp,iter,[test],0⟩] scope pos) 0 it acc { cenv with scope:=relabel scope env }) (RR acc cenv.locals) s₄) E s₃) E s₂) E s₁
theorem uA:∀{w A s₁ prog E h₀ L m env os iter test x1 x2 pe p1 p2 tp pos k scope cl en it ax its news RR},aG w A s₁ prog E h₀ L m env os iter test x1 x2 pe p1 p2 tp pos k scope cl en it ax its news RR:=by
 refine @(BK (GM KF)<|@(BK DM<|@(BK DM<|@(QZ DM<|let_mvar%?n:=(λw A s₁ prog E h₀ L m env os iter test x1 x2 pe p1 p2 tp pos k scope cl en it ax its news RR=>?_:∀a b c d e f g h i j k l m n o p q r s t u v w x y z a1 b1,aG a b c d e f g h i j k l m n o p q r s t u v w x y z a1 b1);?n _ _ _ _ _ _ _ _ _ _ _ _ _ _ _ _ _ _ _ _ _ _ _ _ _ _ _ _))))
 intro ok hcell hkind hx1 hx2 hxx hd1 hh F N ho hb hen hit hei en0 it0 off S hz htest hfin;refine kK hen ?_;refine HC ?_;generalize hDeq:s₁.heap.objs.size=D
 have hLD:L<D:=by rw[← hDeq];exact F.ns.lt
 have fresh₀:∀a,L<a→h₀.get? a=BN:=λa ha=>EA (AQ F.above (EU ha))
 have hD2:(s₁.heap.push (lst [])).get? D=AK (lst []):=by rw[← hDeq];exact CH _ rfl
 have up2:∀b o,s₁.heap.get? b=AK o→(s₁.heap.push (lst [])).get? b=AK o:=λb o e=>AV _ e
 have hz2:(s₁.heap.push (lst [])).objs.size=D+1:=by rw[FT,hDeq]
 generalize hH2:s₁.heap.push (lst [])=H2 at hD2 up2 hz2;refine RH hcell (by intro y hy;simp at hy) (λh₁ hns₁ hsb₁=>?_) hkind;dsimp only at hns₁ hsb₁ ⊢;rw[hz2] at hns₁ hsb₁ ⊢
 have up3:∀b o,H2.get? b=AK o→h₁.get? b=AK o:=λb o e=>hsb₁.extBut b o (AO (by have:=BS e;rw[hz2] at this;exact this)) (AV _ e)
 have up:∀b o,s₁.heap.get? b=AK o→h₁.get? b=AK o:=λb o e=>up3 b o (up2 b o e)
 have hD0:=fresh₀ D hLD
 have hC0:=fresh₀ (D+1) (CX hLD)
 have hDL:D≠L:=AJ hLD
 have hCL:D+1≠L:=AJ (CX hLD)
 have lt1:∀b o,s₁.heap.get? b=AK o→b<D:=λb o e=>by rw[← hDeq];exact BS e
 have hnD:∀p∈news,p.1≠D∧p.1≠D+1:=λp hp=>by
  have:=lt1 _ _ (N p hp).1;exact⟨AO this,AO (CX this)⟩
 have henD:en≠D∧en≠D+1:=by
  have:=lt1 _ _ hen;exact⟨AO this,AO (CX this)⟩
 have hitD:it≠D∧it≠D+1:=by
  obtain⟨o,e1,_⟩:=hit;have:=lt1 _ _ e1;exact⟨AO this,AO (CX this)⟩
 obtain⟨oC,heC,hoC⟩:=ns_obj hns₁;have hen1:VN h₁ en it 0 .none:=up _ _ hen
 have hit1:h₁.IsListIter it ax 0:=by obtain⟨o,e1,r⟩:=hit;exact⟨o,up _ _ e1,r⟩
 have loop:DV (BE prog w) A (.compLoop (.ListComp (.Name x1 pe) [⟨.Tuple [.Name x1 p1,.Name x2 p2] k tp,iter,[test],0⟩] scope pos) 0 (.ref en) (.ref D) (EY scope cl (D+1) env))
   (RR (.ref D) (D+1)) { s₁ with heap:=h₁,toks:=s₁.toks+([]:AE (AX×AC)).length }:=by
  refine kct_loop (λn s'=>EncJ h₀ L m os en it ax its news D ok n s') ?_ its.size
   ⟨0,its.toList,[],oC,_,.none,by simp,rfl,by simp,.nil,hoC,F.keeps up,λp hp=>?_,hen1,hit1,ho,hb⟩
  ·rintro n s' ⟨i,rem,ys,oC',mC,old,rfl,hrem,zf,hys,hC',F',N',hen',hit',ho',hb'⟩
   have Nn:AY h₀ L s'.heap news:=λp hp=>N' p (.tail _ (.tail _ hp))
   have hl':s'.heap.IsList ax its:=S.list F'.keep Nn
   cases rem with
   |nil =>
    have hi:its.size≤i:=by simp at zf;exact(Es zf)
    refine Ez hh hen' hit' hl' (by simp;exact hi) λh₂ he₂=>?_;dsimp only
    have et:its.toList.take i=its.toList:=PB (by simpa using hi)
    rw[et] at hys
    have zC:=N' (D+1,oC') (.head _)
    have pit:∀p∈(D,lst ys)::news,p.1≠it∧p.1≠D+1:=λp hp=>by
     rcases AP.mp hp with rfl|hp
     ·exact⟨BG hitD.1,AO (CM _)⟩
     ·exact⟨(off p hp).2,(hnD p hp).2⟩
    exact hfin _ D (D+1) ys mC hys (PR F' he₂ (BG it0.2) it0.1) (λp hp=>⟨he₂ _ _ (pit p hp).1 (N' p (.tail _ hp)).1,(N' p (.tail _ hp)).2⟩) (λp hp=>(hnD p hp).1) (hC'.ns (he₂ _ _ (BG hitD.2) zC.1)) hC0 hCL (λp hp=>(pit p hp).2) ho' hb'
   |cons v rem =>
    have hlt':i<its.size:=by simp at zf;exact(Nt λhn1=>fk [_,_,_] (.e (.a V0 (.s V1)) V2 (.e V2 V0 K0)) rfl (El zf) hn1)
    have hget:its[i]?=AK v:=by
     rw[← FY];have:=BW (·[0]?) hrem;simp only[TO,XK,GJ] at this;exact this
    have hmem:v∈its.toList:=by rw[← FY] at hget;exact GR hget
    refine Ea hen' hit' hl' hget hei λh₂ heo₂ hit₂ htup hsz₂ hk₂=>?_;dsimp only;refine wK heo₂ λh₃ hen₃ hs₃=>?_;dsimp only at hs₃
    have nT:s'.heap.objs.size≠en:=AJ (BS hen')
    refine fQ hh ⟨_,hs₃.extBut _ _ nT htup,rfl,_,rfl⟩ rfl rfl λh₅ he₅=>?_;have k5:∀b o,h₃.get? b=AK o→h₅.get? b=AK o:=λb o e=>he₅ b o (AO (BS e)) e
    have k35:∀b o,b≠en→b≠it→s'.heap.get? b=AK o→h₅.get? b=AK o:=λb o b1 b2 e=>k5 b o (hs₃.extBut b o b1 (hk₂ b o b1 b2 e))
    have zC:=N' (D+1,oC') (.head _)
    refine MA (FP (EN (KU hx1) (hC'.ns (k35 _ _ (BG henD.2) (BG hitD.2) zC.1)) (λh₆ hn₆ hs₆=>?_) (by simp[EY,relabel,hkind])))
    refine MA (FP (EN (KU hx2) hn₆ (λh₇ hn₇ hs₇=>?_) (by simp[EY,relabel,hkind])))
    refine iU ?_;obtain⟨oC7,heC7,hoC7⟩:=ns_obj hn₇
    have k7:∀b o,b≠en→b≠it→b≠D+1→s'.heap.get? b=AK o→h₇.get? b=AK o:=λb o b1 b2 b3 e=>hs₇.extBut b o b3 (hs₆.extBut b o b3 (k35 b o b1 b2 e))
    have nL:L≠en∧L≠it∧L≠D+1:=⟨BG en0.2,BG it0.2,BG hCL⟩
    have F₇:Fr h₀ L h₇ m:=by
     refine⟨?_,λb o e=>?_,F'.above⟩
     ·obtain⟨oL,es,ep,e1,r⟩:=F'.ns
      exact⟨oL,es,ep,k7 _ _ nL.1 nL.2.1 nL.2.2 e1,r⟩
     ·refine k7 b o (λz=>?_) (λz=>?_) (λz=>?_) (F'.keep b o e)
      ·rw[z,en0.1] at e;cases e
      ·rw[z,it0.1] at e;cases e
      ·rw[z,hC0] at e;cases e
    have N₇:AY h₀ L h₇ ((D+1,oC7)::(D,lst ys)::news):=λp hp=>by
     rcases AP.mp hp with rfl|hp
     ·exact⟨heC7,hCL,hC0⟩
     have z:=N' p (.tail _ hp)
     refine⟨?_,z.2⟩;rcases AP.mp hp with rfl|hp
     ·exact k7 _ _ (BG henD.1) (BG hitD.1) (AO (CM _)) z.1
     ·exact k7 _ _ (off p hp).1 (off p hp).2 (hnD p hp).2 z.1
    have hen₇:VN h₇ en it ((i:EE)+1) v:=hs₇.extBut _ _ henD.2 (hs₆.extBut _ _ henD.2 (k5 _ _ hen₃))
    have hit₇:h₇.IsListIter it ax (i+1):=by
     obtain⟨o,e1,r⟩:=hit₂;exact⟨o,hs₇.extBut _ _ hitD.2 (hs₆.extBut _ _ hitD.2 (k5 _ _ (hs₃.extBut _ _ (BG hei) e1))),r⟩
    have et:its.toList.take (i+1)=its.toList.take i++[v]:=by
     rw[PC (by simpa using hlt')];have:=CE.getElem?_eq_getElem hlt';rw[this] at hget;simp only[IG] at hget;simp[hget]
    have ei:0+(its.toList.take i).length=i:=by simp;exact(DG (KB _ _) (Nl λhn2=>fk [_,_] (.e (.s V0) V1 (.e V1 V0 K0)) rfl hn2 (CC.le_min.mpr ⟨CR _,(Nl λhn3=>fk [_,_] (.e (.s V0) V1 (.e (.s V1) V0 K0)) rfl hlt' hn3)⟩)))
    refine htest v (D+1) oC7 _ _ _ _ hmem hoC7 (by simp) F₇ (AY.sub N₇ λp hp=>?_) λtk=>?_
    ·rcases AP.mp hp with rfl|hp
     ·exact .head _
     ·exact .tail _ (.tail _ hp)
    cases hok:ok v with
    |false =>
     refine⟨rem.length,CM _,i+1,rem,ys,oC7,_,v,rfl,?_,by simp at zf ⊢;exact(DG (Nl λhn2=>fk [_,_,_] (.e (.a V0 (.s V1)) V2 (.e (.s V2) (.a (.s V0) V1) K0)) rfl (El zf) hn2) (Nl λhn3=>fk [_,_,_] (.e V0 (.a V1 (.s V2)) (.e (.a (.a (.s V1) V2) K1) V0 K0)) rfl (Es zf) hn3)),?_,hoC7,F₇,N₇,hen₇,hit₇,ho',hb'⟩
     ·rw[← TN,hrem];rfl
     ·rw[et,SP,hok];simpa using hys
    |true =>
     refine UU (v:=.int i s'.toks) N₇ (.head _) hoC7 (by simp[hxx]) ?_ (by simp[EY,relabel,hkind]) (KU hx1) hd1
     have zD:=N₇ (D,lst ys) (.tail _ (.head _))
     have hyl:ys.length≤its.size:=by
      have:=All2.length hys
      have h2:∀(l:AE AC)(j:CC),(HW ok j l).length≤l.length:=by
       intro l
       induction l with
       |nil=>intro j;simp[HW]
       |cons u l ih=>intro j;have:=ih (j+1);simp only[HW,CD];split;(· simp only[CD];exact(Nl λhn1=>fk [_,_] (.e V0 V1 (.e (.a (.s V1) K1) (.s V0) K0)) rfl this hn1));exact(Nl λhn1=>fk [_,_] (.e V0 V1 (.e (.a (.s V1) K1) V0 K0)) rfl this hn1)
      have:=h2 (its.toList.take i) 0;simp only[QB] at this;simp at this
      (rename_i ina0;exact(Nl λhn1=>fk [_,_,_,_,_] (.e (.s V0) V1 (.e V2 V3 (.e V3 V4 (.e V4 V0 (.e (.s V1) V2 K0))))) rfl hlt' (El ina0) this (KB _ _) hn1))
     refine append_at (hsz:=by
      show ys.toArray.size≤DA
      rw[CG,BI];exact(Nl λhn1=>fk [_,_] (.e V0 (.k 1000) (.e V1 V0 (.e (.s (.k 16777216)) V1 K0))) rfl hz hyl hn1)) zD.1 λh₈ hs₈ hD₈=>?_
     refine⟨rem.length,CM _,i+1,rem,ys++[.int i s'.toks],oC7,_,v,rfl,?_,by simp at zf ⊢;exact(DG (Nl λhn2=>fk [_,_,_] (.e (.a V0 (.s V1)) V2 (.e (.s V2) (.a (.s V0) V1) K0)) rfl (El zf) hn2) (Nl λhn3=>fk [_,_,_] (.e V0 (.a V1 (.s V2)) (.e (.a (.a (.s V1) V2) K1) V0 K0)) rfl (Es zf) hn3)),?_,hoC7,F₇.change hs₈ hDL hD0,λp hp=>?_,hs₈.extBut _ _ henD.1 hen₇,?_,ho',hb'⟩
     ·rw[← TN,hrem];rfl
     ·rw[et,SP,hok,ei]
      exact All2.snoc hys ⟨_,rfl⟩
     ·rcases AP.mp hp with rfl|hp
      ·exact⟨hs₈.extBut _ _ (AJ (CM _)) (N₇ (D+1,oC7) (.head _)).1,hCL,hC0⟩
      rcases AP.mp hp with rfl|hp
      ·exact⟨hD₈.trans (BW AK (lst_snoc _ _)),hDL,hD0⟩
      ·have z:=N₇ p (.tail _ (.tail _ hp))
       exact⟨hs₈.extBut _ _ (hnD p hp).1 z.1,z.2⟩
     ·obtain⟨o,e1,r⟩:=hit₇
      exact⟨o,hs₈.extBut _ _ hitD.1 e1,r⟩
  ·rcases AP.mp hp with rfl|hp
   ·exact⟨heC,hCL,hC0⟩
   rcases AP.mp hp with rfl|hp
   ·exact⟨up3 _ _ hD2,hDL,hD0⟩
   ·exact⟨up _ _ (N p hp).1,(N p hp).2⟩
 exact Bs loop (kK (s:={ s₁ with heap:=h₁,toks:=s₁.toks+([]:AE (AX×AC)).length }) hen1 loop)
noncomputable def QR(w:BU)(A:BQ)(s:AG)(prog:BH)(E:AC→AG→Prop)(h₀:CW)(L:AH)(m:AX→AM AC)(env:XH)(os:CU)(iter test:EK)(x1 x2 y:AX)(pe p1 p2 tp pos py spos:OP)(k:CC)(scope:KO)(cl:AE (AX×AH))(Q:WG→AG→Prop)(ok:AC→CZ):Prop :=
 ∀(hL:env.locals=L)(hsw:swapsWith (.ListComp (.Name x1 pe) [⟨.Tuple [.Name x1 p1,.Name x2 p2] k tp,iter,[test],0⟩] scope pos) (AK (.Name y py)) spos.line env=pure BC)(hclos:QD scope env=pure cl)(hcell:∀y∈scope.names,y.2≠.cell)(hkind:scope.kind=.function)(hnames:∀y∈scope.names,y.2=.local→scope.names.lookup y.1=AK .local)(hx1:scope.names.lookup x1=AK .local)(hx2:scope.names.lookup x2=AK .local)(hxx:x1≠x2)(hd1:(x1==("__debug__":AX))=AU) (hfs:∀x,HJ iter env x=pure x) (hy:env.kindOf y=AK .local) (hp:(env.scope.kind==.class||(env.scope.kind==.module&&env.locals !=env.globals))=AU) (h:AI (BE prog w) A (eval iter env) (λxv s₁=>∃(en it ax:AH)(its:CE AC)(news:AE (AH×CY)),xv=.ref en∧A.handled=BN∧Fr h₀ L s₁.heap m∧AY h₀ L s₁.heap news∧s₁.os=os∧BP s₁.gens∧VN s₁.heap en it 0 .none∧s₁.heap.IsListIter it ax 0∧en≠it ∧
   (h₀.get? en=BN∧en≠L)∧(h₀.get? it=BN∧it≠L)∧(∀p∈news,p.1≠en∧p.1≠it)∧RZ h₀ ax its news∧its.size≤1000 ∧
   (∀v C oC m₂(s':AG)(QT:CZ→AG→Prop)(E':AC→AG→Prop),v∈its.toList→tI oC m₂→m₂ x2=AK v→Fr h₀ L s'.heap m→AY h₀ L s'.heap ((C,oC)::news)→(∀tk,QT (ok v) { s' with toks:=tk })→AI (BE prog w) A (isTrue test (EY scope cl C env) (eval test (EY scope cl C env))) QT E' s') ∧
   ∀D s' ys,iH ys (HW ok 0 its.toList)→Fr h₀ L s'.heap (λz=>if z=y then AK (.ref D) else m z)→AY h₀ L s'.heap ((D,lst ys)::news)→(∀p∈news,p.1≠D)→s'.os=os→BP s'.gens→Q .next s') E s),AI (BE prog w) A (exec (.Assign [.Name y py] (.ListComp (.Name x1 pe) [⟨.Tuple [.Name x1 p1,.Name x2 p2] k tp,iter,[test],0⟩] scope pos) spos) env) Q E s
theorem bK:∀a b c d e f g h i j k l m n o p q r s t u v w x y z a1,QR a b c d e f g h i j k l m n o p q r s t u v w x y z a1:=by
 refine BK (GM KF)<|BK DM<|BK DM<|OY DM<|let_mvar%?n:=(λw A s prog E h₀ L m env os iter test x1 x2 y pe p1 p2 tp pos py spos k scope cl Q ok=>?_:∀a b c d e f g h i j k l m n o p q r s t u v w x y z a1,QR a b c d e f g h i j k l m n o p q r s t u v w x y z a1);?n _ _ _ _ _ _ _ _ _ _ _ _ _ _ _ _ _ _ _ _ _ _ _ _ _ _ _
 intro hL hsw hclos hcell hkind hnames hx1 hx2 hxx hd1 hfs hy hp h;rw[ZM _ _ _ _ hsw]
 refine Wb (EQ (Wb ?_))
 show AI _ A (do let _ ← comprehension (.ListComp (.Name x1 pe) [⟨.Tuple [.Name x1 p1,.Name x2 p2] k tp,iter,[test],0⟩] scope pos) scope env _ (JL []) AU (eval iter env) (AK (assign (.Name y py) env))) _ _ s
 refine Wb (DI (JH (use:=AK (assign (.Name y py) env)) (Q:=λ_ s'=>Q .next s') rfl hfs hclos hkind hnames (DI h (λxv s₁ h₁=>?_) λ_ _ e=>e)) (λ_ s' hq=>Wp (Wp hq)) λ_ _ e=>e)
 obtain⟨en,it,ax,its,news,rfl,hh,F,N,ho,hb,hen,hit,hei,en0,it0,off,S,hz,htest,hfin⟩:=h₁;refine uA (os:=os) (its:=its) (ax:=ax) (news:=news) ok hcell hkind hx1 hx2 hxx hd1 hh F N ho hb hen hit hei en0 it0 off S hz htest ?_;intro s1 D C ys mC hys F1 N1 hnD hns hC0 hCL hoC ho1 hb1;show AI _ A (assign (.Name y py) env (.ref D)) _ _ _;subst hL
 refine FP (EN hy F1.ns (λh₂ hn₂ hs₂=>?_) hp)
 have hL₀:h₀.get? env.locals=BN:=EA F1.above;have F₂:Fr h₀ env.locals h₂ (λz=>if z=y then AK (.ref D) else m z):=⟨hn₂,λb o e=>hs₂.extBut b o (λq=>by rw[q,hL₀] at e;cases e) (F1.keep b o e),F1.above⟩;refine⟨mC,hns.sameBut hs₂ hCL,λh'' hs''=>?_⟩;refine hfin D _ ys hys (F₂.change hs'' hCL hC0) (λq hq=>?_) hnD ho1 hb1;have z:=N1 q hq;exact⟨hs''.extBut _ _ (hoC q hq) (hs₂.extBut _ _ z.2.1 z.1),z.2⟩
theorem kO{w A s prog E h₀ L m env os iter test x1 x2 y pe p1 p2 tp pos py spos k scope cl Q}(ok):QR w A s prog E h₀ L m env os iter test x1 x2 y pe p1 p2 tp pos py spos k scope cl Q ok:=bK _ _ _ _ _ _ _ _ _ _ _ _ _ _ _ _ _ _ _ _ _ _ _ _ _ _ _
end
end
section
open PyProof.Rows.LCg
section
variable{prog:BH}{w:BU}{A:BQ}{E:AC→AG→Prop}{s:AG}{h₀:CW}{L:AH}{m:AX→AM AC}{news:AE (AH×CY)}
theorem xW{l:AH}{items:CE AC}{Q:AC→AG→Prop}(F:Fr h₀ L s.heap m)(N:AY h₀ L s.heap news)(hl:s.heap.IsList l items)
  (k:∀en it h',Fr h₀ L h' m→AY h₀ L h' news→VN h' en it 0 .none→h'.IsListIter it l 0→en≠it→(h₀.get? en=BN∧en≠L)→(h₀.get? it=BN∧it≠L)→(∀p∈news,p.1≠en∧p.1≠it)→Q (.ref en) { s with heap:=h' }) :
  AI (BE prog w) A (DK (.type "enumerate") [.ref l]) Q E s:=by
 refine call_enumerate_list hl λh' a b c d=>?_;have hLI:L<s.heap.objs.size:=F.ns.lt
 have fresh₀:∀a,L<a→h₀.get? a=BN:=λa ha=>EA (AQ F.above (EU ha))
 refine k _ _ h' (F.keeps d) (N.grown d) a b (AJ (CM _)) ⟨fresh₀ _ (CX hLI),AJ (CX hLI)⟩ ⟨fresh₀ _ hLI,AJ hLI⟩ λp hp=>?_;have:=BS (N p hp).1;exact⟨AO (CX this),AO this⟩
end
noncomputable def JV:DC→CZ
 |.start _ _=>BC
 |_=>AU
theorem Ab(st:AE DC×AE AX)(x:EE):(FH st x).1.length=st.1.length+1:=by
 unfold FH
 (repeat' split)<;>simp
theorem sS:∀(xs:AE EE)(st:AE DC×AE AX),(xs.foldl FH st).1.length=st.1.length+xs.length
 |[],_=>rfl
 |x::xs,st=>by
  rw[HO,sS xs,Ab,CD];exact(DG (Nl λhn2=>fk [_,_] (.e (.a (.a V0 (.s V1)) K1) (.a (.s V0) V1) K0) rfl hn2) (Nl λhn3=>fk [_,_] (.e (.a (.a (.s V0) V1) K1) (.a V0 (.s V1)) K0) rfl hn3))
theorem tT(xs:AE EE):(BO xs).length≤xs.length+12:=by
 have h1:(GS xs).1.length=1+(2+xs.length):=by
  unfold GS;rw[sS,BD];simp[VF]
 have h2:=(jU xs).few;unfold BO;simp only[BD,AN,LG,CD,GA]
 exact(BJ λhn1=>fk [_,_,_] (.c 1 (.v 0) (.a (.k 1) (.a (.k 2) (.v 1))) (.c 1 (.v 2) (.k 7) (.c 1 (.a (.a (.v 1) (.k 12)) (.k 1)) (.a (.a (.v 0) (.v 2)) (.a (.a (.k 0) (.k 1)) (.k 1))) (.k 0)))) rfl (ET h1) h2 hn1)
theorem jF{α:Type}(ok:α→CZ):∀(l:AE α)(i:CC),(HW ok i l).length=(l.filter ok).length
 |[],_=>rfl
 |a::l,i=>by
  simp only[HW,AE.filter_cons];split<;>simp[jF ok l (i+1)]
theorem jE{α:Type}(ok:α→CZ):∀(l:AE α)(i j:CC)(p:EE),(HW ok i l)[j]?=AK p→∃q:CC,p=((i+q:CC):EE)∧∃a,l[q]?=AK a∧ok a=BC
 |[],_,_,_,h=>by simp[HW] at h
 |a::l,i,j,p,h=>by
  rw[HW] at h;split at h
  ·rename_i ha
   cases j with
   |zero=>simp at h;exact⟨0,by simp[← h],a,rfl,ha⟩
   |succ j =>
    rw[WJ] at h;obtain⟨q,e,b,hb⟩:=jE ok l (i+1) j p h;exact⟨q+1,by rw[e];congr 1;exact(DG (Nl λhn2=>fk [_,_] (.e (.a (.a V0 (.s V1)) K1) (.a (.s V0) V1) K0) rfl hn2) (Nl λhn3=>fk [_,_] (.e (.a (.a (.s V0) V1) K1) (.a V0 (.s V1)) K0) rfl hn3)),b,by simpa using hb.1,hb.2⟩
  ·obtain⟨q,e,b,hb⟩:=jE ok l (i+1) j p h
   exact⟨q+1,by rw[e];congr 1;exact(DG (Nl λhn2=>fk [_,_] (.e (.a (.a V0 (.s V1)) K1) (.a (.s V0) V1) K0) rfl hn2) (Nl λhn3=>fk [_,_] (.e (.a (.a (.s V0) V1) K1) (.a V0 (.s V1)) K0) rfl hn3)),b,by simpa using hb.1,hb.2⟩
noncomputable def QM:DC→EE
 |.start _ _=>0
 |.stop _=>1
 |.data _=>2
 |.comment _=>3
 |.pi _=>4
 |.sns _ _=>5
theorem SR(c:DC):decide (QM c=0)=JV c:=by cases c<;>rfl
theorem HP.first{W:BU}{own:AE (AH×CY)}{v:AC}{c:DC}(x:HP W own v c):∃a t v2 v3,v=.ref a∧(a,DO #[.int (QM c) t,v2,v3])∈own:=by
 cases c with
 |start tag attrs=>obtain⟨a,t,tt,at_,na,l,e,y1,y2,y3⟩:=x;exact⟨a,t,_,_,e,y1⟩
 |stop tag=>obtain⟨a,t,tt,e,y⟩:=x;exact⟨a,t,_,_,e,y⟩
 |data x'=>obtain⟨a,t,tt,e,y⟩:=x;exact⟨a,t,_,_,e,y⟩
 |comment x'=>obtain⟨a,t,tt,e,y⟩:=x;exact⟨a,t,_,_,e,y⟩
 |pi x'=>obtain⟨a,t,tt,e,y⟩:=x;exact⟨a,t,_,_,e,y⟩
 |sns p u=>exact x.elim
open Classical in
noncomputable def fC(own:AE (AH×CY))(v:AC):CZ:=decide (∃a t v2 v3,v=.ref a∧(a,DO #[.int 0 t,v2,v3])∈own)
open Classical in
theorem hX{W:BU}{own:AE (AH×CY)}{h:CW}{v:AC}{c:DC}(k:∀p∈own,h.get? p.1=AK p.2)(x:HP W own v c):fC own v=JV c:=by
 obtain⟨a,t,v2,v3,rfl,hm⟩:=x.first;unfold fC
 cases hc:JV c with
 |true =>
  have:QM c=0:=by have:=SR c;rw[hc] at this;exact MT this
  rw[this] at hm;exact CN ⟨a,t,v2,v3,rfl,hm⟩
 |false =>
  refine CF λ⟨a',t',u2,u3,e,hm'⟩=>?_;injection e with e;subst e;have e1:=k _ hm;have e2:=k _ hm';rw[e1] at e2;injection e2 with e2
  have e3:QM c=0:=by
   have:=BW (λo:CY=>o.data) e2;simp only[bL,TH,MG,LM.injEq] at this
   first|exact this.1.1.1|(simp at this;exact this.1)
  have:=SR c;rw[hc,e3] at this;cases this
theorem idx_map{α β:Type}{P:α→β→Prop}{o1:α→CZ}{o2:β→CZ}:∀{l:AE α}{r:AE β},All2 P l r→(∀a b,P a b→o1 a=o2 b)→∀i,HW o1 i l=HW o2 i r:=by
 intro l r h k
 induction h with
 |nil=>exact λ_=>rfl
 |cons h t ih =>
  intro i;simp only[HW,k _ _ h,ih (i+1)]
noncomputable def KN:WS→AE DC→Prop
 |_,[]=>True
 |w,c::cs=>JB w c∧KN (w.tell c) cs
theorem MQ(w:WS)(cs:AE DC)(c:DC):w.run (cs++[c])=(w.run cs).tell c:=by
 unfold WS.run;rw[FO];rfl
theorem tQ{M0:AX→AM AC}{u v:AM AC}:(λy:AX=>if y="call" then v else if y="call" then u else M0 y)=λy:AX=>if y="call" then v else M0 y:=by
 funext y
 by_cases h:y="call"<;>simp[h]
section
variable{prog:BH}{w:BU}{A:BQ}{E:AC→AG→Prop}{s:AG}{h₀:CW}{L:AH}{m:AX→AM AC}{news:AE (AH×CY)}
theorem rE{value slice:EK}{l:AH}{vs:AE AC}{b:CC}{t:DW}{Q:AC→AG→Prop}
  (F:Fr h₀ L s.heap m) (N:AY h₀ L s.heap news) (hl:s.heap.IsList l vs.toArray) (hz:vs.length≤1000)
  (h:∀a h',Fr h₀ L h' m→AY h₀ L h' ((a,listOf (vs.take b).toArray 0)::news)→(∀p∈news,p.1≠a)→Q (.ref a) { s with heap:=h' })
  (hs:subscripted slice AU (.ref l) (.ref s.heap.objs.size)=operate [.ref s.heap.objs.size,.ref l] (SO (.ref l) (.ref s.heap.objs.size)):=by with_unfolding_all rfl)
  (ht:∀r,letTemporaryGo value (.ref l) r=pure ():=by intro _;with_unfolding_all rfl) :
  AI (BE prog w) A (BZ value slice (.ref l) (.ref s.heap.objs.size)) Q E { s with heap:=s.heap.push { cls:=.type "slice",data:=.fields #[.none,.int b t,.none] } }:=by
 refine slice_list F N hl .none (.int _ _) (λh' F' N'=>h _ h' F' ?_ λp hp=>?_) hs ht (by rw[CG,BI];exact(Nl λhn1=>fk [_] (.e V0 (.k 1000) (.e (.s (.k 16777216)) V0 K0)) rfl hz hn1))
 ·rw[slicePick_upto'] at N';exact N'
 ·exact AO (CX (BS (N p hp).1))
theorem XE{value slice:EK}{l:AH}{vs:AE AC}{b:CC}{t:DW}{Q:AC→AG→Prop}
  (F:Fr h₀ L s.heap m) (N:AY h₀ L s.heap news) (hl:s.heap.IsList l vs.toArray) (hz:vs.length≤1000)
  (h:∀a h',Fr h₀ L h' m→AY h₀ L h' ((a,listOf (vs.drop b).toArray 0)::news)→(∀p∈news,p.1≠a)→Q (.ref a) { s with heap:=h' })
  (hs:subscripted slice AU (.ref l) (.ref s.heap.objs.size)=operate [.ref s.heap.objs.size,.ref l] (SO (.ref l) (.ref s.heap.objs.size)):=by with_unfolding_all rfl)
  (ht:∀r,letTemporaryGo value (.ref l) r=pure ():=by intro _;with_unfolding_all rfl) :
  AI (BE prog w) A (BZ value slice (.ref l) (.ref s.heap.objs.size)) Q E { s with heap:=s.heap.push { cls:=.type "slice",data:=.fields #[.int b t,.none,.none] } }:=by
 refine slice_list F N hl (.int _ _) .none (λh' F' N'=>h _ h' F' ?_ λp hp=>?_) hs ht (by rw[CG,BI];exact(Nl λhn1=>fk [_] (.e V0 (.k 1000) (.e (.s (.k 16777216)) V0 K0)) rfl hz hn1))
 ·rw[slicePick_from'] at N';exact N'
 ·exact AO (CX (BS (N p hp).1))
end
section
variable{prog:BH}{w:BU}{A:BQ}{E:AC→AG→Prop}{s:AG}
theorem zB{value slice:EK}{D:AH}{ys:AE AC}{is:AE EE}{i:EE}{t:DW}{Q:AC→AG→Prop}(hl:s.heap.IsList D ys.toArray)(hys:iH ys is)(h0:0≤i)(h1:i<ys.length)(h2:ys.length≤100)
  (h:∀pl tpl,is[i.toNat]?=AK pl→Q (.int pl tpl) s)
  (hs:subscripted slice AU (.ref D) (.int i t)=operate [.ref D,.int i t] (SO (.ref D) (.int i t)):=by with_unfolding_all rfl) :
  AI (BE prog w) A (BZ value slice (.ref D) (.int i t)) Q E s:=by
 obtain⟨k,rfl⟩:=WH h0
 have hk:k<ys.length:=by lia
 have hk2:k<is.length:=by rw[← All2.length hys];exact hk
 obtain⟨v,e1,tk,e2⟩:=All2.get hys (BL hk2)
 subst e2;refine vY hl.typeIs wX.lookup (Gy hl h0 (by lia) (x:=.int is[k] tk) ?_ (h _ tk ?_)) hs
 ·rw[FF,FI];exact e1
 ·rw[FF];exact BL hk2
end
section
variable{prog:BH}{w:BU}{A:BQ}{E:AC→AG→Prop}{s:AG}
theorem xX{a b:AH}{p q:AE (AX×DW)}{Q:AC→AG→Prop}(hl:s.heap.IsList a (AF p).toArray)(hb:s.heap.IsList b (AF q).toArray)(he:p.map (·.1)=q.map (·.1))(hu:A.units<Av)(h:Q (.bool BC) s) :
  AI (BE prog w) A (LO .Eq (.ref a) (.ref b)) Q E s:=by
 have zf:p.length=q.length:=by have:=BW EG he;simpa using this
 refine SeqAt.eq_listAt (e:=λ_=>BC) hl hb (by simp[AF,zf]) hu (λj h1 h2=>?_) (by rw[AE.all_eq_true.mpr (λ_ _=>rfl)];exact h)
 have h1':j<p.length:=by simpa[AF] using h1
 have h2':j<q.length:=by simpa[AF] using h2
 have e1:(AF p).toArray[j]=.str p[j].1 p[j].2:=by simp[AF]
 have e2:(AF q).toArray[j]=.str q[j].1 q[j].2:=by simp[AF]
 have e3:p[j].1=q[j].1:=by
  have:=BW (λl=>l[j]?) he;simp only[DH,BL h1',BL h2',KC,IG] at this;exact this
 rw[e1,e2];have:=SeqAt.EqAt.str_str (A:=A.in1) (s:=s) p[j].1 p[j].2 q[j].1 q[j].2;rw[e3] at this ⊢;simpa using this
end
noncomputable def YH(a:AH):Prop :=
 ∀(f:FD)(w:WS)(x:AH)(h:a∈f.eight x),∃q∈f.own w x,q.1=a
theorem qT:∀{a},YH a:=by
 refine @(HF DM<|let_mvar%?n:=(λa=>?_:∀a,YH a);?n _)
 intro f w x h;simp only[FD.eight,AP,GK,OJ] at h;rcases h with rfl|rfl|rfl|rfl|rfl|rfl|rfl|rfl|rfl
 ·exact⟨_,.head _,rfl⟩
 ·exact⟨_,.tail _ (.head _),rfl⟩
 ·exact⟨_,.tail _ (.tail _ (.head _)),rfl⟩
 ·exact⟨_,.tail _ (.tail _ (.tail _ (.head _))),rfl⟩
 ·exact⟨_,.tail _ (.tail _ (.tail _ (.tail _ (.head _)))),rfl⟩
 ·exact⟨_,.tail _ (.tail _ (.tail _ (.tail _ (.tail _ (.head _))))),rfl⟩
 ·exact⟨_,.tail _ (.tail _ (.tail _ (.tail _ (.tail _ (.tail _ (.head _)))))),rfl⟩
 ·exact⟨_,.tail _ (.tail _ (.tail _ (.tail _ (.tail _ (.tail _ (.tail _ (.head _))))))),rfl⟩
 ·exact⟨_,.tail _ (.tail _ (.tail _ (.tail _ (.tail _ (.tail _ (.tail _ (.tail _ (.head _)))))))),rfl⟩
theorem YG(f:FD)(w:WS)(x:AH){o:AH}(e:f.out=o):(o,listOf (AF f.ol).toArray f.n2)∈f.own w x:=by rw[← e];exact .tail _ (.tail _ (.tail _ (.head _)))
theorem own_of(f:FD)(w:WS)(x:AH){q:AH×CY}(h:q∈f.own w x):q.1∈f.eight x∨q∈f.rest:=by
 rcases AT.mp h with z|z
 ·exact .inl (BV (f:=Prod.fst) z)
 ·exact .inr z
theorem cH{f:FD}{w:WS}{x:AH}{tabs:AE (AH×CY)}(d:MX (f.own w x) tabs):f.Off x tabs:=by
 intro r hr;refine⟨λz=>?_,λq hq e=>d q (Mr _ hq) r hr e.symm⟩;obtain⟨q,hq,e⟩:=qT f w x z;exact d q hq r hr e
theorem cF{f:FD}{w:WS}{x:AH}{tabs:AE (AH×CY)}(h:f.Off x tabs):MX (f.own w x) tabs:=by
 intro p hp r hr e;rcases own_of f w x hp with y|y
 ·exact(h r hr).1 (e ▸ y)
 ·exact(h r hr).2 p y e.symm
theorem MX.symm{a b:AE (AH×CY)}(h:MX a b):MX b a:=λp hp q hq e=>h q hq p hp e.symm
theorem MX.sub{a b a' b':AE (AH×CY)}(h:MX a b)(h1:∀p∈a',p∈a)(h2:∀p∈b',p∈b):MX a' b':=λp hp q hq=>h p (h1 p hp) q (h2 q hq)
theorem MX.left{a b c:AE (AH×CY)}(h1:MX a c)(h2:MX b c):MX (a++b) c:=λp hp q hq=>by
 rcases AT.mp hp with z|z
 ·exact h1 p z q hq
 ·exact h2 p z q hq
theorem MX.right{a b c:AE (AH×CY)}(h1:MX a b)(h2:MX a c):MX a (b++c):=λp hp q hq=>by
 rcases AT.mp hq with z|z
 ·exact h1 p hp q z
 ·exact h2 p hp q z
theorem MX.cons{a b:AE (AH×CY)}{I:AH}{o:CY}(h1:∀p∈a,p.1≠I)(h2:MX a b):MX a ((I,o)::b):=λp hp q hq=>by
 rcases AP.mp hq with z|z
 ·rw[z];exact h1 p hp
 ·exact h2 p hp q z
theorem Fit.le{n k:CC}{w:WS}(h:Fit n w)(hk:n≤k):Fit k w :=
 ⟨AQ h.d1 hk,h.d2,AQ h.o1 (Gf 4 hk),h.l1,h.l2,AQ h.l3 (LI hk),h.l4,AQ h.f1 (by exact(Nl λhn1=>fk [_,_] (.c 4 V0 V1 (.e (.a (.a (.m 4 V1) K1) K1) (.a (.m 4 V0) K1) K0)) rfl hk hn1)),AQ h.f2 (by exact(Nl λhn1=>fk [_,_] (.e V0 V1 (.e (.a (.a V1 (.k 7)) K1) (.a V0 (.k 7)) K0)) rfl hk hn1)),h.g1,h.g2⟩
theorem KN.right:∀{w:WS}{a b:AE DC},KN w (a++b)→KN (w.run a) b
 |_,[],_,h=>h
 |_,_::a,_,h=>KN.right (a:=a) h.2
theorem All2.drop_{α β:Type}{P:α→β→Prop}:∀{l:AE α}{r:AE β},All2 P l r→∀n,All2 P (l.drop n) (r.drop n)
 |_,_,.nil,n=>by simp;exact .nil
 |_,_,.cons h t,0=>.cons h t
 |_,_,.cons h t,n+1=>All2.drop_ t n
theorem UP(l:AE (AX×DW))(n:CC):(AF l).drop n=AF (l.drop n):=by unfold AF;rw[xE]
theorem yL:∀{vs:AE AC}{xs:AE EE},IntsAre vs xs→∃zs:AE (EE×DW),vs=JX zs∧zs.map (·.1)=xs:=by
 intro vs xs h
 induction h with
 |nil=>exact⟨[],rfl,rfl⟩
 |cons n t _ ih=>obtain⟨zs,e1,e2⟩:=ih;exact⟨(n,t)::zs,by rw[e1];rfl,by rw[← e2];rfl⟩
theorem call_none{M0:AX→AM AC}(h:M0 (AA "call")=BN):M0=λy=>if y=AA "call" then BN else M0 y:=by
 funext y
 by_cases e:y=AA "call"
 ·rw[e,DJ rfl];exact h
 ·rw[CA e]
theorem KN.left:∀{w:WS}{a b:AE DC},KN w (a++b)→KN w a
 |_,[],_,_=>trivial
 |_,_::_,_,h=>⟨h.1,h.2.left⟩
theorem All2.take_{α β:Type}{P:α→β→Prop}:∀{l:AE α}{r:AE β},All2 P l r→∀n,All2 P (l.take n) (r.take n)
 |_,_,.nil,n=>by simp;exact .nil
 |_,_,.cons h t,0=>.nil
 |_,_,.cons h t,n+1=>.cons h (All2.take_ t n)
end
section
open PyProof.Rows.LCg
abbrev bM(tabs:AE (AH×CY)):Prop:=PO 116 ⟨136,71,136,96⟩ "C14NWriterTarget._start.<locals>.<lambda>" tabs
theorem iB{W:BU}{A:BQ}{E:AC→AG→Prop}{s:AG}{g:CW}{os:CU}{p:BH}{zw:AE AX}{zt:ER→AM AC}{mg mb:AX→AM AC}{L:AH}{m:AX→AM AC}{Q:AC→AG→Prop}{w:WS}{f:FD}{x ca:AH}{tabs rest:AE (AH×CY)}{n:CC}{c:DC}{ks':AE AX}
  (X:(hd07.heap_1 W.params).In g) (T:VO p zw zt mg mb g) (hh:A.handled=BN) (zq:A.depth<500) (hu:A.units<7000) (C116:kP g 118 116) (F:Fr g L s.heap m) (N:AY g L s.heap (f.own w x++tabs++rest)) (o1:s.os=os) (b1:BP s.gens)
  (hI:f.Is W w x) (hT:f.Off x tabs) (hLT:bM tabs) (hf:Fit n w) (hn:n≤100) (hc:JB w c) (hcap:f.cap≤1000) (hks:f.ks.length≤40) (hNF:ZG f.rw w f.ks ks' c) (hca:HP W rest (.ref ca) c) (dis:MX (f.own w x++tabs) rest)
  (h:∀(f':FD)(s':AG)(zp:AE (AH×CY)),bM zp→f'.key=(f.out,f.rw,f.cap,ksN f.rw f.ks ks')→f'.Is W (w.tell c) x→f'.Off x zp→Fr g L s'.heap m→AY g L s'.heap (f'.own (w.tell c) x++zp++rest)→MX (f'.own (w.tell c) x++zp) rest→s'.os=os→BP s'.gens→Q .none s') :
  AI (BE rw_dn0283_07.row.prog W) A (DK (.ref 175) [.ref x,.ref ca]) Q E s:=by
 refine GD (f.own w x++tabs) rest F N o1 b1 (λq hq=>Ml _ hq) (λq hq=>Mr _ hq) (λq hq z=>?_) λg₂ H₂ K₂ r₂ back=>?_
 ·obtain⟨q',hq',e⟩:=CO.mp z
  exact dis q' hq' q hq e
 obtain⟨a,ea,hta⟩:=hca.told r₂
 have ea':ca=a:=by injection ea
 subst ea';refine wC (X.keeps K₂) (T.keeps K₂) H₂ hh zq hu (C116.keeps K₂) hI hT hLT hf hn hc hcap hks hNF hta λf' s' zp hLT' ho' hI' hT' H'=>?_;obtain⟨F',N',o',b'⟩:=back _ _ H';refine h f' s' zp hLT' ho' hI' hT' F' N' (λq hq r hr e=>?_) o' b';have z1:=(H'.own q hq).2;rw[e,r₂ r hr] at z1;cases z1
end
section
open PySem.Builtin PySem.Builtin.Str PySem.Builtin.Int
noncomputable abbrev RX:Pr:=("http://www.w3.org/XML/1998/namespace","xml")
noncomputable def XW:AE AX:=xmlUri::HL
noncomputable def HQ:AE AX:=OA::"{urn:f}r"::(HL.map (λu=>AA "{"++u++kT)++HL.map (λu=>AA "{"++u++kU)++HL.map (λu=>AA "{"++u++kV))
theorem PT:∀n∈HQ,OS n=BC∧(cutName n).1=IA n∧IA n∈XW∧n.length≤200∧lB (LJ n (AK 1) BN) (AA "}")≠[]∧(lB (LJ n (AK 1) BN) (AA "}")).length≤100:=by decide +kernel
theorem qM:∀a∈HQ,∀b∈HQ,GH b a=AU→LA (IA b) (IA a)=AU:=by decide +kernel
theorem YW:∀u∈XW,u≠AW∧u.length≤100∧(RD u).length≤1000:=by decide +kernel
theorem uris_xml:∀u∈HL,u≠xmlUri:=by decide +kernel
theorem zA:∀i∈NK 12,∀j∈NK 12,XA i=XA j→i=j:=by decide +kernel
theorem sM:∀i∈NK 12,XA i≠AA "xml"∧(XA i).length≤200∧XA i≠AW:=by decide +kernel
theorem lJ:∀q∈IQ,NY q:=by unfold NY;decide +kernel
theorem iE:RX∈IQ:=by decide +kernel
theorem lP:∀u∈XW,u=xmlUri∨u∈HL:=by decide +kernel
theorem qO(i:EE):nm i kT∈HQ∧nm i kU∈HQ∧nm i kV∈HQ:=by
 have h:=JJ i;refine⟨.tail _ (.tail _ (Ml _ (Ml _ ?_))),.tail _ (.tail _ (Ml _ (Mr _ ?_))),.tail _ (.tail _ (Mr _ ?_))⟩
 ·exact BV (f:=λu=>AA "{"++u++kT) h
 ·exact BV (f:=λu=>AA "{"++u++kU) h
 ·exact BV (f:=λu=>AA "{"++u++kV) h
/-! the tags that stand -/
noncomputable def RV(s:CZ×AE AX):DC→CZ×AE AX
 |.start tag _=>(BC,s.2++[tag])
 |.stop _=>(s.1,s.2.dropLast)
 |_=>s
noncomputable def HH(cs:AE DC):CZ×AE AX:=cs.foldl RV (AU,[])
noncomputable def ZI(s:CZ×AE AX):DC→Prop
 |.start tag attrs=>(tag::attrs.map (·.1)).Nodup∧attrs.length≤3∧(∀n∈tag::attrs.map (·.1),n∈HQ)∧∀a∈attrs,a.2.length≤100∧(RD a.2).length≤1000
 |.stop tag=>(∃S,s.2=S++[tag])∧s.1=BC
 |.data x=>x.length≤2
 |.comment x=>x.length≤2∧(OI x).length≤1000∧s.1=BC
 |.pi x=>x.length≤2∧(OI x).length≤1000∧s.1=BC∧((x.length:EE) !=0)=BC
 |.sns _ _=>NF
def ME(cs:AE DC):Prop:=∀a c b,cs=a++c::b→ZI (HH a) c
theorem LW(a:AE DC)(c:DC):HH (a++[c])=RV (HH a) c:=by unfold HH;rw[FO];rfl
theorem nX{α:Type}{l a b:AE α}{c d:α}(e:l++[c]=a++d::b):(b=[]∧l=a∧c=d)∨∃b',b=b'++[c]∧l=a++d::b':=by
 rcases MO b with rfl|⟨b',x,rfl⟩
 ·left
  have h:=kW e rfl;exact⟨rfl,h.1,by simpa using h.2⟩
 ·right
  rw[MN] at e ⊢;rw[← DQ,← BX] at e;have h:=kW e rfl
  have h2:c=x:=by simpa using h.2
  exact⟨b',by rw[h2],h.1⟩
theorem ME.snoc{a:AE DC}{c:DC}(h:ME a)(hc:ZI (HH a) c):ME (a++[c]):=by
 intro a' d b e;rcases nX e with⟨rfl,rfl,rfl⟩|⟨b',rfl,rfl⟩
 ·exact hc
 ·exact h a' d b' rfl
theorem ME.left{a b:AE DC}(h:ME (a++b)):ME a:=λa' c b' e=>h a' c (b'++b) (by rw[e];simp)
def XI(cs:AE DC):Prop:=∀a tag b,cs=a++.stop tag::b→2≤(HH a).2.length
theorem XI.snoc{a:AE DC}{c:DC}(h:XI a)(hc:∀tag,c=.stop tag→2≤(HH a).2.length):XI (a++[c]):=by
 intro a' t b e;rcases nX e with⟨rfl,rfl,rfl⟩|⟨b',rfl,rfl⟩
 ·exact hc _ rfl
 ·exact h a' t b' rfl
theorem XI.left{a b:AE DC}(h:XI (a++b)):XI a:=λa' t b' e=>h a' t (b'++b) (by rw[e];simp)
structure RunOk (st:AE DC×AE AX):Prop where
 all:ME st.1
 tags:HH st.1=(BC,st.2)
 deep:XI st.1
 ok:ScriptOk st
theorem rR:∀v∈([AA "1",AA "2<",AA "e"]:AE AX),v.length≤100∧(RD v).length≤1000:=by decide +kernel
theorem Bu:∀v∈AW::[AA "t",AA "&",AA "",AA "<>"],v.length≤2:=by decide +kernel
theorem pT:(AA "c").length≤2∧(OI (AA "c")).length≤1000∧(((AA "c").length:EE) !=0)=BC:=by decide +kernel
theorem d_ok:(AA "d").length≤2∧(OI (AA "d")).length≤1000∧(((AA "d").length:EE) !=0)=BC:=by decide +kernel
theorem sH:∀a∈HL,∀b∈HL,AA "{"++b++kU≠AA "{"++a++kT∧AA "{"++b++kV≠AA "{"++a++kT:=by decide +kernel
theorem uR:∀a∈HL,OA≠AA "{"++a++kT:=by decide +kernel
theorem xO(x:EE):(QP x::(SL x).map (·.1)).Nodup∧(SL x).length≤3∧(∀n∈QP x::(SL x).map (·.1),n∈HQ)∧∀a∈SL x,a.2.length≤100∧(RD a.2).length≤1000:=by
 have hU:nm (x / 6 / 144) kU≠QP x:=(sH _ (JJ _) _ (JJ _)).1;have hV:nm (x / 6 / 12) kV≠QP x:=(sH _ (JJ _) _ (JJ _)).2
 have hL:OA≠QP x:=uR _ (JJ _)
 have hUV:nm (x / 6 / 12) kV≠nm (x / 6 / 144) kU:=yQ _ (JJ _) _ (JJ _)
 have hLU:OA≠nm (x / 6 / 144) kU:=(YB _ (JJ _)).1;have hLV:OA≠nm (x / 6 / 12) kV:=(YB _ (JJ _)).2;have dT:QP x∈HQ:=(qO _).1;have dU:nm (x / 6 / 144) kU∈HQ:=(qO _).2.1;have dV:nm (x / 6 / 12) kV∈HQ:=(qO _).2.2;have dL:OA∈HQ:=.head _
 have v1:=rR "1" (.head _)
 have v2:=rR "2<" (.tail _ (.head _))
 have v3:=rR "e" (.tail _ (.tail _ (.head _)))
 unfold SL fX;generalize QP x=t at *;generalize nm (x / 6 / 144) kU=u at *;generalize nm (x / 6 / 12) kV=v at *;generalize OA=lk at *;split<;>split<;>split<;>simp_all[eq_comm]
 all_goals first
  |(rintro n (rfl|rfl|rfl|rfl)<;>assumption)
  |(rintro n (rfl|rfl|rfl)<;>assumption)
  |(rintro n (rfl|rfl)<;>assumption)
theorem zL{st:AE DC×AE AX}(h:RunOk st)(x:EE):RunOk (FH st x):=by
 have ht:=h.tags;have hs:=h.ok.ge1;refine⟨?_,?_,?_,h.ok.step x⟩
 ·unfold FH
  split
  ·exact h.all.snoc (xO x)
  split
  ·refine h.all.snoc ⟨⟨st.2.dropLast,?_⟩,by rw[ht]⟩
   rw[ht];rcases MO st.2 with e|⟨l,b,e⟩
   ·rw[e] at hs;exact absurd hs (by decide)
   ·show st.2=_
    rw[e,MN,DT,UD];simp
  split
  ·split
   ·exact h.all.snoc ⟨pT.1,pT.2.1,by rw[ht]⟩
   ·exact h.all.snoc ⟨pT.1,pT.2.1,by rw[ht],pT.2.2⟩
  ·exact h.all.snoc (Bu _ (zF _))
 ·unfold FH
  split
  ·rw[LW,ht];rfl
  split
  ·rw[LW,ht];rfl
  split
  ·rw[LW,ht];split<;>rfl
  ·rw[LW,ht];rfl
 ·unfold FH
  split
  ·exact h.deep.snoc λ_ e=>nomatch e
  split
  ·rename_i c
   exact h.deep.snoc λ_ _=>by rw[ht];exact c.2
  split
  ·exact h.deep.snoc λ_ e=>by split at e<;>cases e
  ·exact h.deep.snoc λ_ e=>nomatch e
theorem run0:RunOk VF:=by
 refine⟨?_,rfl,?_,XD⟩
 ·have h0:ME []:=λa c b e=>by simp at e
  refine h0.snoc (c:=.start "{urn:f}r" [("{urn:a}u","1")]) ⟨by decide +kernel,by decide,by decide +kernel,by decide +kernel⟩
 ·have h0:XI []:=λa c b e=>by simp at e
  exact h0.snoc (c:=.start "{urn:f}r" [("{urn:a}u","1")]) λ_ e=>nomatch e
theorem zK(xs:AE EE):RunOk (GS xs):=by
 have:∀(l:AE EE)st,RunOk st→RunOk (l.foldl FH st):=by
  intro l
  induction l with
  |nil=>exact λ_ h=>h
  |cons x l ih=>exact λst h=>ih _ (zL h x)
 exact this _ _ run0
theorem Ac:∀(n:CC)(S:AE AX)(l:AE DC),S.length=n→ME l→HH l=(BC,S)→ME (l++S.reverse.map .stop)∧HH (l++S.reverse.map .stop)=(BC,[]):=by
 intro n
 induction n with
 |zero =>
  intro S l e h ht;rw[GQ e] at ht ⊢;exact⟨by simpa using h,by simpa using ht⟩
 |succ n ih =>
  intro S l e h ht;rcases MO S with rfl|⟨S0,t,rfl⟩
  ·cases e
  rw[MN] at *
  have e2:l++(S0++[t]).reverse.map .stop=(l++[.stop t])++S0.reverse.map DC.stop:=by simp
  rw[e2];refine ih S0 _ (by simpa using e) (h.snoc ⟨⟨S0,by rw[ht]⟩,by rw[ht]⟩) ?_;rw[LW,ht];show(BC,(S0++[t]).dropLast)=_;rw[DT]
theorem XS(xs:AE EE):ME (BO xs):=by
 obtain⟨h1,h2,h3,h4⟩:=zK xs;obtain⟨g1,g2⟩:=Ac _ _ _ rfl h1 h2;unfold BO
 have e:((GS xs).1++(GS xs).2.reverse.map DC.stop)++[.comment "c",.pi "d"]=(((GS xs).1++(GS xs).2.reverse.map DC.stop)++[.comment "c"])++[.pi "d"]:=by simp
 rw[e];have g3:=g1.snoc (c:=.comment "c") ⟨pT.1,pT.2.1,by rw[g2]⟩;refine g3.snoc (c:=.pi "d") ⟨d_ok.1,d_ok.2.1,?_,d_ok.2.2⟩;rw[LW,g2];rfl
end
section
open PySem.Builtin PySem.Builtin.Str PySem.Builtin.Int
theorem mR{l:AE AX}{a:AX}(h:l.Nodup)(n:a∉l):(l++[a]).Nodup :=
 DP.mpr ⟨h,DF.mpr ⟨(λz=>nomatch z),.nil⟩,λx hx y hy e=>n (by rw[BB.mp hy] at e;exact e ▸ hx)⟩
/-! the list of keys -/
structure KeysOk (ks:AE AX):Prop where
 nd:ks.Nodup
 mem:∀u∈ks,u∈HL
theorem KeysOk.one{ks:AE AX}(h:KeysOk ks){u:AX}(hu:u∈XW):KeysOk (FQ ks u):=by
 unfold FQ;split
 ·rename_i c
  refine⟨mR h.nd c.2,λv hv=>?_⟩;rcases AT.mp hv with z|z
  ·exact h.mem v z
  ·rw[BB.mp z]
   rcases lP u hu with e|e
   ·exact absurd e c.1
   ·exact e
 ·exact h
theorem KeysOk.many(us:AE AX):∀{ks:AE AX},KeysOk ks→(∀u∈us,u∈XW)→KeysOk (us.foldl FQ ks):=by
 induction us with
 |nil=>exact λh _=>h
 |cons u us ih=>exact λh hu=>ih (h.one (hu u (.head _))) λv hv=>hu v (.tail _ hv)
theorem sN{ks:AE AX}{u v:AX}(h:v∈ks):v∈FQ ks u:=by
 unfold FQ;split
 ·exact Ml _ h
 ·exact h
theorem eG{ks:AE AX}{u:AX}(h:u≠xmlUri):u∈FQ ks u:=by
 unfold FQ;split
 ·exact Mr _ (.head _)
 ·rename_i c
  by_cases z:u∈ks
  ·exact z
  ·exact absurd ⟨h,z⟩ c
theorem Dc(ks:AE AX)(u:AX):ks <+: FQ ks u:=by
 unfold FQ;split
 ·exact AE.prefix_append _ _
 ·exact NX _
theorem vF(ks:AE AX)(u:AX):FQ (FQ ks u) u=FQ ks u:=by
 by_cases c:u≠xmlUri∧u∉ks
 ·have e:FQ ks u=ks++[u]:=DJ c
  rw[e]
  exact CA λz=>z.2 (Mr _ (.head _))
 ·have e:FQ ks u=ks:=CA c
  rw[e,e]
theorem dY(us:AE AX):∀ks:AE AX,ks <+: us.foldl FQ ks:=by
 induction us with
 |nil=>exact λ_=>NX _
 |cons u us ih=>exact λks=>(Dc ks u).trans (ih _)
noncomputable def dd:AE AX→AE AX
 |[]=>[]
 |a::l=>match dd l with
  |[]=>[a]
  |b::r=>if a=b then b::r else a::b::r
theorem Bv(us:AE AX):∀ks:AE AX,(dd us).foldl FQ ks=us.foldl FQ ks:=by
 induction us with
 |nil=>exact λ_=>rfl
 |cons a l ih =>
  intro ks;rw[HO,← ih,dd]
  cases e:dd l with
  |nil=>rfl
  |cons b r =>
   dsimp only;split
   ·rename_i h
    rw[HO,HO,h,vF]
   ·rfl
theorem qA(us:AE AX):(dd us).Sublist us:=by
 induction us with
 |nil=>exact .slnil
 |cons a l ih =>
  rw[dd]
  cases e:dd l with
  |nil=>exact AE.Sublist.cons₂ _ (AE.nil_sublist _)
  |cons b r =>
   rw[e] at ih;dsimp only;split
   ·exact ih.cons _
   ·exact ih.cons₂ _
theorem dd_mem(us:AE AX):∀u∈us,u∈dd us:=by
 induction us with
 |nil=>exact λ_ z=>nomatch z
 |cons a l ih =>
  intro u hu;rw[dd]
  have h2:u=a∨u∈dd l:=by
   rcases AP.mp hu with z|z
   ·exact .inl z
   ·exact .inr (ih u z)
  cases e:dd l with
  |nil =>
   rw[e] at h2;rcases h2 with z|z
   ·rw[z];exact .head _
   ·cases z
  |cons b r =>
   rw[e] at h2;dsimp only;split
   ·rename_i h
    rcases h2 with z|z
    ·rw[z,h];exact .head _
    ·exact z
   ·rcases h2 with z|z
    ·rw[z];exact .head _
    ·exact .tail _ z
theorem xQ(us:AE AX)(hs:us.Pairwise (λa b=>LA b a=AU)):(dd us).Nodup:=by
 induction us with
 |nil=>exact .nil
 |cons a l ih =>
  rw[IW] at hs;have i2:=ih hs.2;have hsub:=qA l;rw[dd]
  cases e:dd l with
  |nil=>exact DF.mpr ⟨(λz=>nomatch z),.nil⟩
  |cons b r =>
   rw[e] at i2 hsub;dsimp only;split
   ·exact i2
   ·rename_i h
    refine DF.mpr ⟨λz=>?_,i2⟩;rcases AP.mp z with z|z
    ·exact h z
    ·have s2:(b::r).Pairwise (λa b=>LA b a=AU):=hs.2.sublist hsub
     have h1:LA a b=AU:=wV s2 z
     have h2:LA b a=AU:=hs.1 b (hsub.subset (.head _))
     exact h (LB.tri _ _ h1 h2)
noncomputable def fW(ks:AE AX)(n:AX):AE AX:=FQ ks (IA n)
theorem lT{l:AE AX}{ks:AE AX}:l.foldl fW ks=(l.map IA).foldl FQ ks:=by
 rw[AE.foldl_map];rfl
theorem rC(f:AX→AX)(l:AE AX):∀ks:AE AX,ks.Nodup→(l.foldl (λks n=>QY (f n) ks) ks).Nodup:=by
 induction l with
 |nil=>exact λ_ h=>h
 |cons n l ih =>
  intro ks h;refine ih _ ?_;show(QY (f n) ks).Nodup;unfold QY;split
  ·exact h
  ·rename_i c;exact DF.mpr ⟨c,h⟩
theorem xK{y u:AX}{ks:AE AX}:u∈QY y ks↔u=y∨u∈ks:=by
 unfold QY;split
 ·rename_i c
  exact⟨.inr,λz=>z.elim (λe=>e ▸ c) id⟩
 ·simp[or_comm]
theorem eT(f:AX→AX)(l:AE AX)(u:AX):∀ks:AE AX,u∈l.foldl (λks n=>QY (f n) ks) ks↔u∈ks∨∃n∈l,f n=u:=by
 induction l with
 |nil=>intro ks;simp
 |cons n l ih =>
  intro ks;rw[HO,ih,xK];constructor
  ·rintro((z|z)|⟨m,hm,e⟩)
   ·exact .inr ⟨n,.head _,z.symm⟩
   ·exact .inl z
   ·exact .inr ⟨m,.tail _ hm,e⟩
  ·rintro(z|⟨m,hm,e⟩)
   ·exact .inl (.inr z)
   ·rcases AP.mp hm with rfl|hm
    ·exact .inl (.inl e.symm)
    ·exact .inr ⟨m,hm,e⟩
theorem hH{l:AE AX}(hl:∀n∈l,n∈HQ)(ks:AE AX):(FJ GH l).foldl fW ks=(FJ LA (SX IA l)).foldl FQ ks:=by
 rw[lT,← Bv]
 have hsort:((FJ GH l).map IA).Pairwise (λa b=>LA b a=AU):=by
  rw[Hd];refine(KR MW l).imp_of_mem λ{a b}ha hb h=>?_;exact qM a (hl a ((DU _ _).mem_iff.mp ha)) b (hl b ((DU _ _).mem_iff.mp hb)) h
 refine BW (λz=>AE.foldl FQ ks z) ?_;have hnS:(SX IA l).Nodup:=rC IA l [] .nil;have hnV:(FJ LA (SX IA l)).Nodup:=(DU LA (SX IA l)).symm.nodup hnS
 refine RF LB ((AE.perm_ext_iff_of_nodup (xQ _ hsort) hnV).mpr λu=>?_) (hsort.sublist (qA _)) (KR LB _)
 rw[(DU LA (SX IA l)).mem_iff];show _↔u∈l.foldl (λks n=>QY (IA n) ks) [];rw[eT];constructor
 ·intro z
  obtain⟨n,hn,e⟩:=CO.mp ((qA _).subset z)
  exact .inr ⟨n,(DU _ _).mem_iff.mp hn,e⟩
 ·rintro(z|⟨n,hn,e⟩)
  ·cases z
  ·exact dd_mem _ u (CO.mpr ⟨n,(DU _ _).mem_iff.mpr hn,e⟩)
theorem mU(ks:AE AX)(c:DC):ks <+: II ks c:=by
 cases c with
 |start tag attrs=>exact dY _ _
 |_=>exact NX _
theorem mT(b:AE DC):∀ks:AE AX,ks <+: b.foldl II ks:=by
 induction b with
 |nil=>exact λ_=>NX _
 |cons c b ih=>exact λks=>(mU ks c).trans (ih _)
theorem SV(a b:AE DC):CT a <+: CT (a++b):=by
 unfold CT;rw[FO];exact mT b _
theorem KeysOk.step{ks:AE AX}(h:KeysOk ks){s:CZ×AE AX}{c:DC}(hc:ZI s c):KeysOk (II ks c):=by
 cases c with
 |start tag attrs =>
  refine KeysOk.many _ h λu hu=>?_;have h2:=(DU LA (SX IA (tag::attrs.map (·.1)))).mem_iff.mp hu;rcases (eT IA _ u []).mp h2 with z|⟨n,hn,e⟩
  ·cases z
  ·rw[← e];exact(PT n (hc.2.2.1 n hn)).2.2.1
 |_=>exact h
theorem Co{cs:AE DC}(h:ME cs):KeysOk (CT cs):=by
 have:∀(b a:AE DC),ME (a++b)→KeysOk (CT a)→KeysOk (CT (a++b)):=by
  intro b
  induction b with
  |nil=>intro a _ k;rw[CQ];exact k
  |cons c b ih =>
   intro a h k
   have e:a++c::b=(a++[c])++b:=by simp
   rw[e] at h ⊢;refine ih (a++[c]) h ?_;rw[HR]
   exact k.step (h a c b (by simp))
 exact this cs [] h ⟨.nil,λ_ z=>nomatch z⟩
theorem KeysOk.len{ks:AE AX}(h:KeysOk ks):ks.length≤12:=AE.Nodup.length_le_of_subset h.nd h.mem
/-! the pairs -/
theorem XB:∀{ks:AE AX}{u:AX}{p:AX},(u,p)∈numsOf ks→∃i,ks[i]?=AK u∧p=XA i:=by
 intro ks u p h;obtain⟨⟨v,i⟩,hq,e⟩:=CO.mp h;injection e with e1 e2;subst e1 e2;exact⟨i,by have:=AE.mem_zipIdx_iff_getElem?.mp hq;exact this,rfl⟩
theorem qR(a b:AE AX):∃r,numsOf (a++b)=numsOf a++r:=by
 unfold numsOf;rw[Gm,BF];exact⟨_,rfl⟩
theorem qS(ks:AE AX):(numsOf ks).map (·.2)=(NK ks.length).map XA:=by
 unfold numsOf;rw[GG,AE.range_eq_range',← AE.zipIdx_map_snd 0 ks,GG];rfl
theorem YF{f:CC→AX}:∀{l:AE CC},(∀i∈l,∀j∈l,f i=f j→i=j)→l.Nodup→(l.map f).Nodup
 |[],_,_=>.nil
 |a::l,h,n=>by
  rw[EC];have n':=DF.mp n;refine DF.mpr ⟨λz=>?_,YF (λi hi j hj=>h i (.tail _ hi) j (.tail _ hj)) n'.2⟩;obtain⟨b,hb,e⟩:=CO.mp z
  exact n'.1 (h b (.tail _ hb) a (.head _) e ▸ hb)
theorem VD{k:CC}(h:k≤12){i:CC}(hi:i∈NK k):i∈NK 12:=NI.mpr (CJ (NI.mp hi) h)
noncomputable abbrev NN(ks:AE AX):AE Pr:=(numsOf ks).reverse
theorem vT{ks:AE AX}(h:KeysOk ks):((RX::NN ks).map (·.2)).Nodup:=by
 rw[EC,AE.map_reverse,qS];refine DF.mpr ⟨λz=>?_,?_⟩
 ·obtain⟨i,hi,e⟩:=CO.mp (HV.mp z)
  exact(sM i (VD h.len hi)).1 e
 ·exact(iK _).symm.nodup (YF (λi hi j hj e=>zA i (VD h.len hi) j (VD h.len hj) e) AE.nodup_range)
theorem sU:∀{l:AE Pr},(l.map (·.2)).Nodup→∀{q r:Pr},q∈l→r∈l→q.2=r.2→q=r
 |[],_,_,_,h,_,_=>nomatch h
 |a::l,n,q,r,hq,hr,e=>by
  rw[EC] at n;have n':=DF.mp n;rcases AP.mp hq with h1|h1
  ·rcases AP.mp hr with h2|h2
   ·rw[h1,h2]
   ·exact absurd (CO.mpr ⟨r,h2,by rw[← e,h1]⟩) n'.1
  ·rcases AP.mp hr with h2|h2
   ·exact absurd (CO.mpr ⟨q,h1,by rw[e,h2]⟩) n'.1
   ·exact sU n'.2 h1 h2 e
theorem jA{u p:AX}{r:AE Pr}:∀{l:AE Pr},(l.map (·.1)).Nodup→(u,p)∈l→find u (l++r)=AK p
 |[],_,h=>nomatch h
 |q::l,n,h=>by
  rw[EC] at n;have n':=DF.mp n;rw[DQ,find];rcases AP.mp h with rfl|h
  ·rw[DJ rfl]
  ·rw[CA λe=>n'.1 (CO.mpr ⟨(u,p),h,e.symm⟩)]
   exact jA n'.2 h
theorem aU{uri:AX}{G:AX→Prop}:∀{l:AE Pr}{seen s':AE AX},(∀q∈l,q.1=uri↔G q.2)→(∀p∈seen,¬G p)→scan uri l seen=(BN,s')→∀q∈l,q.1≠uri
 |[],_,_,_,_,_=>λ_ z=>nomatch z
 |q::r,seen,s',hf,hs,h=>by
  unfold scan at h;split at h
  ·cases h
  ·rename_i c
   have h1:q.1≠uri:=λe=>c ⟨e,λm=>hs _ m ((hf q (.head _)).mp e)⟩
   have ih:=aU (λz hz=>hf z (.tail _ hz)) (seen:=q.2::seen) (λp hp=>by
    rcases AP.mp hp with rfl|hp
    ·exact λg=>h1 ((hf q (.head _)).mpr g)
    ·exact hs p hp) h
   exact Fc h1 ih
def Made(ks:AE AX)(l:AE Pr)(k:AE AX):Prop:=∀q∈l,q=RX∨(q∈NN ks∧q.1∈k)
theorem Made.clean{ks k:AE AX}{l:AE Pr}(hK:KeysOk ks)(h:Made ks l k){u:AX}{sn:AE AX}(e:scan u l []=(BN,sn)):∀q∈l,q.1≠u:=by
 refine aU (G:=λp=>(u,p)∈RX::NN ks) (λq hq=>?_) (λ_ z=>by cases z) e
 have hq2:q∈RX::NN ks:=by
  rcases h q hq with z|z
  ·rw[z];exact .head _
  ·exact .tail _ z.1
 constructor
 ·rintro rfl;exact hq2
 ·intro z
  have:=sU (vT hK) hq2 z rfl;rw[this]
theorem Made.scan{ks k:AE AX}{l:AE Pr}(hK:KeysOk ks)(h:Made ks l k){u:AX}(hu:∃q∈l,q.1=u):(scan u l []).1≠BN:=by
 intro e;obtain⟨q,hq,e2⟩:=hu;exact h.clean hK (sn:=(Mine.scan u l []).2) (Prod.ext e rfl) q hq e2
theorem yO{ks:AE AX}{u:AX}(h:u∈ks):∃p,(u,p)∈NN ks:=by
 rw[← QN ks] at h;obtain⟨⟨a,b⟩,hq,e⟩:=CO.mp h;exact⟨b,HV.mpr (by rw[← e];exact hq)⟩
theorem yP{ks k:AE AX}{u:AX}(h:k++[u] <+: ks):(u,XA k.length)∈NN ks:=by
 obtain⟨r,rfl⟩:=h;obtain⟨r2,e⟩:=qR (k++[u]) r;rw[NN,e,aP]
 exact HV.mpr (Ml _ (Mr _ (.head _)))
theorem gK{ks:AE AX}(h:KeysOk ks):((NN ks).map (·.1)).Nodup:=by
 rw[AE.map_reverse,QN];exact(iK _).symm.nodup h.nd
theorem aE{ks:AE AX}(hK:KeysOk ks){lower:AE Pr}(hx:RX∈lower):∀(l:AE AX)(lv:AE Pr)(k:AE AX)(ps:AE (AX×Parsed)),(∀n∈l,n∈HQ)→Made ks (lv++lower) k→(l.foldl fW k) <+: ks →
  LC lower (NN ks++IQ) l lv k (l.foldl fW k)∧Made ks ((declare lower (NN ks++IQ) l lv ps).1++lower) (l.foldl fW k)∧(∀q∈lv,q∈(declare lower (NN ks++IQ) l lv ps).1)∧∀n∈l,∃q∈(declare lower (NN ks++IQ) l lv ps).1++lower,q.1=(cutName n).1:=by
 intro l
 induction l with
 |nil=>exact λlv k ps _ hM _=>⟨rfl,hM,λq hq=>hq,λ_ z=>nomatch z⟩
 |cons n l ih =>
  intro lv k ps hl hM hp
  obtain⟨n1,n2,n3,_⟩:=PT n (hl n (.head _))
  rw[HO] at hp ⊢
  cases e:scan (cutName n).1 (lv++lower) [] with
  |mk o sn =>
  cases o with
  |some p =>
   have hm:=YL e
   have hk:fW k n=k:=by
    refine CA λz=>?_;rcases hM _ hm with h|h
    ·exact z.1 (n2 ▸ BW Prod.fst h)
    ·exact z.2 (n2 ▸ h.2)
   rw[hk] at hp ⊢
   have hq:qn (lv++lower) (NN ks++IQ) (cutName n).1 (cutName n).2=AK (full p (cutName n).2,BN):=by unfold qn;rw[e]
   obtain⟨i1,i2,i3,i4⟩:=ih lv k (ps++[(n,full p (cutName n).2,(cutName n).2,(cutName n).1)]) (λm hm=>hl m (.tail _ hm)) hM hp
   have hd:declare lower (NN ks++IQ) (n::l) lv ps=declare lower (NN ks++IQ) l lv (ps++[(n,full p (cutName n).2,(cutName n).2,(cutName n).1)]):=by
    rw[MB hq];simp
   rw[hd];refine⟨?_,i2,i3,λm hm=>?_⟩
   ·rw[LC,hq];exact i1
   ·rcases AP.mp hm with rfl|hm
    ·refine⟨((cutName m).1,p),?_,rfl⟩
     rcases AT.mp (YL e) with z|z
     ·exact Ml _ (i3 _ z)
     ·exact Mr _ z
    ·exact i4 m hm
  |none =>
   have hc:=hM.clean hK e;have hux:(cutName n).1≠xmlUri:=λz=>hc _ (Mr _ hx) z.symm
   have hu12:(cutName n).1∈HL:=by
    rcases lP _ n3 with z|z
    ·exact absurd (n2.trans z) hux
    ·rw[n2];exact z
   have hN:fW k n=FQ k (cutName n).1:=by unfold fW;rw[n2]
   rw[hN] at hp ⊢
   have hpre:FQ k (cutName n).1 <+: ks:=by
    refine Fz ?_ hp;rw[lT];exact dY _ _
   have huks:(cutName n).1∈ks:=hpre.subset (eG hux)
   obtain⟨p,hp2⟩:=yO huks;have hf:find (cutName n).1 (NN ks++IQ)=AK p:=jA (gK hK) hp2;have hq:qn (lv++lower) (NN ks++IQ) (cutName n).1 (cutName n).2=AK (full p (cutName n).2,AK ((cutName n).1,p)):=cI e (λz=>(YW _ n3).1 (n2 ▸ z.1)) hf
   have hM':Made ks ((lv++[((cutName n).1,p)])++lower) (FQ k (cutName n).1):=by
    intro q hq;rcases AT.mp hq with z|z
    ·rcases AT.mp z with z|z
     ·exact(hM q (Ml _ z)).imp id λy=>⟨y.1,sN y.2⟩
     ·rw[BB.mp z];exact .inr ⟨hp2,eG hux⟩
    ·exact(hM q (Mr _ z)).imp id λy=>⟨y.1,sN y.2⟩
   obtain⟨i1,i2,i3,i4⟩:=ih (lv++[((cutName n).1,p)]) (FQ k (cutName n).1) (ps++[(n,full p (cutName n).2,(cutName n).2,(cutName n).1)]) (λm hm=>hl m (.tail _ hm)) hM' hp
   have hd:declare lower (NN ks++IQ) (n::l) lv ps=declare lower (NN ks++IQ) l (lv++[((cutName n).1,p)]) (ps++[(n,full p (cutName n).2,(cutName n).2,(cutName n).1)]):=by
    rw[MB hq];rfl
   rw[hd];refine⟨?_,i2,λq hq=>i3 q (Ml _ hq),λm hm=>?_⟩
   ·rw[LC,hq]
    by_cases huk:(cutName n).1∈k
    ·have e2:FQ k (cutName n).1=k:=CA λz=>z.2 huk
     rw[e2] at i1;exact .inl ⟨huk,by rw[e2];exact i1⟩
    ·have e2:FQ k (cutName n).1=k++[(cutName n).1]:=DJ ⟨hux,huk⟩
     have h3:find (cutName n).1 (NN ks++IQ)=AK (XA k.length):=jA (gK hK) (yP (e2 ▸ hpre))
     rw[hf] at h3;injection h3 with h3;exact .inr ⟨huk,h3,by rw[← e2];exact i1⟩
   ·rcases AP.mp hm with rfl|hm
    ·exact⟨_,Ml _ (i3 _ (Mr _ (.head _))),rfl⟩
    ·exact i4 m hm
end
section
open PySem.Builtin PySem.Builtin.Str PySem.Builtin.Int
inductive StD:AE AX→AE (AE Pr)→Prop
 |base:StD [] [[RX]]
 |push {S:AE AX} {D:AE (AE Pr)} (t:AX) (lv:AE Pr) (h:StD S D) (hn:t∈HQ) (hq:∃q∈flat (D++[lv]),q.1=(cutName t).1):StD (S++[t]) (D++[lv])
theorem StD.len{S:AE AX}{D:AE (AE Pr)}(h:StD S D):D.length=S.length+1:=by
 induction h with
 |base=>rfl
 |push t lv h hn hq ih=>simp[ih]
theorem StD.xml{S:AE AX}{D:AE (AE Pr)}(h:StD S D):RX∈flat D:=by
 induction h with
 |base=>exact .head _
 |push t lv h hn hq ih=>rw[ID];exact Mr _ ih
theorem StD.pop{S:AE AX}{t:AX}{D:AE (AE Pr)}(h:StD (S++[t]) D):StD S D.dropLast∧t∈HQ∧∃q∈flat D,q.1=(cutName t).1:=by
 generalize e:S++[t]=S' at h
 cases h with
 |base=>simp at e
 |push t' lv h hn hq =>
  have e':=kW e rfl;have e1:=e'.1
  have e2:t=t':=by simpa using e'.2
  subst e1 e2;exact⟨by rw[DT];exact h,hn,hq⟩
structure PI (ks:AE AX) (a:AE DC) (k:KS):Prop where
 nss:k.nss=[IQ,NN ks]++HN (HH a).2.length []
 decl:StD (HH a).2 k.decl
 hd:Made ks (flat k.decl) (CT a)
 pre:k.pre.length=(HH a).2.length+1
 seen:(HH a).1=BC→k.seen=BC
theorem yD(A B:AE Pr):∀n:CC,flat ([A,B]++HN n [])=B++A:=by
 intro n;unfold flat;rw[RY,Ga,AE.reverse_replicate]
 have:(HN n ([]:AE Pr)).flatten=[]:=by
  induction n with
  |zero=>rfl
  |succ n ih=>rw[AE.replicate_succ,iJ,ih];rfl
 rw[this];simp
theorem PI.ns{ks:AE AX}{a:AE DC}{k:KS}(h:PI ks a k):flat k.nss=NN ks++IQ:=by rw[h.nss,yD]
theorem PI.start(ks:AE AX):PI ks [] (GW (NN ks)).core:=⟨rfl,.base,λq hq=>.inl (BB.mp hq),rfl,λz=>by cases z⟩
theorem dN{ks:AE AX}{n:AX}(hn:n∈HQ)(hk:IA n=xmlUri∨IA n∈ks):known (NN ks++IQ) (cutName n).1:=by
 right
 have e:=(PT n hn).2.1;rw[e];intro z
 have h:∀{l:AE Pr},find (IA n) l=BN→∀q∈l,q.1≠IA n:=by
  intro l
  induction l with
  |nil=>exact λ_ _ z=>nomatch z
  |cons q r ih =>
   intro h;unfold find at h;split at h
   ·cases h
   ·rename_i c;exact Fc c (ih h)
 rcases hk with y|y
 ·exact h z RX (Mr _ iE) y.symm
 ·obtain⟨p,hp⟩:=yO y
  exact h z _ (Ml _ hp) rfl
theorem made_mono{ks k k':AE AX}{l:AE Pr}(h:Made ks l k)(hk:∀u∈k,u∈k'):Made ks l k':=λq hq=>(h q hq).imp id λy=>⟨y.1,hk _ y.2⟩
theorem uG{D:AE (AE Pr)}{q:Pr}(h:q∈flat D.dropLast):q∈flat D:=by
 obtain⟨a,ha,hq⟩:=mN.mp h;exact mN.mpr ⟨a,(Ed _).subset ha,hq⟩
theorem sI{ks:AE AX}{tag:AX}{attrs:AE Pr}{n:AX}(hn:n∈tag::attrs.map (·.1)):IA n=xmlUri∨IA n∈II ks (.start tag attrs):=by
 by_cases hx:IA n=xmlUri
 ·exact .inl hx
 right
 have hV:IA n∈FJ LA (SX IA (tag::attrs.map (·.1))):=(DU _ _).mem_iff.mpr ((eT IA _ _ []).mpr (.inr ⟨n,hn,rfl⟩))
 show IA n∈(FJ LA (SX IA (tag::attrs.map (·.1)))).foldl FQ ks;generalize FJ LA (SX IA (tag::attrs.map (·.1)))=V at hV
 have:∀(V:AE AX)(k:AE AX),IA n∈V→IA n∈V.foldl FQ k:=by
  intro V
  induction V with
  |nil=>exact λ_ z=>nomatch z
  |cons v V ih =>
   intro k h;rcases AP.mp h with z|z
   ·rw[HO,← z]
    exact(dY V _).subset (eG hx)
   ·exact ih _ z
 exact this V ks hV
theorem PI.fit{ks:AE AX}{a:AE DC}{w:WS}{c:DC}(hK:KeysOk ks)(h:PI ks a w.core)(hc:ZI (HH a) c)(hp:II (CT a) c <+: ks):JB w c∧ZG BC w (CT a) (II (CT a) c) c:=by
 have hns:flat w.nss=NN ks++IQ:=h.ns;have hM:Made ks (flat w.decl) (CT a):=h.hd;have hx:RX∈flat w.decl:=h.decl.xml
 cases c with
 |start tag attrs =>
  obtain⟨c1,c2,c3,c4⟩:=hc;refine⟨⟨c1,c2,λn hn=>?_,c4⟩,λ_=>?_⟩
  ·have hd:=c3 n hn
   obtain⟨n1,n2,n3,_⟩:=PT n hd;refine⟨⟨n1,?_⟩,by rw[n2];exact(YW _ n3).1⟩;rw[hns]
   exact dN hd ((sI hn).imp id λz=>hp.subset z)
  ·have hs:=hH c3 (CT a)
   have hdoc:∀n∈FJ GH (tag::attrs.map (·.1)),n∈HQ:=λn hn=>c3 n ((DU _ _).mem_iff.mp hn)
   have e:II (CT a) (.start tag attrs)=(FJ GH (tag::attrs.map (·.1))).foldl fW (CT a):=hs.symm;rw[hns,e];exact(aE hK hx _ [] (CT a) [] hdoc (by rw[DB];exact hM) (by rw[← e];exact hp)).1
 |stop tag =>
  obtain⟨⟨S,hS⟩,hs⟩:=hc;have hD:=h.decl;rw[hS] at hD;obtain⟨d1,hd,q,hq,e⟩:=hD.pop;obtain⟨n1,n2,n3,_⟩:=PT tag hd;have hq2:q=RX∨(q∈NN ks∧q.1∈CT a):=hM q hq
  have hk:IA tag=xmlUri∨IA tag∈ks:=by
   rw[← n2,← e];rcases hq2 with z|z
   ·exact .inl (BW Prod.fst z)
   ·right
    rw[← QN ks]
    exact BV (HV.mp z.1)
  have hl:w.pre.length=(HH a).2.length+1:=h.pre;refine⟨⟨⟨n1,by rw[hns];exact dN hd hk⟩,?_,h.seen hs,by rw[n2];exact(YW _ n3).1,hM.scan hK ⟨q,hq,e⟩⟩,rfl⟩;rw[hl,hS,BD]
  exact LI (YZ 1 _)
 |data x=>exact⟨hc,rfl⟩
 |comment x=>exact⟨⟨hc.1,hc.2.1,h.seen hc.2.2⟩,rfl⟩
 |pi x=>exact⟨⟨hc.1,hc.2.1,h.seen hc.2.2.1,hc.2.2.2⟩,rfl⟩
 |sns p u=>exact hc.elim
theorem PI.step{ks:AE AX}{a:AE DC}{k:KS}{c:DC}(hK:KeysOk ks)(h:PI ks a k)(hc:ZI (HH a) c)(hp:II (CT a) c <+: ks):PI ks (a++[c]) (k.step c):=by
 have hns:=h.ns;have hx:=h.decl.xml;have ht:=LW a c;have hk2:=HR a c
 cases c with
 |start tag attrs =>
  have ht2:HH (a++[.start tag attrs])=(BC,(HH a).2++[tag]):=ht;obtain⟨c1,c2,c3,c4⟩:=hc
  have hdoc:∀n∈FJ GH (tag::attrs.map (·.1)),n∈HQ:=λn hn=>c3 n ((DU _ _).mem_iff.mp hn)
  have e:II (CT a) (.start tag attrs)=(FJ GH (tag::attrs.map (·.1))).foldl fW (CT a):=(hH c3 (CT a)).symm
  obtain⟨_,i2,_,i4⟩:=aE hK hx _ [] (CT a) [] hdoc (by rw[DB];exact h.hd) (by rw[← e];exact hp)
  have ek:(k.names tag attrs).1=(declare (flat k.decl) (NN ks++IQ) (FJ GH (tag::attrs.map (·.1))) [] []).1:=by unfold KS.names;rw[hns]
  refine⟨?_,?_,?_,?_,λ_=>rfl⟩
  ·show k.nss++[[]]=_
   rw[ht2,h.nss,BX];show _=_++HN ((HH a).2++[tag]).length [];rw[BD];exact BW _ (QU ).symm
  ·rw[ht2]
   refine StD.push tag _ h.decl (c3 tag (.head _)) ?_;rw[ID,ek]
   exact i4 tag ((DU _ _).mem_iff.mpr (.head _))
  ·show Made ks (flat (k.decl++[(k.names tag attrs).1])) _
   rw[ID,ek,hk2,e];exact i2
  ·show(k.pre++[_]).length=_
   rw[ht2,BD,h.pre];simp
 |stop tag =>
  obtain⟨⟨S,hS⟩,hs⟩:=hc
  have ht2:HH (a++[.stop tag])=((HH a).1,S):=by rw[ht];show(_,(HH a).2.dropLast)=_;rw[hS,DT]
  have hD:=h.decl;rw[hS] at hD;have hn:=h.nss;have hp2:=h.pre;rw[hS,BD] at hn hp2;refine⟨?_,by rw[ht2];exact hD.pop.1,?_,?_,λ_=>h.seen hs⟩
  ·show k.nss.dropLast=_
   rw[hn,ht2];have e:HN (S.length+[tag].length) ([]:AE Pr)=HN S.length []++[[]]:=QU;rw[e,← BX,DT]
  ·show Made ks (flat k.decl.dropLast) _
   rw[hk2]
   exact λq hq=>h.hd q (uG hq)
  ·show k.pre.dropLast.length=_
   rw[bO,hp2,ht2];simp
 |data x =>
  have ht2:HH (a++[.data x])=HH a:=ht;exact⟨by rw[ht2];exact h.nss,by rw[ht2];exact h.decl,by rw[hk2];exact h.hd,by rw[ht2];exact h.pre,by rw[ht2];exact h.seen⟩
 |comment x =>
  have ht2:HH (a++[.comment x])=HH a:=ht;exact⟨by rw[ht2];exact h.nss,by rw[ht2];exact h.decl,by rw[hk2];exact h.hd,by rw[ht2];exact h.pre,by rw[ht2];exact h.seen⟩
 |pi x =>
  have ht2:HH (a++[.pi x])=HH a:=ht;exact⟨by rw[ht2];exact h.nss,by rw[ht2];exact h.decl,by rw[hk2];exact h.hd,by rw[ht2];exact h.pre,by rw[ht2];exact h.seen⟩
 |sns p u=>exact hc.elim
noncomputable def SF:WS→AE AX→AE DC→Prop
 |_,_,[]=>True
 |w,k,c::cs=>(JB w c∧ZG BC w k (II k c) c∧k.length≤40)∧SF (w.tell c) (II k c) cs
theorem Dn{ks:AE AX}(hK:KeysOk ks):∀(b a:AE DC)(w:WS),ME (a++b)→CT (a++b) <+: ks→PI ks a w.core→SF w (CT a) b:=by
 intro b
 induction b with
 |nil=>exact λ_ _ _ _ _=>trivial
 |cons c b ih =>
  intro a w hA hp hP
  have e:a++c::b=(a++[c])++b:=by simp
  have hc:=hA a c b rfl;rw[e] at hA hp
  have hp1:II (CT a) c <+: ks:=by rw[← HR];exact(SV _ b).trans hp
  have hp0:CT a <+: ks:=(SV a [c]).trans (by rw[HR];exact hp1)
  obtain⟨f1,f2⟩:=hP.fit hK hc hp1;refine⟨⟨f1,f2,AQ hp0.length_le (AQ hK.len (by decide))⟩,?_⟩;rw[← HR]
  exact ih (a++[c]) (w.tell c) hA hp (hP.step hK hc hp1)
theorem SF.run:∀{w:WS}{k:AE AX}{cs:AE DC},SF w k cs→KN w cs
 |_,_,[],_=>trivial
 |_,_,_::_,h=>⟨h.1.1,h.2.run⟩
end
section
open PySem.Builtin PySem.Builtin.Str PySem.Builtin.Int
theorem Eu{ks:AE AX}(hK:KeysOk ks):∀q∈NN ks,NY q:=by
 rintro⟨u,p⟩ hq
 obtain⟨i,hi,rfl⟩:=XB (HV.mp hq)
 have hlt:i<ks.length:=by
  rcases JC i ks.length with z|z
  ·exact z
  ·rw[EM z] at hi;cases hi
 have hu:=YW u (.tail _ (hK.mem u (GR hi)))
 have hn:=sM i (VD hK.len (NI.mpr hlt))
 exact⟨hu.2.1,hn.2.1,hu.2.2,hn.2.2⟩
theorem qP(ks:AE AX):(NN ks).length=ks.length:=by
 rw[LG,numsOf,AN,Gl]
theorem xml_ok:NY RX:=lJ _ iE
theorem sZ{M:AE Pr}(hl:M.length≤12)(hM:∀q∈M,NY q):Fit 12 (GW M):=by
 have ef:flat [IQ,M]=M++IQ:=by simp[flat]
 refine⟨EH _,(λ_ z=>nomatch z),(by decide:0+(if ([]:AE AX)=[] then 0 else 1)≤4*12),rfl,rfl,(by decide:1≤13),CR 1,(by decide:1≤4*12+1),?_,?_,?_⟩
 ·show(flat [IQ,M]).length≤19
  rw[ef,BD];exact CC.add_le_add_right hl 7
 ·intro q hq
  have e:q=RX:=BB.mp hq;rw[e];exact xml_ok
 ·show ∀q∈flat [IQ,M],NY q
  rw[ef];intro q hq;rcases AT.mp hq with z|z
  ·exact hM q z
  ·exact lJ q z
theorem Eb(M:AE Pr)(p u:AX):(GW M).tell (.sns p u)=GW (M++[(u,p)]):=by
 have e:(GW M).core.flush []=[]:=ZQ _;show WS.mk AU AU _ (NZ (u,p) [IQ,M]) [AU] [] ([]++(GW M).core.flush [])=_;rw[e,show NZ (u,p) [IQ,M]=[IQ]++[M++[(u,p)]] from MY _ [IQ] M];rfl
theorem eI(xs:AE EE):KeysOk (CT (BO xs)):=Co (XS xs)
theorem Ew(xs:AE EE):SF (GW (NN (CT (BO xs)))) [] (BO xs):=Dn (eI xs) (BO xs) [] _ (by rw[DB];exact XS xs) (by rw[DB];exact NX _) (PI.start _)
theorem p_fit(xs:AE EE):Fit 12 (GW (NN (CT (BO xs)))):=sZ (by rw[qP];exact(eI xs).len) (Eu (eI xs))
theorem De(xs:AE EE):∀c∈BO xs,kY c:=by
 intro c hc;obtain⟨a,b,e⟩:=fN hc;have h:=XS xs a c b e
 cases c with
 |start tag attrs =>
  obtain⟨h1,h2,h3,_⟩:=h;refine⟨h2,(DF.mp h1).2,λn hn=>?_⟩
  obtain⟨_,_,_,n4,n5,n6⟩:=PT n (h3 n hn)
  exact⟨n4,n5,n6⟩
 |_=>trivial
theorem vX{ks:AE AX}{w:WS}{a b:AE DC}{tag:AX}{attrs:AE Pr}(hc:ZI (HH a) (.start tag attrs))(hp:II (CT a) (.start tag attrs) <+: ks)(hns:flat w.nss=NN ks++IQ):JB w (.start tag attrs):=by
 obtain⟨c1,c2,c3,c4⟩:=hc;refine⟨c1,c2,λn hn=>?_,c4⟩;have hd:=c3 n hn;obtain⟨n1,n2,n3,_⟩:=PT n hd;refine⟨⟨n1,?_⟩,by rw[n2];exact(YW _ n3).1⟩;rw[hns]
 exact dN hd ((sI hn).imp id λz=>hp.subset z)
theorem zZ(cs:AE DC):∀(l:AE DC),∀c∈cs.foldl FZ l,c∈l∨(c∈cs∧JV c=BC):=by
 induction cs with
 |nil=>exact λl c h=>.inl h
 |cons d cs ih =>
  intro l c h;rcases ih _ c h with z|z
  ·cases d with
   |start tag attrs =>
    rcases AT.mp z with y|y
    ·exact .inl y
    ·rw[BB.mp y];exact .inr ⟨.head _,rfl⟩
   |stop tag=>exact .inl ((Ed _).subset z)
   |data x=>exact .inl z
   |comment x=>exact .inl z
   |pi x=>exact .inl z
   |sns p u=>exact .inl z
  ·exact .inr ⟨.tail _ z.1,z.2⟩
theorem qX{ks:AE AX}{cs:AE DC}(hA:ME cs)(hp:CT cs <+: ks):∀(l:AE DC)(w:WS),(∀c∈l,c∈cs∧JV c=BC)→flat w.nss=NN ks++IQ→KN w l:=by
 intro l
 induction l with
 |nil=>exact λ_ _ _=>trivial
 |cons c l ih =>
  intro w hl hns
  obtain⟨hc,hs⟩:=hl c (.head _)
  obtain⟨a,b,e⟩:=fN hc
  cases c with
  |start tag attrs =>
   have hs2:=hA a _ b e
   have hp2:II (CT a) (.start tag attrs) <+: ks:=by
    rw[← HR];refine Fz ?_ hp
    have e2:cs=(a++[.start tag attrs])++b:=by rw[e];simp
    rw[e2];exact SV _ _
   refine⟨vX (b:=b) hs2 hp2 hns,ih _ (λd hd=>hl d (.tail _ hd)) ?_⟩;show flat (w.nss++[[]])=_;rw[ID,DB];exact hns
  |_=>cases hs
theorem oP:∀(l:AE DC)(w:WS),(∀c∈l,JV c=BC)→w.data=[]→(w.run l).data=[]:=by
 intro l
 induction l with
 |nil=>exact λ_ _ h=>h
 |cons c l ih =>
  intro w hl h;refine ih (w.tell c) (λd hd=>hl d (.tail _ hd)) ?_
  have:=hl c (.head _)
  cases c with
  |start tag attrs=>rfl
  |_=>cases this
theorem iW{w v:WS}(h:w.core=v.core){c:DC}(hc:JB w c):JB v c:=by
 obtain⟨a1,a2,a3,a4,a5,a6,a7⟩:=w;obtain⟨b1,b2,b3,b4,b5,b6,b7⟩:=v;simp only[WS.core,KS.mk.injEq] at h;obtain⟨rfl,rfl,rfl,rfl,rfl⟩:=h;cases c<;>exact hc
theorem aR:∀{cs:AE DC}{w v:WS},w.core=v.core→KN w cs→KN v cs
 |[],_,_,_,_=>trivial
 |c::cs,w,v,h,hr=>⟨iW h hr.1,aR (by rw[RW,RW,h]) hr.2⟩
theorem vV:∀(cs:AE DC)(l:AE DC)(s:CZ×AE AX),s.2.length=l.length→(∀a tag b,cs=a++.stop tag::b→2≤(a.foldl RV s).2.length)→(∀c∈cs,¬gD c) →
  cs.foldl OK ([]::l.map λc=>[c])=[]::(cs.foldl FZ l).map (λc=>[c])∧(cs.foldl FZ l).length=(cs.foldl RV s).2.length:=by
 intro cs
 induction cs with
 |nil=>exact λl s h _ _=>⟨rfl,h.symm⟩
 |cons c cs ih =>
  intro l s h hd hs
  have hd2:∀a tag b,cs=a++.stop tag::b→2≤(a.foldl RV (RV s c)).2.length:=λa tag b e=>hd (c::a) tag b (by rw[e];rfl)
  have hs2:∀d∈cs,¬gD d:=λd hd=>hs d (.tail _ hd)
  rw[HO,HO,HO]
  cases c with
  |start tag attrs =>
   have e:OK ([]::l.map λc=>[c]) (.start tag attrs)=[]::(l++[DC.start tag attrs]).map λc=>[c]:=by
    show([]::l.map λc=>[c])++[[DC.start tag attrs]]=_;rw[BF];rfl
   rw[e];exact ih _ _ (by show(s.2++[tag]).length=_;rw[BD,BD,h];rfl) hd2 hs2
  |stop tag =>
   have h2:2≤l.length:=by rw[← h];exact hd [] tag cs rfl
   have e:OK ([]::l.map λc=>[c]) (.stop tag)=[]::l.dropLast.map λc=>[c]:=by
    show([]::l.map λc=>[c]).dropLast=_;rw[AE.dropLast_cons_of_ne_nil,AE.map_dropLast];intro z;have:=BW EG z;rw[AN] at this;rw[this] at h2;cases h2
   rw[e];exact ih _ _ (by show s.2.dropLast.length=l.dropLast.length;rw[bO,bO,h]) hd2 hs2
  |data x=>exact ih l s h hd2 hs2
  |comment x=>exact ih l s h hd2 hs2
  |pi x=>exact ih l s h hd2 hs2
  |sns p u=>exact absurd trivial (hs _ (.head _))
theorem no_sns{cs:AE DC}(h:ME cs):∀c∈cs,¬gD c:=by
 intro c hc hs;obtain⟨a,b,e⟩:=fN hc;have:=h a c b e
 cases c with
 |sns p u=>exact this
 |_=>exact hs
theorem oK{cs:AE DC}(hA:ME cs)(hD:XI cs):JR cs=[]::(cs.foldl FZ []).map (λc=>[c])∧(cs.foldl FZ []).length=(HH cs).2.length :=
 vV cs [] (AU,[]) rfl hD (no_sns hA)
theorem oJ{cs:AE DC}(hA:ME cs)(hD:XI cs):(JR cs).flatten=cs.foldl FZ []:=by
 rw[(oK hA hD).1,iJ,DB];generalize cs.foldl FZ []=l
 induction l with
 |nil=>rfl
 |cons c l ih=>rw[EC,iJ,ih];rfl
theorem cV{cs:AE DC}(hA:ME cs)(hD:XI cs){a:AE DC}{tag:AX}{b:AE DC}(e:cs=a++.stop tag::b):3≤(JR a).length∧1≤(a.foldl FZ []).length:=by
 have h2:=hD a tag b e
 have hA':ME a:=by rw[e] at hA;exact hA.left
 have hD':XI a:=by rw[e] at hD;exact hD.left
 obtain⟨e1,e2⟩:=oK hA' hD';rw[e1,CD,AN,e2];exact⟨LI h2,AQ (by decide) h2⟩
theorem Di{xs:AE EE}{pn:CC}{c:DC}(h:(BO xs)[pn]?=AK c)(hc:JV c=BC):XI ((BO xs).take pn)∧BO xs=(BO xs).take pn++c::(BO xs).drop (pn+1)∧(BO xs).drop pn=c::(BO xs).drop (pn+1):=by
 have hlt:pn<(BO xs).length:=by
  rcases JC pn (BO xs).length with z|z
  ·exact z
  ·rw[EM z] at h;cases h
 have hdrop:(BO xs).drop pn=c::(BO xs).drop (pn+1):=by
  rw[KA hlt];rw[BL hlt] at h;injection h with h;rw[h]
 refine⟨?_,?_,hdrop⟩
 ·have hr:=(zK xs).deep
  have hle:pn<(GS xs).1.length:=by
   rcases JC pn (GS xs).1.length with z|z
   ·exact z
   ·exfalso
    unfold BO at h;rw[BX,NH z] at h;have hm:=GR h;rcases AT.mp hm with y|y
    ·obtain⟨t,_,e⟩:=CO.mp y
     rw[← e] at hc;cases hc
    ·rcases AP.mp y with y|y
     ·rw[y] at hc;cases hc
     ·rw[BB.mp y] at hc;cases hc
  have e:(BO xs).take pn=(GS xs).1.take pn:=by
   unfold BO;rw[BX,AE.take_append_of_le_length (EU hle)]
  rw[e]
  have hr2:XI ((GS xs).1.take pn++(GS xs).1.drop pn):=by rw[JW];exact hr
  exact hr2.left
 ·rw[← hdrop,JW]
theorem plan07{xs:AE EE}{pn:CC}{c:DC}(h:(BO xs)[pn]?=AK c)(hc:JV c=BC) :
  KN (GW (NN (CT (BO xs)))) (((BO xs).take pn).foldl FZ [])∧KN ((GW (NN (CT (BO xs)))).run (((BO xs).take pn).foldl FZ [])) ((BO xs).drop pn)∧(∀a tag b,(BO xs).take pn=a++.stop tag::b→1≤(a.foldl FZ []).length) ∧
  ((GW (NN (CT (BO xs)))).run (BO xs)).out.drop ((GW (NN (CT (BO xs)))).run ((BO xs).take pn)).hush.out.length=(((GW (NN (CT (BO xs)))).run (((BO xs).take pn).foldl FZ [])).run ((BO xs).drop pn)).out.drop ((GW (NN (CT (BO xs)))).run (((BO xs).take pn).foldl FZ [])).out.length:=by
 obtain⟨hD,e1,e2⟩:=Di h hc;have hA:=XS xs;have hK:=eI xs;have hrun:=(Ew xs).run
 have hA1:ME ((BO xs).take pn):=by
  have:ME ((BO xs).take pn++(BO xs).drop pn):=by rw[JW];exact hA
  exact this.left
 have hf:=oJ hA1 hD;have hns:flat (GW (NN (CT (BO xs)))).nss=NN (CT (BO xs))++IQ:=(PI.start _).ns
 have hin:∀d∈((BO xs).take pn).foldl FZ [],d∈BO xs∧JV d=BC:=by
  intro d hd;rcases zZ _ [] d hd with z|z
  ·cases z
  ·exact⟨QS z.1,z.2⟩
 have h0:∃b t,(GW (NN (CT (BO xs)))).nss=b++[t]:=⟨[IQ],_,rfl⟩;have hs3:∀a tag b,(BO xs).take pn=a++.stop tag::b→3≤(JR a).length:=λa tag b e=>(cV hA1 hD e).1;have hcore:=VZ (w:=GW (NN (CT (BO xs)))) h0 rfl rfl _ hs3;rw[hf] at hcore;refine⟨qX hA (NX _) _ _ hin hns,?_,λa tag b e=>(cV hA1 hD e).2,?_⟩
 ·refine aR hcore ?_
  have:KN (GW (NN (CT (BO xs)))) ((BO xs).take pn++(BO xs).drop pn):=by rw[JW];exact hrun
  exact this.right
 ·have hp:=vI (w:=GW (NN (CT (BO xs)))) (v:=GW (NN (CT (BO xs)))) h0 rfl rfl rfl rfl ((BO xs).take pn) ((BO xs).drop pn) hs3 (λu hu=>by rw[hf];exact oP _ u (λd hd=>(hin d hd).2) hu)
  rw[hf] at hp;rw[← hp];congr 2
  have e3:((GW (NN (CT (BO xs)))).run ((BO xs).take pn)).hush.run ((BO xs).drop pn)=((GW (NN (CT (BO xs)))).run ((BO xs).take pn)).run ((BO xs).drop pn):=by
   rw[e2]
   cases c with
   |start tag attrs =>
    generalize (GW (NN (CT (BO xs)))).run ((BO xs).take pn)=w9;show(w9.hush.tell (.start tag attrs)).run _=_;rw[dG];rfl
   |_=>cases hc
  rw[e3];show _=WS.run _ _;unfold WS.run;rw[← FO,JW]
end
section
open PyProof.Rows.LCg
inductive EnuJ (h₀:CW) (env:XH) (os:CU) (en:AH) (it:AH) (ax:AH) (its:CE AC) (J:CC→AE AC→(AX→AM AC)→AE (AH×CY)→Prop) (k:CC) (s':AG):Prop
 |mk (i:CC) (rem:AE AC) (m:AX→AM AC) (own:AE (AH×CY)) (old:AC) (h0:k=rem.length) (h1:its.toList.drop i=rem) (h2:i+rem.length=its.size) (h3:J i rem m own) (h4:Fr h₀ env.locals s'.heap m) (h5:AY h₀ env.locals s'.heap own) (h6:(∀p∈own,p.1≠en∧p.1≠it)) (h7:VN s'.heap en it (i:EE) old) (h8:s'.heap.IsListIter it ax i) (h9:s'.os=os) (h10:BP s'.gens):EnuJ h₀ env os en it ax its J k s'
noncomputable def WU(w:BU)(A:BQ)(s:AG)(prog:BH)(E:AC→AG→Prop)(h₀:CW)(L:AH)(env:XH)(os:CU)(x1 x2:AX)(p1 p2 tp:OP)(kk:CC)(body:AE cP)(en it ax:AH)(its:CE AC)(R:FE→AG→Prop)(J:CC→AE AC→(AX→AM AC)→AE (AH×CY)→Prop)(m:AX→AM AC)(own:AE (AH×CY)):Prop :=
 ∀(hh:A.handled=BN)(hL:env.locals=L)(hx1:env.kindOf x1=AK .local)(hx2:env.kindOf x2=AK .local)(hp:(env.scope.kind==.class||(env.scope.kind==.module&&env.locals !=env.globals))=AU)(hsrc:∀i rem m own,J i rem m own→RZ h₀ ax its own)
  (step:∀(s1:AG)v i t rem m own oE oI,J i (v::rem) m own→Fr h₀ L s1.heap (λy=>if y=x2 then AK v else if y=x1 then AK (.int (i:EE) t) else m y)→AY h₀ L s1.heap ((en,oE)::(it,oI)::own)→(∀p∈own,p.1≠en∧p.1≠it)→s1.os=os→BP s1.gens →
   AI (BE prog w) A (EZ body env) (λf s3=>match f with
    |.next|.cont=>∃m'' own',J (i+1) rem m'' own'∧Fr h₀ L s3.heap m''∧AY h₀ L s3.heap ((en,oE)::(it,oI)::own')∧(∀p∈own',p.1≠en∧p.1≠it)∧s3.os=os∧BP s3.gens
    |.brk=>R (.ok .next) s3
    |.ret v=>R (.ok (.ret v)) s3) (SU (BE prog w) A env λe s'=>R (.error e) s') s1)
  (done:∀(s1:AG)i m own,J i [] m own→Fr h₀ L s1.heap m→AY h₀ L s1.heap own→s1.os=os→BP s1.gens→R (.ok .next) s1) (hJ:J 0 its.toList m own) (F:Fr h₀ L s.heap m) (N:AY h₀ L s.heap own) (hos:s.os=os) (hb:BP s.gens)
  (hen:VN s.heap en it 0 .none) (hit:s.heap.IsListIter it ax 0) (hei:en≠it) (en0:h₀.get? en=BN∧en≠L) (it0:h₀.get? it=BN∧it≠L) (off:∀p∈own,p.1≠en∧p.1≠it),AI (BE prog w) A (IY (.ref en)) (λitv s₁=>DV (BE prog w) A (.forLoop (.Tuple [.Name x1 p1,.Name x2 p2] kk tp) itv body [] env) R s₁) E s
theorem jB:∀a b c d e f g h i j k l m n o p q r s t u v w x,WU a b c d e f g h i j k l m n o p q r s t u v w x:=by
 refine BK (GM KF)<|BK DM<|BK DM<|let_mvar%?n:=(λw A s prog E h₀ L env os x1 x2 p1 p2 tp kk body en it ax its R J m own=>?_:∀a b c d e f g h i j k l m n o p q r s t u v w x,WU a b c d e f g h i j k l m n o p q r s t u v w x);?n _ _ _ _ _ _ _ _ _ _ _ _ _ _ _ _ _ _ _ _ _ _ _ _
 intro hh hL hx1 hx2 hp hsrc step done hJ F N hos hb hen hit hei en0 it0 off;subst hL;refine kK hen ?_
 refine SA (λk s'=>EnuJ h₀ env os en it ax its J k s') ?_ its.size
  ⟨0,its.toList,m,own,.none,by simp,rfl,by simp,hJ,F,N,off,hen,hit,hos,hb⟩
 rintro k s' ⟨i,rem,m,own,old,rfl,hrem,zf,hJ,F',N',off,hen',hit',hos',hb'⟩;have hl':s'.heap.IsList ax its:=(hsrc _ _ _ _ hJ).list F'.keep N'
 cases rem with
 |nil =>
  refine Ez hh hen' hit' hl' ?_ λh₂ he₂=>?_
  ·have:its.size≤i:=by simp at zf;exact(Es zf)
   simp;exact this
  ·dsimp only
   exact Wp (done _ i m own hJ (PR F' he₂ (BG it0.2) it0.1) (λp hp=>⟨he₂ _ _ (off p hp).2 (N' p hp).1,(N' p hp).2⟩) hos' hb')
 |cons v rem =>
  have hlt':i<its.size:=by simp at zf;exact(Nt λhn1=>fk [_,_,_] (.e (.a V0 (.s V1)) V2 (.e V2 V0 K0)) rfl (El zf) hn1)
  have hget:its[i]?=AK v:=by
   rw[← FY];have:=BW (·[0]?) hrem;simp only[TO,XK,GJ] at this;exact this
  refine Ea hen' hit' hl' hget hei λh₂ heo₂ hit₂ htup hsz₂ hk₂=>?_;dsimp only;refine wK heo₂ λh₃ hen₃ hs₃=>?_;dsimp only at hs₃
  have nT:s'.heap.objs.size≠en:=AJ (BS hen')
  refine fQ hh ⟨_,hs₃.extBut _ _ nT htup,rfl,_,rfl⟩ rfl rfl λh₅ he₅=>?_;have k5:∀b o,h₃.get? b=AK o→h₅.get? b=AK o:=λb o e=>he₅ b o (AO (BS e)) e
  have k35:∀b o,b≠en→b≠it→s'.heap.get? b=AK o→h₅.get? b=AK o:=λb o b1 b2 e=>k5 b o (hs₃.extBut b o b1 (hk₂ b o b1 b2 e))
  have hL0:h₀.get? env.locals=BN:=EA F'.above
  have F5:Fr h₀ env.locals h₅ m:=by
   refine⟨?_,λb o e=>?_,F'.above⟩
   ·obtain⟨oL,es,ep,e1,r⟩:=F'.ns
    exact⟨oL,es,ep,k35 _ _ (BG en0.2) (BG it0.2) e1,r⟩
   ·refine k35 b o (λz=>?_) (λz=>?_) (F'.keep b o e)
    ·rw[z,en0.1] at e;cases e
    ·rw[z,it0.1] at e;cases e
  have str:∀{h h':CW}{m:AX→AM AC}{m':AX→AM AC},Fr h₀ env.locals h m→h'.Ns env.locals m'→IF env.locals h h'→Fr h₀ env.locals h' m':=λF hn hs=>⟨hn,λb o e=>hs.extBut b o (λq=>by rw[q,hL0] at e;cases e) (F.keep b o e),F.above⟩
  refine MA (FP (EN hx1 F5.ns (λh₆ hn₆ hs₆=>?_) hp))
  have F6:=str F5 hn₆ hs₆
  refine MA (FP (EN hx2 F6.ns (λh₇ hn₇ hs₇=>?_) hp))
  have F7:=str F6 hn₇ hs₇;refine iU ?_
  have k7:∀b o,b≠en→b≠it→b≠env.locals→s'.heap.get? b=AK o→h₇.get? b=AK o:=λb o b1 b2 b3 e=>hs₇.extBut b o b3 (hs₆.extBut b o b3 (k35 b o b1 b2 e))
  have hen₇:VN h₇ en it ((i:EE)+1) v:=hs₇.extBut _ _ en0.2 (hs₆.extBut _ _ en0.2 (k5 _ _ hen₃))
  have hit₇:h₇.IsListIter it ax (i+1):=by
   obtain⟨o,e1,r⟩:=hit₂;exact⟨o,hs₇.extBut _ _ it0.2 (hs₆.extBut _ _ it0.2 (k5 _ _ (hs₃.extBut _ _ (BG hei) e1))),r⟩
  obtain⟨oE,heE,hbE⟩:∃o,h₇.get? en=AK o∧∀h':CW,h'.get? en=AK o→VN h' en it ((i:EE)+1) v:=⟨_,hen₇,λ_ e=>e⟩;obtain⟨oI,heI,hcI,hdI⟩:=id hit₇
  have N₇:AY h₀ env.locals h₇ ((en,oE)::(it,oI)::own):=by
   refine Fc ⟨heE,en0.2,en0.1⟩ (Fc ⟨heI,it0.2,it0.1⟩ λp hp=>?_)
   have z:=N' p hp;exact⟨k7 _ _ (off p hp).1 (off p hp).2 z.2.1 z.1,z.2⟩
  refine DI (step _ v i s'.toks rem m own oE oI hJ F7 N₇ off hos' hb') (λf s₄ h₄=>?_) λ_ _ z=>z
  cases f with
  |brk=>exact h₄
  |ret v=>exact h₄
  |_ =>
   obtain⟨m'',own',hJ',F₄,N₄,off₄,hos₄,hb₄⟩:=h₄;refine⟨rem.length,CM _,i+1,rem,m'',own',v,rfl,?_,by simp at zf ⊢;exact(DG (Nl λhn2=>fk [_,_,_] (.e (.a V0 (.s V1)) V2 (.e (.s V2) (.a (.s V0) V1) K0)) rfl (El zf) hn2) (Nl λhn3=>fk [_,_,_] (.e V0 (.a V1 (.s V2)) (.e (.a (.a (.s V1) V2) K1) V0 K0)) rfl (Es zf) hn3)),hJ',F₄,λp hp=>N₄ p (.tail _ (.tail _ hp)),off₄,hbE _ (N₄ (en,oE) (.head _)).1,⟨oI,(N₄ (it,oI) (.tail _ (.head _))).1,hcI,hdI⟩,hos₄,hb₄⟩;rw[← TN,hrem];rfl
theorem yE{w A s prog E h₀ L env os x1 x2 p1 p2 tp kk body en it ax its R m own}(J):WU w A s prog E h₀ L env os x1 x2 p1 p2 tp kk body en it ax its R J m own:=jB _ _ _ _ _ _ _ _ _ _ _ _ _ _ _ _ _ _ _ _ _ _ _ _
end
section
open PyProof.Rows.LCg
inductive RevJ (h₀:CW) (env:XH) (os:CU) (I:AH) (ax:AH) (vs:AE AC) (J:AE AC→(AX→AM AC)→AE (AH×CY)→Prop) (k:CC) (s':AG):Prop
 |mk (rem:AE AC) (m:AX→AM AC) (own:AE (AH×CY)) (oI:CY) (h0:k=rem.length) (h1:rem.length≤vs.length) (h2:rem=(vs.take rem.length).reverse) (h3:J rem m own) (h4:Fr h₀ env.locals s'.heap m) (h5:AY h₀ env.locals s'.heap ((I,oI)::own)) (h6:(∀p∈own,p.1≠I)) (h7:s'.heap.IsRevIter I ax ((rem.length:EE)-1)) (h8:s'.os=os) (h9:BP s'.gens):RevJ h₀ env os I ax vs J k s'
noncomputable def ZR(w:BU)(A:BQ)(s:AG)(prog:BH)(E:AC→AG→Prop)(h₀:CW)(L:AH)(env:XH)(os:CU)(x:AX)(px:OP)(body:AE cP)(I ax:AH)(vs:AE AC)(R:FE→AG→Prop)(J:AE AC→(AX→AM AC)→AE (AH×CY)→Prop)(m:AX→AM AC)(own:AE (AH×CY)):Prop :=
 ∀(hh:A.handled=BN)(hL:env.locals=L)(hx:env.kindOf x=AK .local)(hp:(env.scope.kind==.class||(env.scope.kind==.module&&env.locals !=env.globals))=AU)(hsrc:∀rem m own,J rem m own→RZ h₀ ax vs.toArray own)
  (step:∀(s1:AG)v rem m own oI,J (v::rem) m own→Fr h₀ L s1.heap (λy=>if y=x then AK v else m y)→AY h₀ L s1.heap ((I,oI)::own)→(∀p∈own,p.1≠I)→s1.os=os→BP s1.gens →
   AI (BE prog w) A (EZ body env) (λf s3=>match f with
    |.next|.cont=>∃m'' own',J rem m'' own'∧Fr h₀ L s3.heap m''∧AY h₀ L s3.heap ((I,oI)::own')∧(∀p∈own',p.1≠I)∧s3.os=os∧BP s3.gens
    |.brk=>R (.ok .next) s3
    |.ret v=>R (.ok (.ret v)) s3) (SU (BE prog w) A env λe s'=>R (.error e) s') s1)
  (done:∀(s1:AG)m own,J [] m own→Fr h₀ L s1.heap m→AY h₀ L s1.heap own→s1.os=os→BP s1.gens→R (.ok .next) s1) (hJ:J vs.reverse m own) (F:Fr h₀ L s.heap m) (N:AY h₀ L s.heap ((I,nN ax ((vs.length:EE)-1))::own)) (off:∀p∈own,p.1≠I) (hne:ax≠I) (hos:s.os=os) (hb:BP s.gens),AI (BE prog w) A (IY (.ref I)) (λitv s₁=>DV (BE prog w) A (.forLoop (.Name x px) itv body [] env) R s₁) E s
theorem lX:∀a b c d e f g h i j k l m n o p q r s,ZR a b c d e f g h i j k l m n o p q r s:=by
 refine BK (GM KF)<|BK DM<|OY DM<|let_mvar%?n:=(λw A s prog E h₀ L env os x px body I ax vs R J m own=>?_:∀a b c d e f g h i j k l m n o p q r s,ZR a b c d e f g h i j k l m n o p q r s);?n _ _ _ _ _ _ _ _ _ _ _ _ _ _ _ _ _ _ _
 intro hh hL hx hp hsrc step done hJ F N off hne hos hb;subst hL
 have hI0:=N _ (.head _)
 have hit0:s.heap.IsRevIter I ax ((vs.length:EE)-1):=⟨_,hI0.1,rfl,by simp[nN]⟩;refine cC hit0 ?_
 refine SA (λk s'=>RevJ h₀ env os I ax vs J k s') ?_ vs.length
  ⟨vs.reverse,m,own,_,by simp,by simp,by simp,hJ,F,N,off,by rw[LG];exact hit0,hos,hb⟩
 rintro k s' ⟨rem,m,own,oI,rfl,hle,hrem,hJ,F',N',off,hit,hos',hb'⟩
 have hl':s'.heap.IsList ax vs.toArray:=(hsrc _ _ _ hJ).list F'.keep λp hp=>N' p (.tail _ hp)
 cases rem with
 |nil =>
  refine Fv hh hit λh₂ he₂=>?_;dsimp only
  exact Wp (done _ m own hJ (PR F' he₂ (BG hI0.2.1) hI0.2.2) (λp hp=>⟨he₂ _ _ (off p hp) (N' p (.tail _ hp)).1,(N' p (.tail _ hp)).2⟩) hos' hb')
 |cons v rem =>
  have hget:vs[rem.length]?=AK v:=by
   have:=BW (λl=>l.reverse[rem.length]?) hrem;simp only[UV,AE.reverse_reverse,CD] at this;rw[NH (by simp),AE.getElem?_take] at this;simp at this;exact this.symm
  have hit':s'.heap.IsRevIter I ax (rem.length:EE):=by
   have e:(((v::rem).length:EE)-1)=rem.length:=by simp
   rw[e] at hit;exact hit
  refine Fb hit' hl' (by simpa using hget) λh₂ hit₂ hs₂=>?_;dsimp only;show AI _ _ (pure ()) _ _ _;refine Wp ?_;have F₂:=PR F' hs₂.extBut (BG hI0.2.1) hI0.2.2
  refine FP (EN hx F₂.ns (λh₃ hn₃ hs₃=>?_) hp)
  have hL0:h₀.get? env.locals=BN:=EA F'.above;have F₃:Fr h₀ env.locals h₃ (λy=>if y=x then AK v else m y):=⟨hn₃,λb o e=>hs₃.extBut b o (λq=>by rw[q,hL0] at e;cases e) (F₂.keep b o e),F₂.above⟩;have hit₃:h₃.IsRevIter I ax ((rem.length:EE)-1):=hit₂.at λo e=>hs₃.extBut _ _ hI0.2.1 e
  obtain⟨oI',heI,hbI⟩:∃o,h₃.get? I=AK o∧∀h':CW,h'.get? I=AK o→h'.IsRevIter I ax ((rem.length:EE)-1):=by
   obtain⟨o,e1,r⟩:=hit₃;exact⟨o,e1,λ_ e=>⟨o,e,r⟩⟩
  have N₃:AY h₀ env.locals h₃ ((I,oI')::own):=Fc ⟨heI,hI0.2.1,hI0.2.2⟩ λp hp=>by
   have z:=N' p (.tail _ hp)
   exact⟨hs₃.extBut _ _ z.2.1 (hs₂.extBut _ _ (off p hp) z.1),z.2⟩
  have hlt:rem.length<vs.length:=hle
  have hrem2:rem=(vs.take rem.length).reverse:=by
   have h2:=hrem;rw[CD,PC hlt,RY] at h2;simp only[UV,AE.reverse_nil,DB,DQ,MG] at h2;exact h2.2
  refine DI (step _ v rem m own oI' hJ F₃ N₃ off hos' hb') (λf s₄ h₄=>?_) λ_ _ z=>z
  cases f with
  |brk=>exact h₄
  |ret v=>exact h₄
  |_ =>
   obtain⟨m'',own',hJ',F₄,N₄,off₄,hos₄,hb₄⟩:=h₄;exact⟨rem.length,CM _,rem,m'',own',oI',rfl,EU hlt,hrem2,hJ',F₄,N₄,off₄,hbI _ (N₄ (I,oI') (.head _)).1,hos₄,hb₄⟩
theorem Cf{w A s prog E h₀ L env os x px body I ax vs R m own}(J):ZR w A s prog E h₀ L env os x px body I ax vs R J m own:=lX _ _ _ _ _ _ _ _ _ _ _ _ _ _ _ _ _ _ _
end
section
open PyProof.Rows.LCg
/-! the loops again;the turn's ends are named,so that its goal stays small -/
noncomputable def lU(w:BU)(A:BQ)(s:AG)(prog:BH)(E:AC→AG→Prop)(h₀:CW)(L:AH)(env:XH)(os:CU)(x1 x2:AX)(p1 p2 tp:OP)(kk:CC)(body:AE cP)(en it ax:AH)(its:CE AC)(R:FE→AG→Prop)(J:CC→AE AC→(AX→AM AC)→AE (AH×CY)→Prop)(m:AX→AM AC)(own:AE (AH×CY)):Prop :=
 ∀(hh:A.handled=BN)(hL:env.locals=L)(hx1:env.kindOf x1=AK .local)(hx2:env.kindOf x2=AK .local)(hp:(env.scope.kind==.class||(env.scope.kind==.module&&env.locals !=env.globals))=AU)(hsrc:∀i rem m own,J i rem m own→RZ h₀ ax its own)
  (step:∀(Q8:WG→AG→Prop)(E8:AC→AG→Prop)(s1:AG)v i t rem m own oE oI,J i (v::rem) m own→Fr h₀ L s1.heap (λy=>if y=x2 then AK v else if y=x1 then AK (.int (i:EE) t) else m y)→AY h₀ L s1.heap ((en,oE)::(it,oI)::own)→(∀p∈own,p.1≠en∧p.1≠it)→s1.os=os→BP s1.gens →
   (∀s3,(∃m'' own',J (i+1) rem m'' own'∧Fr h₀ L s3.heap m''∧AY h₀ L s3.heap ((en,oE)::(it,oI)::own')∧(∀p∈own',p.1≠en∧p.1≠it)∧s3.os=os∧BP s3.gens)→Q8 .next s3)→AI (BE prog w) A (EZ body env) Q8 E8 s1)
  (done:∀(s1:AG)i m own,J i [] m own→Fr h₀ L s1.heap m→AY h₀ L s1.heap own→s1.os=os→BP s1.gens→R (.ok .next) s1) (hJ:J 0 its.toList m own) (F:Fr h₀ L s.heap m) (N:AY h₀ L s.heap own) (hos:s.os=os) (hb:BP s.gens)
  (hen:VN s.heap en it 0 .none) (hit:s.heap.IsListIter it ax 0) (hei:en≠it) (en0:h₀.get? en=BN∧en≠L) (it0:h₀.get? it=BN∧it≠L) (off:∀p∈own,p.1≠en∧p.1≠it),AI (BE prog w) A (IY (.ref en)) (λitv s₁=>DV (BE prog w) A (.forLoop (.Tuple [.Name x1 p1,.Name x2 p2] kk tp) itv body [] env) R s₁) E s
theorem uI{w A s prog E h₀ L env os x1 x2 p1 p2 tp kk body en it ax its R m own}(J):lU w A s prog E h₀ L env os x1 x2 p1 p2 tp kk body en it ax its R J m own :=
 λhh hL hx1 hx2 hp hsrc step done hJ F N hos hb hen hit hei en0 it0 off=>yE J hh hL hx1 hx2 hp hsrc (λs1 v i t rem m own oE oI h1 h2 h3 h4 h5 h6=>step _ _ s1 v i t rem m own oE oI h1 h2 h3 h4 h5 h6 λs3 h=>h) done hJ F N hos hb hen hit hei en0 it0 off
noncomputable def qD(w:BU)(A:BQ)(s:AG)(prog:BH)(E:AC→AG→Prop)(h₀:CW)(L:AH)(env:XH)(os:CU)(x:AX)(px:OP)(body:AE cP)(I ax:AH)(vs:AE AC)(R:FE→AG→Prop)(J:AE AC→(AX→AM AC)→AE (AH×CY)→Prop)(m:AX→AM AC)(own:AE (AH×CY)):Prop :=
 ∀(hh:A.handled=BN)(hL:env.locals=L)(hx:env.kindOf x=AK .local)(hp:(env.scope.kind==.class||(env.scope.kind==.module&&env.locals !=env.globals))=AU)(hsrc:∀rem m own,J rem m own→RZ h₀ ax vs.toArray own)
  (step:∀(Q8:WG→AG→Prop)(E8:AC→AG→Prop)(s1:AG)v rem m own oI,J (v::rem) m own→Fr h₀ L s1.heap (λy=>if y=x then AK v else m y)→AY h₀ L s1.heap ((I,oI)::own)→(∀p∈own,p.1≠I)→s1.os=os→BP s1.gens →
   (∀s3,(∃m'' own',J rem m'' own'∧Fr h₀ L s3.heap m''∧AY h₀ L s3.heap ((I,oI)::own')∧(∀p∈own',p.1≠I)∧s3.os=os∧BP s3.gens)→Q8 .next s3)→AI (BE prog w) A (EZ body env) Q8 E8 s1)
  (done:∀(s1:AG)m own,J [] m own→Fr h₀ L s1.heap m→AY h₀ L s1.heap own→s1.os=os→BP s1.gens→R (.ok .next) s1) (hJ:J vs.reverse m own) (F:Fr h₀ L s.heap m) (N:AY h₀ L s.heap ((I,nN ax ((vs.length:EE)-1))::own)) (off:∀p∈own,p.1≠I) (hne:ax≠I) (hos:s.os=os) (hb:BP s.gens),AI (BE prog w) A (IY (.ref I)) (λitv s₁=>DV (BE prog w) A (.forLoop (.Name x px) itv body [] env) R s₁) E s
theorem yF{w A s prog E h₀ L env os x px body I ax vs R m own}(J):qD w A s prog E h₀ L env os x px body I ax vs R J m own :=
 λhh hL hx hp hsrc step done hJ F N off hne hos hb=>Cf J hh hL hx hp hsrc (λs1 v rem m own oI h1 h2 h3 h4 h5 h6=>step _ _ s1 v rem m own oI h1 h2 h3 h4 h5 h6 λs3 h=>h) done hJ F N off hne hos hb
noncomputable def lW(w:BU)(A:BQ)(s:AG)(prog:BH)(E:AC→AG→Prop)(h₀:CW)(L:AH)(env:XH)(os:CU)(x:AX)(px:OP)(body:AE cP)(ax:AH)(its:CE AC)(R:FE→AG→Prop)(J:AE AC→(AX→AM AC)→AE (AH×CY)→Prop)(m:AX→AM AC)(own:AE (AH×CY)):Prop :=
 ∀(hh:A.handled=BN)(hL:env.locals=L)(hx:env.kindOf x=AK .local)(hp:(env.scope.kind==.class||(env.scope.kind==.module&&env.locals !=env.globals))=AU)(hsrc:∀rem m own,J rem m own→RZ h₀ ax its own)
  (step:∀(Q8:WG→AG→Prop)(E8:AC→AG→Prop)(s1:AG)v rem m own I oI,J (v::rem) m own→Fr h₀ L s1.heap (λy=>if y=x then AK v else m y)→AY h₀ L s1.heap ((I,oI)::own)→(∀p∈own,p.1≠I)→s1.os=os→BP s1.gens →
   (∀s3,(∃m'' own',J rem m'' own'∧Fr h₀ L s3.heap m''∧AY h₀ L s3.heap ((I,oI)::own')∧(∀p∈own',p.1≠I)∧s3.os=os∧BP s3.gens)→Q8 .next s3)→AI (BE prog w) A (EZ body env) Q8 E8 s1)
  (done:∀(s1:AG)m own,J [] m own→Fr h₀ L s1.heap m→AY h₀ L s1.heap own→s1.os=os→BP s1.gens→R (.ok .next) s1) (hJ:J its.toList m own) (F:Fr h₀ L s.heap m) (N:AY h₀ L s.heap own) (hos:s.os=os) (hb:BP s.gens),AI (BE prog w) A (IY (.ref ax)) (λitv s₁=>DV (BE prog w) A (.forLoop (.Name x px) itv body [] env) R s₁) E s
theorem uJ{w A s prog E h₀ L env os x px body ax its R m own}(J):lW w A s prog E h₀ L env os x px body ax its R J m own:=by
 intro hh hL hx hp hsrc step done hJ F N hos hb;subst hL;refine RM J (λown v m m'=>m'=λy=>if y=x then AK v else m y) hh hsrc (λI i v s1 Q E' _ _ hq=>Wp hq) (λs1 v rem m own news Q E' _ _ F1 N1 hq=>?_) (λs1 v rem m m' own I oI h1 h2 h3 h4 h5 h6 h7=>by subst h2;exact step _ _ s1 v rem m own I oI h1 h3 h4 h5 h6 h7 λs3 h=>h) done hJ F N hos hb;have hL0:h₀.get? env.locals=BN:=EA F1.above
 refine FP (EN hx F1.ns (λh₃ hn₃ hs₃=>?_) hp)
 exact hq h₃ _ _ ⟨hn₃,λb o e=>hs₃.extBut b o (λq=>by rw[q,hL0] at e;cases e) (F1.keep b o e),F1.above⟩ (λp hp=>⟨hs₃.extBut _ _ (N1 p hp).2.1 (N1 p hp).1,(N1 p hp).2⟩) rfl
end
theorem rs18:True∧True:=by
 (try walk1);(try w_top off)
 all_goals (first | trivial | exact ⟨trivial,trivial⟩)
section

open PyProof.Rows.LCg
noncomputable abbrev Dz:KO:={ kind:=.function,names:=[(".0",.local),("sign",.local)],isGenerator:=AU,isCoroutine:=AU,more:=[] }
theorem vR:signs (AA "abcdefghijk")=([AA "a",AA "b",AA "c",AA "d",AA "e",AA "f",AA "g",AA "h",AA "i",AA "j",AA "k"]:AE AX):=by decide +kernel
theorem XU:∀{ys:AE AC}{l:AE AX},CarriedAll ys (l.map .str)→∃q:AE (AX×DW),ys=AF q∧q.map (·.1)=l
 |_,[],.nil=>⟨[],rfl,rfl⟩
 |_,a::l,.cons h t=>by
  obtain⟨q,e1,e2⟩:=XU t
  cases h with
  |str x tk=>exact⟨(a,tk)::q,by rw[e1];rfl,by rw[EC,e2]⟩
theorem wI{w:BU}{A:BQ}{E:AC→AG→Prop}{s:AG}{h₀:CW}{L:AH}{m:AX→AM AC}{news:AE (AH×CY)}{env:XH}{px p1 p2 p3 p4 pos:OP}{Q:AC→AG→Prop}(hh:A.handled=BN)(F:Fr h₀ L s.heap m)(N:AY h₀ L s.heap news)
  (h:∀(D:AH)(q:AE (AX×DW))(c:CC)h' tk,q.map (·.1)=HL.take 11→Fr h₀ L h' m→AY h₀ L h' ((D,listOf (AF q).toArray c)::news)→Q (.ref D) { s with heap:=h',toks:=tk }) :
  AI (BE rw_dn0283_07.row.prog w) A (eval (.ListComp (.BinOp (.Constant (.str "urn:") 0 p1) .Add (.Name "sign" p2) p3) [⟨.Name "sign" px,.Constant (.str "abcdefghijk") 0 p4,[],0⟩] Dz pos) env) Q E s:=by
 refine wpAny_ListComp_walk (Bh.lift λ_=>BC) (λv r=>∃a,Bh.is a v∧Carried r (.str (AA "urn:"++a))) (by decide) (by decide) rfl (by decide) rfl ?_ (λ_=>rfl)
 repeat'((fail_if_success (with_reducible show AI _ _ (IY _) _ _ _));walk_at "go")
 refine wpAny_pyIter_str λo St W hst=>?_
 have old:∀{h:CW}{b:AH}{o':CY},(∀b o',b∉[s.heap.objs.size]→(s.heap.push o).get? b=AK o'→h.get? b=AK o')→s.heap.get? b=AK o'→h.get? b=AK o':=λk e =>
  k _ _ (λz=>absurd (BS e) (by rw[BB.mp z];exact QJ _)) (AV _ e)
 refine⟨s.heap.objs.size,[s.heap.objs.size],[s.heap.objs.size],_,SignAt "abcdefghijk",St,rfl,W A hh,by rw[BI];decide,hst,?_,⟨?_,?_⟩,?_⟩
 ·intro b hb
  rw[BB.mp hb,FT];exact CM _
 ·intro C i v s₃ m₃ E' hP hn hm _ _
  obtain⟨c,u,_,rfl⟩:=hP;have ha:Bh.is ⟨#[c]⟩ (.str ⟨#[c]⟩ u):=⟨u,rfl⟩
  repeat'(walk_at "go")
  ·rw[ItemKind.lift_is ha]
  ·exact⟨_,_,rfl,λ_ _ e=>e⟩
 ·intro C i v s₃ m₃ E' hP _ hn hm _ _
  obtain⟨c,u,_,rfl⟩:=hP
  repeat'(walk_at "go")
  ·exact⟨⟨#[c]⟩,⟨u,rfl⟩,.str _ _⟩
  ·exact⟨_,_,rfl,λ_ _ e=>e⟩
 ·intro D h' tk ys vs hD _ hl hn hP hF hk
  have hc:=(areOf_signs hn hP).paired (λ_=>BC) (λx=>.str (AA "urn:"++x)) _ hF;rw[vR] at hc;obtain⟨q,e1,e⟩:=XU (l:=HL.take 11) hc
  have el:ys=(AF q).toArray:=by rw[← e1,bJ]
  rw[el] at hl
  have hD0:s.heap.get? D=BN:=by
   cases e:s.heap.get? D with
   |none=>rfl
   |some o'=>rw[AV _ e] at hD;cases hD
  obtain⟨c,hl⟩:=hl;refine h D q c h' tk e (F.keeps λb o' e'=>old hk e') λp hp=>?_;rcases AP.mp hp with rfl|hp
  ·refine⟨hl,λz=>?_,?_⟩
   ·obtain⟨oL,_,_,eL,_⟩:=F.ns
    have z':D=L:=z;rw[z',eL] at hD0;cases hD0
   ·cases e:h₀.get? D with
    |none=>rfl
    |some o'=>rw[F.keep _ _ e] at hD0;cases hD0
  ·exact N.grown (λb o' e'=>old hk e') p hp
end
section

noncomputable def PS(N:AE Pr)(CS:AE DC)(pn i:CC):EE:=if pn<i then(((GW N).run (CS.take pn)).hush.out.length:CC) else 0
noncomputable abbrev OH(M0:AX→AM AC)(u1 u2:AM AC)(mv:AC):AX→AM AC:=λy=>if y=AA "mark" then AK mv else if y=AA "call" then u2 else if y=AA "at" then u1 else M0 y
theorem cX{m M0:AX→AM AC}{mv:AC}(h1:m (AA "mark")=AK mv)(h2:∀y,y≠AA "mark"→y≠AA "call"→y≠AA "at"→m y=M0 y):m=OH M0 (m (AA "at")) (m (AA "call")) mv:=by
 funext y
 show m y=if _ then _ else _
 by_cases e1:y=AA "mark"
 ·rw[DJ e1,e1,h1]
 ·rw[CA e1]
  by_cases e2:y=AA "call"
  ·rw[DJ e2,e2]
  ·rw[CA e2]
   by_cases e3:y=AA "at"
   ·rw[DJ e3,e3]
   ·rw[CA e3];exact h2 y e1 e2 e3
inductive EnumJ (W:BU) (M0:AX→AM AC) (x out:AH) (CS:AE DC) (N:AE Pr) (pn:CC) (rest:AE (AH×CY)) (i:CC) (rem:AE AC) (m:AX→AM AC) (own:AE (AH×CY)):Prop
 |mk (cs1 cs2:AE DC) (f:FD) (cap:CC) (tabs:AE (AH×CY)) (u1 u2:AM AC) (t:DW) (h0:CS=cs1++cs2) (hi:cs1.length=i) (h1:All2 (HP W rest) rem cs2) (h2:m=OH M0 u1 u2 (.int (PS N CS pn i) t)) (h3:f.key=(out,BC,cap,CT cs1)) (hc:cap≤7+i) (h4:f.Is W ((GW N).run cs1) x) (h5:f.Off x tabs) (h6:bM tabs) (h7:Fit (12+cs1.length) ((GW N).run cs1)) (h8:SF ((GW N).run cs1) (CT cs1) cs2) (h9:own=f.own ((GW N).run cs1) x++tabs++rest) (h10:MX (f.own ((GW N).run cs1) x++tabs) rest):EnumJ W M0 x out CS N pn rest i rem m own
theorem EnumJ.elim_{W:BU}{M0:AX→AM AC}{x out:AH}{CS:AE DC}{N:AE Pr}{pn:CC}{rest:AE (AH×CY)}{i:CC}{rem:AE AC}{m:AX→AM AC}{own:AE (AH×CY)}{G:Prop}(h:EnumJ W M0 x out CS N pn rest i rem m own)
  (k:∀(cs1 cs2:AE DC)(f:FD)(cap:CC)(tabs:AE (AH×CY))(u1 u2:AM AC)(t:DW),CS=cs1++cs2→cs1.length=i→All2 (HP W rest) rem cs2→m=OH M0 u1 u2 (.int (PS N CS pn i) t)→f.key=(out,BC,cap,CT cs1)→cap≤7+i→f.Is W ((GW N).run cs1) x→f.Off x tabs→bM tabs→Fit (12+cs1.length) ((GW N).run cs1)→SF ((GW N).run cs1) (CT cs1) cs2→own=f.own ((GW N).run cs1) x++tabs++rest→MX (f.own ((GW N).run cs1) x++tabs) rest→G):G :=
 h.casesOn k
theorem EnumJ.src{W:BU}{M0:AX→AM AC}{x out:AH}{CS:AE DC}{N:AE Pr}{pn:CC}{rest:AE (AH×CY)}{i:CC}{rem:AE AC}{m:AX→AM AC}{own:AE (AH×CY)}(h:EnumJ W M0 x out CS N pn rest i rem m own){p:AH×CY}(hp:p∈rest):p∈own:=by
 obtain⟨cs1,cs2,f,cap,tabs,u1,u2,t,h0,hi,h1,h2,h3,hc,h4,h5,h6,h7,h8,h9,h10⟩:=h;rw[h9];exact Mr _ hp
section
variable{W:BU}{g:CW}{L en it x out:AH}{oE oI:CY}{CS cs1 cs2:AE DC}{c:DC}{N:AE Pr}{pn i cap':CC}{os:CU}{m M0:AX→AM AC}{rest zp:AE (AH×CY)}{rem:AE AC}{s':AG}{f':FD}{t:DW}
theorem uB(e:CS=cs1++c::cs2)(hi:cs1.length=i)(hr:All2 (HP W rest) rem cs2)(hm1:m (AA "mark")=AK (.int (PS N CS pn (i+1)) t))(hm2:∀y,y≠AA "mark"→y≠AA "call"→y≠AA "at"→m y=M0 y)(ho:f'.key=(out,BC,cap',CT (cs1++[c])))(hc:cap'≤7+(i+1))(hI:f'.Is W (((GW N).run cs1).tell c) x)(hT:f'.Off x zp)(hLT:bM zp)
  (hf:Fit (12+cs1.length) ((GW N).run cs1)) (hrf:SF ((GW N).run cs1) (CT cs1) (c::cs2)) (F:Fr g L s'.heap m) (NW:AY g L s'.heap (f'.own (((GW N).run cs1).tell c) x++zp++((en,oE)::(it,oI)::rest))) (dis:MX (f'.own (((GW N).run cs1).tell c) x++zp) ((en,oE)::(it,oI)::rest))
  (nI:∀p∈rest,p.1≠en∧p.1≠it) (o1:s'.os=os) (b1:BP s'.gens) :
  ∃m'' own',EnumJ W M0 x out CS N pn rest (i+1) rem m'' own'∧Fr g L s'.heap m''∧AY g L s'.heap ((en,oE)::(it,oI)::own')∧(∀p∈own',p.1≠en∧p.1≠it)∧s'.os=os∧BP s'.gens:=by
 refine⟨m,f'.own (((GW N).run cs1).tell c) x++zp++rest,⟨cs1++[c],cs2,f',cap',zp,_,_,t,by rw[e];simp,by rw[BD,hi];rfl,hr,cX hm1 hm2,ho,hc,?_,hT,hLT,?_,?_,?_,?_⟩,F,AY.sub NW ?_,?_,o1,b1⟩
 ·rw[MQ];exact hI
 ·rw[MQ,BD]
  exact hf.tell hrf.1.1
 ·rw[MQ,HR];exact hrf.2
 ·rw[MQ]
 ·rw[MQ];exact λp hp q hq=>dis p hp q (.tail _ (.tail _ hq))
 ·exact Fc (Mr _ (.head _)) (Fc (Mr _ (.tail _ (.head _))) (Fp (λ_ z=>Ml _ z) (λ_ z=>Mr _ (.tail _ (.tail _ z)))))
 ·exact Fp (λp z=>⟨dis p z (en,oE) (.head _),dis p z (it,oI) (.tail _ (.head _))⟩) nI
end
inductive TellJ (W:BU) (M0:AX→AM AC) (x out:AH) (cap:CC) (cs:AE DC) (rest:AE (AH×CY)) (w0:WS) (n0:CC) (rem:AE AC) (m:AX→AM AC) (own:AE (AH×CY)):Prop
 |mk (cs1 cs2:AE DC) (f:FD) (tabs:AE (AH×CY)) (u:AM AC) (h0:cs=cs1++cs2) (h1:All2 (HP W rest) rem cs2) (h2:m=(λy=>if y=AA "call" then u else M0 y)) (h3:f.key=(out,AU,cap,[])) (h4:f.Is W (w0.run cs1) x) (h5:f.Off x tabs) (h6:bM tabs) (h7:Fit (n0+cs1.length) (w0.run cs1)) (h8:KN (w0.run cs1) cs2) (h9:own=f.own (w0.run cs1) x++tabs++rest) (h10:MX (f.own (w0.run cs1) x++tabs) rest):TellJ W M0 x out cap cs rest w0 n0 rem m own
theorem TellJ.elim_{W:BU}{M0:AX→AM AC}{x out:AH}{cap:CC}{cs:AE DC}{rest:AE (AH×CY)}{w0:WS}{n0:CC}{rem:AE AC}{m:AX→AM AC}{own:AE (AH×CY)}{G:Prop}(h:TellJ W M0 x out cap cs rest w0 n0 rem m own)
  (k:∀(cs1 cs2:AE DC)(f:FD)(tabs:AE (AH×CY))(u:AM AC),cs=cs1++cs2→All2 (HP W rest) rem cs2→m=(λy=>if y=AA "call" then u else M0 y)→f.key=(out,AU,cap,[])→f.Is W (w0.run cs1) x→f.Off x tabs→bM tabs→Fit (n0+cs1.length) (w0.run cs1)→KN (w0.run cs1) cs2→own=f.own (w0.run cs1) x++tabs++rest→MX (f.own (w0.run cs1) x++tabs) rest→G):G:=h.casesOn k
theorem TellJ.src{W:BU}{M0:AX→AM AC}{x out:AH}{cap:CC}{cs:AE DC}{rest:AE (AH×CY)}{w0:WS}{n0:CC}{rem:AE AC}{m:AX→AM AC}{own:AE (AH×CY)}(h:TellJ W M0 x out cap cs rest w0 n0 rem m own){p:AH×CY}(hp:p∈rest):p∈own:=by
 obtain⟨cs1,cs2,f,tabs,u,h0,h1,h2,h3,h4,h5,h6,h7,h8,h9,h10⟩:=h;rw[h9];exact Mr _ hp
section
variable{W:BU}{g:CW}{L I x out:AH}{oI:CY}{cs cs1 cs2:AE DC}{c:DC}{cap:CC}{os:CU}{m M0:AX→AM AC}{rest zp:AE (AH×CY)}{rem:AE AC}{s':AG}{f':FD}{w0:WS}{n0:CC}{u:AM AC}
theorem wB(e:cs=cs1++c::cs2)(hr:All2 (HP W rest) rem cs2)(hm:m=(λy=>if y=AA "call" then u else M0 y))(ho:f'.key=(out,AU,cap,[]))(hI:f'.Is W ((w0.run cs1).tell c) x)(hT:f'.Off x zp)(hLT:bM zp)
  (hf:Fit (n0+cs1.length) (w0.run cs1)) (hrf:KN (w0.run cs1) (c::cs2)) (F:Fr g L s'.heap m) (N:AY g L s'.heap (f'.own ((w0.run cs1).tell c) x++zp++((I,oI)::rest))) (dis:MX (f'.own ((w0.run cs1).tell c) x++zp) ((I,oI)::rest))
  (nI:∀p∈rest,p.1≠I) (o1:s'.os=os) (b1:BP s'.gens) :
  ∃m'' own',TellJ W M0 x out cap cs rest w0 n0 rem m'' own'∧Fr g L s'.heap m''∧AY g L s'.heap ((I,oI)::own')∧(∀p∈own',p.1≠I)∧s'.os=os∧BP s'.gens:=by
 refine⟨m,f'.own ((w0.run cs1).tell c) x++zp++rest,⟨cs1++[c],cs2,f',zp,u,by rw[e];simp,hr,hm,ho,?_,hT,hLT,?_,?_,?_,?_⟩,F,AY.sub N ?_,?_,o1,b1⟩
 ·rw[MQ];exact hI
 ·rw[MQ,BD]
  exact hf.tell hrf.1
 ·rw[MQ];exact hrf.2
 ·rw[MQ]
 ·rw[MQ];exact λp hp q hq=>dis p hp q (.tail _ hq)
 ·exact Fc (Mr _ (.head _)) (Fp (λ_ z=>Ml _ z) (λ_ z=>Mr _ (.tail _ z)))
 ·exact Fp (λp z=>dis p z (I,oI) (.head _)) nI
end
inductive SnsJ (W:BU) (M0:AX→AM AC) (x out:AH) (N:AE Pr) (rest:AE (AH×CY)) (rem:AE AC) (m:AX→AM AC) (own:AE (AH×CY)):Prop
 |mk (N1 N2:AE Pr) (f:FD) (cap:CC) (u:AM AC) (h0:N=N1++N2) (h1:All2 (λv q=>∃t,v=EW q.1 t) rem N2) (h2:m=(λy=>if y=AA "uri" then u else M0 y)) (h3:f.key=(out,AU,cap,[])) (hc:cap=7+N1.length) (h4:f.Is W (GW N1) x) (h9:own=f.own (GW N1) x++rest) (h10:MX (f.own (GW N1) x) rest):SnsJ W M0 x out N rest rem m own
theorem SnsJ.elim_{W:BU}{M0:AX→AM AC}{x out:AH}{N:AE Pr}{rest:AE (AH×CY)}{rem:AE AC}{m:AX→AM AC}{own:AE (AH×CY)}{G:Prop}(h:SnsJ W M0 x out N rest rem m own)
  (k:∀(N1 N2:AE Pr)(f:FD)(cap:CC)(u:AM AC),N=N1++N2→All2 (λv q=>∃t,v=EW q.1 t) rem N2→m=(λy=>if y=AA "uri" then u else M0 y)→f.key=(out,AU,cap,[])→cap=7+N1.length→f.Is W (GW N1) x→own=f.own (GW N1) x++rest→MX (f.own (GW N1) x) rest→G):G:=h.casesOn k
theorem SnsJ.src{W:BU}{M0:AX→AM AC}{x out:AH}{N:AE Pr}{rest:AE (AH×CY)}{rem:AE AC}{m:AX→AM AC}{own:AE (AH×CY)}(h:SnsJ W M0 x out N rest rem m own){p:AH×CY}(hp:p∈rest):p∈own:=by
 obtain⟨N1,N2,f,cap,u,h0,h1,h2,h3,hc,h4,h9,h10⟩:=h;rw[h9];exact Mr _ hp
end
section

theorem qI{prog:BH}{w:BU}{A:BQ}{E:AC→AG→Prop}{s:AG}{h₀:CW}{L d:AH}{o:CY}{m:AX→AM AC}{news:AE (AH×CY)}{pq:AE (AX×(AX×DW))}{Q:AC→AG→Prop}(hh:A.handled=BN)(F:Fr h₀ L s.heap m)(N:AY h₀ L s.heap news)(hd:(d,o)∈news)(hS:HY prog w o pq)(lo:(d==FB)=AU)(hz:pq.length≤100)
  (h:∀(D:AH)c h' tk(ks:AE (AX×DW)),ks.map (·.1)=pq.map (·.1)→Fr h₀ L h' m→AY h₀ L h' ((D,listOf (AF ks).toArray c)::news)→(∀q∈news,q.1<D)→Q (.ref D) { s with heap:=h',toks:=tk }):AI (BE prog w) A (DK (.type "list") [.ref d]) Q E s:=by
 have hD:=hS.at (N _ hd).1;obtain⟨ep,hda⟩:=hD.dictAt;have hkl:(pq.map λp=>(p.1,EW p.2.1 p.2.2)).length=pq.length:=AN _;refine kdl_N (kdl_dict (knd:=EL prog w) (kvs:=pq.map λp=>(p.1,EW p.2.1 p.2.2)) (ep:=ep) lo) hh F N hda (by rw[hkl,BI];exact AQ hz (by decide)) λB c h' tk vs F' N' l1 hl hv=>?_
 obtain⟨ks,rfl,e2⟩:=TB hl λj u hu=>by
  obtain⟨k,x,hx,hk⟩:=hv j u hu;exact⟨k,x,hx,cR hk⟩
 exact h B c h' tk ks (by rw[e2,GG];rfl) F' N' l1
end
section

theorem num_of{ks:AE AX}{pq:AE (AX×(AX×DW))}{q:Pr}{v:AX}{t:DW}(hK:KeysOk ks)(h:pq.map (λp=>(p.1,p.2.1))=numsOf ks)(hq:q∈NN ks)(hm:(q.1,(v,t))∈pq):v=q.2:=by
 have h1:(q.1,v)∈numsOf ks:=by
  rw[← h];exact CO.mpr ⟨_,hm,rfl⟩
 obtain⟨i,hi,e1⟩:=XB h1
 obtain⟨j,hj,e2⟩:=XB (show(q.1,q.2)∈numsOf ks from HV.mp hq)
 have hlt:i<ks.length:=by
  rcases JC i ks.length with z|z
  ·exact z
  ·rw[EM z] at hi;cases hi
 rw[e1,e2,(AE.getElem?_inj hlt hK.nd).mp (hi.trans hj.symm)]
theorem Cm{ks:AE AX}{pq:AE (AX×(AX×DW))}{q:Pr}(h:pq.map (λp=>(p.1,p.2.1))=numsOf ks)(hq:q∈NN ks):q.1∈pq.map (·.1):=by
 have h1:(q.1,q.2)∈numsOf ks:=HV.mp hq;rw[← h] at h1;obtain⟨p,hp,e⟩:=CO.mp h1;injection e with e1 e2;rw[← e1];exact BV hp
theorem jQ{w:WS}{ks:AE AX}{rw:CZ}(h:rw=AU)(c:DC):ZG rw w ks ks c:=by
 cases c with
 |start tag attrs=>intro z;rw[h] at z;cases z
 |_=>rfl
theorem Ak{M0:AX→AM AC}{u v:AM AC}:(λy:AX=>if y=AA "uri" then v else(λy=>if y=AA "uri" then u else M0 y) y)=λy:AX=>if y=AA "uri" then v else M0 y:=by
 funext y;by_cases h:y=AA "uri"
 ·rw[DJ h,DJ h]
 ·rw[CA h];dsimp only;rw[CA h,CA h]
section
variable{W:BU}{g:CW}{L I x out:AH}{oI:CY}{cap:CC}{os:CU}{m M0:AX→AM AC}{rest:AE (AH×CY)}{rem:AE AC}{s':AG}{f f':FD}{N N1 N2:AE Pr}{q:Pr}{u:AM AC}
theorem zW(e:N=N1++q::N2)(hr:All2 (λv(q:Pr)=>∃t,v=EW q.1 t) rem N2)(hm:m=(λy=>if y=AA "uri" then u else M0 y))(hk:f.key=(out,AU,cap,[]))(ho:f'.key=(f.out,f.rw,f.cap+1,f.ks))(hc:cap=7+N1.length)(hI:f'.Is W (RU f.rw (GW N1) q.2 q.1) x)(F:Fr g L s'.heap m)(NW:AY g L s'.heap (f'.own (RU f.rw (GW N1) q.2 q.1) x++((I,oI)::rest)))(hT:f'.Off x ((I,oI)::rest))
  (nI:∀p∈rest,p.1≠I) (o1:s'.os=os) (b1:BP s'.gens) :
  ∃m'' own',SnsJ W M0 x out N rest rem m'' own'∧Fr g L s'.heap m''∧AY g L s'.heap ((I,oI)::own')∧(∀p∈own',p.1≠I)∧s'.os=os∧BP s'.gens:=by
 have k1:f.rw=AU:=BW (λk:AH×CZ×CC×AE AX=>k.2.1) hk
 have e1:RU f.rw (GW N1) q.2 q.1=GW (N1++[q]):=by
  rw[k1];exact Eb N1 q.2 q.1
 rw[e1] at hI NW;have d:MX (f'.own (GW (N1++[q])) x) ((I,oI)::rest):=cF hT;refine⟨m,f'.own (GW (N1++[q])) x++rest,⟨N1++[q],N2,f',cap+1,u,by rw[e];simp,hr,hm,?_,?_,hI,rfl,λp hp r hr=>d p hp r (.tail _ hr)⟩,F,AY.sub NW ?_,?_,o1,b1⟩
 ·rw[ho,k1,show f.out=out from BW (λk:AH×CZ×CC×AE AX=>k.1) hk,show f.cap=cap from BW (λk:AH×CZ×CC×AE AX=>k.2.2.1) hk,show f.ks=[] from BW (λk:AH×CZ×CC×AE AX=>k.2.2.2) hk]
 ·rw[hc,BD];rfl
 ·exact Fc (Mr _ (.head _)) (Fp (λ_ z=>Ml _ z) (λ_ z=>Mr _ (.tail _ z)))
 ·exact Fp (λp z=>d p z (I,oI) (.head _)) nI
end
theorem Aa(cs:AE DC):(cs.foldl FZ []).length≤cs.length:=by
 have:=fA cs [];simpa using this
end
section

theorem mM{N:AE Pr}{CS:AE DC}{pn:CC}:PS N CS pn 0=0:=CA (CC.not_lt_zero _)
theorem xL{α β:Type}{P:α→β→Prop}{a:α}{l:AE α}{R:AE β}{G:Prop}(h:All2 P (a::l) R)(k:∀b r,P a b→All2 P l r→R=b::r→G):G:=by
 cases h with
 |cons h t=>exact k _ _ h t rfl
theorem aO{N:AE Pr}{CS:AE DC}{pn i:CC}(h:¬((i:EE)=(pn:EE))):PS N CS pn (i+1)=PS N CS pn i:=by
 unfold PS
 have h':i≠pn:=λe=>h (BW _ e)
 by_cases c:pn<i
 ·rw[DJ c,DJ (CX c)]
 ·rw[CA c,CA (λz=>c (CC.lt_of_le_of_ne (He z) (BG h')))]
theorem qL{N:AE Pr}{CS:AE DC}{pn i:CC}(h:(i:EE)=(pn:EE)):PS N CS pn (i+1)=(((GW N).run (CS.take pn)).hush.out.length:CC):=DJ (by have e:i=pn:=fJ.mp h;rw[e];exact CM _)
theorem uN{w:WS}{c:DC}(h:QM c=0):w.hush.tell c=w.tell c:=by
 cases c with
 |start tag attrs=>exact dG w tag attrs
 |_=>cases h
theorem xM{α β:Type}{P:α→β→Prop}{l:AE α}{r:AE β}(h:All2 P l r):All2 P l.reverse r.reverse:=by
 induction h with
 |nil=>exact .nil
 |cons h _ ih=>rw[UV,UV];exact ih.snoc h
noncomputable abbrev pH:BH:=rw_dn0283_07.row.prog
theorem gP{W:BU}{A:BQ}{s:AG}{E:AC→AG→Prop}{g:CW}{L:AH}{os:CU}{p:BH}{zw:AE AX}{zt:ER→AM AC}{mg mb:AX→AM AC}{env:XH}{M0:AX→AM AC}{x ax out:AH}{cap k n0:CC}{cs:AE DC}{vs:AE AC}{rest tabs:AE (AH×CY)}{w0:WS}{f:FD}{u:AM AC}{px:OP}{body:AE cP}{R:FE→AG→Prop}
  (X:(hd07.heap_1 W.params).In g) (T:VO p zw zt mg mb g) (hh:A.handled=BN) (zq:A.depth<500) (hu:A.units<7000) (C116:kP g 118 116) (hL:env.locals=L) (hx:env.kindOf (AA "call")=AK .local) (hp:(env.scope.kind==.class||(env.scope.kind==.module&&env.locals !=env.globals))=AU)
  (hw:∀(s1:AG)(a:AH)(u:AM AC)(news:AE (AH×CY))(Q:WG→AG→Prop)(E:AC→AG→Prop),Fr g L s1.heap (λy=>if y=AA "call" then AK (.ref a) else M0 y)→AY g L s1.heap news→AI (BE pH W) A (DK (.ref 175) [.ref x,.ref a]) (λ_ s'=>Q .next s') E s1→AI (BE pH W) A (EZ body env) Q E s1)
  (hax:(ax,listOf vs.toArray k)∈rest) (hvs:All2 (HP W rest) vs cs) (hkey:f.key=(out,AU,cap,[])) (hcap:cap≤1000) (hn:n0+cs.length≤100) (hI:f.Is W w0 x) (hT:f.Off x tabs) (hLT:bM tabs) (hf:Fit n0 w0) (hrf:KN w0 cs) (dis:MX (f.own w0 x++tabs) rest)
  (F:Fr g L s.heap (λy=>if y=AA "call" then u else M0 y)) (N:AY g L s.heap (f.own w0 x++tabs++rest)) (o1:s.os=os) (b1:BP s.gens)
  (h:∀(f':FD)(s':AG)(zp:AE (AH×CY))(u':AM AC),bM zp→f'.key=(out,AU,cap,[])→f'.Is W (w0.run cs) x→Fit (n0+cs.length) (w0.run cs)→Fr g L s'.heap (λy=>if y=AA "call" then u' else M0 y)→AY g L s'.heap (f'.own (w0.run cs) x++zp++rest)→MX (f'.own (w0.run cs) x++zp) rest→f'.Off x zp→s'.os=os→BP s'.gens→R (.ok .next) s') :
  AI (BE pH W) A (IY (.ref ax)) (λitv s₁=>DV (BE pH W) A (.forLoop (.Name (AA "call") px) itv body [] env) R s₁) E s:=by
 refine uJ (its:=vs.toArray) (ax:=ax) (os:=os) (λrem m own=>TellJ W M0 x out cap cs rest w0 n0 rem m own) hh hL hx hp (λrem m own hJ=>.inr ⟨_,hJ.src hax,rfl,_,rfl⟩) ?step ?done ⟨[],cs,f,tabs,u,rfl,hvs,rfl,hkey,hI,hT,hLT,hf,hrf,rfl,dis⟩ F N o1 b1
 case done =>
  rintro s1 m own ⟨cs1,cs2,f',zp,u',h0,h1,rfl,h3,h4,h5,h6,h7,h8,rfl,h10⟩ F N o b;cases h1;rw[CQ] at h0;subst h0;exact h f' s1 zp u' h6 h3 h4 h7 F N h10 h5 o b
 case step =>
  rintro Q8 E8 s1 v rem m own I oI ⟨cs1,cs2,f',zp,u',h0,h1,rfl,h3,h4,h5,h6,h7,h8,rfl,h10⟩ F N off o b hq
  obtain⟨c,cs3,hc,hr,rfl⟩:∃c cs3,HP W rest v c∧All2 (HP W rest) rem cs3∧cs2=c::cs3:=by
   cases h1 with
   |cons a t=>exact⟨_,_,a,t,rfl⟩
  obtain⟨a,tk,v2,v3,rfl,hma⟩:=hc.first
  have hn1:n0+cs1.length≤100:=by
   have z:=BW EG h0
   rw[BD,CD] at z;exact(BJ λhn1=>fk [_,_,_,_] (.c 1 (.a (.v 0) (.v 1)) (.k 100) (.c 1 (.a (.v 2) (.a (.v 3) (.k 1))) (.v 1) (.c 1 (.a (.k 100) (.k 1)) (.a (.v 0) (.v 2)) (.k 0)))) rfl hn (ET (Bc z)) hn1)
  have F:=Fr.to F tQ;refine hw s1 a u' _ _ _ F N ?_
  have N':=AY.sub (news':=f'.own (w0.run cs1) x++zp++((I,oI)::rest)) N (Fp (λ_ z=>.tail _ (Ml _ z)) (Fc (.head _) (λ_ z=>.tail _ (Mr _ z))))
  exact iB (os:=os) (f:=f') (w:=w0.run cs1) (c:=c) (n:=n0+cs1.length) (ks':=f'.ks) X T hh zq hu C116 F N' o b h4 h5 h6 h7 hn1 h8.1 (by rw[show f'.cap=cap from BW (λk:AH×CZ×CC×AE AX=>k.2.2.1) h3];exact hcap) (by rw[show f'.ks=[] from BW (λk:AH×CZ×CC×AE AX=>k.2.2.2) h3];exact EH _) (jQ (BW (λk:AH×CZ×CC×AE AX=>k.2.1) h3) c) (hc.sub λp hp=>.tail _ hp) (MX.cons (λp hp=>off p (Ml _ hp)) h10)
   λf2 s2 tabs2 hLT2 ho2 hI2 hT2 F2 N2 dis2 o2 b2=>hq _ (wB h0 hr rfl (ho2.trans (by rw[UL];exact h3)) hI2 hT2 hLT2 h7 h8 F2 N2 dis2 (λp hp=>off p (Mr _ hp)) o2 b2)
def Bj(s1 s2:AG):Prop:=s2.heap=s1.heap∧s2.os=s1.os∧s2.gens=s1.gens
theorem yV{W:BU}{A:BQ}{s:AG}{E:AC→AG→Prop}{g:CW}{L:AH}{os:CU}{p:BH}{zw:AE AX}{zt:ER→AM AC}{mg mb:AX→AM AC}{env:XH}{M0:AX→AM AC}{x out IR KD:AH}{ks:AE AX}{ksl:AE (AX×DW)}{ck:CC}{pq:AE (AX×(AX×DW))}{rest:AE (AH×CY)}{f:FD}{u:AM AC}{px:OP}{body:AE cP}{R:FE→AG→Prop}
  (X:(hd07.heap_1 W.params).In g) (T:VO p zw zt mg mb g) (hh:A.handled=BN) (zq:A.depth<500) (hL:env.locals=L) (hx:env.kindOf (AA "uri")=AK .local) (hp:(env.scope.kind==.class||(env.scope.kind==.module&&env.locals !=env.globals))=AU)
  (hw:∀(s1:AG)(u:AX)(tu:DW)(f':FD)(w':WS)(oI:CY)(Q:WG→AG→Prop)(E:AC→AG→Prop),Fr g L s1.heap (λy=>if y=AA "uri" then AK (.str u tu) else M0 y)→AY g L s1.heap ((IR,oI)::(f'.own w' x++rest))→u∈pq.map (·.1)→(∀v t s2,(u,(v,t))∈pq→Bj s1 s2→AI (BE pH W) A (DK (.ref 106) [.ref x,.str v t,.str u tu]) (λ_ s'=>Q .next s') E s2)→AI (BE pH W) A (EZ body env) Q E s1)
  (hK:KeysOk ks) (hpq:pq.map (λp=>(p.1,p.2.1))=numsOf ks) (eks:ksl.map (·.1)=pq.map (·.1))
  (hkd:(KD,listOf (AF ksl).toArray ck)∈rest) (hkey:f.key=(out,AU,7,[])) (hI:f.Is W (GW []) x) (dis:MX (f.own (GW []) x) rest)
  (F:Fr g L s.heap (λy=>if y=AA "uri" then u else M0 y)) (N:AY g L s.heap ((IR,nN KD (((AF ksl).length:EE)-1))::(f.own (GW []) x++rest))) (off:∀p∈f.own (GW []) x++rest,p.1≠IR) (hne:KD≠IR) (o1:s.os=os) (b1:BP s.gens)
  (h:∀(f':FD)(s':AG)(u':AM AC),f'.key=(out,AU,7+(NN ks).length,[])→f'.Is W (GW (NN ks)) x→Fr g L s'.heap (λy=>if y=AA "uri" then u' else M0 y)→AY g L s'.heap (f'.own (GW (NN ks)) x++rest)→MX (f'.own (GW (NN ks)) x) rest→s'.os=os→BP s'.gens→R (.ok .next) s') :
  AI (BE pH W) A (IY (.ref IR)) (λitv s₁=>DV (BE pH W) A (.forLoop (.Name (AA "uri") px) itv body [] env) R s₁) E s:=by
 have hrev:All2 (λv(q:Pr)=>∃t,v=EW q.1 t) (AF ksl).reverse (NN ks):=by
  refine xM ?_
  have e:ksl.map (·.1)=(numsOf ks).map (·.1):=by
   rw[eks,← hpq,GG];rfl
  generalize numsOf ks=q at e;clear eks N hkd hpq
  induction ksl generalizing q with
  |nil =>
   cases q with
   |nil=>exact .nil
   |cons _ _=>cases e
  |cons a l ih =>
   cases q with
   |nil=>cases e
   |cons b q =>
    rw[EC,EC] at e;injection e with h1 h2
    exact .cons ⟨a.2,by rw[← h1]⟩ (ih _ h2)
 refine yF (vs:=AF ksl) (I:=IR) (ax:=KD) (os:=os) (λrem m own=>SnsJ W M0 x out (NN ks) rest rem m own) hh hL hx hp (λrem m own hJ=>.inr ⟨_,hJ.src hkd,rfl,_,rfl⟩) ?step ?done ⟨[],NN ks,f,7,u,rfl,hrev,rfl,hkey,rfl,hI,rfl,dis⟩ F N off hne o1 b1
 case done =>
  rintro s1 m own ⟨N1,N2,f',cap,u',h0,h1,rfl,h3,hc,h4,rfl,h10⟩ F N o b;cases h1;rw[CQ] at h0;subst h0;subst hc;exact h f' s1 u' h3 h4 F N h10 o b
 case step =>
  rintro Q8 E8 s1 v rem m own oI ⟨N1,N2,f',cap,u',h0,h1,rfl,h3,hc,h4,rfl,h10⟩ F N off o b hq
  obtain⟨q,N3,⟨tv,rfl⟩,hr,rfl⟩:∃q N3,(∃t,v=EW q.1 t)∧All2 (λv(q:Pr)=>∃t,v=EW q.1 t) rem N3∧N2=q::N3:=by
   cases h1 with
   |cons a t=>exact⟨_,_,a,t,rfl⟩
  have hqN:q∈NN ks:=by rw[h0];exact Mr _ (.head _)
  have hN1:N1.length≤12:=by
   have z:=BW EG h0;rw[BD,qP] at z;have z2:=hK.len
   exact(BJ λhn1=>fk [_,_,_] (.c 1 (.a (.v 0) (.v 1)) (.v 2) (.c 1 (.v 2) (.k 12) (.c 1 (.a (.k 12) (.k 1)) (.v 0) (.k 0)))) rfl (ET (Bc z)) z2 hn1)
  have hfit:Fit 12 (GW N1):=sZ hN1 λp hp=>Eu hK p (by rw[h0];exact Ml _ hp)
  have F:=Fr.to F Ak;refine hw s1 q.1 tv f' (GW N1) oI _ _ F N (Cm hpq hqN) λv t s2 hm9 lk=>?_;have ev9:=num_of hK hpq hqN hm9;subst ev9;obtain⟨l1,l2,l3⟩:=lk;rw[← l1] at F N
  have N':=AY.sub (news':=f'.own (GW N1) x++((IR,oI)::rest)) N (Fp (λ_ z=>.tail _ (Ml _ z)) (Fc (.head _) (λ_ z=>.tail _ (Mr _ z))))
  exact oV (os:=os) (f:=f') (w:=GW N1) (n:=12) X T hh (AZ zq (by decide)) F N' (l2.trans o) (by rw[l3];exact b) h4 (cH (MX.cons (λp hp=>off p (Ml _ hp)) h10)) hfit (by decide) (by rw[show f'.cap=cap from BW (λk:AH×CZ×CC×AE AX=>k.2.2.1) h3,hc];exact(BJ λhn1=>fk [_] (.c 1 (.v 0) (.k 12) (.c 1 (.a (.k 1000) (.k 1)) (.a (.k 7) (.v 0)) (.k 0))) rfl hN1 hn1))
   λf2 s3 ho2 hI2 hT2 F2 N2 o2 b2=>hq _ (zW h0 hr rfl h3 ho2 hc hI2 F2 N2 hT2 (λp hp=>off p (Mr _ hp)) o2 b2)
theorem uZ{W:BU}{A:BQ}{s:AG}{E:AC→AG→Prop}{g:CW}{L:AH}{os:CU}{p:BH}{zw:AE AX}{zt:ER→AM AC}{mg mb:AX→AM AC}{env:XH}{M0:AX→AM AC}{x ax out en it:AH}{CS:AE DC}{N:AE Pr}{pn kk kt:CC}{vs:AE AC}{rest tabs:AE (AH×CY)}{f:FD}{u1 u2:AM AC}{t0:DW}{cst:DC}{p1 p2 tp:OP}{st1 st2 st3:cP}{R:FE→AG→Prop}
  (X:(hd07.heap_1 W.params).In g) (T:VO p zw zt mg mb g) (hh:A.handled=BN) (zq:A.depth<500) (hu:A.units<7000) (C116:kP g 118 116) (hL:env.locals=L) (hx:env.kindOf (AA "at")=AK .local) (hx2:env.kindOf (AA "call")=AK .local) (hp:(env.scope.kind==.class||(env.scope.kind==.module&&env.locals !=env.globals))=AU)
  (w1:∀(s1:AG)(a:AH)(i:CC)(t tk:DW)(k:EE)(v2 v3:AC)(mv:AC)(own:AE (AH×CY))(Q:WG→AG→Prop)(E:AC→AG→Prop),Fr g L s1.heap (OH M0 (AK (.int (i:EE) t)) (AK (.ref a)) mv)→AY g L s1.heap (own++rest)→(∃f':FD,∃w',own=f'.own w' x)→(a,DO #[.int k tk,v2,v3])∈rest→i≤100→(k≠0→∀s2,Bj s1 s2→Q .next s2)→(k=0→∀u tu tn s2,Bj s1 s2→AI (BE pH W) A (DK (.ref 106) [.ref x,.str "n0" tn,.str u tu]) (λ_ s'=>Q .next s') E s2)→AI (BE pH W) A (exec st1 env) Q E s1)
  (w2:∀(s1:AG)(i:CC)(t:DW)(c:AM AC)(mv:AC)(l:AE (AX×DW))(n:CC)(news:AE (AH×CY))(Q:WG→AG→Prop)(E:AC→AG→Prop),Fr g L s1.heap (OH M0 (AK (.int (i:EE) t)) c mv)→AY g L s1.heap news→(out,listOf (AF l).toArray n)∈news→l.length≤400→(i≠pn→∀s2,Bj s1 s2→Q .next s2)→(i=pn→∀s2 t',Fr g L s2.heap (OH M0 (AK (.int (i:EE) t)) c (.int (l.length:EE) t'))→AY g L s2.heap news→s2.os=s1.os→s2.gens=s1.gens→Q .next s2)→AI (BE pH W) A (exec st2 env) Q E s1)
  (w3:∀(s1:AG)(a:AH)(c:AM AC)(mv:AC)(news:AE (AH×CY))(Q:WG→AG→Prop)(E:AC→AG→Prop),Fr g L s1.heap (OH M0 c (AK (.ref a)) mv)→AY g L s1.heap news→AI (BE pH W) A (DK (.ref 175) [.ref x,.ref a]) (λ_ s'=>Q .next s') E s1→AI (BE pH W) A (exec st3 env) Q E s1)
  (hax:(ax,listOf vs.toArray kk)∈rest) (hvs:All2 (HP W rest) vs CS) (hcst:CS[pn]?=AK cst) (hst:JV cst=BC) (zf:CS.length≤80) (hkey:f.key=(out,BC,7,[])) (hI:f.Is W (GW N) x) (hT:f.Off x tabs) (hLT:bM tabs) (hf:Fit 12 (GW N)) (hrf:SF (GW N) [] CS) (dis:MX (f.own (GW N) x++tabs) rest)
  (F:Fr g L s.heap (OH M0 u1 u2 (.int 0 t0))) (NW:AY g L s.heap (f.own (GW N) x++tabs++rest)) (o1:s.os=os) (b1:BP s.gens) (hen:VN s.heap en it 0 .none) (hit:s.heap.IsListIter it ax 0) (hei:en≠it) (en0:g.get? en=BN∧en≠L) (it0:g.get? it=BN∧it≠L) (off:∀p∈f.own (GW N) x++tabs++rest,p.1≠en∧p.1≠it)
  (h:∀(f':FD)(s':AG)(zp:AE (AH×CY))(u1' u2':AM AC)(t:DW),bM zp→f'.out=out→f'.Is W ((GW N).run CS) x→Fit (12+CS.length) ((GW N).run CS)→Fr g L s'.heap (OH M0 u1' u2' (.int (((GW N).run (CS.take pn)).hush.out.length:CC) t))→AY g L s'.heap (f'.own ((GW N).run CS) x++zp++rest)→MX (f'.own ((GW N).run CS) x++zp) rest→f'.Off x zp→s'.os=os→BP s'.gens→R (.ok .next) s') :
  AI (BE pH W) A (IY (.ref en)) (λitv s₁=>DV (BE pH W) A (.forLoop (.Tuple [.Name (AA "at") p1,.Name (AA "call") p2] kt tp) itv [st1,st2,st3] [] env) R s₁) E s:=by
 refine uI (its:=vs.toArray) (ax:=ax) (os:=os) (λi rem m own=>EnumJ W M0 x out CS N pn rest i rem m own) hh hL hx hx2 hp (λi rem m own hJ=>.inr ⟨_,hJ.src hax,rfl,_,rfl⟩) ?step ?done ⟨[],CS,f,7,tabs,u1,u2,t0,rfl,rfl,hvs,by rw[mM],hkey,CR _,hI,hT,hLT,hf,hrf,rfl,dis⟩ F NW o1 b1 hen hit hei en0 it0 off
 case done =>
  rintro s1 i m own ⟨cs1,cs2,f',cap,zp,u1',u2',t,h0,hi,h1,rfl,h3,hc,h4,h5,h6,h7,h8,rfl,h10⟩ F N' o b;cases h1;rw[CQ] at h0;subst h0
  have hlt:pn<i:=by
   rw[← hi];rcases JC pn CS.length with z|z
   ·exact z
   ·rw[EM z] at hcst;cases hcst
  rw[show PS N CS pn i=_ from DJ hlt] at F;exact h f' s1 zp u1' u2' t h6 (BW (λk:AH×CZ×CC×AE AX=>k.1) h3) h4 h7 F N' h10 h5 o b
 case step =>
  rintro Q8 E8 s1 v i ti rem m own oE oI ⟨cs1,cs2,f',cap,zp,u1',u2',t,h0,hi,h1,rfl,h3,hc,h4,h5,h6,h7,h8,rfl,h10⟩ F N' off o b hq
  obtain⟨c,cs3,hcc,hr,rfl⟩:∃c cs3,HP W rest v c∧All2 (HP W rest) rem cs3∧cs2=c::cs3:=by
   cases h1 with
   |cons a t=>exact⟨_,_,a,t,rfl⟩
  obtain⟨a,tk,v2,v3,rfl,hma⟩:=hcc.first;have nE:∀p∈f'.own ((GW N).run cs1) x++zp++rest,p.1≠en:=λp hp=>(off p hp).1;have nT:∀p∈f'.own ((GW N).run cs1) x++zp++rest,p.1≠it:=λp hp=>(off p hp).2
  have hn1:12+cs1.length≤100:=by
   have z:=BW EG h0
   rw[BD] at z;exact(BJ λhn1=>fk [_,_,_] (.c 1 (.v 0) (.k 80) (.c 1 (.a (.v 1) (.v 2)) (.v 0) (.c 1 (.a (.k 100) (.k 1)) (.a (.k 12) (.v 1)) (.k 0)))) rfl zf (ET (Bc z)) hn1)
  have hi100:i≤100:=by rw[← hi];lia
  have hrw:f'.rw=BC:=BW (λk:AH×CZ×CC×AE AX=>k.2.1) h3;have hcp:f'.cap=cap:=BW (λk:AH×CZ×CC×AE AX=>k.2.2.1) h3;have hkk:f'.ks=CT cs1:=BW (λk:AH×CZ×CC×AE AX=>k.2.2.2) h3;have hout:f'.out=out:=BW (λk:AH×CZ×CC×AE AX=>k.1) h3
  have hci:CS[i]?=AK c:=by rw[h0,NH (by rw[hi];exact CR _),hi,CC.sub_self];rfl
  have F:=Fr.to F (m':=OH M0 (AK (.int (i:EE) ti)) (AK (.ref a)) (.int (PS N CS pn i) t)) (funext λy=>by
   show(if _ then _ else if _ then _ else if _ then _ else if _ then _ else if _ then _ else _)=if _ then _ else if _ then _ else if _ then _ else _
   by_cases e1:y=AA "mark"
   ·subst e1;rfl
   ·by_cases e2:y=AA "call"
    ·subst e2;rfl
    ·by_cases e3:y=AA "at"
     ·subst e3;rfl
     ·simp only[CA e1,CA e2,CA e3])
  have dA:MX (f'.own ((GW N).run cs1) x) ((en,oE)::(it,oI)::rest):=MX.cons (λp hp=>nE p (Ml _ (Ml _ hp))) (MX.cons (λp hp=>nT p (Ml _ (Ml _ hp))) (h10.sub (λ_ z=>Ml _ z) (λ_ z=>z)))
  have dT:MX zp ((en,oE)::(it,oI)::rest):=MX.cons (λp hp=>nE p (Ml _ (Mr _ hp))) (MX.cons (λp hp=>nT p (Ml _ (Mr _ hp))) (h10.sub (λ_ z=>Mr _ z) (λ_ z=>z)))
  -- the DK,told;what is behind it
  have fin:∀(s2:AG)(f2:FD)(w2:WS)(cap':CC)(mi:EE)(t':DW),Fr g L s2.heap (OH M0 (AK (.int (i:EE) ti)) (AK (.ref a)) (.int mi t'))→AY g L s2.heap (f2.own w2 x++(zp++((en,oE)::(it,oI)::rest)))→s2.os=os→BP s2.gens→f2.key=(out,BC,cap',CT cs1)→cap'≤7+(i+1)→f2.Is W w2 x→f2.Off x zp→MX (f2.own w2 x) ((en,oE)::(it,oI)::rest)→Fit (12+cs1.length) w2→JB w2 c→ZG BC w2 (CT cs1) (II (CT cs1) c) c→w2.tell c=((GW N).run cs1).tell c→mi=PS N CS pn (i+1)→AI (BE pH W) A (EZ [st3] env) Q8 E8 s2:=by
   intro s2 f2 w2 cap' mi t' F2 N2 o2 b2 k2 hc2 hI2 hT2 d2 hf2 hcf hnf hw2 hmi;have g2:f2.rw=BC:=BW (λk:AH×CZ×CC×AE AX=>k.2.1) k2;have g3:f2.cap=cap':=BW (λk:AH×CZ×CC×AE AX=>k.2.2.1) k2;have g4:f2.ks=CT cs1:=BW (λk:AH×CZ×CC×AE AX=>k.2.2.2) k2;have g1:f2.out=out:=BW (λk:AH×CZ×CC×AE AX=>k.1) k2
   refine BR (w3 s2 a _ _ _ _ _ F2 N2 ?_)
   have N3:=AY.sub (news':=f2.own w2 x++zp++((en,oE)::(it,oI)::rest)) N2 (Fp (Fp (λ_ z=>Ml _ z) (λ_ z=>Mr _ (Ml _ z))) (λ_ z=>Mr _ (Mr _ z)))
   refine iB (os:=os) (f:=f2) (w:=w2) (c:=c) (n:=12+cs1.length) (ks':=II (CT cs1) c) X T hh zq hu C116 F2 N3 o2 b2 hI2 hT2 h6 hf2 hn1 hcf (by rw[g3];exact(BJ λhn1=>fk [_,_] (.c 1 (.v 0) (.k 100) (.c 1 (.v 1) (.a (.k 7) (.a (.v 0) (.k 1))) (.c 1 (.a (.k 1000) (.k 1)) (.v 1) (.k 0)))) rfl hi100 hc2 hn1)) (by rw[g4];exact h8.1.2.2) (by rw[g2,g4];exact hnf) (hcc.sub λp hp=>.tail _ (.tail _ hp)) (d2.left dT) λf3 s3 tabs3 hLT3 ho3 hI3 hT3 F3 N4 dis3 o3 b3=>?_;refine OO ?_;rw[hw2] at hI3 N4 dis3
   exact hq _ (uB (cap':=cap') h0 hi hr (by rw[← hmi];rfl) (λy z1 z2 z3=>by show(if _ then _ else if _ then _ else if _ then _ else _)=_;rw[CA z1,CA z2,CA z3]) (by rw[ho3,g1,g2,g3,g4,HR];rfl) hc2 hI3 hT3 hLT3 h7 h8 F3 N4 dis3 (λp hp=>⟨nE p (Mr _ hp),nT p (Mr _ hp)⟩) o3 b3)
  have N1:=AY.sub (news':=f'.own ((GW N).run cs1) x++(zp++((en,oE)::(it,oI)::rest))) N' (Fp (λ_ z=>.tail _ (.tail _ (Ml _ (Ml _ z)))) (Fp (λ_ z=>.tail _ (.tail _ (Ml _ (Mr _ z)))) (Fc (.head _) (Fc (.tail _ (.head _)) (λ_ z=>.tail _ (.tail _ (Mr _ z)))))))
  have hol:f'.ol.length=((GW N).run cs1).out.length:=by have z:=BW EG h4.out;rw[AN] at z;exact z
  have hol4:f'.ol.length≤400:=by have z:=h7.o2;rw[hol];lia
  refine BR (w1 s1 a i ti tk (QM c) v2 v3 _ (f'.own ((GW N).run cs1) x) _ _ F (AY.sub N1 (Fp (λ_ z=>Ml _ z) (λ_ z=>Mr _ (Mr _ (.tail _ (.tail _ z)))))) ⟨f',_,rfl⟩ hma hi100 ?no ?yes)
  case no =>
   rintro hk s2 ⟨l1,l2,l3⟩
   have hne:i≠pn:=by
    intro e;rw[e,hcst] at hci;injection hci with hci;rw[hci] at hst;have:=SR c;rw[hst] at this
    exact hk (MT this)
   rw[← l1] at F N1
   refine BR (w2 s2 i ti _ _ f'.ol f'.n2 _ _ _ F N1 (Ml _ (YG f' _ x hout)) hol4 (λ_ s3⟨k1,k2,k3⟩=>?_) λz=>absurd z hne)
   rw[← k1] at F N1;exact fin s3 f' _ cap _ _ F N1 (k2.trans (l2.trans o)) (by rw[k3,l3];exact b) (by rw[← hkk,← hcp,← hrw,← hout]) (by exact(BJ λhn1=>fk [_,_] (.c 1 (.v 0) (.a (.k 7) (.v 1)) (.c 1 (.a (.a (.k 7) (.a (.v 1) (.k 1))) (.k 1)) (.v 0) (.k 0))) rfl hc hn1)) h4 h5 dA h7 h8.1.1 (by rw[← hrw,← hkk];rw[hkk,hrw];exact h8.1.2.1) rfl (aO (λz=>hne (fJ.mp z))).symm
  case yes =>
   rintro hk u tu tn s2 ⟨l1,l2,l3⟩;rw[← l1] at F N1;refine oV (os:=os) (f:=f') (w:=(GW N).run cs1) (n:=12+cs1.length) X T hh (AZ zq (by decide)) F N1 (l2.trans o) (by rw[l3];exact b) h4 (cH ((cF h5).right dA)) h7 hn1 (by rw[hcp];exact(BJ λhn1=>fk [_,_] (.c 1 (.v 0) (.a (.k 7) (.v 1)) (.c 1 (.v 1) (.k 100) (.c 1 (.a (.k 1000) (.k 1)) (.v 0) (.k 0)))) rfl hc hi100 hn1)) ?_;intro f2 s3 ho2 hI2 hT2 F2 N2 o2 b2;rw[hrw] at hI2 N2 ho2;have hI2:f2.Is W ((GW N).run cs1).hush x:=hI2;have N2:AY g L s3.heap (f2.own ((GW N).run cs1).hush x++(zp++((en,oE)::(it,oI)::rest))):=N2
   have k2:f2.key=(out,BC,cap+1,CT cs1):=by rw[ho2,hout,hcp,hkk]
   have g1:f2.out=out:=BW (λk:AH×CZ×CC×AE AX=>k.1) k2
   have hol2:f2.ol.length=((GW N).run cs1).hush.out.length:=by have z:=BW EG hI2.out;rw[AN] at z;exact z
   have hd2:MX (f2.own ((GW N).run cs1).hush x) ((en,oE)::(it,oI)::rest):=(cF hT2).sub (λ_ z=>z) (λ_ z=>Mr _ z)
   have hT3:f2.Off x zp:=λr hr=>hT2 r (Ml _ hr)
   have fin2:=λs4 mi t' F4 N4 o4 b4 hmi=>fin s4 f2 ((GW N).run cs1).hush (cap+1) mi t' F4 N4 o4 b4 k2 (by exact(BJ λhn1=>fk [_,_] (.c 1 (.v 0) (.a (.k 7) (.v 1)) (.c 1 (.a (.a (.k 7) (.a (.v 1) (.k 1))) (.k 1)) (.a (.v 0) (.k 1)) (.k 0))) rfl hc hn1)) hI2 hT3 hd2 h7.hush h8.1.1 h8.1.2.1 (uN hk) hmi
   refine BR (w2 s3 i ti _ _ f2.ol f2.n2 _ _ _ F2 N2 (Ml _ (YG f2 _ x g1)) (by have z:=h7.hush.o2;rw[hol2];lia) (λhne s4⟨k1,k2,k3⟩=>?_) (λhe s4 t' F4 N4 o4 b4=>?_))
   ·rw[← k1] at F2 N2
    exact fin2 s4 _ _ F2 N2 (k2.trans o2) (by rw[k3];exact b2) (aO (λz=>hne (fJ.mp z))).symm
   ·refine fin2 s4 _ _ F4 N4 (o4.trans o2) (by rw[b4];exact b2) ?_
    rw[qL (BW _ he),hol2]
    have e2:CS.take pn=cs1:=by rw[h0,← he,← hi,AE.take_left]
    rw[e2]
end
theorem rs19:True∧True:=by
 (try walk1);(try w_top off)
 all_goals (first | trivial | exact ⟨trivial,trivial⟩)
section

open PyProof.Rows.LCg
theorem rI(xs:AE EE):1≤((BO xs).filter JV).length:=by
 have hr:∀(l:AE EE)(st:AE DC×AE AX),(∃a b,st.1=a++.start "{urn:f}r" [("{urn:a}u","1")]::b)→∃a b,(l.foldl FH st).1=a++.start "{urn:f}r" [("{urn:a}u","1")]::b:=by
  intro l
  induction l with
  |nil=>exact λ_ h=>h
  |cons x l ih =>
   rintro st ⟨a,b,e⟩;refine ih _ ?_;unfold FH
   (repeat' split)<;>exact⟨a,b++[_],by show _++[_]=_;rw[e,BX];rfl⟩
 obtain⟨a,b,e⟩:=hr (([12,3]:AE EE)++xs) VF ⟨[],[],rfl⟩
 have h:DC.start "{urn:f}r" [("{urn:a}u","1")]∈(BO xs).filter JV:=by
  refine JM.mpr ⟨?_,rfl⟩;unfold BO
  refine Ml _ (Ml _ ?_)
  have e':(GS xs).1=a++.start "{urn:f}r" [("{urn:a}u","1")]::b:=e
  rw[e'];exact Mr _ (.head _)
 exact Bk h
noncomputable abbrev iI(x1 pc SD r ur sa:AH)(pn:CC)(tpl:DW):AX→AM AC:=λy=>if y=AA "target" then AK (.ref x1) else if y=AA "pieces" then AK (.ref pc) else if y=AA "place" then AK (.int (pn:EE) tpl) else if y=AA "starts" then AK (.ref SD) else if y=AA "calls" then AK (.ref r) else if y=AA "uris" then AK (.ref ur) else DY y [(AA "script",.ref sa)]
noncomputable abbrev LawC(x2 rs DN:AH)(M1:AX→AM AC):AX→AM AC:=λy=>if y=AA "numbers" then AK (.ref DN) else if y=AA "other" then AK (.ref x2) else if y=AA "rest" then AK (.ref rs) else M1 y
theorem ZV{m:AX→AM AC}{x:AX}:m=λy=>if y=x then m x else m y:=by
 funext y
 by_cases e:y=x
 ·rw[DJ e,e]
 ·rw[CA e]
theorem law07:rw_dn0283_07.Holds:=by
 refine hd07 ?_;k_fill
 with_reducible refine let_mvar%?zq1:=(λw s₀ s₁ mg mb=>?_:kQ _);LU (KF.elim λw=>⟨(w,{},{},default,default)⟩) (UR:ES _ (type_of%?zq1)) (?zq1 _ _ _ _ _)
 intro G0 Y0
 with_reducible refine let_mvar%?zq2:=(λfa o pm cd doc dV kV=>?_:An _);RC DM (gB:ES _ (type_of%?zq2)) (?zq2 _ _ _ _ _ _ _)
 intro ho hd hcd hD hmg hg
 with_reducible refine let_mvar%?zq3:=(λargs vals as=>?_:PV _);FL DM (JN:ES _ (type_of%?zq3)) (?zq3 _ _ _)
 intro hpre hlay hrd hwl hlo;have KX:=km_in_of Y0
 km_tabs Y0
 have X0:=(Ground.X G0).1;have VV0:=(Ground.X G0).2;refine Ground.open G0 ?_;intro T0 B0 D TE TW
 try(refine guard_noD D (by decide +kernel) ?_;clear D)
 km_lay T0 hmg ho hd cd
 clear hmg
 wrow_args hpre hlay hrd hwl hlo
 all_goals(
  first|refine callC_kw (enter_call ?_)|refine enter_call ?_
  w_top on
  refine xU hT9 (λ_ _=>rfl) ?hp ?_
  case hp=>exact postW_of (by first|assumption|wrow_shape) (by wtm_val) (by w_fin)
  w_call any ho hd hcd hD T0 F
  clear hd
  kn_ghosts F T0
  k_drop
  skip)
 rename_i xs hs0 hlay9 hL1 hr1 hl2 ws1 ws2 sa vs ws3 hL2 ra w1 r0 hI hr2 hcond1 hcond2 h₁ X T K' F1 N1 l0
 have hbare:BP s₁.gens:=by exact BP.of_eq hg
 clear hs0 hlay9 hL1 hr1 hl2 hL2 ra w1 r0 hr2 hcond2
 (try clear ws1)
 (try clear ws2)
 (try clear ws3)
 revert xs sa vs h₁
 with_reducible refine let_mvar%?zq4:=(λxs sa vs=>?_:PV _);FL DM (JN:ES _ (type_of%?zq4)) (?zq4 _ _ _)
 intro hI hcond1;walk_at "eps";rename_i h₁;intro F1 lifted N1;refine HK ?_;walk_at "eps2";rename_i Q0 E0;intro hq0 he0;have hyz:=yL hI;revert hyz;refine XX ?_;walk_at "eps";rename_i zs;rintro⟨hzs,hzx⟩
 have hzl:zs.length≤63:=by have:=BW EG hzx;simp at this;lia
 repeat'((fail_if_success (with_reducible show AI _ _ (eval (xB _ _ _ _) _) _ _ _));walk_at "go")
 (rename Fr ..=>F9);(rename AY _ _ _ _=>N9)
 refine wI rfl F9 N9 ?_;clear F9 N9
 with_reducible refine let_mvar%?zu1:=(λD q c=>?_:PV _);FL DM (JN:ES _ (type_of%?zu1)) (?zu1 _ _ _);walk_at "eps2";rename_i h9 tk9;intro eq9 F9 N9;(try dsimp only)
 repeat'((fail_if_success (with_reducible show AI _ _ (JL _) _ _ _));walk_at "go")
 refine OW F9 N9 ?_ (by rw[BI];exact CP rfl);clear F9 N9;walk_at "eps2";rename_i l1 h9;intro F9 N9 lt1;(try dsimp only)
 repeat'((fail_if_success (with_reducible show AI _ _ (WO _ _ _) _ _ _));walk_at "go")
 have hyu:∃t,AY (Hm s₁.heap [(118,116)]) s₁.heap.objs.size h9 ((l1,listOf (AF [(pD,t)]).toArray 0)::(D,listOf (AF q).toArray c)::[(116,NS #[])]):=⟨_,N9⟩;clear N9;revert hyu;refine XX ?_;walk_at "eps";rename_i tx;intro N9
 have hul:(q++[(pD,tx)]).map (·.1)=HL:=by rw[BF,eq9];rfl
 refine Fq (zs:=AF (q++[(pD,tx)])) F9 N9 (by exact⟨_,(N9 _ (.tail _ (.head _))).1,rfl,_,rfl⟩) (by exact⟨_,(N9 _ (.head _)).1,rfl,_,rfl⟩) (by unfold AF;rw[BF]) ?_ ?zsz
 case zsz =>
  have hq:=BW EG eq9;rw[AN] at hq;rw[BI];simp only[AF,AN,CD,GA,hq]
  decide
 have hN0:=N9;clear N9;walk_at "eps2";rename_i ur h9;intro F9 N9 ltu
 have N9':=AY.sub (news':=(ur,listOf (AF (q++[(pD,tx)])).toArray 0)::[(116,NS #[])]) N9 (Fc (.head _) (Fc (.tail _ (.tail _ (.tail _ (.head _)))) (BA _)))
 have hu116:ur≠116:=AJ (ltu (116,NS #[]) (.tail _ (.tail _ (.head _))))
 clear N9 hN0 ltu lt1
 (rename AY _ _ _ _=>N9)
 (try dsimp only)
 have hyq:∃ul,ul=q++[(pD,tx)]:=⟨_,rfl⟩;revert hyq;refine XX ?_;walk_at "eps";rename_i ul;intro eul;rw[← eul] at N9 hul
 repeat'((fail_if_success (with_reducible show AI _ _ (DK (.ref 180) _) _ _ _));walk_at "go")
 (rename Fr ..=>F9);(rename AY _ _ _ _=>N9)
 refine GD (os:=s₁.os) [] _ F9 N9 ?o1 ?b1 (λ_ z=>nomatch z) (λ_ z=>z) (λ_ _ z=>nomatch z) λg₂ H₂ K₂ r₂ back=>pW (xs:=zs) (ul:=ul) (X.keeps K₂) (T.keeps K₂) H₂ ?hh1 ?rm1 ?u1 ?l1 hzl ?lu1 hul λr cv nc cs s5 hr5 hcs H5=>?k1
 case o1=>rfl
 case b1=>exact hbare
 case hh1=>rfl
 case rm1=>exact(by decide:callerA.depth+1<800)
 case u1=>show _<7000;simp[QH,callerA]
 case l1=>rw[hzs] at lifted;exact DX K₂ lifted
 case lu1=>exact⟨_,r₂ _ (.head _),rfl,_,rfl⟩
 have d5:MX cs ((ur,listOf (AF ul).toArray 0)::[(116,NS #[])]):=by
  intro q hq r hr e;have z1:=(H5.own q hq).2;rw[e,r₂ r hr] at z1;cases z1
 obtain⟨F5,N5,o5,b5⟩:=back _ _ H5;clear back H5 H₂ F9 N9
 (try clear F1 N1)
 clear K₂ r₂ g₂
 revert r cv nc cs s5;with_reducible refine let_mvar%?zq8:=(λr cv nc cs s5=>?_:kQ _);LU ⟨(default,default,default,default,{})⟩ (UR:ES _ (type_of%?zq8)) (?zq8 _ _ _ _ _);intro hr5 hcs d5 F5 N5 o5 b5
 have hcl:(BO (zs.map λz:EE×DW=>z.1)).length≤78:=by
  have z:=tT (zs.map (·.1))
  rw[AN] at z;exact(BJ λhn1=>fk [_,_] (.c 1 (.v 0) (.k 63) (.c 1 (.v 1) (.a (.v 0) (.k 12)) (.c 1 (.a (.k 78) (.k 1)) (.v 1) (.k 0)))) rfl hzl z hn1)
 have hpl:=λpn c=>@plan07 (zs.map λz:EE×DW=>z.1) pn c
 have h1s:=rI (zs.map λz:EE×DW=>z.1)
 have hks:=eI (zs.map λz:EE×DW=>z.1)
 have hrun:=Ew (zs.map λz:EE×DW=>z.1)
 have hfit0:=p_fit (zs.map λz:EE×DW=>z.1)
 have hnm:=De (zs.map λz:EE×DW=>z.1)
 have hyC:∃CS,CS=BO (zs.map λz:EE×DW=>z.1):=⟨_,rfl⟩
 revert hyC;refine XX ?_;with_reducible refine let_mvar%?zC:=(λCS=>?_:Fa _);HZ DM (UA:ES _ (type_of%?zC)) (?zC _);intro eCS
 rw[← eCS] at hcs hcl hpl h1s hks hrun hfit0 hnm;clear eCS;have hyN:∃N,N=NN (CT CS):=⟨_,rfl⟩
 revert hyN;refine XX ?_;with_reducible refine let_mvar%?zN:=(λN=>?_:Fa _);HZ DM (UA:ES _ (type_of%?zN)) (?zN _);intro eN
 rw[← eN] at hpl hrun hfit0;have hcl5:=hcs.length
 (try dsimp only)
 iterate 1 (walk_at "go")
 (rename Fr ..=>F9);(rename AY _ _ _ _=>N9)
 (try dsimp only)
 have hKu:∀p∈cs,p.1≠ur:=λp hp=>d5 p hp (ur,_) (.head _)
 refine BR (kO (h₀:=Hm s₁.heap [(118,116)]) (L:=s₁.heap.objs.size) (m:=Ep F9) (os:=s₁.os) (fC cs) rfl rfl rfl (by decide) rfl (by decide) rfl rfl (by decide) (by decide) (λ_=>rfl) rfl rfl ?_)
 unfold Ep
 repeat'(first
  |((with_reducible show AI _ _ (DK (.type _) [.ref _]) _ _ _);refine xW (items:=cv.toArray) F9 N9 (by exact⟨_,(N9 _ (Ml _ hr5)).1,rfl,_,rfl⟩) ?_;clear F9 N9;with_reducible refine let_mvar%?ze1:=(λen it h9=>?_:PV _);FL DM (JN:ES _ (type_of%?ze1)) (?ze1 _ _ _);intro F9 N9 hen hit hei en0 it0 offe)
  |walk_at "go")
 refine⟨en,it,r,cv.toArray,cs++[(ur,listOf (AF ul).toArray 0),(116,NS #[])],rfl,rfl,F9,N9,o5,b5,hen,hit,hei,en0,it0,offe,.inr ⟨_,Ml _ hr5,rfl,_,rfl⟩,?sz5,?test5,?k6⟩
 case sz5=>rw[CG];exact(BJ λhn1=>fk [_,_] (.c 1 (.v 0) (.k 78) (.c 1 (.v 1) (.v 0) (.c 1 (.a (.k 1000) (.k 1)) (.v 1) (.k 0)))) rfl hcl (ET hcl5) hn1)
 case test5 =>
  with_reducible refine let_mvar%?zt1:=(λv C oC m₂ s' QT E'=>?_:An _);RC ⟨(default,default,default,default,{},default,default)⟩ (gB:ES _ (type_of%?zt1)) (?zt1 _ _ _ _ _ _ _);intro hv hC hm2 F7 N7 hQ
  have hyt:∃(c:DC)(a:AH)(t:DW)(v2 v3:AC),v=.ref a∧(a,DO #[.int (QM c) t,v2,v3])∈cs∧fC cs v=JV c:=by
   obtain⟨i,hi⟩:=PW.mp hv
   have hlt:i<CS.length:=by
    rw[← hcl5];rcases JC i cv.length with z|z
    ·exact z
    ·rw[EM (by simpa using z)] at hi;cases hi
   obtain⟨v',e1,htold⟩:=hcs.get (BL hlt)
   have e2:v=v':=by rw[show cv.toArray.toList=cv from rfl] at hi;rw[hi] at e1;injection e1
   subst e2;obtain⟨a,t,v2,v3,e,hm⟩:=htold.first;exact⟨_,a,t,v2,v3,e,hm,hX (h:=s'.heap) (λp hp=>(N7 p (.tail _ (Ml _ hp))).1) htold⟩
  revert hyt;refine Ca ?_;with_reducible refine let_mvar%?zt2:=(λc a t v2 v3=>?_:kQ _);LU (eB.elim λc=>⟨(c,default,default,default,default)⟩) (UR:ES _ (type_of%?zt2)) (?zt2 _ _ _ _ _);rintro⟨rfl,hm,hsv⟩
  rw[hsv,← SR] at hQ
  repeat'(first
   |((with_reducible show AI _ _ (eval (cD _ _) _) _ _ _);refine UU N7 (.head _) hC hm2 ?_)
   |((with_reducible show AI _ _ (BZ _ _ (.ref a) (.int 0 _)) _ _ _);refine OL (v:=.int (QM c) t) (vs:=[v2,v3]) (by exact⟨_,(N7 _ (.tail _ (Ml _ hm))).1,rfl,_,rfl⟩) ?_)
   |walk_at "go")
  exact hQ _
 clear F9 N9 hen hit hei en0 it0 offe
 (try clear F5 N5)
 with_reducible refine let_mvar%?ze3:=(λSD s6 ys=>?_:PV _);FL ⟨(default,{},default)⟩ (JN:ES _ (type_of%?ze3)) (?ze3 _ _ _);intro hys F6 N6 hD6 o6 b6
 have hidx:HW (fC cs) 0 cv=HW JV 0 CS:=idx_map hcs (λa b z=>hX (h:=s6.heap) (λp hp=>(N6 p (.tail _ (Ml _ hp))).1) z) 0;rw[show cv.toArray.toList=cv from rfl,hidx] at hys;have hyl:=All2.length hys
 have h1y:1≤ys.length:=by
  rw[hyl,jF];exact h1s
 have hy9:ys.length≤100:=by
  rw[hyl,jF];have h1:=AE.length_filter_le JV CS
  exact(BJ λhn1=>fk [_,_] (.c 1 (.v 0) (.k 78) (.c 1 (.v 1) (.v 0) (.c 1 (.a (.k 100) (.k 1)) (.v 1) (.k 0)))) rfl hcl h1 hn1)
 clear hidx
 have hysz:(ys.toArray.size:EE)=ys.length:=by simp
 have hdiv:(ys.toArray.size:EE)≠0:=by rw[hysz];lia
 have hdiv2:0<(ys.toArray.size:EE):=by rw[hysz];lia
 have hlo9:0≤xs.sum.fmod (ys.toArray.size:EE):=Eo xs.sum hdiv2
 have hhi9:xs.sum.fmod (ys.toArray.size:EE)<ys.length:=by rw[← hysz];exact En xs.sum hdiv2
 repeat'(first
  |((with_reducible show AI _ _ (DK (.builtin "sum") _) _ _ _);(rename Fr ..=>F9);(rename AY _ _ _ _=>N9);refine sumK (vs:=vs) rfl F9 N9 (DX F9.keep lifted) hI ?_;clear F9 N9;with_reducible refine let_mvar%?ze4:=(λh9 tk9 tsum=>?_:PV _);FL DM (JN:ES _ (type_of%?ze4)) (?ze4 _ _ _);intro F9 N9;(try dsimp only))
  |((with_reducible show AI _ _ (DK (.builtin "len") _) _ _ _);(rename AY _ _ _ _=>N9);refine GF (items:=ys.toArray) (by exact⟨_,(N9 _ (.head _)).1,rfl,_,rfl⟩) (by rw[hysz];lia) ?_;(try dsimp only))
  |((with_reducible show AI _ _ (BZ _ _ (.ref SD) (.int _ _)) _ _ _);(rename AY _ _ _ _=>N9);refine zB (ys:=ys) (by exact⟨_,(N9 _ (.head _)).1,rfl,_,rfl⟩) hys hlo9 hhi9 hy9 ?_;walk_at "eps2";rename_i pl tpl;intro hpl;(try dsimp only))
  |((fail_if_success (with_reducible show AI _ _ (JL _) _ _ _));(try((with_reducible show AI _ _ (EZ _ _) _ _ _);(conv=>(arg 6;dsimp only))));walk_at "go"))
 have hyp:∃(pn:CC)(cst:DC),pl=(pn:EE)∧CS[pn]?=AK cst∧JV cst=BC:=by
  obtain⟨pn,epl,cst,hcst,hst⟩:=jE _ _ _ _ _ hpl;exact⟨pn,cst,by simpa using epl,hcst,hst⟩
 clear hpl
 revert hyp;refine VP ?_;with_reducible refine let_mvar%?ze5:=(λpn cst=>?_:OV _);EV (eB.elim λc=>⟨(0,c)⟩) (IP:ES _ (type_of%?ze5)) (?ze5 _ _);rintro⟨rfl,hcst,hst⟩
 have hplan:=hpl _ _ hcst hst
 (rename Fr ..=>F9);(rename AY _ _ _ _=>N9)
 refine OW F9 N9 ?_ (by rw[BI];exact CP rfl);clear F9 N9;walk_at "eps2";rename_i pc h9;intro F9 N9 ltp;(try dsimp only)
 repeat'((fail_if_success (with_reducible show AI _ _ (DK (.ref 168) _) _ _ _));(try((with_reducible show AI _ _ (EZ _ _) _ _ _);(conv=>(arg 6;dsimp only))));walk_at "go")
 (rename Fr ..=>F9);(rename AY _ _ _ _=>N9)
 refine bH (os:=s₁.os) (out:=pc) (NN:=N) (rest:=cs++[(ur,listOf (AF ul).toArray 0),(116,NS #[])]) X T rfl ?rmw1 F9 N9 ?ow1 ?bw1 (λz=>nomatch z) (.head _) ?hrw1 ?diw1 ?kw1
 case rmw1=>exact(by decide:callerA.depth+1<500)
 case ow1=>exact o6
 case bw1=>exact b6
 case hrw1=>exact λq hq=>.tail _ (.tail _ hq)
 case diw1=>exact λq hq=>AO (ltp q (.tail _ hq))
 with_reducible refine let_mvar%?zw1:=(λf1 x1 s7=>?_:PV _);FL (RQ.elim λf=>⟨(f,default,{})⟩) (JN:ES _ (type_of%?zw1)) (?zw1 _ _ _);intro ef1 hI1 F7 N7 d7 o7 b7
 clear F9 N9 ltp
 (try clear F6 N6)
 repeat'((fail_if_success (with_reducible show AI _ _ (exec (QX _ _ _ _ _) _) _ _ _));(try((with_reducible show AI _ _ (EZ _ _) _ _ _);(conv=>(arg 6;dsimp only))));walk_at "go")
 refine iG (λ_=>rfl) ?_
 repeat'(first
  |((with_reducible show AI _ _ (DK (.type _) [.ref _]) _ _ _);(rename Fr ..=>F9);(rename AY _ _ _ _=>N9);refine xW (items:=cv.toArray) F9 N9 (by exact⟨_,(N9 _ (Mr _ (Ml _ hr5))).1,rfl,_,rfl⟩) ?_;clear F9 N9;with_reducible refine let_mvar%?zf1:=(λen it h9=>?_:PV _);FL DM (JN:ES _ (type_of%?zf1)) (?zf1 _ _ _);intro F9 N9 hen hit hei en0 it0 offe)
  |((fail_if_success (with_reducible show AI _ _ (IY _) _ _ _));(try((with_reducible show AI _ _ (EZ _ _) _ _ _);(conv=>(arg 6;dsimp only))));walk_at "go"))
 have ND:=AY.sub (news':=f1.own (GW N) x1++[(116,NS #[])]++((ur,listOf (AF ul).toArray 0)::cs)) N9 (Fp (Fp (λ_ z=>Ml _ z) (Fc (Mr _ (Mr _ (.tail _ (.head _)))) (BA _))) (Fc (Mr _ (Mr _ (.head _))) (λ_ z=>Mr _ (Ml _ z))))
 have FD':=Fr.to F9 (cX (M0:=iI x1 pc SD r ur sa pn tpl) (DJ rfl) (λy h _ _=>CA h))
 have hoffD:∀p∈f1.own (GW N) x1++[(116,NS #[])]++((ur,listOf (AF ul).toArray 0)::cs),p.1≠en∧p.1≠it:=Fp (Fp (λp z=>offe p (Ml _ z)) (Fc (offe _ (Mr _ (Mr _ (.tail _ (.head _))))) (BA _))) (Fc (offe _ (Mr _ (Mr _ (.head _)))) (λp z=>offe p (Mr _ (Ml _ z))))
 have dt:MX [(116,NS #[])] ((ur,listOf (AF ul).toArray 0)::cs):=MX.cons (Fc (BG hu116) (BA _)) (d5.symm.sub (λ_ z=>.tail _ z) (λ_ z=>z))
 have d1:MX (f1.own (GW N) x1) ((ur,listOf (AF ul).toArray 0)::cs):=d7.sub (λ_ z=>z) (Fc (Mr _ (.head _)) (λ_ z=>Ml _ z))
 have hT1:f1.Off x1 [(116,NS #[])]:=cH (d7.sub (λ_ z=>z) (Fc (Mr _ (.tail _ (.head _))) (BA _)))
 clear F9 N9 offe;refine uZ (os:=s₁.os) (M0:=iI x1 pc SD r ur sa pn tpl) (CS:=CS) (N:=N) (pn:=pn) (cst:=cst) (rest:=((ur,listOf (AF ul).toArray 0)::cs)) (f:=f1) (x:=x1) (out:=pc) (vs:=cv) X T rfl ?rmE ?uE codeHd rfl rfl rfl rfl ?w11 ?w12 ?w13 (.tail _ hr5) (hcs.mono λa b z=>z.sub λp hp=>.tail _ hp) hcst hst (AQ hcl (by decide)) ef1 hI1 hT1 (.inl rfl) hfit0 hrun (d1.left dt) FD' ND o7 b7 hen hit hei en0 it0 hoffD ?kE
 case rmE=>exact(by decide:callerA.depth+1<500)
 case uE=>show _<7000;simp[QH,callerA]
 case w11 =>
  rintro s1 a i t tk k v2 v3 mv own Q E F8 N8 ⟨f',w',rfl⟩ hma hi hno hyes
  have hull:ul.length=12:=by have z:=BW EG hul;rw[AN] at z;exact z
  by_cases hk:k=0
  ·repeat'(first
    |((with_reducible show(if _=BC then _ else _));first|refine HE (CN (by with_reducible assumption)) ?_|refine HA (CL (CF (by with_reducible assumption))) ?_)
    |((with_reducible show AI _ _ (BZ _ _ (.ref a) (.int 0 _)) _ _ _);refine OL (v:=.int k tk) (vs:=[v2,v3]) (by exact⟨_,(N8 _ (Mr _ (.tail _ hma))).1,rfl,_,rfl⟩) ?_;(try dsimp only))
    |((with_reducible show AI _ _ (BZ _ _ (.ref ur) (.int _ _)) _ _ _);refine RT (n:=12) (l:=ul) (by exact⟨_,(N8 _ (Mr _ (.head _))).1,rfl,_,rfl⟩) hull (by decide) (by decide) (by decide) λtpk=>?_;(try dsimp only))
    |((fail_if_success (with_reducible show AI _ _ (DK (.ref 106) _) _ _ _));walk_at "go"))
   exact DI (hyes hk _ _ _ _ ⟨rfl,rfl,rfl⟩) (λ_ s' hq=>OO hq) λ_ _ z=>z
  ·repeat'(first
    |((with_reducible show(if _=BC then _ else _));first|refine HE (CN (by with_reducible assumption)) ?_|refine HA (CL (CF (by with_reducible assumption))) ?_)
    |((with_reducible show AI _ _ (BZ _ _ (.ref a) (.int 0 _)) _ _ _);refine OL (v:=.int k tk) (vs:=[v2,v3]) (by exact⟨_,(N8 _ (Mr _ (.tail _ hma))).1,rfl,_,rfl⟩) ?_;(try dsimp only))
    |((fail_if_success (with_reducible show Q _ _));walk_at "go"))
   exact hno hk _ ⟨rfl,rfl,rfl⟩
 case w12 =>
  intro s1 i t c mv l n news Q E F8 N8 hm hl hno hyes
  by_cases hk:i=pn
  ·have hk':(i:EE)=(pn:EE):=BW _ hk
   repeat'(first
    |((with_reducible show(if _=BC then _ else _));first|refine HE (CN (by with_reducible assumption)) ?_|refine HA (CL (CF (by with_reducible assumption))) ?_)
    |((with_reducible show AI _ _ (DK (.builtin "len") [.ref pc]) _ _ _);refine GF (items:=(AF l).toArray) (by exact⟨_,(N8 _ hm).1,rfl,_,rfl⟩) (by simp only[AF,CG,AN];lia) ?_;(try dsimp only))
    |((fail_if_success (with_reducible show Q _ _));walk_at "go"))
   (rename Fr ..=>F9);(rename AY _ _ _ _=>N9)
   refine hyes hk _ _ (Fr.to F9 (cX (by show AK (LM ((AF l).toArray.size:EE) _)=AK (LM (l.length:EE) _);rw[show(AF l).toArray.size=l.length by simp[AF]]) (λy z1 z2 z3=>?_))) N9 rfl rfl
   repeat'(first|rfl|refine(CA (by assumption)).trans ?_)
  ·have hk':¬(i:EE)=(pn:EE):=λz=>hk (fJ.mp z)
   repeat'(first
    |((with_reducible show(if _=BC then _ else _));first|refine HE (CN (by with_reducible assumption)) ?_|refine HA (CL (CF (by with_reducible assumption))) ?_)
    |((fail_if_success (with_reducible show Q _ _));walk_at "go"))
   exact hno hk _ ⟨rfl,rfl,rfl⟩
 case w13 =>
  intro s1 a c mv news Q E F8 N8 hk
  repeat'((fail_if_success (with_reducible show AI _ _ (DK (.ref 175) _) _ _ _));walk_at "go")
  exact hk
 clear hen hit hei en0 it0 FD' ND hoffD
 with_reducible refine let_mvar%?zd1:=(λf sB tabs u1 u2 t=>?_:Be _);SJ (RQ.elim λf=>⟨(f,{},default,default,default,default)⟩) (kG:ES _ (type_of%?zd1)) (?zd1 _ _ _ _ _ _);intro hLTA houtT hIA hfA FA NA disA hTA oA bA
 dsimp only;refine HK ?_;walk_at "eps2";rename_i Q1 E1;intro hq1 he1
 (try clear F5 N5)
 repeat'((fail_if_success (with_reducible show AI _ _ (JL _) _ _ _));(try((with_reducible show AI _ _ (EZ _ _) _ _ _);(conv=>(arg 6;dsimp only))));walk_at "go")
 (rename Fr ..=>F9);(rename AY _ _ _ _=>N9)
 refine OW F9 N9 ?_ (by rw[BI];exact CP rfl);clear F9 N9;walk_at "eps2";rename_i rs h9;intro F9 N9 ltr;(try dsimp only)
 repeat'((fail_if_success (with_reducible show AI _ _ (DK (.ref 168) _) _ _ _));(try((with_reducible show AI _ _ (EZ _ _) _ _ _);(conv=>(arg 6;dsimp only))));walk_at "go")
 (rename Fr ..=>F9);(rename AY _ _ _ _=>N9)
 refine bH (os:=s₁.os) (out:=rs) (NN:=[]) (rest:=f.own ((GW N).run CS) x1++tabs++((ur,listOf (AF ul).toArray 0)::cs)) X T rfl ?rmw2 F9 N9 oA bA (λ_=>rfl) (.head _) (λq hq=>.tail _ hq) (λq hq=>AO (ltr q hq)) ?kw2
 case rmw2=>exact(by decide:callerA.depth+1<500)
 with_reducible refine let_mvar%?zw2:=(λf2 x2 s8=>?_:PV _);FL (RQ.elim λf=>⟨(f,default,{})⟩) (JN:ES _ (type_of%?zw2)) (?zw2 _ _ _);intro ef2 hI2 F8 N8 d8 o8 b8
 clear F9 N9 ltr
 repeat'((fail_if_success (with_reducible show AI _ _ (DK (.ref 185) _) _ _ _));(try((with_reducible show AI _ _ (EZ _ _) _ _ _);(conv=>(arg 6;dsimp only))));walk_at "go")
 (rename Fr ..=>F9);(rename AY _ _ _ _=>N9)
 refine GD (os:=s₁.os) [] _ F9 N9 o8 b8 (λ_ z=>nomatch z) (λ_ z=>z) (λ_ _ z=>nomatch z) λg₂ H₂ K₂ r₂ back=>jP (cv:=cv) (cs:=CS) (X.keeps K₂) (T.keeps K₂) H₂ rfl ?rm2 ?u2 (by exact⟨_,r₂ _ (Mr _ (Mr _ (.tail _ hr5))),rfl,_,rfl⟩) (hcs.mono λa b z=>z.told λp hp=>r₂ p (Mr _ (Mr _ (.tail _ hp)))) (AQ hcl (by decide)) hnm (AQ hks.len (by decide)) λDN oN pq s9 hDS hDs hpq H9=>?k2
 case rm2=>exact(by decide:callerA.depth+1<800)
 case u2=>show _<7000;simp[QH,callerA]
 have d9:MX [(DN,oN)] (f2.own (GW []) x2++(f.own ((GW N).run CS) x1++tabs++((ur,listOf (AF ul).toArray 0)::cs))):=by
  intro q hq r hr e;have z1:=(H9.own q hq).2;rw[e,r₂ r hr] at z1;cases z1
 obtain⟨FN,NN9,oN9,bN9⟩:=back _ _ H9;rw[Ef] at NN9;clear back H9 H₂ F9 N9;clear K₂ r₂ g₂
 revert DN oN pq s9;with_reducible refine let_mvar%?zn8:=(λDN oN pq s9=>?_:ZE _);IB ⟨(default,default,default,{})⟩ (OM:ES _ (type_of%?zn8)) (?zn8 _ _ _ _);intro hDS hDs hpq d9 FN NN9 oN9 bN9
 (try dsimp only)
 have hpl9:pq.length≤12:=by
  have e:=BW EG hpq;rw[AN,numsOf,AN,Gl] at e;rw[e];exact hks.len
 repeat'((fail_if_success (with_reducible show AI _ _ (exec (QX _ _ _ _ _) _) _ _ _));(try((with_reducible show AI _ _ (EZ _ _) _ _ _);(conv=>(arg 6;dsimp only))));walk_at "go")
 refine iG (λ_=>rfl) ?_
 repeat'(first
  |((with_reducible show AI _ _ (DK (.type "list") [.ref DN]) _ _ _);(rename Fr ..=>F9);(rename AY _ _ _ _=>N9);refine qI rfl F9 N9 (.head _) hDS hDs (AQ hpl9 (by decide)) ?_;clear F9 N9;with_reducible refine let_mvar%?zl1:=(λKD ck h9 tk9 ksl=>?_:kQ _);LU DM (UR:ES _ (type_of%?zl1)) (?zl1 _ _ _ _ _);intro eks F9 N9 ltk;(try dsimp only))
  |((with_reducible show AI _ _ (DK (JT _) [.ref _]) _ _ _);refine krv_reversed (vs:=AF ksl) F9 N9 (by exact⟨_,(N9 _ (.head _)).1,rfl,_,rfl⟩) ?_;clear F9 N9;walk_at "eps2";rename_i IR h9;intro F9 N9 lIR)
  |((fail_if_success (with_reducible show AI _ _ (IY _) _ _ _));(try((with_reducible show AI _ _ (EZ _ _) _ _ _);(conv=>(arg 6;dsimp only))));walk_at "go"))
 (rename Fr ..=>F9);(rename AY _ _ _ _=>N9)
 have hNS:=AY.sub (news':=(IR,nN KD (((AF ksl).length:EE)-1))::(f2.own (GW []) x2++((KD,listOf (AF ksl).toArray ck)::(DN,oN)::(f.own ((GW N).run CS) x1++tabs++((ur,listOf (AF ul).toArray 0)::cs))))) N9 (Fc (.head _) (Fp (λ_ z=>.tail _ (.tail _ (.tail _ (Ml _ z)))) (Fc (.tail _ (.head _)) (Fc (.tail _ (.tail _ (.head _))) (λ_ z=>.tail _ (.tail _ (.tail _ (Mr _ z))))))))
 have hoffS:∀p∈f2.own (GW []) x2++((KD,listOf (AF ksl).toArray ck)::(DN,oN)::(f.own ((GW N).run CS) x1++tabs++((ur,listOf (AF ul).toArray 0)::cs))),p.1≠IR:=Fp (λp z=>AO (lIR p (.tail _ (.tail _ (Ml _ z))))) (Fc (AO (lIR _ (.head _))) (Fc (AO (lIR _ (.tail _ (.head _)))) (λp z=>AO (lIR p (.tail _ (.tail _ (Mr _ z)))))))
 have hneS:KD≠IR:=AO (lIR _ (.head _))
 have dS:MX (f2.own (GW []) x2) ((KD,listOf (AF ksl).toArray ck)::(DN,oN)::(f.own ((GW N).run CS) x1++tabs++((ur,listOf (AF ul).toArray 0)::cs))):=MX.cons (λp hp=>AO (ltk p (.tail _ (Ml _ hp)))) (MX.cons (λp hp=>BG (d9 (DN,oN) (.head _) p (Ml _ hp))) d8)
 have FS:=Fr.to F9 (ZV (x:=AA "uri") (m:=(LawC x2 rs DN (OH (iI x1 pc SD r ur sa pn tpl) u1 u2 (.int (((GW N).run (CS.take pn)).hush.out.length:CC) t)))))
 clear F9 N9 lIR ltk;refine yV (os:=s₁.os) (M0:=(LawC x2 rs DN (OH (iI x1 pc SD r ur sa pn tpl) u1 u2 (.int (((GW N).run (CS.take pn)).hush.out.length:CC) t)))) (x:=x2) (out:=rs) (KD:=KD) (ks:=CT CS) (ksl:=ksl) (ck:=ck) (pq:=pq) (rest:=((KD,listOf (AF ksl).toArray ck)::(DN,oN)::(f.own ((GW N).run CS) x1++tabs++((ur,listOf (AF ul).toArray 0)::cs)))) (f:=f2) X T rfl ?rmS rfl rfl rfl ?wS hks hpq eks (.head _) ef2 hI2 dS FS hNS hoffS hneS oN9 bN9 ?kS
 case rmS=>exact(by decide:callerA.depth+1<500)
 case wS =>
  intro s1 u tu f' w' oI Q E F8 N8 hu hk
  repeat'(first
   |((with_reducible show AI _ _ (BZ _ _ (.ref DN) (.str _ _)) _ _ _);refine Ad (N8 _ (.tail _ (Mr _ (.tail _ (.head _))))).1 hDS hu λv9 t9 hm9=>?_;(try dsimp only))
   |((fail_if_success (with_reducible show AI _ _ (DK (.ref 106) _) _ _ _));walk_at "go"))
  (rename _∈pq=>hm9)
  exact DI (hk _ _ _ hm9 ⟨rfl,rfl,rfl⟩) (λ_ s' hq=>OO hq) λ_ _ z=>z
 clear FS hNS hoffS hneS dS;rw[← eN]
 with_reducible refine let_mvar%?zd2:=(λf3 sA u3=>?_:PV _);FL (RQ.elim λf=>⟨(f,{},default)⟩) (JN:ES _ (type_of%?zd2)) (?zd2 _ _ _);intro hkey3 hI3 FA NA disB oA bA
 dsimp only;refine HK ?_;walk_at "eps2";rename_i Q2 E2;intro hq2 he2
 have hcap3:7+N.length≤1000:=by
  have z2:=hks.len
  rw[eN,qP];exact(BJ λhn1=>fk [_] (.c 1 (.v 0) (.k 12) (.c 1 (.a (.k 1000) (.k 1)) (.a (.k 7) (.v 0)) (.k 0))) rfl z2 hn1)
 have hcvz:cv.length≤1000:=by rw[hcl5];exact AQ hcl (by decide)
 have NB:=AY.sub (news':=f3.own (GW N) x2++tabs++(f.own ((GW N).run CS) x1++cs)) NA (Fp (Fp (λ_ z=>Ml _ z) (λ_ z=>Mr _ (.tail _ (.tail _ (Ml _ (Mr _ z)))))) (Fp (λ_ z=>Mr _ (.tail _ (.tail _ (Ml _ (Ml _ z))))) (λ_ z=>Mr _ (.tail _ (.tail _ (Mr _ (.tail _ z)))))))
 clear NA
 have d3t:MX (f3.own (GW N) x2) tabs:=disB.sub (λ_ z=>z) (λ_ z=>.tail _ (.tail _ (Ml _ (Mr _ z))))
 have d3:MX (f3.own (GW N) x2++tabs) (f.own ((GW N).run CS) x1++cs):=(disB.sub (λ_ z=>z) (Fp (λ_ z=>.tail _ (.tail _ (Ml _ (Ml _ z)))) (λ_ z=>.tail _ (.tail _ (Mr _ (.tail _ z)))))).left ((cF hTA).symm.right (disA.sub (λ_ z=>Mr _ z) (λ_ z=>.tail _ z)))
 clear disB disA
 repeat'((fail_if_success (with_reducible show AI _ _ (exec (QX _ _ _ _ _) _) _ _ _));(try((with_reducible show AI _ _ (EZ _ _) _ _ _);(conv=>(arg 6;dsimp only))));walk_at "go")
 refine iG (λ_=>rfl) ?_
 repeat'(first
  |((with_reducible show AI _ _ (BZ _ _ (.ref r) (.ref _)) _ _ _);(rename Fr ..=>F9);(rename AY _ _ _ _=>N9);refine rE (vs:=cv) F9 N9 (by exact⟨_,(N9 _ (Mr _ (Mr _ hr5))).1,rfl,_,rfl⟩) hcvz ?_;clear F9 N9;walk_at "eps2";rename_i sl2 h9;intro F9 N9 nsl2;(try dsimp only))
  |((fail_if_success (with_reducible show AI _ _ (DK (.ref 192) _) _ _ _));(try((with_reducible show AI _ _ (EZ _ _) _ _ _);(conv=>(arg 6;dsimp only))));walk_at "go"))
 (rename Fr ..=>F9);(rename AY _ _ _ _=>N9)
 refine GD (os:=s₁.os) [] _ F9 N9 oA bA (λ_ z=>nomatch z) (λ_ z=>z) (λ_ _ z=>nomatch z) λg₂ H₂ K₂ r₂ back=>fZ (P:=HP w cs) (cv:=cv.take pn) (cs:=CS.take pn) (X.keeps K₂) (T.keeps K₂) H₂ rfl ?rmC (by exact⟨_,r₂ _ (.head _),rfl,_,rfl⟩) (λv c z=>z.told λp hp=>r₂ p (.tail _ (Mr _ (Mr _ hp)))) (All2.take_ hcs pn) ?clC hplan.2.2.1 λr2 vs2 nr2 s9 hv2 H9=>?kC
 case rmC=>exact(by decide:callerA.depth+1<800)
 case clC=>rw[QB];exact AQ (QC _ _) (AQ hcl (by decide))
 have dC:∀q∈((sl2,listOf (cv.take pn).toArray 0)::(f3.own (GW N) x2++tabs++(f.own ((GW N).run CS) x1++cs))),q.1≠r2:=by
  intro q hq e9;have z1:=(H9.own (r2,listOf vs2.toArray nr2) (.head _)).2;rw[← e9,r₂ q hq] at z1;cases z1
 obtain⟨FC,NC,oC,bC⟩:=back _ _ H9;rw[Ef] at NC;clear back H9 H₂ F9 N9;clear K₂ r₂ g₂
 revert r2 vs2 nr2 s9;with_reducible refine let_mvar%?zh3:=(λr2 vs2 nr2 s9=>?_:ZE _);IB ⟨(default,default,default,{})⟩ (OM:ES _ (type_of%?zh3)) (?zh3 _ _ _ _);intro hv2 dC FC NC oC bC
 (try dsimp only)
 repeat'((fail_if_success (with_reducible show AI _ _ (IY _) _ _ _));(try((with_reducible show AI _ _ (EZ _ _) _ _ _);(conv=>(arg 6;dsimp only))));walk_at "go")
 have NCT:=AY.sub (news':=f3.own (GW N) x2++tabs++((r2,listOf vs2.toArray nr2)::(f.own ((GW N).run CS) x1++cs))) NC (Fp (λ_ z=>.tail _ (.tail _ (Ml _ z))) (Fc (.head _) (λ_ z=>.tail _ (.tail _ (Mr _ z)))))
 have dT:MX (f3.own (GW N) x2++tabs) ((r2,listOf vs2.toArray nr2)::(f.own ((GW N).run CS) x1++cs)):=MX.cons (λp hp=>dC p (.tail _ (Ml _ hp))) d3
 have FCT:=Fr.to FC (ZV (x:=AA "call") (m:=(λy=>if y=AA "uri" then u3 else(LawC x2 rs DN (OH (iI x1 pc SD r ur sa pn tpl) u1 u2 (.int (((GW N).run (CS.take pn)).hush.out.length:CC) t))) y)))
 clear FC NC
 have hSTl:((CS.take pn).foldl FZ []).length≤pn∧((CS.take pn).foldl FZ []).length≤78:=by
  have z:=Aa (CS.take pn)
  rw[QB] at z;exact⟨AQ z (KB _ _),AQ z (AQ (QC _ _) hcl)⟩
 refine gP (os:=s₁.os) (M0:=(λy=>if y=AA "uri" then u3 else(LawC x2 rs DN (OH (iI x1 pc SD r ur sa pn tpl) u1 u2 (.int (((GW N).run (CS.take pn)).hush.out.length:CC) t))) y)) (x:=x2) (out:=rs) (cs:=((CS.take pn).foldl FZ [])) (vs:=vs2) (rest:=((r2,listOf vs2.toArray nr2)::(f.own ((GW N).run CS) x1++cs))) (w0:=GW N) (f:=f3) (n0:=12) (tabs:=tabs) X T rfl ?rmT ?uT codeHd rfl rfl rfl ?wT (.head _) (hv2.mono λa b z=>z.sub λp hp=>.tail _ (Mr _ hp)) hkey3 hcap3 (by exact(BJ λhn1=>fk [_] (.c 1 (.v 0) (.k 78) (.c 1 (.a (.k 100) (.k 1)) (.a (.k 12) (.v 0)) (.k 0))) rfl hSTl.2 hn1)) hI3 (cH d3t) hLTA hfit0 hplan.1 dT FCT NCT oC bC ?kT
 case rmT=>exact(by decide:callerA.depth+1<500)
 case uT=>show _<7000;simp[QH,callerA]
 case wT =>
  intro s1 a u news Q E F8 N8 hk
  repeat'((fail_if_success (with_reducible show AI _ _ (DK (.ref 175) _) _ _ _));walk_at "go")
  exact DI hk (λ_ s' hq=>OO hq) λ_ _ z=>z
 clear FCT NCT dT dC d3 d3t
 with_reducible refine let_mvar%?zx1:=(λf4 sA tabs4 u4=>?_:ZE _);IB (RQ.elim λf=>⟨(f,{},default,default)⟩) (OM:ES _ (type_of%?zx1)) (?zx1 _ _ _ _);intro hLT4 hkey4 hI4 hf4 FA NA dis4 hT4 oA bA
 dsimp only;refine HK ?_;walk_at "eps2";rename_i Q3 E3;intro hq3 he3
 have NB:=AY.sub (news':=f4.own ((GW N).run ((CS.take pn).foldl FZ [])) x2++tabs4++(f.own ((GW N).run CS) x1++cs)) NA (Fp (λ_ z=>Ml _ z) (λ_ z=>Mr _ (.tail _ z)))
 have d4:MX (f4.own ((GW N).run ((CS.take pn).foldl FZ [])) x2++tabs4) (f.own ((GW N).run CS) x1++cs):=dis4.sub (λ_ z=>z) (λ_ z=>.tail _ z)
 clear NA dis4
 have hol4:f4.ol.length=((GW N).run ((CS.take pn).foldl FZ [])).out.length:=by have z:=BW EG hI4.out;rw[AN] at z;exact z
 have hout4:f4.out=rs:=BW (λk:AH×CZ×CC×AE AX=>k.1) hkey4
 have hol4b:f4.ol.length≤400:=by have z:=hf4.o2;have z2:=hSTl.2;rw[hol4];exact(BJ λhn1=>fk [_,_] (.c 1 (.v 0) (.m 4 (.a (.k 12) (.v 1))) (.c 4 (.v 1) (.k 78) (.c 1 (.a (.k 400) (.k 1)) (.v 0) (.k 0)))) rfl z z2 hn1)
 repeat'(first
  |((with_reducible show AI _ _ (DK (.builtin "len") [.ref rs]) _ _ _);(rename AY _ _ _ _=>N9);refine GF (items:=(AF f4.ol).toArray) (by exact⟨_,(N9 _ (Ml _ (Ml _ (YG f4 _ x2 hout4)))).1,rfl,_,rfl⟩) (by simp only[AF,CG,AN];lia) ?_;(try dsimp only))
  |((fail_if_success (with_reducible show AI _ _ (exec (QX _ _ _ _ _) _) _ _ _));(try((with_reducible show AI _ _ (EZ _ _) _ _ _);(conv=>(arg 6;dsimp only))));walk_at "go"))
 (rename Fr ..=>F9)
 have hyF:∃t9,Fr (Hm s₁.heap [(118,116)]) s₁.heap.objs.size _ (λy=>if y=AA "first" then AK (.int ((AF f4.ol).toArray.size:EE) t9) else if y=AA "call" then u4 else(λy=>if y=AA "uri" then u3 else(LawC x2 rs DN (OH (iI x1 pc SD r ur sa pn tpl) u1 u2 (.int (((GW N).run (CS.take pn)).hush.out.length:CC) t))) y) y):=⟨_,F9⟩;clear F9;revert hyF;refine XX ?_;walk_at "eps";rename_i t9;intro F9;refine iG (λ_=>rfl) ?_
 repeat'(first
  |((with_reducible show AI _ _ (BZ _ _ (.ref r) (.ref _)) _ _ _);(rename Fr ..=>F9);(rename AY _ _ _ _=>N9);refine XE (vs:=cv) F9 N9 (by exact⟨_,(N9 _ (Mr _ (Mr _ hr5))).1,rfl,_,rfl⟩) hcvz ?_;clear F9 N9;walk_at "eps2";rename_i sl3 h9;intro F9 N9 nsl3;(try dsimp only))
  |((fail_if_success (with_reducible show AI _ _ (IY _) _ _ _));(try((with_reducible show AI _ _ (EZ _ _) _ _ _);(conv=>(arg 6;dsimp only))));walk_at "go"))
 (rename Fr ..=>F9);(rename AY _ _ _ _=>N9)
 have NU:=AY.sub (news':=f4.own ((GW N).run ((CS.take pn).foldl FZ [])) x2++tabs4++((sl3,listOf (cv.drop pn).toArray 0)::(f.own ((GW N).run CS) x1++cs))) N9 (Fp (λ_ z=>.tail _ (Ml _ z)) (Fc (.head _) (λ_ z=>.tail _ (Mr _ z))))
 have dU:MX (f4.own ((GW N).run ((CS.take pn).foldl FZ [])) x2++tabs4) ((sl3,listOf (cv.drop pn).toArray 0)::(f.own ((GW N).run CS) x1++cs)):=MX.cons (λp hp=>nsl3 p (Ml _ hp)) d4
 have FU:=Fr.to F9 (ZV (x:=AA "call") (m:=(λy=>if y=AA "first" then AK (.int ((AF f4.ol).toArray.size:EE) t9) else if y=AA "call" then u4 else(λy=>if y=AA "uri" then u3 else(LawC x2 rs DN (OH (iI x1 pc SD r ur sa pn tpl) u1 u2 (.int (((GW N).run (CS.take pn)).hush.out.length:CC) t))) y) y)))
 clear F9 N9 d4
 have hn9:12+((CS.take pn).foldl FZ []).length+(CS.drop pn).length≤100:=by have z:=hSTl.1;have z2:=hSTl.2;rw[AE.length_drop];lia
 refine gP (os:=s₁.os) (M0:=(λy=>if y=AA "first" then AK (.int ((AF f4.ol).toArray.size:EE) t9) else if y=AA "call" then u4 else(λy=>if y=AA "uri" then u3 else(LawC x2 rs DN (OH (iI x1 pc SD r ur sa pn tpl) u1 u2 (.int (((GW N).run (CS.take pn)).hush.out.length:CC) t))) y) y)) (x:=x2) (out:=rs) (cs:=CS.drop pn) (vs:=cv.drop pn) (rest:=((sl3,listOf (cv.drop pn).toArray 0)::(f.own ((GW N).run CS) x1++cs))) (w0:=((GW N).run ((CS.take pn).foldl FZ []))) (f:=f4) (n0:=12+((CS.take pn).foldl FZ []).length) (tabs:=tabs4) X T rfl ?rmU ?uU codeHd rfl rfl rfl ?wU (.head _) ((All2.drop_ hcs pn).mono λa b z=>z.sub λp hp=>.tail _ (Mr _ hp)) hkey4 hcap3 hn9 hI4 hT4 hLT4 hf4 hplan.2.1 dU FU NU oA bA ?kU
 case rmU=>exact(by decide:callerA.depth+1<500)
 case uU=>show _<7000;simp[QH,callerA]
 case wU =>
  intro s1 a u news Q E F8 N8 hk
  repeat'((fail_if_success (with_reducible show AI _ _ (DK (.ref 175) _) _ _ _));walk_at "go")
  exact DI hk (λ_ s' hq=>OO hq) λ_ _ z=>z
 clear FU NU dU
 with_reducible refine let_mvar%?zx2:=(λf5 sA tabs5 u5=>?_:ZE _);IB (RQ.elim λf=>⟨(f,{},default,default)⟩) (OM:ES _ (type_of%?zx2)) (?zx2 _ _ _ _);intro hLT5 hkey5 hI5 hf5 FA NA _ _ oA bA
 dsimp only;refine HK ?_;walk_at "eps2";rename_i Q4 E4;intro hq4 he4;have hout5:f5.out=rs:=BW (λk:AH×CZ×CC×AE AX=>k.1) hkey5
 have hol5:f5.ol.length=(((GW N).run ((CS.take pn).foldl FZ [])).run (CS.drop pn)).out.length:=by have z:=BW EG hI5.out;rw[AN] at z;exact z
 have holT:f.ol.length=((GW N).run CS).out.length:=by have z:=BW EG hIA.out;rw[AN] at z;exact z
 have hz5:(AF f5.ol).length≤1000:=by
  have z:=hf5.o2
  rw[show(AF f5.ol).length=f5.ol.length by simp[AF],hol5];exact(BJ λhn1=>fk [_,_,_] (.c 4 (.a (.a (.k 12) (.v 0)) (.v 1)) (.k 100) (.c 1 (.v 2) (.m 4 (.a (.a (.k 12) (.v 0)) (.v 1))) (.c 1 (.a (.k 1000) (.k 1)) (.v 2) (.k 0)))) rfl hn9 z hn1)
 have hzT:(AF f.ol).length≤1000:=by
  have z:=hfA.o2
  rw[show(AF f.ol).length=f.ol.length by simp[AF],holT];exact(BJ λhn1=>fk [_,_] (.c 4 (.v 0) (.k 78) (.c 1 (.v 1) (.m 4 (.a (.k 12) (.v 0))) (.c 1 (.a (.k 1000) (.k 1)) (.v 1) (.k 0)))) rfl hcl z hn1)
 have hsame:(f5.ol.drop (AF f4.ol).toArray.size).map (·.1)=(f.ol.drop ((GW N).run (CS.take pn)).hush.out.length).map (·.1):=by
  have e1:(AF f4.ol).toArray.size=((GW N).run ((CS.take pn).foldl FZ [])).out.length:=by rw[← hol4];simp[AF]
  rw[xE,xE,hI5.out,hIA.out,e1];exact hplan.2.2.2.symm
 repeat'(first
  |((with_reducible show AI _ _ (BZ _ _ (.ref rs) (.ref _)) _ _ _);(rename Fr ..=>F9);(rename AY _ _ _ _=>N9);refine XE (vs:=AF f5.ol) F9 N9 (by exact⟨_,(N9 _ (Ml _ (Ml _ (YG f5 _ x2 hout5)))).1,rfl,_,rfl⟩) hz5 ?_;clear F9 N9;walk_at "eps2";rename_i slY h9;intro F9 N9 nslY;(try dsimp only))
  |((with_reducible show AI _ _ (BZ _ _ (.ref pc) (.ref _)) _ _ _);(rename Fr ..=>F9);(rename AY _ _ _ _=>N9);refine XE (vs:=AF f.ol) F9 N9 (by exact⟨_,(N9 _ (.tail _ (Mr _ (.tail _ (Ml _ (YG f _ x1 houtT)))))).1,rfl,_,rfl⟩) hzT ?_;clear F9 N9;walk_at "eps2";rename_i slZ h9;intro F9 N9 nslZ;(try dsimp only))
  |((fail_if_success (with_reducible show AI _ _ (LO _ _ _) _ _ _));(try((with_reducible show AI _ _ (EZ _ _) _ _ _);(conv=>(arg 6;dsimp only))));walk_at "go"))
 (rename Fr ..=>F9);(rename AY _ _ _ _=>N9)
 refine xX (p:=f5.ol.drop (AF f4.ol).toArray.size) (q:=f.ol.drop ((GW N).run (CS.take pn)).hush.out.length) (by rw[← UP];exact⟨_,(N9 _ (.tail _ (.head _))).1,rfl,_,rfl⟩) (by rw[← UP];exact⟨_,(N9 _ (.head _)).1,rfl,_,rfl⟩) hsame ?uK ?_
 case uK=>show _<Av;simp[QH,callerA,Av]
 repeat'((fail_if_success (with_reducible show Q4 _ _));walk_at "go")
 have hy99:∃ps9,(116,NS ps9)∈tabs5:=by
  rcases hLT5 with e9|⟨c9,oc9,vs9,t9,e9,_,_⟩
  ·exact⟨_,by rw[e9];exact .head _⟩
  ·exact⟨_,by rw[e9];exact .head _⟩
 revert hy99;refine XX ?_;walk_at "eps";rename_i ps9;intro hps9;refine hq4 _ _ ?_
 (try dsimp only)
 refine hq3 _ _ ?_
 (try dsimp only)
 refine hq2 _ _ ?_
 (try dsimp only)
 refine hq1 _ _ ?_
 (try dsimp only)
 refine hq0 _ _ ?_
 (try dsimp only)
 exact⟨rfl,F9.keep,oA,bA,⟨ps9,(N9 _ (.tail _ (.tail _ (Ml _ (Mr _ hps9))))).1⟩,trivial⟩
end
end Mine
theorem PySem.Challenge.cw_dn0283_07_holds : PySem.Challenge.rw_dn0283_07.Holds :=
  Mine.law07
