import PyProof.Rows.All
import Wide.All
import OpenK.AllK
import Wide.FinOn
import PySem.Challenge.RW_op0171_01
open PySem renaming wpAny_bind→Ga,wpAny_pure→Gb,Value→Gd,wpAny→Gf,Shared→Gg,wpAny_mono→Gm,Addr→Gn,wpAny_holding→GD,tupleKeyHash→GO,wpAny_newObj_type→GR,wpAny_call_entry→GX,Around→GZ,isSubtype_type→G8,builtinLookup_eq_fast→Hf,wpAny_of_eq→Hh,Builtin→Hm,attributeBase→Ht,wpAny_loadPart'→Hw,wpAny_field→HD,Stmt→HF,sizeLine_eq→HJ,typeLookup_type→HM,wpAny_callSpecial?_slot→HS,wpAny_setField→HV,mainGlobals→HX,wpAny_standAt→Ka,compareOp→Ke,Heap→Kf,wpAny_truthy_bool→Kj,wpAny_dictEntries→Kk,foldedSetIterable→Kl,nsFind→Kn,starEach→Kw,wpAny_assign_Name→KD,entryFor_of_tree→KM,DictEntry→KY,wpAny_dictEpoch→KZ,typeLookup→K0,World→K6,getItem→K7,swapsWith→Lq,wpAny_setState_of→Lr,sliceBounds→Ls,excClassObj→Lu,SetTable→Lw,Program→LH,wpAny_typeNameOfWhole_itemiter→LK,wpAny_Call_NameR→LL,rawInt→LM,firstArgMember→LN,FuncData→LS,wpAny_typeNameOfWhole_valiter→Na,wpAny_typeNameOfWhole_keyiter→Nb,keywordEach→Nc,wpAny_rule→Nf,wpAny_specialOf→Nl,codeAny_builtin→Nn,wpAny_attempt→Np,StrKeys→Nv,builtinsNs→NF,bindArgs→NG,IsTupleKey→NH,cLine→NM,backTo→NP,wpAny_setField_rec→NX,wpAny_call→NY,pyNext→NZ,entryOfKey→N0,cellsFrom→N3,wpAny_fieldsOf→N6,sizeLine→N7,entryFor→N8,binaryOp→N9,IsPart→Oc,wpAny_notOrdered_dict→Ol,Keyword→Ou,Comprehension→Ov,backToKw→Ow,clipAt→OB,argsOk→OC,plainExc_ValueError→OJ,intKind→OO,wpAny_seqItems→OW,wpAny_loadPart→OX,NameKind→O0,IsItemIter→O1,wpAny_Assign_Name→Tg,codeAny→Th,wpAny_handled→Tl,wpAny_typeOf_ref→Ts,wpAny_isInstance→Tt,wpAny_forIn_list→Tu,setField→Tv,seqIndex?→Tw,isSubtype→Tz,wpAny_typeOf→TM,wpAny_isOneOf_itemiter→TN,typeIs_int→TP,codeAny_mono→TQ,wpAny_execs_nil→TY,pushCells_keeps→TZ,wpAny_isTrue_Compare1→T7,wpAny_isOneOf_valiter→T8,wpAny_formatField_str→T9,size_pos_of_not_empty→Va,codeAny_call_function→Vb,wpAny_throw→Vq,wpAny_newTuple→Vr,raiseNew→Vs,newTuple→Vt,newFunctionEnv→Vu,codeAny_call_builtin→Vv,storeName→VB,fromIndex→VC,plainId_quiet→VN,methodCallPos→VO,sysModules→VX,cameBackBy→VY,call_meets→VZ,wpAny_pyIter_slot→Wh,wpAny_pyIter_list→Wi,standAt→Wj,getAttr→Wk,evalArgs→Wl,wpAny_Try_except→WK,checkBuiltinCall→WM,builtinType→WZ,letOwnedTupleGo→Xg,typeOf→Xq,typeIs_str→Xr,pyIter→Xs,newExc→Xu,isSubtype_stop→Xv,aRefKeyMayBeTheNameByArray→Xx,Scope→Xz,PlainAttrs→XA,Operator→XB,callWith_type→XR,wpAny_newList→Yd,wpAny_getItem_list_slice→Ye,getItem_meets→Yf,behindInMarks→Yg,IsItemIterOut→Yo,wpAny_list_append_plain→Ys,putSet_of→Yt,noteFrame→Yu,inplaceOp→Yv,atKey→Yw,Model→YA,Meets→YB,ClassData→YH,wpAny_handleBy_builtin→YJ,codeAny_func→YK,bootBuiltins→YL,aRefKeyMayBeTheName_eq→YM,Fin→YP,wpAny_isOneOf_keyiter→YW,wpAny_eqIsQuiet_tuple→YX,wpAny_storeName_cell→gc,wpAny_point→gf,wpAny_loadName_local→gg,wpAny_alloc→gi,slicePicked→gj,setContains→gk,callWith→gl,ReadsAll→gp,wpAny_isSubtype_exc→gz,plainExc_IndexError→gA,codeAny_forLoop_any→gB,wpAny_pyHash_tuple→gH,wpAny_load→gI,wpAny_isTrue_value→gJ,wpAny_getItem_list→gK,wpAny_eqBool_tuple→gL,wpAny_assign_Tuple→gM,isInstance→gO,closureFor→gP,arm_eval_Attribute→gQ,wpAny_truthy_list→gV,wpAny_storeSet_of→gW,wpAny_sequenceKey→gX,wpAny_Return_some→gY,wpAny_Call_ofName→gZ,wpAny_Call_method→g9,setAttr→hH,searchCouldBeSeen→hU,richCompare_gives→hV,delItem→hW,wpAny_updatePart→hY,wpAny_askSetting→hZ,specialOf→fb,setFlight→fe,raisesNew→ff,storeName_local→fg,getAttrByItsOwn→fj,codeAny_of_tree→fk
open Nat renaming le_trans→Gc,le_refl→GI,zero_le→GU,lt_succ_of_le→GW,lt_of_lt_of_le→Hb,succ_le_of_lt→Hi,add_sub_of_le→Hj,add_le_add_left→Ho,le_of_lt_succ→Hy,lt_of_le_of_lt→HA,lt_of_sub_eq_succ→HC,add_assoc→HE,le_add_right→HK,le_of_ble_eq_true→HN,succ_le_succ→HY,ne_of_lt→HZ,lt_of_add_right_lt→H0,add_right_comm→Kp,add_le_add_right→Ku,le_of_succ_le→KA,le_of_eq→KB,le_of_lt→KJ,lt_trichotomy→KQ,lt_trans→K4,succ_add_eq_add_succ→Lp,not_lt→LO,ne_of_gt→LP,lt_or_eq_of_le→LQ,add_comm→LR,le_of_sub_eq_zero→Ng,sub_one_lt_of_lt→Nt,le_sub_one_of_lt→Nu,lt_or_ge→ND,not_lt_zero→NN,le_add_left→NO,lt_of_lt_of_eq→NT,le_succ_of_le→N2,lt_succ_self→Oa,le_of_not_lt→Ob,lt_irrefl→Of,pow_le_pow_right→Oh,le_succ→Oi,add_lt_of_lt_sub→Oj,le_antisymm→Op,sub_le→OD,lt_of_le_of_ne→OE,add_le_add→OF,not_lt_of_ge→Tc,lt_of_not_le→Td,le_of_not_le→Te,add_sub_self_left→TC,sub_lt_sub_right→TR,sub_le_of_le_add→TS,one_lt_succ_succ→TT,mul_le_mul_left→Vd,sub_add_cancel→Vw,zero_add→VI,lt_succ_of_lt→VJ,add_zero→VK,not_lt_of_le→V1,min_le_right→V2,div_add_mod→Wp,mul_le_mul→WT,sub_lt_left_of_lt_add→W9,succ_pos→XC,sub_zero→XD,pow_succ→XE,le_sub_iff_add_le'→XF,le_of_succ_le_succ→XG,le_add_right_of_le→XH,eq_zero_of_le_zero→XI,lt_of_sub_ne_zero→XU,le_sub_one_iff_lt→XW,sub_succ_lt_self→Yj,add_le_of_le_sub→Yk,min_eq_right→gq,div_eq_of_lt→gt,add_left_inj→gu,min_eq_left→gE,ext_div_mod→gF
open List renaming length_map→Ge,mem_cons→Gi,not_mem_nil→Gl,mem_cons_of_mem→Go,mem_cons_self→Gp,mem_map→Gr,length_append→Gs,getD_eq_getElem?_getD→Gt,getElem?_eq_getElem→Gu,size_toArray→Gw,getElem?_map→Gx,length_cons→GC,map_cons→GF,map_append→GG,range→GH,getElem?_eq_some_iff→GK,map_map→GL,mem_of_getElem?→GS,map_congr_left→GT,mem_iff_getElem?→GV,getElem?_eq_none_iff→G0,replicate→Ha,length_drop→Hc,lookup→Hd,append_assoc→He,append_nil→Hl,mem_range→Hn,reverse_cons→Hr,take_add_one→Hx,getElem?_eq_none→HB,length_singleton→HL,contains_iff_mem→Ki,foldl_cons→Km,take_length→Kq,flatMap_def→Kr,filter_cons→Ks,all_eq_true→Kt,getElem?_append_right→Kx,drop_of_length_le→Ky,nil_append→KC,length_replicate→KE,pairwise_cons→KG,getElem_mem→KH,mem_append→KR,filterMap_cons→KU,take_of_length_le→KW,length_filter_le→K9,getElem?_append_left→Lg,length_take_le'→Lh,length_range→Lj,foldl_append→Lk,mem_flatMap→Ly,lookup_cons→Lz,mem_singleton→LI,filter_append→LJ,range_succ→LW,nodup_cons→LX,mem_filter→LY,map_drop→LZ,getElem?_toArray→Nd,flatMap_cons→Nh,mem_of_mem_drop→Nq,toArray→Nw,cons_append→Nx,flatMap_append→NE,map_take→NK,map_nil→NW,length_take_le→Oq,lookup_append→Oz,contains_cons→OA,pairwise_iff_getElem→OK,extract_eq_take_drop→OL,drop_eq_getElem_cons→OM,map_inj_left→OP,find?_range_eq_some→OT,map→O6,length_take→O7,filter_cons_of_neg→O8,append_cons→O9,sum_replicate_nat→Ti,length_pos_of_mem→Tj,filter_eq_nil_iff→Tk,forIn_cons→To,take_append_drop→Tr,find?_map→TJ,length_flatMap→T5,filter_eq_self→T6,not_mem_cons_of_ne_of_not_mem→Vm,mem_filterMap→Vn,find?_eq_none→Vo,nodup_append→VE,eraseIdx_eq_take_drop_succ→VL,mem_flatten→VQ,map_flatMap→VS,flatMap_map→VT,map_const'→V8,length_nil→V9,isPerm_iff→Wa,filter_nil→Wb,filter_map→Wc,getElem?_concat_length→Wq,nodup_nil→WD,drop_zero→WE,drop_left→WF,mem_append_cons_self→WU,getElem?_zip_eq_some→WV,take_nil→Xa,length_erase_of_mem→Xb,pairwise_singleton→Xk,lookup_eq_some_iff→Xl,length_eq_zero_iff→Xm,filter_cons_of_pos→Xn,range_succ_eq_map→Xp,filterMap_append→XJ,mem_of_mem_take→XX,mem_erase_of_ne→XY,getLast?_concat→XZ,take_succ_cons→Yl,getElem?_range→Ym,filter_sublist→Yn,map_filterMap→YC,getElem?_drop→YD,filterMap_nil→YE,pairwise_map→YR,getElem?_inj→YS,any_eq_false→YT,nodup_range→Y1,mem_reverse→Y2,map_snd_zip→Y3,map_reverse→Y4,map_fst_zip→Y5,isEmpty_nil→Y6,getElem_map→Y7,flatMap_nil→Y8,ext_getElem→Y9,any_eq_true→ga,take_left'→gv,sum_append→gw,mem_zipIdx→gx
open Bool renaming true→Gh,false→Gk,false_ne_true→Gv,and_eq_true→GE,false_eq_true→GQ,not_eq_true'→KP,and_false→Nr,not_true→Od,eq_false_iff→OS,eq_iff_iff→Tp,or_eq_false_iff→TL,and_self→Vg,not_false→WI,false_and→WJ,and_eq_false_iff→XM,and_eq_true_iff→Yb
open Eq renaming trans→Gj,symm→Gq,refl→Hv
open Option renaming map_eq_some_iff→Gz,isSome_iff_exists→Hz,bind_some→HT,ne_none_iff_exists'→Kv,some_ne_none→Lo,map_some→Oe,map_eq_none_iff→O5,map→T4,map_map→V7,bind_eq_some_iff→WR,isSome_some→XT,getD_none→Yy,some→fm,none→fp
open PySem.Heap renaming get?_push_size→GA,get?_update_self→GM,get?_push_of_some→GN,SameBut→HI,lt_size→HU,get?_update_other→Kz,size_push→LA,ExtBut→Og,get?_none_of_le→TK,NewExc→X8,get?_push_ne→YV
open PySem.Heap.SameBut renaming update→GB
open UInt8 renaming ofNat→GP
open Array renaming length_toList→GY,getD_eq_getD_getElem?→HO,getElem?_toList→Kh,getElem?_eq_some_iff→No,getElem?_setIfInBounds→Ok,getElem?_eq_none→Tf,getElem_eq_getD→Tq,any_eq_false'→TX,toList_eraseIdxIfInBounds→VG,perm_iff_toList_perm→Ww,toList_append→Yc,forIn_toList→Yq,ext'→Yr,replicate→gb
open PySem.Str renaming ofString→G7,length_append→Ll,empty→NC,length→NR,append→NS
open PySem.Value renaming ref→Hg,type→HH,int→LV,bool→Tb,isStr_inj→YZ
open Ne renaming symm→Hk
open PySem.Obj renaming mapFields→Hp,mapSeq→Ko,putNameByArray→KI,data_mapFields→K8,putName_eq→LB,putSet→Tn,isFreed_of_fields→TA,cls_mapFields→VH,data_mapDictKeys→Yi,dropNameByArray→Yz,dropName_eq→gD
open PySem.Builtin.Dict_items renaming ownsTuple→Hq,ownedTupleIsFree→OH,pairFromOwner→OV,newIterator→Ta,dictOf→TI
open PySem.Challenge renaming pw_op0171_01→Hu,rw_op0171_01→gS
open Int renaming not_ofNat_neg→HQ,natCast_nonneg→La,toNat_natCast→OU,lt_iff_le_and_ne→TU,le_antisymm→Wr,fmod_nonneg_of_pos→XK,le_iff_lt_add_one→X7,add_le_add_left→YF,fmod_lt_of_pos→YU,natCast_inj→gG
open Classical renaming byContradiction→HR
open PyProof.Rows renaming seqObj→HW,IntsAre→Ni,get?_update_seq→T3,reads_list_at→VM,listUpdate_at→VP,SortKind→Wm,seqEpoch_at→WY,slot_tuple_getitem→gN,Subscript_→gR,slot_str_getitem→fc,list_sort_plain→fh
open PyProof.Rows.TupKeyObj renaming key→Kb
open PySem.SetTable renaming below→Kc,grown→On
open PySem.NameKind renaming free→Kd,cell→LG
open ForInStep renaming yield→Kg
open PySem.F renaming slot_dict_valueiterator_next→KL,slot_dict_itemiterator_next→KO,slot_dict_keyiterator_next→KV,plainAttrs_list→NI,plainAttrs_dict→NJ,slot_dict_get→NV,slot_set_contains→Ox,slot_str_index→OZ,excBase_ValueError→V0,args_dict_valueiterator_next_1→V3,slot_dict_delitem→V6,entry_dict_valueiterator_next→Wd,args_dict_itemiterator_next_1→We,slot_dict_values→Wn,args_str_index_3→Wo,entry_dict_itemiterator_next→Ws,args_dict_keyiterator_next_1→Wt,slot_list_clear→Wz,slot_dict_items→WA,entry_str_index→WB,entry_dict_keyiterator_next→WG,plainAttrs_str→WP,entry_dict_get→WQ,type_dict_get→W3,slot_list_pop→W7,args_int_lt_2→W8,slot_set_add→Xi,entry_int_lt→Xj,slot_int_lt→Xo,slot_dict_values_iter→X9,slot_dict_items_iter→Yp,slot_dict_iter→gU
open PySem.PyData renaming canLayAll0→KN,depthAll→Lb,depth→Oo,canLay0→Ot,strOk→Vl,weight→WC,eqv→XS,weightAll→Yx,layable0→YQ
open PySem.Builtin.Dict renaming showsAll→KS,takeOut→Wg,noArgs→Wv
open Option.some renaming inj→K5
open Function renaming comp_apply→Ln
open List.cons renaming injEq→LF
open PySem.W renaming emptyDict→LU,typeIn→Ny,specialIn→NA,findIn→NB,slotIn→NQ,typeIs_bytes→N4,Frag→ON,instObj→Tm,plainOver→Vc,takesIn→Vh,makesIn→Vi,findObj→Vj,clsIn→Vk,looks_field→VD,methodObj→Wx,callWith_of→Xy,takerIn→XN,ownOf→Yh,InstAt→YN
open PySem.Builtin.Bytes renaming find?→L7,searchM→NL,literalAsked→N5,fitsIndex→Os,literal→OI,subscript?→Vx,searchArgs→Vz,containsIn→VA,tooLong→VW,window→V4,bound?→V5
open PySem.Builtin.Tuple renaming tupleExact→Nj
open PySem.Around renaming under_plainId→Nk
open PySem.Calls renaming callWith_builtin→NU,callWith_function→O3,evalArgs_plain→TF,spliced_cons→Ve,Name_function_global→Wu,call_function_entry→WH,call_len_list→Ya,spliced_nil→YI
open String.Pos.Raw renaming mk_le_mk→Om
open PySem.DictEntry renaming refKey→OG
open PySem.Builtin.BaseException renaming bexcArgs→OQ
open PySem.W.Looks renaming ld→OY,now→Xh
open PySem.W.FB renaming slot_bytes_getitem→O4,args_bytes_getitem_2→WN,entry_bytes_getitem→W0
open PySem.Builtin.ObjectAttr renaming bindTo→TG
open PySem.Builtin.Frozenset renaming oneOther→TH,addrOf→TV
open PySem.Builtin.Slice renaming sliceApplied→Vf
open PySem.Env renaming blockKind→Vp,kindOf→WW
open PySem.Builtin.Range renaming rangeSize→VF,small→Wf
open List.Pairwise renaming sublist→VU
open PySem.Builtin.Str renaming occurrences→VV,strOf→Xf
open PySem.W.KF renaming slot_mset→Wy
open PySem.EntryCells renaming newEntry→WX
open PySem.StrLaws renaming occ_head_from→W1
open List.Sublist renaming map→Xd
open List.Perm renaming length_eq→Xe
open ForIn renaming forIn→Xw
open PySem.SeqAt renaming in_list_reads→XO
open PySem.Sem renaming wp_cmd_updatePart→XQ,wp_loadPart_of→YO,wp_cmd_mkText→Y0
open PySem.Code renaming quiet_builtin→YG
open PySem.W.KBy renaming buffer_eq→YY
open And renaming intro→gy
open PySem PyProof.Rows
set_option Elab.async false
set_option autoImplicit false
set_option tactic.hygienic false
set_option linter.unusedVariables false
set_option linter.unusedSectionVars false
set_option maxRecDepth 100000
namespace Mine
noncomputable abbrev oS (s:String):Str:=G7 s
section
variable {a b c d e f i j k l m n p q r x y N L:Nat}
theorem AD (h:l<=r):l<=(l+r) / 2:=(Nat.le_div_iff_mul_le Nat.two_pos).mpr (Nat.mul_two l ▸ Ho h l)
theorem pT (h:l<r):(l+r) / 2<r:=Nat.div_lt_of_lt_mul (Nat.two_mul r ▸ Nat.add_lt_add_right h r)
theorem AR (h:r-l<=f+1) (g:l<=r):r-((l+r) / 2+1)<=f:=TS (Gc (Nat.le_add_of_sub_le h) (Kp f 1 l ▸ HY (Ho (AD g) f)))
theorem AS (h:r-l<=f+1) (g:l<r):(l+r) / 2-l<=f:=Hy (Hb (TR (AD (KJ g)) (pT g)) h)
theorem Nz.rv (g:i<j) (h:j<m):m-1-j<m-1-i:=Nat.sub_lt_sub_left (Hb g (Nu h)) g
theorem Nz.rx (h:j<m):m-1-i<m:=HA (OD ..) (Nt h)
theorem A2 (g:N-n<f+1) (h:n<N):N-(n+1)<f:=Hb (Yj N n h) (Hy g)
theorem Nz.s2 (g:N-n<f+1) (h:n<=m) (i:m<N):N-(m+1)<f:=HA (Nat.sub_le_sub_left (HY h) N) (A2 g (HA h i))
theorem pB (e:n=L-i) (h:i<L):L-(i+1)<n:=e ▸ Yj L i h
theorem A1 (e:n=L+1-i) (h:i<L):L+1-(i+1)<n:=pB e (VJ h)
theorem AL (e:L-i=n+1):L-(i+1)=n:=congrArg Nat.pred e
theorem AQ (e:L-i=0) (h:i<=L):i=L:=Op h (Ng e)
theorem Nz.f1 (g:p<=i) (h:i+d<=c):i-p<c+1-(p+d):=Nat.lt_sub_of_add_lt (GW ((HE (i-p) p d).symm.trans (congrArg (· + d) (Vw g)) ▸ h))
theorem Nz.f2 (g:p<=i) (h:i+d<=c):i-p<c+1-p:=TR g (GW (Gc (HK i d) h))
theorem Nz.f3 (h:i+d<=c) (g:j<i-p):j+p+d<=c:=Gc (Ku (KJ (Oj g)) d) h
theorem Nz.f4 (g:j<c+1-(p+d)):j+p+d<=c:=HE j p d ▸ Hy (Oj g)
theorem AN (h:j<8):(8*i+j) / 8=i:=(Nat.mul_add_div (Nat.le.step (XC 6)) i j).trans (congrArg (i + ·) (gt h))
theorem AO (h:j<8):(8*i+j)%8=j:=(Nat.mul_add_mod 8 i j).trans (Nat.mod_eq_of_lt h)
theorem Ap:8*i+j+8*a+b=8*(i+a)+(j+b):=(Kp (8*i) j (8*a) ▸ HE (8*i+8*a) j b).trans (congrArg (· + (j+b)) (Nat.mul_add 8 i a).symm)
theorem dK (g:j<=n) (h:n<=3):(8*i+j) / 8=i:=AN (HA (Gc g h) (HN rfl))
theorem dI (g:j<=n) (h:n<=3):(8*i+j)%8=j:=AO (HA (Gc g h) (HN rfl))
theorem Nz.dd (g:j<n) (h:n<=8):(8*i+j) / 8=i:=AN (Hb g h)
theorem Nz.mm (g:j<n) (h:n<=8):(8*i+j)%8=j:=AO (Hb g h)
theorem AU (g:j+b<=n) (h:n<=3):(8*i+j+8*a+b) / 8=i+a:=Ap ▸ dK g h
theorem AM (g:j+b<=n) (h:n<=3):(8*i+j+8*a+b)%8=j+b:=Ap ▸ dI g h
theorem AE (f:i<=m) (g:j<=n) (h:n<=3):(8*i+j) / 8<=m/\(8*i+j)%8<=n:=⟨(dK g h).symm ▸ f,(dI g h).symm ▸ g⟩
theorem Nz.p4 (f:i<m+1) (g:j<n+1) (h:n<=3):(8*i+j) / 8<=m/\(8*i+j)%8<=n:=AE (Hy f) (Hy g) h
theorem Nz.zu (h:b<m+1):b-a<=m:=Gc (OD b a) (Hy h)
theorem Nz.zv (h:¬a<=b):m+1+b-a<=m:=TS (Kp m 1 b ▸ Ho (Nat.gt_of_not_le h) m)
theorem Nz.zw (h:a<m+1):a+(m+1+b-a)=m+1+b:=Hj (Gc (KJ h) (HK ..))
theorem Nz.mi:min a (b-c)<=b:=Gc (V2 ..) (OD ..)
theorem Nz.sr (g:L<i) (h:i<j):i-1<j-1:=TR (Nat.zero_lt_of_lt g) h
theorem Aa (g:L<j) (h:j<=k):j-1<k:=Hb (Nt g) h
theorem Nz.mk (g:¬l>=r) (h:r<=k):(l+r) / 2<k:=Hb (pT (Td g)) h
theorem pV (h:k<n) (g:¬l>=r) (i:r<=k):(l+r) / 2<n:=K4 (Nz.mk g i) h
theorem Nz.mo (g:¬l>=r) (h:r<=k):(l+r) / 2<=k:=KJ (Nz.mk g h)
theorem Nz.mp (g:¬l>=r) (h:r<=k):(l+r) / 2≠k:=HZ (Nz.mk g h)
theorem Nz.mt (g:¬l>=r):(l+r) / 2+1<=r:=pT (Td g)
theorem Nz.mu (g:l<r):(l+r) / 2+1<=r:=pT g
theorem Nz.mv (g:l<r) (h:r<=n):(l+r) / 2<n:=Hb (pT g) h
theorem Nz.mw (g:¬l>=r) (h:r-l<=f+1):(l+r) / 2-l<=f:=AS h (Td g)
theorem Nz.c0 (g:r-l<=0) (h:l<=r):l=r:=Op h (Ng (Nat.le_zero.mp g))
theorem Nz.c1 (g:r-l<=0) (h:l<=i):r<=i:=Gc (Ng (Nat.le_zero.mp g)) h
theorem AZ (h:¬j<n):j=n+(j-n):=(Hj (Ob h)).symm
theorem AV (h:a+64*(k+1)+256<c):a+1+64*k+256<c:=HA (Ku (HE a 1 _ ▸ Ho (LR 1 (64*k) ▸ Ho (HN rfl) (64*k)) a) 256) h
theorem Nz.u3 (h:a+64*(k+1)+256<c):a+3+64*k+256<c:=HA (Ku (HE a 3 _ ▸ Ho (LR 3 (64*k) ▸ Ho (HN rfl) (64*k)) a) 256) h
theorem AT (h:a+64*k+256<c) (g:i<=n) (z:Nat.ble n 255=Gh:=by rfl):a+1+i<c:=HA (HE a 1 i ▸ OF (HK a _) (LR 1 i ▸ HY (Gc g (HN z)))) h
theorem Nz.uc (h:a+64*k+256<c) (g:j<=k):a+64*j+256<c:=HA (Ku (Ho (Vd 64 g) a) 256) h
theorem Nz.ud (h:a+64*k+256<c) (g:i<=n) (z:Nat.ble n 255=Gh:=by rfl):a+1+min m i<c:=AT h (Gc (V2 m i) g) z
theorem Nz.ue (h:a+64*k+256<c):a+1+min m 0<c:=Nz.ud h (GI 0)
theorem An (h:a+64*k+256<c) (g:n+1<=100):a+1+n<c:=AT h (KA g)
theorem Nz.sd (e:p=n+1) (h:i<n-j):j+1+i<p:=e ▸ Nat.succ_lt_succ (LR j i ▸ Oj h) |> λh=>Kp j 1 i ▸ h
theorem Nz.se (e:p=n+1) (h:a<=n-j) (g:j<=n):j+a<p:=e ▸ GW (Gc (Ho h j) (KB (Hj g)))
theorem AW (h:1<=m):m-1≠m:=HZ (Nat.sub_lt h Nat.one_pos)
theorem AP (g:i<j) (h:i≠j-1):i<j-1:=OE (Nu g) h
theorem dP (g:1<=m) (h:m+(f+1)=n):m-1<n:=Hb (Nat.sub_lt g Nat.one_pos) (h ▸ HK ..)
theorem Nz.i0 (h:i<n):i+1-n=0:=Nat.sub_eq_zero_of_le h
theorem Nz.f5 (h:x<=10*(13+m)) (g:n<=x):n<10*(m+15):=HA (Gc g h) (Nat.mul_lt_mul_of_pos_left (LR 13 m ▸ Nat.add_lt_add_left (HN rfl) m) (HN rfl))
theorem AK (h:n<10*(m+15)) (g:m<=127):n-0<100000:=K4 (Hb h (Vd 10 (Ku g 15))) (HN rfl)
theorem Nz.pw (a:x<=y) (b:y<=2*(p-1)) (c:1<=p):1+x+1<=2*p:=by
 cases p with
 | zero=>exact absurd c (Nat.not_succ_le_zero 0)
 | succ q=>exact LR x 1 ▸ HY (HY (Gc a b))
theorem Nz.s8 (h:L<=n+1) (g:1<=i):L-i<=n:=TS (Gc h (Ho g n))
theorem Ac (h:i<=N) (g:a<=N-i):i+a<=N:=Gc (Ho g i) (KB (Hj h))
theorem Nz.a4 (a:x<=y+4*n) (b:y<=c+4):x<=c+4*(n+1):=Gc a (Gc (Ku b _) (KB (Kp c 4 (4*n))))
theorem Nz.a1 (a:x<=y+n) (b:y<=c+1):x<=c+(n+1):=Gc a (Gc (Ku b n) (KB (Kp c 1 n)))
theorem Nz.t2 {x:Int} (h:0<=x/\x<=1):(1+x).toNat=1\/(1+x).toNat=2:=(Int.lt_or_eq_of_le h.2).imp (λq=>congrArg (λx:Int=>(1+x).toNat) (Wr (Int.le_of_lt_add_one q) h.1)) λq=>congrArg (λx:Int=>(1+x).toNat) q
theorem AY {x:Int} (h:0<=x/\x<=1):(1+x).toNat<=2:=(Nz.t2 h).elim (λq=>q ▸ Oi 1) λq=>KB q
theorem Nz.t5:((-1:Int)+(n:Int)).toNat=n-1:=(congrArg Int.toNat (Int.add_comm ..)).trans (Int.toNat_sub n 1)
theorem Nz.t6 {x:Int} (h:0<=x/\x<=2) (g:x≠0) (k:x≠1):x=2:=Wr h.2 (TU.mpr ⟨TU.mpr ⟨h.1,Hk g⟩,Hk k⟩)
end
section
variable {C:Prop}{α β γ δ ε ζ η θ ι κ μ ν ξ σ τ υ φ χ ψ ω:Type}
theorem xA{P Q:Prop}(h:P/\Q)(k:P->Q->C):C:=by obtain⟨h1,h2⟩:=h;exact k h1 h2
theorem xE{P:α->Prop}(h:∃ a,P a)(k:∀ a,P a->C):C:=by obtain⟨a,h1⟩:=h;exact k a h1
theorem xAA{P Q R:Prop}(h:P/\Q/\R)(k:P->Q->R->C):C:=by obtain⟨h1,h2,h3⟩:=h;exact k h1 h2 h3
theorem xAE{P:Prop}{Q:α->Prop}(h:P/\∃ a,Q a)(k:P->∀ a,Q a->C):C:=by obtain⟨h1,a,h2⟩:=h;exact k h1 a h2
theorem xEA{P Q:α->Prop}(h:∃ a,P a/\Q a)(k:∀ a,P a->Q a->C):C:=by obtain⟨a,h1,h2⟩:=h;exact k a h1 h2
theorem xEE{P:α->β->Prop}(h:∃ a b,P a b)(k:∀ a b,P a b->C):C:=by obtain⟨a,b,h1⟩:=h;exact k a b h1
theorem xAAA{P Q R S:Prop}(h:P/\Q/\R/\S)(k:P->Q->R->S->C):C:=by obtain⟨h1,h2,h3,h4⟩:=h;exact k h1 h2 h3 h4
theorem xAEA{P:Prop}{Q R:α->Prop}(h:P/\∃ a,Q a/\R a)(k:P->∀ a,Q a->R a->C):C:=by obtain⟨h1,a,h2,h3⟩:=h;exact k h1 a h2 h3
theorem xAEE{P:Prop}{Q:α->β->Prop}(h:P/\∃ a b,Q a b)(k:P->∀ a b,Q a b->C):C:=by obtain⟨h1,a,b,h2⟩:=h;exact k h1 a b h2
theorem xEAA{P Q R:α->Prop}(h:∃ a,P a/\Q a/\R a)(k:∀ a,P a->Q a->R a->C):C:=by obtain⟨a,h1,h2,h3⟩:=h;exact k a h1 h2 h3
theorem xEEA{P Q:α->β->Prop}(h:∃ a b,P a b/\Q a b)(k:∀ a b,P a b->Q a b->C):C:=by obtain⟨a,b,h1,h2⟩:=h;exact k a b h1 h2
theorem xAAAA{P Q R S T:Prop}(h:P/\Q/\R/\S/\T)(k:P->Q->R->S->T->C):C:=by obtain⟨h1,h2,h3,h4,h5⟩:=h;exact k h1 h2 h3 h4 h5
theorem xAAEA{P Q:Prop}{R S:α->Prop}(h:P/\Q/\∃ a,R a/\S a)(k:P->Q->∀ a,R a->S a->C):C:=by obtain⟨h1,h2,a,h3,h4⟩:=h;exact k h1 h2 a h3 h4
theorem zJ{P:Prop}{Q R:α->β->Prop}(h:P/\∃ a b,Q a b/\R a b)(k:P->∀ a b,Q a b->R a b->C):C:=by obtain⟨h1,a,b,h2,h3⟩:=h;exact k h1 a b h2 h3
theorem yZ{P Q R S:α->Prop}(h:∃ a,P a/\Q a/\R a/\S a)(k:∀ a,P a->Q a->R a->S a->C):C:=by obtain⟨a,h1,h2,h3,h4⟩:=h;exact k a h1 h2 h3 h4
theorem xEAEA{P:α->Prop}{Q R:α->β->Prop}(h:∃ a,P a/\∃ b,Q a b/\R a b)(k:∀ a,P a->∀ b,Q a b->R a b->C):C:=by obtain⟨a,h1,b,h2,h3⟩:=h;exact k a h1 b h2 h3
theorem zy{P Q R:α->β->Prop}(h:∃ a b,P a b/\Q a b/\R a b)(k:∀ a b,P a b->Q a b->R a b->C):C:=by obtain⟨a,b,h1,h2,h3⟩:=h;exact k a b h1 h2 h3
theorem xEEEA{P Q:α->β->γ->Prop}(h:∃ a b c,P a b c/\Q a b c)(k:∀ a b c,P a b c->Q a b c->C):C:=by obtain⟨a,b,c,h1,h2⟩:=h;exact k a b c h1 h2
theorem jT{P Q R S T U:Prop}(h:P/\Q/\R/\S/\T/\U)(k:P->Q->R->S->T->U->C):C:=by obtain⟨h1,h2,h3,h4,h5,h6⟩:=h;exact k h1 h2 h3 h4 h5 h6
theorem xAAEAA{P Q:Prop}{R S T:α->Prop}(h:P/\Q/\∃ a,R a/\S a/\T a)(k:P->Q->∀ a,R a->S a->T a->C):C:=by obtain⟨h1,h2,a,h3,h4,h5⟩:=h;exact k h1 h2 a h3 h4 h5
theorem xM{P:Prop}{Q R S:α->β->Prop}(h:P/\∃ a b,Q a b/\R a b/\S a b)(k:P->∀ a b,Q a b->R a b->S a b->C):C:=by obtain⟨h1,a,b,h2,h3,h4⟩:=h;exact k h1 a b h2 h3 h4
theorem xm{P Q R S T:α->Prop}(h:∃ a,P a/\Q a/\R a/\S a/\T a)(k:∀ a,P a->Q a->R a->S a->T a->C):C:=by obtain⟨a,h1,h2,h3,h4,h5⟩:=h;exact k a h1 h2 h3 h4 h5
theorem xEAEAA{P:α->Prop}{Q R S:α->β->Prop}(h:∃ a,P a/\∃ b,Q a b/\R a b/\S a b)(k:∀ a,P a->∀ b,Q a b->R a b->S a b->C):C:=by obtain⟨a,h1,b,h2,h3,h4⟩:=h;exact k a h1 b h2 h3 h4
theorem zR{P:α->Prop}{Q R:α->β->γ->Prop}(h:∃ a,P a/\∃ b c,Q a b c/\R a b c)(k:∀ a,P a->∀ b c,Q a b c->R a b c->C):C:=by obtain⟨a,h1,b,c,h2,h3⟩:=h;exact k a h1 b c h2 h3
theorem zF{P Q R S:α->β->Prop}(h:∃ a b,P a b/\Q a b/\R a b/\S a b)(k:∀ a b,P a b->Q a b->R a b->S a b->C):C:=by obtain⟨a,b,h1,h2,h3,h4⟩:=h;exact k a b h1 h2 h3 h4
theorem qY{P Q R:α->β->γ->Prop}(h:∃ a b c,P a b c/\Q a b c/\R a b c)(k:∀ a b c,P a b c->Q a b c->R a b c->C):C:=by obtain⟨a,b,c,h1,h2,h3⟩:=h;exact k a b c h1 h2 h3
theorem xEEEEA{P Q:α->β->γ->δ->Prop}(h:∃ a b c d,P a b c d/\Q a b c d)(k:∀ a b c d,P a b c d->Q a b c d->C):C:=by obtain⟨a,b,c,d,h1,h2⟩:=h;exact k a b c d h1 h2
theorem xAAEAAA{P Q:Prop}{R S T U:α->Prop}(h:P/\Q/\∃ a,R a/\S a/\T a/\U a)(k:P->Q->∀ a,R a->S a->T a->U a->C):C:=by obtain⟨h1,h2,a,h3,h4,h5,h6⟩:=h;exact k h1 h2 a h3 h4 h5 h6
theorem xAEEAAA{P:Prop}{Q R S T:α->β->Prop}(h:P/\∃ a b,Q a b/\R a b/\S a b/\T a b)(k:P->∀ a b,Q a b->R a b->S a b->T a b->C):C:=by obtain⟨h1,a,b,h2,h3,h4,h5⟩:=h;exact k h1 a b h2 h3 h4 h5
theorem xAEEEAA{P:Prop}{Q R S:α->β->γ->Prop}(h:P/\∃ a b c,Q a b c/\R a b c/\S a b c)(k:P->∀ a b c,Q a b c->R a b c->S a b c->C):C:=by obtain⟨h1,a,b,c,h2,h3,h4⟩:=h;exact k h1 a b c h2 h3 h4
theorem xEAEEAA{P:α->Prop}{Q R S:α->β->γ->Prop}(h:∃ a,P a/\∃ b c,Q a b c/\R a b c/\S a b c)(k:∀ a,P a->∀ b c,Q a b c->R a b c->S a b c->C):C:=by obtain⟨a,h1,b,c,h2,h3,h4⟩:=h;exact k a h1 b c h2 h3 h4
theorem xf{P Q R S T:α->β->Prop}(h:∃ a b,P a b/\Q a b/\R a b/\S a b/\T a b)(k:∀ a b,P a b->Q a b->R a b->S a b->T a b->C):C:=by obtain⟨a,b,h1,h2,h3,h4,h5⟩:=h;exact k a b h1 h2 h3 h4 h5
theorem zs{P Q R S:α->β->γ->Prop}(h:∃ a b c,P a b c/\Q a b c/\R a b c/\S a b c)(k:∀ a b c,P a b c->Q a b c->R a b c->S a b c->C):C:=by obtain⟨a,b,c,h1,h2,h3,h4⟩:=h;exact k a b c h1 h2 h3 h4
theorem yR{P Q R:α->β->γ->δ->Prop}(h:∃ a b c d,P a b c d/\Q a b c d/\R a b c d)(k:∀ a b c d,P a b c d->Q a b c d->R a b c d->C):C:=by obtain⟨a,b,c,d,h1,h2,h3⟩:=h;exact k a b c d h1 h2 h3
theorem xAEEEAAA{P:Prop}{Q R S T:α->β->γ->Prop}(h:P/\∃ a b c,Q a b c/\R a b c/\S a b c/\T a b c)(k:P->∀ a b c,Q a b c->R a b c->S a b c->T a b c->C):C:=by obtain⟨h1,a,b,c,h2,h3,h4,h5⟩:=h;exact k h1 a b c h2 h3 h4 h5
theorem xEAAAAAA{P Q R S T U V:α->Prop}(h:∃ a,P a/\Q a/\R a/\S a/\T a/\U a/\V a)(k:∀ a,P a->Q a->R a->S a->T a->U a->V a->C):C:=by obtain⟨a,h1,h2,h3,h4,h5,h6,h7⟩:=h;exact k a h1 h2 h3 h4 h5 h6 h7
theorem xEAEEAAA{P:α->Prop}{Q R S T:α->β->γ->Prop}(h:∃ a,P a/\∃ b c,Q a b c/\R a b c/\S a b c/\T a b c)(k:∀ a,P a->∀ b c,Q a b c->R a b c->S a b c->T a b c->C):C:=by obtain⟨a,h1,b,c,h2,h3,h4,h5⟩:=h;exact k a h1 b c h2 h3 h4 h5
theorem xEEAAAAA{P Q R S T U:α->β->Prop}(h:∃ a b,P a b/\Q a b/\R a b/\S a b/\T a b/\U a b)(k:∀ a b,P a b->Q a b->R a b->S a b->T a b->U a b->C):C:=by obtain⟨a,b,h1,h2,h3,h4,h5,h6⟩:=h;exact k a b h1 h2 h3 h4 h5 h6
theorem yO{P Q R S T:α->β->γ->Prop}(h:∃ a b c,P a b c/\Q a b c/\R a b c/\S a b c/\T a b c)(k:∀ a b c,P a b c->Q a b c->R a b c->S a b c->T a b c->C):C:=by obtain⟨a,b,c,h1,h2,h3,h4,h5⟩:=h;exact k a b c h1 h2 h3 h4 h5
theorem xEEEEAAA{P Q R S:α->β->γ->δ->Prop}(h:∃ a b c d,P a b c d/\Q a b c d/\R a b c d/\S a b c d)(k:∀ a b c d,P a b c d->Q a b c d->R a b c d->S a b c d->C):C:=by obtain⟨a,b,c,d,h1,h2,h3,h4⟩:=h;exact k a b c d h1 h2 h3 h4
theorem ZS{P Q R S T U V W:α->Prop}(h:∃ a,P a/\Q a/\R a/\S a/\T a/\U a/\V a/\W a)(k:∀ a,P a->Q a->R a->S a->T a->U a->V a->W a->C):C:=by obtain⟨a,h1,h2,h3,h4,h5,h6,h7,h8⟩:=h;exact k a h1 h2 h3 h4 h5 h6 h7 h8
theorem Jw{P Q R:α->Prop}{S T U V:α->β->Prop}(h:∃ a,P a/\Q a/\R a/\∃ b,S a b/\T a b/\U a b/\V a b)(k:∀ a,P a->Q a->R a->∀ b,S a b->T a b->U a b->V a b->C):C:=by obtain⟨a,h1,h2,h3,b,h4,h5,h6,h7⟩:=h;exact k a h1 h2 h3 b h4 h5 h6 h7
theorem uB{P Q:α->Prop}{R S T U:α->β->γ->Prop}(h:∃ a,P a/\Q a/\∃ b c,R a b c/\S a b c/\T a b c/\U a b c)(k:∀ a,P a->Q a->∀ b c,R a b c->S a b c->T a b c->U a b c->C):C:=by obtain⟨a,h1,h2,b,c,h3,h4,h5,h6⟩:=h;exact k a h1 h2 b c h3 h4 h5 h6
theorem ZG{P Q:α->Prop}{R S T:α->β->γ->δ->Prop}(h:∃ a,P a/\Q a/\∃ b c d,R a b c d/\S a b c d/\T a b c d)(k:∀ a,P a->Q a->∀ b c d,R a b c d->S a b c d->T a b c d->C):C:=by obtain⟨a,h1,h2,b,c,d,h3,h4,h5⟩:=h;exact k a h1 h2 b c d h3 h4 h5
theorem uv{P Q R S T U:α->β->γ->Prop}(h:∃ a b c,P a b c/\Q a b c/\R a b c/\S a b c/\T a b c/\U a b c)(k:∀ a b c,P a b c->Q a b c->R a b c->S a b c->T a b c->U a b c->C):C:=by obtain⟨a,b,c,h1,h2,h3,h4,h5,h6⟩:=h;exact k a b c h1 h2 h3 h4 h5 h6
theorem Jv{P Q R:α->β->γ->δ->ε->ζ->Prop}(h:∃ a b c d e f,P a b c d e f/\Q a b c d e f/\R a b c d e f)(k:∀ a b c d e f,P a b c d e f->Q a b c d e f->R a b c d e f->C):C:=by obtain⟨a,b,c,d,e,f,h1,h2,h3⟩:=h;exact k a b c d e f h1 h2 h3
theorem xAAAEEEEEA{P Q R:Prop}{S T:α->β->γ->δ->ε->Prop}(h:P/\Q/\R/\∃ a b c d e,S a b c d e/\T a b c d e)(k:P->Q->R->∀ a b c d e,S a b c d e->T a b c d e->C):C:=by obtain⟨h1,h2,h3,a,b,c,d,e,h4,h5⟩:=h;exact k h1 h2 h3 a b c d e h4 h5
theorem vF{P Q:α->Prop}{R S T U:α->β->γ->δ->Prop}(h:∃ a,P a/\Q a/\∃ b c d,R a b c d/\S a b c d/\T a b c d/\U a b c d)(k:∀ a,P a->Q a->∀ b c d,R a b c d->S a b c d->T a b c d->U a b c d->C):C:=by obtain⟨a,h1,h2,b,c,d,h3,h4,h5,h6⟩:=h;exact k a h1 h2 b c d h3 h4 h5 h6
theorem jB{P Q R S T U V:α->β->γ->Prop}(h:∃ a b c,P a b c/\Q a b c/\R a b c/\S a b c/\T a b c/\U a b c/\V a b c)(k:∀ a b c,P a b c->Q a b c->R a b c->S a b c->T a b c->U a b c->V a b c->C):C:=by obtain⟨a,b,c,h1,h2,h3,h4,h5,h6,h7⟩:=h;exact k a b c h1 h2 h3 h4 h5 h6 h7
theorem Zq{P Q R S:α->β->γ->δ->ε->ζ->Prop}(h:∃ a b c d e f,P a b c d e f/\Q a b c d e f/\R a b c d e f/\S a b c d e f)(k:∀ a b c d e f,P a b c d e f->Q a b c d e f->R a b c d e f->S a b c d e f->C):C:=by obtain⟨a,b,c,d,e,f,h1,h2,h3,h4⟩:=h;exact k a b c d e f h1 h2 h3 h4
theorem vC{P Q R:α->β->γ->δ->ε->ζ->η->Prop}(h:∃ a b c d e f g,P a b c d e f g/\Q a b c d e f g/\R a b c d e f g)(k:∀ a b c d e f g,P a b c d e f g->Q a b c d e f g->R a b c d e f g->C):C:=by obtain⟨a,b,c,d,e,f,g,h1,h2,h3⟩:=h;exact k a b c d e f g h1 h2 h3
theorem yk{P Q R S T U V:α->β->γ->δ->Prop}(h:∃ a b c d,P a b c d/\Q a b c d/\R a b c d/\S a b c d/\T a b c d/\U a b c d/\V a b c d)(k:∀ a b c d,P a b c d->Q a b c d->R a b c d->S a b c d->T a b c d->U a b c d->V a b c d->C):C:=by obtain⟨a,b,c,d,h1,h2,h3,h4,h5,h6,h7⟩:=h;exact k a b c d h1 h2 h3 h4 h5 h6 h7
theorem qS{P Q R S T U V W X Y Z A:Prop}(h:P/\Q/\R/\S/\T/\U/\V/\W/\X/\Y/\Z/\A)(k:P->Q->R->S->T->U->V->W->X->Y->Z->A->C):C:=by obtain⟨h1,h2,h3,h4,h5,h6,h7,h8,h9,h10,h11,h12⟩:=h;exact k h1 h2 h3 h4 h5 h6 h7 h8 h9 h10 h11 h12
theorem qw{P Q R S:α->Prop}{T U:α->β->γ->δ->ε->ζ->Prop}(h:∃ a,P a/\Q a/\R a/\S a/\∃ b c d e f,T a b c d e f/\U a b c d e f)(k:∀ a,P a->Q a->R a->S a->∀ b c d e f,T a b c d e f->U a b c d e f->C):C:=by obtain⟨a,h1,h2,h3,h4,b,c,d,e,f,h5,h6⟩:=h;exact k a h1 h2 h3 h4 b c d e f h5 h6
theorem qy{P Q R S T U V W X:α->β->γ->Prop}(h:∃ a b c,P a b c/\Q a b c/\R a b c/\S a b c/\T a b c/\U a b c/\V a b c/\W a b c/\X a b c)(k:∀ a b c,P a b c->Q a b c->R a b c->S a b c->T a b c->U a b c->V a b c->W a b c->X a b c->C):C:=by obtain⟨a,b,c,h1,h2,h3,h4,h5,h6,h7,h8,h9⟩:=h;exact k a b c h1 h2 h3 h4 h5 h6 h7 h8 h9
theorem JZ{P Q R S T U V W X:α->β->γ->δ->Prop}(h:∃ a b c d,P a b c d/\Q a b c d/\R a b c d/\S a b c d/\T a b c d/\U a b c d/\V a b c d/\W a b c d/\X a b c d)(k:∀ a b c d,P a b c d->Q a b c d->R a b c d->S a b c d->T a b c d->U a b c d->V a b c d->W a b c d->X a b c d->C):C:=by obtain⟨a,b,c,d,h1,h2,h3,h4,h5,h6,h7,h8,h9⟩:=h;exact k a b c d h1 h2 h3 h4 h5 h6 h7 h8 h9
theorem JO{P Q R S T U V W:α->β->γ->δ->ε->Prop}(h:∃ a b c d e,P a b c d e/\Q a b c d e/\R a b c d e/\S a b c d e/\T a b c d e/\U a b c d e/\V a b c d e/\W a b c d e)(k:∀ a b c d e,P a b c d e->Q a b c d e->R a b c d e->S a b c d e->T a b c d e->U a b c d e->V a b c d e->W a b c d e->C):C:=by obtain⟨a,b,c,d,e,h1,h2,h3,h4,h5,h6,h7,h8⟩:=h;exact k a b c d e h1 h2 h3 h4 h5 h6 h7 h8
theorem J9{P Q R S T:α->β->γ->δ->ε->ζ->η->θ->Prop}(h:∃ a b c d e f g i,P a b c d e f g i/\Q a b c d e f g i/\R a b c d e f g i/\S a b c d e f g i/\T a b c d e f g i)(k:∀ a b c d e f g i,P a b c d e f g i->Q a b c d e f g i->R a b c d e f g i->S a b c d e f g i->T a b c d e f g i->C):C:=by obtain⟨a,b,c,d,e,f,g,i,h1,h2,h3,h4,h5⟩:=h;exact k a b c d e f g i h1 h2 h3 h4 h5
theorem Jk{P Q R:α->Prop}{S T U V W X Y Z:α->β->γ->Prop}(h:∃ a,P a/\Q a/\R a/\∃ b c,S a b c/\T a b c/\U a b c/\V a b c/\W a b c/\X a b c/\Y a b c/\Z a b c)(k:∀ a,P a->Q a->R a->∀ b c,S a b c->T a b c->U a b c->V a b c->W a b c->X a b c->Y a b c->Z a b c->C):C:=by obtain⟨a,h1,h2,h3,b,c,h4,h5,h6,h7,h8,h9,h10,h11⟩:=h;exact k a h1 h2 h3 b c h4 h5 h6 h7 h8 h9 h10 h11
theorem jl{P Q R:Prop}{S T U V W X Y Z:α->β->γ->δ->ε->Prop}(h:P/\Q/\R/\∃ a b c d e,S a b c d e/\T a b c d e/\U a b c d e/\V a b c d e/\W a b c d e/\X a b c d e/\Y a b c d e/\Z a b c d e)(k:P->Q->R->∀ a b c d e,S a b c d e->T a b c d e->U a b c d e->V a b c d e->W a b c d e->X a b c d e->Y a b c d e->Z a b c d e->C):C:=by obtain⟨h1,h2,h3,a,b,c,d,e,h4,h5,h6,h7,h8,h9,h10,h11⟩:=h;exact k h1 h2 h3 a b c d e h4 h5 h6 h7 h8 h9 h10 h11
theorem u8{P Q R S T U V W X Y:α->β->γ->δ->ε->ζ->Prop}(h:∃ a b c d e f,P a b c d e f/\Q a b c d e f/\R a b c d e f/\S a b c d e f/\T a b c d e f/\U a b c d e f/\V a b c d e f/\W a b c d e f/\X a b c d e f/\Y a b c d e f)(k:∀ a b c d e f,P a b c d e f->Q a b c d e f->R a b c d e f->S a b c d e f->T a b c d e f->U a b c d e f->V a b c d e f->W a b c d e f->X a b c d e f->Y a b c d e f->C):C:=by obtain⟨a,b,c,d,e,f,h1,h2,h3,h4,h5,h6,h7,h8,h9,h10⟩:=h;exact k a b c d e f h1 h2 h3 h4 h5 h6 h7 h8 h9 h10
theorem uU{P Q R S T U V W X Y Z A:α->β->γ->δ->ε->Prop}(h:∃ a b c d e,P a b c d e/\Q a b c d e/\R a b c d e/\S a b c d e/\T a b c d e/\U a b c d e/\V a b c d e/\W a b c d e/\X a b c d e/\Y a b c d e/\Z a b c d e/\A a b c d e)(k:∀ a b c d e,P a b c d e->Q a b c d e->R a b c d e->S a b c d e->T a b c d e->U a b c d e->V a b c d e->W a b c d e->X a b c d e->Y a b c d e->Z a b c d e->A a b c d e->C):C:=by obtain⟨a,b,c,d,e,h1,h2,h3,h4,h5,h6,h7,h8,h9,h10,h11,h12⟩:=h;exact k a b c d e h1 h2 h3 h4 h5 h6 h7 h8 h9 h10 h11 h12
theorem xz{P Q:α->β->γ->δ->ε->ζ->η->θ->ι->κ->μ->ν->ξ->σ->τ->Prop}(h:∃ a b c d e f g i j l m n o p q,P a b c d e f g i j l m n o p q/\Q a b c d e f g i j l m n o p q)(k:∀ a b c d e f g i j l m n o p q,P a b c d e f g i j l m n o p q->Q a b c d e f g i j l m n o p q->C):C:=by obtain⟨a,b,c,d,e,f,g,i,j,l,m,n,o,p,q,h1,h2⟩:=h;exact k a b c d e f g i j l m n o p q h1 h2
theorem xo{P Q R S T U V W X Y Z A:α->β->γ->δ->ε->ζ->Prop}(h:∃ a b c d e f,P a b c d e f/\Q a b c d e f/\R a b c d e f/\S a b c d e f/\T a b c d e f/\U a b c d e f/\V a b c d e f/\W a b c d e f/\X a b c d e f/\Y a b c d e f/\Z a b c d e f/\A a b c d e f)(k:∀ a b c d e f,P a b c d e f->Q a b c d e f->R a b c d e f->S a b c d e f->T a b c d e f->U a b c d e f->V a b c d e f->W a b c d e f->X a b c d e f->Y a b c d e f->Z a b c d e f->A a b c d e f->C):C:=by obtain⟨a,b,c,d,e,f,h1,h2,h3,h4,h5,h6,h7,h8,h9,h10,h11,h12⟩:=h;exact k a b c d e f h1 h2 h3 h4 h5 h6 h7 h8 h9 h10 h11 h12
theorem uA{P Q R S T U V W X:α->β->γ->δ->ε->ζ->η->θ->ι->Prop}(h:∃ a b c d e f g i j,P a b c d e f g i j/\Q a b c d e f g i j/\R a b c d e f g i j/\S a b c d e f g i j/\T a b c d e f g i j/\U a b c d e f g i j/\V a b c d e f g i j/\W a b c d e f g i j/\X a b c d e f g i j)(k:∀ a b c d e f g i j,P a b c d e f g i j->Q a b c d e f g i j->R a b c d e f g i j->S a b c d e f g i j->T a b c d e f g i j->U a b c d e f g i j->V a b c d e f g i j->W a b c d e f g i j->X a b c d e f g i j->C):C:=by obtain⟨a,b,c,d,e,f,g,i,j,h1,h2,h3,h4,h5,h6,h7,h8,h9⟩:=h;exact k a b c d e f g i j h1 h2 h3 h4 h5 h6 h7 h8 h9
theorem xu{P Q:α->β->γ->δ->ε->ζ->η->θ->ι->κ->μ->ν->ξ->σ->τ->υ->Prop}(h:∃ a b c d e f g i j l m n o p q r,P a b c d e f g i j l m n o p q r/\Q a b c d e f g i j l m n o p q r)(k:∀ a b c d e f g i j l m n o p q r,P a b c d e f g i j l m n o p q r->Q a b c d e f g i j l m n o p q r->C):C:=by obtain⟨a,b,c,d,e,f,g,i,j,l,m,n,o,p,q,r,h1,h2⟩:=h;exact k a b c d e f g i j l m n o p q r h1 h2
theorem yd{P Q R S:α->β->γ->δ->ε->ζ->η->θ->ι->κ->μ->ν->ξ->σ->τ->υ->Prop}(h:∃ a b c d e f g i j l m n o p q r,P a b c d e f g i j l m n o p q r/\Q a b c d e f g i j l m n o p q r/\R a b c d e f g i j l m n o p q r/\S a b c d e f g i j l m n o p q r)(k:∀ a b c d e f g i j l m n o p q r,P a b c d e f g i j l m n o p q r->Q a b c d e f g i j l m n o p q r->R a b c d e f g i j l m n o p q r->S a b c d e f g i j l m n o p q r->C):C:=by obtain⟨a,b,c,d,e,f,g,i,j,l,m,n,o,p,q,r,h1,h2,h3,h4⟩:=h;exact k a b c d e f g i j l m n o p q r h1 h2 h3 h4
theorem xJ{P:α->β->γ->δ->ε->ζ->η->θ->ι->κ->μ->ν->ξ->σ->τ->Prop}{Q R S T U:α->β->γ->δ->ε->ζ->η->θ->ι->κ->μ->ν->ξ->σ->τ->υ->φ->χ->Prop}(h:∃ a b c d e f g i j l m n o p q,P a b c d e f g i j l m n o p q/\∃ r s t,Q a b c d e f g i j l m n o p q r s t/\R a b c d e f g i j l m n o p q r s t/\S a b c d e f g i j l m n o p q r s t/\T a b c d e f g i j l m n o p q r s t/\U a b c d e f g i j l m n o p q r s t)(k:∀ a b c d e f g i j l m n o p q,P a b c d e f g i j l m n o p q->∀ r s t,Q a b c d e f g i j l m n o p q r s t->R a b c d e f g i j l m n o p q r s t->S a b c d e f g i j l m n o p q r s t->T a b c d e f g i j l m n o p q r s t->U a b c d e f g i j l m n o p q r s t->C):C:=by obtain⟨a,b,c,d,e,f,g,i,j,l,m,n,o,p,q,h1,r,s,t,h2,h3,h4,h5,h6⟩:=h;exact k a b c d e f g i j l m n o p q h1 r s t h2 h3 h4 h5 h6
end
@[elab_as_elim] theorem rPR {X0:Type} {P0:Prop} {f0:X0} {x0:X0} {C:X0->Prop} (h:P0/\x0=f0) (k:P0->C f0):C x0:=by obtain⟨z0,rfl⟩:=h;exact k z0
@[elab_as_elim] theorem rPPR {X0:Type} {P0:Prop} {P1:Prop} {f0:X0} {x0:X0} {C:X0->Prop} (h:P0/\P1/\x0=f0) (k:P0->P1->C f0):C x0:=by obtain⟨z0,z1,rfl⟩:=h;exact k z0 z1
section
variable {α β γ δ ε ζ η θ ι κ μ ν ξ σ τ υ φ χ ψ ω α0 α1 α2 α3 α4 α5 α6 α7 α8:Type}
theorem iAE{P:Prop}{Q:α->Prop}(h1:P)(a:α)(h2:Q a):P/\∃ a,Q a:=⟨h1,a,h2⟩
theorem iEA{P Q:α->Prop}(a:α)(h1:P a)(h2:Q a):∃ a,P a/\Q a:=⟨a,h1,h2⟩
theorem iEE{P:α->β->Prop}(a:α)(b:β)(h1:P a b):∃ a b,P a b:=⟨a,b,h1⟩
theorem iAEA{P:Prop}{Q R:α->Prop}(h1:P)(a:α)(h2:Q a)(h3:R a):P/\∃ a,Q a/\R a:=⟨h1,a,h2,h3⟩
theorem iAEE{P:Prop}{Q:α->β->Prop}(h1:P)(a:α)(b:β)(h2:Q a b):P/\∃ a b,Q a b:=⟨h1,a,b,h2⟩
theorem iEAA{P Q R:α->Prop}(a:α)(h1:P a)(h2:Q a)(h3:R a):∃ a,P a/\Q a/\R a:=⟨a,h1,h2,h3⟩
theorem iEEA{P Q:α->β->Prop}(a:α)(b:β)(h1:P a b)(h2:Q a b):∃ a b,P a b/\Q a b:=⟨a,b,h1,h2⟩
theorem iAAEA{P Q:Prop}{R S:α->Prop}(h1:P)(h2:Q)(a:α)(h3:R a)(h4:S a):P/\Q/\∃ a,R a/\S a:=⟨h1,h2,a,h3,h4⟩
theorem iAEAA{P:Prop}{Q R S:α->Prop}(h1:P)(a:α)(h2:Q a)(h3:R a)(h4:S a):P/\∃ a,Q a/\R a/\S a:=⟨h1,a,h2,h3,h4⟩
theorem yx{P:Prop}{Q R:α->β->Prop}(h1:P)(a:α)(b:β)(h2:Q a b)(h3:R a b):P/\∃ a b,Q a b/\R a b:=⟨h1,a,b,h2,h3⟩
theorem yB{P Q R S:α->Prop}(a:α)(h1:P a)(h2:Q a)(h3:R a)(h4:S a):∃ a,P a/\Q a/\R a/\S a:=⟨a,h1,h2,h3,h4⟩
theorem zj{P Q:α->Prop}{R:α->β->Prop}(a:α)(h1:P a)(h2:Q a)(b:β)(h3:R a b):∃ a,P a/\Q a/\∃ b,R a b:=⟨a,h1,h2,b,h3⟩
theorem iEAEA{P:α->Prop}{Q R:α->β->Prop}(a:α)(h1:P a)(b:β)(h2:Q a b)(h3:R a b):∃ a,P a/\∃ b,Q a b/\R a b:=⟨a,h1,b,h2,h3⟩
theorem xk{P Q R:α->β->Prop}(a:α)(b:β)(h1:P a b)(h2:Q a b)(h3:R a b):∃ a b,P a b/\Q a b/\R a b:=⟨a,b,h1,h2,h3⟩
theorem iEEEA{P Q:α->β->γ->Prop}(a:α)(b:β)(c:γ)(h1:P a b c)(h2:Q a b c):∃ a b c,P a b c/\Q a b c:=⟨a,b,c,h1,h2⟩
theorem iAAEEA{P Q:Prop}{R S:α->β->Prop}(h1:P)(h2:Q)(a:α)(b:β)(h3:R a b)(h4:S a b):P/\Q/\∃ a b,R a b/\S a b:=⟨h1,h2,a,b,h3,h4⟩
theorem uH{P:Prop}{Q R S:α->β->Prop}(h1:P)(a:α)(b:β)(h2:Q a b)(h3:R a b)(h4:S a b):P/\∃ a b,Q a b/\R a b/\S a b:=⟨h1,a,b,h2,h3,h4⟩
theorem vt{P Q R S T:α->Prop}(a:α)(h1:P a)(h2:Q a)(h3:R a)(h4:S a)(h5:T a):∃ a,P a/\Q a/\R a/\S a/\T a:=⟨a,h1,h2,h3,h4,h5⟩
theorem iEAAEA{P Q:α->Prop}{R S:α->β->Prop}(a:α)(h1:P a)(h2:Q a)(b:β)(h3:R a b)(h4:S a b):∃ a,P a/\Q a/\∃ b,R a b/\S a b:=⟨a,h1,h2,b,h3,h4⟩
theorem vn{P Q R S:α->β->Prop}(a:α)(b:β)(h1:P a b)(h2:Q a b)(h3:R a b)(h4:S a b):∃ a b,P a b/\Q a b/\R a b/\S a b:=⟨a,b,h1,h2,h3,h4⟩
theorem iEEEAA{P Q R:α->β->γ->Prop}(a:α)(b:β)(c:γ)(h1:P a b c)(h2:Q a b c)(h3:R a b c):∃ a b c,P a b c/\Q a b c/\R a b c:=⟨a,b,c,h1,h2,h3⟩
theorem iEEEEA{P Q:α->β->γ->δ->Prop}(a:α)(b:β)(c:γ)(d:δ)(h1:P a b c d)(h2:Q a b c d):∃ a b c d,P a b c d/\Q a b c d:=⟨a,b,c,d,h1,h2⟩
theorem Q3{P Q R S T U:α->Prop}(a:α)(h1:P a)(h2:Q a)(h3:R a)(h4:S a)(h5:T a)(h6:U a):∃ a,P a/\Q a/\R a/\S a/\T a/\U a:=⟨a,h1,h2,h3,h4,h5,h6⟩
theorem uQ{P Q R S T:α->β->Prop}(a:α)(b:β)(h1:P a b)(h2:Q a b)(h3:R a b)(h4:S a b)(h5:T a b):∃ a b,P a b/\Q a b/\R a b/\S a b/\T a b:=⟨a,b,h1,h2,h3,h4,h5⟩
theorem zI{P Q R S:α->β->γ->Prop}(a:α)(b:β)(c:γ)(h1:P a b c)(h2:Q a b c)(h3:R a b c)(h4:S a b c):∃ a b c,P a b c/\Q a b c/\R a b c/\S a b c:=⟨a,b,c,h1,h2,h3,h4⟩
theorem iEEEEAA{P Q R:α->β->γ->δ->Prop}(a:α)(b:β)(c:γ)(d:δ)(h1:P a b c d)(h2:Q a b c d)(h3:R a b c d):∃ a b c d,P a b c d/\Q a b c d/\R a b c d:=⟨a,b,c,d,h1,h2,h3⟩
theorem iEAAAAAA{P Q R S T U V:α->Prop}(a:α)(h1:P a)(h2:Q a)(h3:R a)(h4:S a)(h5:T a)(h6:U a)(h7:V a):∃ a,P a/\Q a/\R a/\S a/\T a/\U a/\V a:=⟨a,h1,h2,h3,h4,h5,h6,h7⟩
theorem qP{P Q R S T:α->β->γ->Prop}(a:α)(b:β)(c:γ)(h1:P a b c)(h2:Q a b c)(h3:R a b c)(h4:S a b c)(h5:T a b c):∃ a b c,P a b c/\Q a b c/\R a b c/\S a b c/\T a b c:=⟨a,b,c,h1,h2,h3,h4,h5⟩
theorem Qa{P Q R S:α->β->γ->δ->Prop}(a:α)(b:β)(c:γ)(d:δ)(h1:P a b c d)(h2:Q a b c d)(h3:R a b c d)(h4:S a b c d):∃ a b c d,P a b c d/\Q a b c d/\R a b c d/\S a b c d:=⟨a,b,c,d,h1,h2,h3,h4⟩
theorem zap{P Q R S T U V W:α->Prop}(a:α)(h1:P a)(h2:Q a)(h3:R a)(h4:S a)(h5:T a)(h6:U a)(h7:V a)(h8:W a):∃ a,P a/\Q a/\R a/\S a/\T a/\U a/\V a/\W a:=⟨a,h1,h2,h3,h4,h5,h6,h7,h8⟩
theorem jF{P Q R S T U V W:α->β->Prop}(a:α)(b:β)(h1:P a b)(h2:Q a b)(h3:R a b)(h4:S a b)(h5:T a b)(h6:U a b)(h7:V a b)(h8:W a b):∃ a b,P a b/\Q a b/\R a b/\S a b/\T a b/\U a b/\V a b/\W a b:=⟨a,b,h1,h2,h3,h4,h5,h6,h7,h8⟩
theorem Q5{P Q R:α->β->γ->δ->ε->ζ->η->Prop}(a:α)(b:β)(c:γ)(d:δ)(e:ε)(f:ζ)(g:η)(h1:P a b c d e f g)(h2:Q a b c d e f g)(h3:R a b c d e f g):∃ a b c d e f g,P a b c d e f g/\Q a b c d e f g/\R a b c d e f g:=⟨a,b,c,d,e,f,g,h1,h2,h3⟩
theorem Qe{P Q R S T U:α->β->γ->δ->ε->ζ->Prop}(a:α)(b:β)(c:γ)(d:δ)(e:ε)(f:ζ)(h1:P a b c d e f)(h2:Q a b c d e f)(h3:R a b c d e f)(h4:S a b c d e f)(h5:T a b c d e f)(h6:U a b c d e f):∃ a b c d e f,P a b c d e f/\Q a b c d e f/\R a b c d e f/\S a b c d e f/\T a b c d e f/\U a b c d e f:=⟨a,b,c,d,e,f,h1,h2,h3,h4,h5,h6⟩
theorem qN{P Q R S T:α->β->γ->δ->ε->ζ->η->Prop}(a:α)(b:β)(c:γ)(d:δ)(e:ε)(f:ζ)(g:η)(h1:P a b c d e f g)(h2:Q a b c d e f g)(h3:R a b c d e f g)(h4:S a b c d e f g)(h5:T a b c d e f g):∃ a b c d e f g,P a b c d e f g/\Q a b c d e f g/\R a b c d e f g/\S a b c d e f g/\T a b c d e f g:=⟨a,b,c,d,e,f,g,h1,h2,h3,h4,h5⟩
theorem qd{P Q R S T U V W X:α->β->γ->δ->Prop}(a:α)(b:β)(c:γ)(d:δ)(h1:P a b c d)(h2:Q a b c d)(h3:R a b c d)(h4:S a b c d)(h5:T a b c d)(h6:U a b c d)(h7:V a b c d)(h8:W a b c d)(h9:X a b c d):∃ a b c d,P a b c d/\Q a b c d/\R a b c d/\S a b c d/\T a b c d/\U a b c d/\V a b c d/\W a b c d/\X a b c d:=⟨a,b,c,d,h1,h2,h3,h4,h5,h6,h7,h8,h9⟩
theorem JT{P Q R S T U V W:α->β->γ->δ->ε->Prop}(a:α)(b:β)(c:γ)(d:δ)(e:ε)(h1:P a b c d e)(h2:Q a b c d e)(h3:R a b c d e)(h4:S a b c d e)(h5:T a b c d e)(h6:U a b c d e)(h7:V a b c d e)(h8:W a b c d e):∃ a b c d e,P a b c d e/\Q a b c d e/\R a b c d e/\S a b c d e/\T a b c d e/\U a b c d e/\V a b c d e/\W a b c d e:=⟨a,b,c,d,e,h1,h2,h3,h4,h5,h6,h7,h8⟩
theorem jg{P Q R S T U V W X Y:α->β->γ->δ->ε->ζ->Prop}(a:α)(b:β)(c:γ)(d:δ)(e:ε)(f:ζ)(h1:P a b c d e f)(h2:Q a b c d e f)(h3:R a b c d e f)(h4:S a b c d e f)(h5:T a b c d e f)(h6:U a b c d e f)(h7:V a b c d e f)(h8:W a b c d e f)(h9:X a b c d e f)(h10:Y a b c d e f):∃ a b c d e f,P a b c d e f/\Q a b c d e f/\R a b c d e f/\S a b c d e f/\T a b c d e f/\U a b c d e f/\V a b c d e f/\W a b c d e f/\X a b c d e f/\Y a b c d e f:=⟨a,b,c,d,e,f,h1,h2,h3,h4,h5,h6,h7,h8,h9,h10⟩
theorem uX{P Q R S T U V W X Y Z A:α->β->γ->δ->ε->Prop}(a:α)(b:β)(c:γ)(d:δ)(e:ε)(h1:P a b c d e)(h2:Q a b c d e)(h3:R a b c d e)(h4:S a b c d e)(h5:T a b c d e)(h6:U a b c d e)(h7:V a b c d e)(h8:W a b c d e)(h9:X a b c d e)(h10:Y a b c d e)(h11:Z a b c d e)(h12:A a b c d e):∃ a b c d e,P a b c d e/\Q a b c d e/\R a b c d e/\S a b c d e/\T a b c d e/\U a b c d e/\V a b c d e/\W a b c d e/\X a b c d e/\Y a b c d e/\Z a b c d e/\A a b c d e:=⟨a,b,c,d,e,h1,h2,h3,h4,h5,h6,h7,h8,h9,h10,h11,h12⟩
theorem uj{P Q R S T U V W X:α->β->γ->δ->ε->ζ->η->θ->ι->Prop}(a:α)(b:β)(c:γ)(d:δ)(e:ε)(f:ζ)(g:η)(i:θ)(j:ι)(h1:P a b c d e f g i j)(h2:Q a b c d e f g i j)(h3:R a b c d e f g i j)(h4:S a b c d e f g i j)(h5:T a b c d e f g i j)(h6:U a b c d e f g i j)(h7:V a b c d e f g i j)(h8:W a b c d e f g i j)(h9:X a b c d e f g i j):∃ a b c d e f g i j,P a b c d e f g i j/\Q a b c d e f g i j/\R a b c d e f g i j/\S a b c d e f g i j/\T a b c d e f g i j/\U a b c d e f g i j/\V a b c d e f g i j/\W a b c d e f g i j/\X a b c d e f g i j:=⟨a,b,c,d,e,f,g,i,j,h1,h2,h3,h4,h5,h6,h7,h8,h9⟩
theorem vV{P Q R S T U V W X Y:α->β->γ->δ->ε->ζ->η->θ->ι->Prop}(a:α)(b:β)(c:γ)(d:δ)(e:ε)(f:ζ)(g:η)(i:θ)(j:ι)(h1:P a b c d e f g i j)(h2:Q a b c d e f g i j)(h3:R a b c d e f g i j)(h4:S a b c d e f g i j)(h5:T a b c d e f g i j)(h6:U a b c d e f g i j)(h7:V a b c d e f g i j)(h8:W a b c d e f g i j)(h9:X a b c d e f g i j)(h10:Y a b c d e f g i j):∃ a b c d e f g i j,P a b c d e f g i j/\Q a b c d e f g i j/\R a b c d e f g i j/\S a b c d e f g i j/\T a b c d e f g i j/\U a b c d e f g i j/\V a b c d e f g i j/\W a b c d e f g i j/\X a b c d e f g i j/\Y a b c d e f g i j:=⟨a,b,c,d,e,f,g,i,j,h1,h2,h3,h4,h5,h6,h7,h8,h9,h10⟩
theorem vG{P Q R S:α->β->γ->δ->ε->ζ->η->θ->ι->κ->μ->ν->ξ->σ->τ->υ->Prop}(a:α)(b:β)(c:γ)(d:δ)(e:ε)(f:ζ)(g:η)(i:θ)(j:ι)(l:κ)(m:μ)(n:ν)(o:ξ)(p:σ)(q:τ)(r:υ)(h1:P a b c d e f g i j l m n o p q r)(h2:Q a b c d e f g i j l m n o p q r)(h3:R a b c d e f g i j l m n o p q r)(h4:S a b c d e f g i j l m n o p q r):∃ a b c d e f g i j l m n o p q r,P a b c d e f g i j l m n o p q r/\Q a b c d e f g i j l m n o p q r/\R a b c d e f g i j l m n o p q r/\S a b c d e f g i j l m n o p q r:=⟨a,b,c,d,e,f,g,i,j,l,m,n,o,p,q,r,h1,h2,h3,h4⟩
end
end Mine
namespace Mine.ST
open PySem.SetTable
noncomputable def Sorted (xs:List Nat):Prop:=xs.Pairwise (· < ·)
theorem Sorted.lt {xs:List Nat} (h:Sorted xs) {i j:Nat} (hi:i<xs.length) (hj:j<xs.length) (hij:i<j):xs[i]<xs[j]:=OK.mp h i j hi hj hij
theorem go_ok {xs:Array Nat} (hs:Sorted xs.toList) (j:Nat):∀ (fuel lo hi:Nat),hi-lo<=fuel->lo<=hi->hi<=xs.size ->
  (∀ i (h:i<xs.size),i<lo->xs[i]<j)->(∀ i (h:i<xs.size),hi<=i->j<=xs[i]) ->
  (below.go xs j fuel lo hi<=xs.size)/\(∀ i (h:i<xs.size),i<below.go xs j fuel lo hi->xs[i]<j)/\(∀ i (h:i<xs.size),below.go xs j fuel lo hi<=i->j<=xs[i])
 | 0,lo,hi,hf,hlh,hhs,h1,h2=>by
  have:lo=hi:=by exact Nz.c0 ‹_› ‹_›
  subst this
  delta below.go
  exact⟨hhs,h1,h2⟩
 | fuel+1,lo,hi,hf,hlh,hhs,h1,h2=>by
  unfold below.go
  by_cases q:lo<hi
  .rw[if_pos q]
   dsimp only
   have hm:(lo+hi) / 2<xs.size:=by exact Nz.mv ‹_› ‹_›
   have hg:xs.getD ((lo+hi) / 2) j=xs[(lo+hi) / 2]:=by exact Gq (Tq j)
   rw[hg]
   have mono:∀ a b (ha:a<xs.size) (hb:b<xs.size),a<=b->xs[a]<=xs[b]:=λa b ha hb hab=>by
    rcases LQ hab with h | h
    .exact KJ (by have:=hs.lt (i:=a) (j:=b) (by simpa using ha) (by simpa using hb) h;simp only[Array.getElem_toList] at this;exact this)
    .subst h;exact GI _
   by_cases z:xs[(lo+hi) / 2]<j
   .rw[if_pos z]
    refine go_ok hs j fuel _ hi (by exact AR ‹_› ‹_›) (by exact Nz.mu ‹_›) hhs (λi h hi=>?_) h2
    exact HA (mono i _ h hm (by exact Hy ‹_›)) z
   .rw[if_neg z]
    refine go_ok hs j fuel lo _ (by exact AS ‹_› ‹_›) (by exact Ob λa=>z (h1 ((lo+hi) / 2) hm a)) (by exact KJ ‹_›) h1 λi h hi=>?_
    exact Gc (Ob z) (mono _ i hm h hi)
  .rw[if_neg q]
   have:lo=hi:=by lia
   subst this
   exact⟨hhs,h1,h2⟩
theorem below_ok {xs:Array Nat} (hs:Sorted xs.toList) (j:Nat):(below xs j<=xs.size)/\(∀ i (h:i<xs.size),i<below xs j->xs[i]<j)/\(∀ i (h:i<xs.size),below xs j<=i->j<=xs[i]) :=
 go_ok hs j _ 0 xs.size (by exact OD _ _) (GU _) (GI _) (λi h hi=>absurd hi (NN _)) λi h hi=>absurd h (by exact Tc ‹_›)
noncomputable abbrev Ent:=Nat×Int×Gd
structure Laid (t:Lw) (es:Array (Int×Gd)) (L:List Ent):Prop where
 place:t.place.toList=L.map (·.1)
 ents:es.toList=L.map (·.2)
 nod:t.dummies = #[]
 srt:Sorted (L.map (·.1))
noncomputable def slots (L:List Ent):List Nat:=L.map (·.1)
theorem Laid.size {t:Lw} {es:Array (Int×Gd)} {L:List Ent} (h:Laid t es L):t.place.size=L.length/\es.size=L.length:=by
 refine⟨?_,?_⟩
 .rw[←GY,h.place,Ge]
 .rw[←GY,h.ents,Ge]
theorem Laid.placeAt {t:Lw} {es:Array (Int×Gd)} {L:List Ent} (h:Laid t es L) (i:Nat):t.place[i]? = (L[i]?).map (·.1):=by
 rw[←Kh,h.place,Gx]
theorem Laid.entAt {t:Lw} {es:Array (Int×Gd)} {L:List Ent} (h:Laid t es L) (i:Nat):es[i]? = (L[i]?).map (·.2):=by
 rw[←Kh,h.ents,Gx]
theorem Laid.below {t:Lw} {es:Array (Int×Gd)} {L:List Ent} (h:Laid t es L) (j:Nat):Kc t.place j<=L.length/\(∀ i e,L[i]? = fm e->i<Kc t.place j->e.1<j)/\(∀ i e,L[i]? = fm e->Kc t.place j<=i->j<=e.1):=by
 have hs:Sorted t.place.toList:=by rw[h.place];exact h.srt
 refine xAA (below_ok hs j) λh1 h2 h3=>?_
 have g:∀ i e,L[i]? = fm e->∃ hi:i<t.place.size,t.place[i]=e.1:=λi e he=>by
  have:=h.placeAt i
  replace this:=he ▸ this;rewrite [Oe] at this
  obtain⟨hi,e2⟩:=No.mp this
  exact⟨hi,e2⟩
 refine⟨h.size.1 ▸ h1,λi e he hi=>?_,λi e he hi=>?_⟩
 .obtain⟨hl,e2⟩:=g i e he;rw[←e2];exact h2 i hl hi
 .obtain⟨hl,e2⟩:=g i e he;rw[←e2];exact h3 i hl hi
theorem QS (j:Nat):has #[] j=Gk:=by delta has;rfl
theorem Laid.slot_live {t:Lw} {es:Array (Int×Gd)} {L:List Ent} (h:Laid t es L) {i:Nat} {e:Ent} (he:L[i]? = fm e):t.slot e.1=.live i:=by
 refine xAA (h.below e.1) λh1 h2 h3=>?_
 have hb:Kc t.place e.1=i:=by
  rcases KQ (Kc t.place e.1) i with q | q | q
  .have hl:i<L.length:=(GK.mp he).1
   have hb':L[Kc t.place e.1]? = fm L[Kc t.place e.1]:=Gu _
   have a:=h3 _ _ hb' (GI _)
   have hlt:=h.srt.lt (i:=Kc t.place e.1) (j:=i) (by rw[Ge];exact K4 ‹_› ‹_›) (by rw[Ge];exact hl) q
   rewrite [Y7,Y7] at hlt
   have:L[i]=e:=by replace he:=(Gu hl) ▸ he;exact K5 he
   replace hlt:=this ▸ hlt
   exact absurd ‹_› (V1 ‹_›)
  .exact q
  .have:=h2 i e he q;lia
 delta SetTable.slot
 dsimp only
 rw[hb,h.placeAt,he]
 simp
theorem Laid.slot_empty {t:Lw} {es:Array (Int×Gd)} {L:List Ent} (h:Laid t es L) {j:Nat} (hj:j∉slots L):t.slot j=.empty:=by
 delta SetTable.slot
 dsimp only
 rw[h.placeAt]
 have:((L[Kc t.place j]?).map (·.1)==fm j)=Gk:=by
  cases q:L[Kc t.place j]? with
  | none=>rfl
  | some e =>
   have hm:e.1∈slots L:=Gr.mpr ⟨e,GS q,rfl⟩
   have:e.1≠j:=λz=>hj (z ▸ hm)
   simpa using this
 rw[this,h.nod,QS]
 rfl
noncomputable def adv (mask:Nat) (p:Probe):Probe :=
 if p.more>0 then { p with j:=p.j+1,more:=p.more-1 } else
 let (i,perturb):=leap mask p.i p.perturb
 { p with j:=i,more:=runEnd mask i-i,i,perturb }
noncomputable def sq (mask:Nat) (h:Int):Nat->Probe
 | 0=>{ j:=bits h%(mask+1),more:=runEnd mask (bits h%(mask+1))-bits h%(mask+1),i:=bits h%(mask+1),perturb:=bits h,dummy:=fp }
 | n+1=>adv mask (sq mask h n)
noncomputable def at' (mask:Nat) (h:Int) (n:Nat):Nat:=(sq mask h n).j
theorem adv_eq (t:Lw) (p:Probe):t.advance p=adv t.mask p:=rfl
theorem start_eq (t:Lw) (h:Int):t.probeStart h=sq t.mask h 0:=rfl
theorem sq_dummy (mask:Nat) (h:Int) (n:Nat):(sq mask h n).dummy=fp:=by
 induction n with
 | zero=>rfl
 | succ n ih=>show (adv mask (sq mask h n)).dummy=fp;delta adv;split<;>exact ih
noncomputable def lp (mask:Nat) (h:Int):Nat->Nat×Nat
 | 0=>(bits h%(mask+1),bits h)
 | r+1=>leap mask (lp mask h r).1 (lp mask h r).2
noncomputable def rl (mask i:Nat):Nat:=runEnd mask i-i
noncomputable def st (mask:Nat) (h:Int):Nat->Nat
 | 0=>0
 | r+1=>st mask h r+(rl mask (lp mask h r).1+1)
theorem rl_le (mask i:Nat):rl mask i<=9:=by unfold rl runEnd;split<;>lia
theorem st_le (mask:Nat) (h:Int) (r:Nat):st mask h r<=10*r:=by
 induction r with
 | zero=>exact GI _
 | succ r ih=>show st mask h r+(rl mask (lp mask h r).1+1)<=_;have:=rl_le mask (lp mask h r).1;lia
theorem sq_st (mask:Nat) (h:Int):∀ (r k:Nat),k<=rl mask (lp mask h r).1->sq mask h (st mask h r+k)=⟨(lp mask h r).1+k,rl mask (lp mask h r).1-k,(lp mask h r).1,(lp mask h r).2,fp⟩:=by
 intro r
 have step:∀ r,sq mask h (st mask h r)=⟨(lp mask h r).1,rl mask (lp mask h r).1,(lp mask h r).1,(lp mask h r).2,fp⟩->∀ k,k<=rl mask (lp mask h r).1->sq mask h (st mask h r+k)=⟨(lp mask h r).1+k,rl mask (lp mask h r).1-k,(lp mask h r).1,(lp mask h r).2,fp⟩:=by
  intro r h0 k
  induction k with
  | zero=>intro _;rw[VK,h0];rfl
  | succ k ih =>
   intro hk
   rw[←HE]
   show adv mask (sq mask h (st mask h r+k))=_
   rw[ih (by exact KA ‹_›)]
   delta adv
   rw[if_pos (show rl mask (lp mask h r).1-k>0 by lia)]
   simp only[Probe.mk.injEq,and_true,true_and]
   exact pairCode_inj ((lp mask h r).fst+k+1) (rl mask (lp mask h r).fst-k-1) ((lp mask h r).fst+(k+1)) (rl mask (lp mask h r).fst-(k+1)) rfl
 induction r with
 | zero=>exact step 0 rfl
 | succ r ih =>
  refine step (r+1) ?_
  show sq mask h (st mask h r+(rl mask (lp mask h r).1+1))=_
  rw[←HE]
  show adv mask (sq mask h (st mask h r+rl mask (lp mask h r).1))=_
  rw[ih _ (GI _)]
  delta adv
  rw[if_neg (by simp)]
  rfl
theorem at_st (mask:Nat) (h:Int) {r k:Nat} (hk:k<=rl mask (lp mask h r).1):at' mask h (st mask h r+k)=(lp mask h r).1+k:=by
 delta at';rw[sq_st mask h r k hk]
theorem st_split (mask:Nat) (h:Int) (n:Nat):∃ r k,k<=rl mask (lp mask h r).1/\n=st mask h r+k:=by
 induction n with
 | zero=>exact⟨0,0,GU _,rfl⟩
 | succ n ih =>
  refine xEEA ih λr k h1 h2=>?_;try clear ih
  by_cases q:k<rl mask (lp mask h r).1
  .exact⟨r,k+1,q,by exact gu.mpr h2⟩
  .refine⟨r+1,0,GU _,?_⟩
   show n+1=st mask h r+(rl mask (lp mask h r).1+1)+0
   lia
theorem QW (mask:Nat) (h:Int) {a b:Nat} (hab:a<=b):st mask h a<=st mask h b:=by
 induction b with
 | zero =>
  have:a=0:=by exact XI hab
  subst this;exact GI _
 | succ b ih =>
  rcases LQ hab with q | q
  .have:=ih (by exact Hy ‹_›)
   show _<=st mask h b+_
   exact XH this
  .subst q;exact GI _
noncomputable def Good (mask:Nat):Prop:=mask=7\/mask=31\/mask=127
theorem bits_lt (h:Int):bits h<2 ^ 64:=by
 delta bits
 have h1:=Int.emod_nonneg h (show (2 ^ 64:Int)≠0 by decide)
 have h2:=Int.emod_lt_of_pos h (show (0:Int)<2 ^ 64 by decide)
 exact(Int.toNat_lt h1).mpr h2
theorem Q4 (mask:Nat) (h:Int) (r:Nat):(lp mask h r).2=bits h / 32 ^ r:=by
 induction r with
 | zero=>simp[lp]
 | succ r ih=>show (lp mask h r).2 / 32=_;rw[ih,Nat.div_div_eq_div_mul,XE]
theorem lp_zero (mask:Nat) (h:Int) {r:Nat} (hr:13<=r):(lp mask h r).2=0:=by
 rw[Q4]
 refine gt (Hb (bits_lt h) ?_)
 exact Gc (show 2 ^ 64<=32 ^ 13 by decide) (Oh (by decide) hr)
noncomputable def nx (mask i:Nat):Nat:=(i*5+1)%(mask+1)
noncomputable def nxs (mask:Nat):Nat->Nat->Nat
 | 0,i=>i
 | n+1,i=>nxs mask n (nx mask i)
theorem lp_nxs (mask:Nat) (h:Int) (n:Nat):∀ r,13<=r->(lp mask h (r+n)).1=nxs mask n (lp mask h r).1:=by
 induction n with
 | zero=>intro r _;rfl
 | succ n ih =>
  intro r hr
  rw[show r+(n+1)=(r+1)+n by exact Gq (Lp r n),ih (r+1) (by exact N2 ‹_›)]
  show nxs mask n (leap mask (lp mask h r).1 (lp mask h r).2).1=nxs mask n (nx mask (lp mask h r).1)
  delta leap
  rw[lp_zero mask h hr];rfl
theorem jY (mask:Nat) (a b i:Nat):nxs mask (a+b) i=nxs mask b (nxs mask a i):=by
 induction a generalizing i with
 | zero=>rw[VI];rfl
 | succ a ih=>rw[show a+1+b=(a+b)+1 by exact Kp _ _ _];exact ih (nx mask i)
theorem cover7:(nxs 7 8 0=0)/\∀ e<8,∃ s<8,nxs 7 s 0=e:=by decide +kernel
theorem cover31:(nxs 31 32 0=0)/\∀ e<32,∃ s<32,nxs 31 s 0=e:=by decide +kernel
theorem cover127:(nxs 127 128 0=0)/\∀ e<128,∃ s<128,nxs 127 s 0=e:=by decide +kernel
theorem cover {mask:Nat} (g:Good mask):(nxs mask (mask+1) 0=0)/\∀ e<mask+1,∃ s<mask+1,nxs mask s 0=e:=by
 rcases g with rfl | rfl | rfl
 .exact cover7
 .exact cover31
 .exact cover127
theorem Zv {mask:Nat} (g:Good mask) {i e:Nat} (hi:i<mask+1) (he:e<mask+1):∃ s≤mask,nxs mask s i=e:=by
 refine xA (cover g) λh0 hc=>?_
 refine xEA (hc i hi) λa ha E5=>?_;subst E5
 refine xEA (hc e he) λb hb E5=>?_;subst E5
 by_cases q:a<=b
 .exact⟨b-a,by exact Nz.zu ‹_›,by rw[←jY];congr 1;exact Hj q⟩
 .refine⟨mask+1+b-a,by exact Nz.zv ‹_›,?_⟩
  rw[←jY,show a+(mask+1+b-a)=(mask+1)+b by exact Nz.zw ‹_›,jY,h0]
theorem lp_lt (mask:Nat) (h:Int) (r:Nat):(lp mask h r).1<mask+1:=by
 cases r with
 | zero=>exact Nat.mod_lt _ (XC _)
 | succ r=>exact Nat.mod_lt _ (XC _)
theorem Ze {mask:Nat} (g:Good mask) (h:Int) {e:Nat} (he:e<=mask):∃ r,r<=13+mask/\(lp mask h r).1=e:=by
 refine xEA (Zv g (lp_lt mask h 13) (GW he)) λs hs q=>?_
 exact⟨13+s,by exact Ho ‹_› _,by rw[lp_nxs mask h s 13 (GI _)];exact q⟩
theorem at_meets {mask:Nat} (g:Good mask) (h:Int) {e:Nat} (he:e<=mask):∃ n,n<=st mask h (13+mask)/\at' mask h n=e:=by
 refine xEA (Ze g h he) λr hr q=>?_
 refine⟨st mask h r,QW mask h hr,?_⟩
 have:=at_st mask h (r:=r) (k:=0) (GU _)
 rewrite [VK] at this
 rw[this,q];rfl
theorem jM (mask:Nat) (h:Int) (n:Nat):at' mask h n<=mask:=by
 refine xEEA (st_split mask h n) λr k hk E5=>?_;subst E5
 rw[at_st mask h hk]
 have h1:=lp_lt mask h r
 unfold rl runEnd at hk
 split at hk<;>lia
theorem nodup_le:∀ {xs ys:List Nat},xs.Nodup->(∀ x∈xs,x∈ys)->xs.length<=ys.length
 | [],ys,_,_=>GU _
 | x::xs,ys,hn,hs=>by
  rewrite [LX] at hn
  have hx:=hs x Gp
  have:=nodup_le (xs:=xs) (ys:=ys.erase x) hn.2 λy hy=>(XY (by rintro rfl;exact hn.1 hy)).mpr (hs y (Go _ hy))
  replace this:=Xb hx ▸ this
  have hpos:0<ys.length:=Tj hx
  rw[GC];exact Yk hpos this
theorem first_free {mask:Nat} (g:Good mask) (h:Int) {S:List Nat} (hS:S.Nodup) (hl:S.length<=mask):∃ n,n<=st mask h (13+mask)/\at' mask h n∉S/\∀ m<n,at' mask h m∈S:=by
 have hex:∃ e,e<=mask/\e∉S:=by
  apply HR
  intro hn
  have hall:∀ e∈GH (mask+1),e∈S:=λe he=>by
   rewrite [Hn] at he
   apply HR
   intro q
   exact hn ⟨e,by exact Hy ‹_›,q⟩
  have:=nodup_le Y1 hall
  replace this:=Lj ▸ this
  lia
 refine xEA hex λe he heS=>?_;try clear hex
 refine xEA (at_meets g h he) λn hn hne=>?_
 have key:∀ n,at' mask h n∉S->∃ m,m<=n/\at' mask h m∉S/\∀ i<m,at' mask h i∈S:=by
  intro n
  induction n using Nat.strongRecOn with
  | ind n ih =>
   intro hn
   by_cases q:∀ i<n,at' mask h i∈S
   .exact⟨n,GI _,hn,q⟩
   .have:∃ i,i<n/\at' mask h i∉S:=by
     apply HR
     intro z
     exact q λi hi=>HR λy=>z ⟨i,hi,y⟩
    refine xEA this λi hi hq=>?_;try clear this
    refine xEA (ih i hi hq) λm hm r=>?_
    exact⟨m,by lia,r⟩
 refine xEA (key n (by rw[hne];exact heS)) λm hm r=>?_
 exact⟨m,by exact Gc ‹_› ‹_›,r⟩
structure Snd (mask:Nat) (L:List Ent):Prop where
 srt:Sorted (L.map (·.1))
 le:∀ e∈L,e.1<=mask
 way:∀ e∈L,∃ n,at' mask e.2.1 n=e.1/\∀ m<n,at' mask e.2.1 m∈slots L
theorem Snd.nodup {mask:Nat} {L:List Ent} (h:Snd mask L):(slots L).Nodup:=by
 delta slots
 exact h.srt.imp λh=>HZ h
noncomputable def ins (L:List Ent) (e:Ent):List Ent:=L.filter (λx=>decide (x.1<e.1))++e::L.filter (λx=>decide (e.1<x.1))
theorem mem_ins {L:List Ent} {e x:Ent} (h:e.1∉slots L):x∈ins L e↔x=e\/x∈L:=by
 delta ins
 rw[KR,Gi,LY,LY]
 constructor
 .rintro(⟨h,_⟩ | rfl | ⟨h,_⟩)
  .exact .inr h
  .exact .inl rfl
  .exact .inr h
 .rintro(rfl | hx)
  .exact .inr (.inl rfl)
  .have:x.1≠e.1:=λq=>h (Gr.mpr ⟨x,hx,q⟩)
   rcases Nat.lt_or_gt_of_ne this with q | q
   .exact .inl ⟨hx,by simpa using q⟩
   .exact .inr (.inr ⟨hx,by simpa using q⟩)
theorem snd_ins {mask:Nat} {L:List Ent} (h:Snd mask L) {e:Ent} {n:Nat} (hn:at' mask e.2.1 n=e.1) (hf:e.1∉slots L) (hb:∀ m<n,at' mask e.2.1 m∈slots L):Snd mask (ins L e):=by
 have mem:=λx=>mem_ins (x:=x) hf
 have sub:∀ j,j∈slots L->j∈slots (ins L e):=λj hj=>by
  refine xEA (Gr.mp hj) λx hx E5=>?_;subst E5
  exact Gr.mpr ⟨x,(mem x).mpr (.inr hx),rfl⟩
 refine⟨?_,λx hx=>?_,λx hx=>?_⟩
 .delta ins Sorted
  rw[GG,GF,List.pairwise_append]
  refine⟨?_,?_,?_⟩
  .exact VU (Xd _ Yn) h.srt
  .rw[KG]
   refine⟨λy hy=>?_,VU (Xd _ Yn) h.srt⟩
   refine xEA (Gr.mp hy) λx hx E5=>?_;subst E5
   exact of_decide_eq_true (LY.mp hx).2
  .intro a ha b hb
   refine xEA (Gr.mp ha) λx hx E5=>?_;subst E5
   have h1:x.1<e.1:=of_decide_eq_true (LY.mp hx).2
   rcases Gi.mp hb with rfl | hb
   .exact h1
   .refine xEA (Gr.mp hb) λy hy E5=>?_;subst E5
    have h2:e.1<y.1:=of_decide_eq_true (LY.mp hy).2
    exact K4 ‹_› ‹_›
 .rcases(mem x).mp hx with rfl | hx
  .rw[←hn];exact jM _ _ _
  .exact h.le x hx
 .rcases(mem x).mp hx with rfl | hx
  .exact⟨n,hn,λm hm=>sub _ (hb m hm)⟩
  .refine xEA (h.way x hx) λm h1 h2=>?_
   exact⟨m,h1,λi hi=>sub _ (h2 i hi)⟩
theorem qV {L:List Ent} (hs:Sorted (L.map (·.1))) {j:Nat} (hf:j∉slots L) {p:Nat} (h1:∀ i e,L[i]? = fm e->i<p->e.1<j) (h2:∀ i e,L[i]? = fm e->p<=i->j<=e.1):L.filter (λx=>decide (x.1<j))=L.take p/\L.filter (λx=>decide (j<x.1))=L.drop p:=by
 have e0:L=L.take p++L.drop p:=(Tr p L).symm
 have a1:∀ x∈L.take p,x.1<j:=λx hx=>by
  refine xE (GV.mp hx) λi hi=>?_
  replace hi:=(List.getElem?_take) ▸ hi
  split at hi
  .rename_i q;exact h1 i x hi q
  .cases hi
 have a2:∀ x∈L.drop p,j<x.1:=λx hx=>by
  refine xE (GV.mp hx) λi hi=>?_
  replace hi:=(YD) ▸ hi
  have:=h2 _ x hi (HK _ _)
  have hne:x.1≠j:=λq=>hf (Gr.mpr ⟨x,GS hi,q⟩)
  exact OE this (id (Hk hne))
 refine⟨?_,?_⟩
 .conv=>lhs;rw[e0]
  rw[LJ,T6.mpr (λx hx=>by simpa using a1 x hx),Tk.mpr (λx hx=>by have:=a2 x hx;simp;exact KJ ‹_›),Hl]
 .conv=>lhs;rw[e0]
  rw[LJ,Tk.mpr (λx hx=>by have:=a1 x hx;simp;exact KJ ‹_›),T6.mpr (λx hx=>by simpa using a2 x hx),KC]
theorem vS {α:Type} (xs:Array α) (p:Nat) (x:α):(insertAt xs p x).toList=xs.toList.take p++x::xs.toList.drop p:=by
 delta insertAt
 simp only[Yc,Array.toList_push,Array.toList_extract,OL,WE,XD,He,Nx,KC]
 congr 2
 rw[KW]
 rw[Hc,GY];exact GI _
theorem Laid.put {t:Lw} {es:Array (Int×Gd)} {L:List Ent} (h:Laid t es L) {j:Nat} {e:Int×Gd} (hf:j∉slots L) (hsr:Sorted ((ins L (j,e)).map (·.1))):Laid (t.put j).1 (insertAt es (t.put j).2 e) (ins L (j,e)):=by
 refine xAA (h.below j) λh1 h2 h3=>?_
 refine xA (qV h.srt hf h2 h3) λe1 e2=>?_
 refine⟨?_,?_,?_,hsr⟩
 .show (insertAt t.place (Kc t.place j) j).toList=_
  rw[vS,h.place]
  delta ins
  dsimp only
  rw[e1,e2,GG,GF,NK,LZ]
 .show (insertAt es (Kc t.place j) e).toList=_
  rw[vS,h.ents]
  delta ins
  dsimp only
  rw[e1,e2,GG,GF,NK,LZ]
 .show (if has t.dummies j then _ else t.dummies)=_
  rw[h.nod,QS];rfl
theorem ins_length {L:List Ent} (hs:Sorted (L.map (·.1))) {e:Ent} (hf:e.1∉slots L) {t:Lw} {es:Array (Int×Gd)} (h:Laid t es L):(ins L e).length=L.length+1:=by
 refine xAA (h.below e.1) λh1 h2 h3=>?_
 refine xA (qV hs hf h2 h3) λe1 e2=>?_
 delta ins
 rw[e1,e2,Gs,GC,O7,Hc]
 lia
theorem QC {mask:Nat} {h:Int} {owner:Array (Option Nat)} {S:List Nat} (hS:∀ j,j<=mask->((owner.getD j (fm 0)).isNone=Gh↔j∉S)) {N:Nat} (hN:at' mask h N∉S) (hb:∀ m<N,at' mask h m∈S) :
  ∀ (f r:Nat),st mask h r<=N->N<st mask h (r+f)->layClean.free mask owner f (lp mask h r).1 (lp mask h r).2=fm (at' mask h N)
 | 0,r,h1,h2=>by rewrite [VK] at h2;exact absurd ‹_› (V1 ‹_›)
 | f+1,r,h1,h2=>by
  unfold layClean.free
  have hrl:runEnd mask (lp mask h r).1+1-(lp mask h r).1=rl mask (lp mask h r).1+1:=by
   unfold rl runEnd;split<;>lia
  rw[hrl]
  have hpos:∀ k,k<=rl mask (lp mask h r).1->(lp mask h r).1+k=at' mask h (st mask h r+k):=λk hk=>(at_st mask h hk).symm
  by_cases q:N<st mask h (r+1)
  .have q':N<st mask h r+(rl mask (lp mask h r).1+1):=q
   obtain⟨k,hk⟩:∃ k,N=st mask h r+k:=⟨N-st mask h r,by exact Gq (Hj h1)⟩
   have hkl:k<=rl mask (lp mask h r).1:=by lia
   have hfind:(GH (rl mask (lp mask h r).1+1)).find? (λk=>(owner.getD ((lp mask h r).1+k) (fm 0)).isNone)=fm k:=by
    rw[OT]
    refine⟨?_,by simp;exact GW ‹_›,λj hj=>?_⟩
    .rw[hpos k hkl,←hk];exact(hS _ (jM _ _ _)).mpr hN
    .rw[hpos j (by lia)]
     have hm:=hb (st mask h r+j) (by lia)
     rw[KP,OS]
     intro z
     exact(hS _ (jM _ _ _)).mp z hm
   rw[hfind]
   dsimp only
   rw[hpos k hkl,←hk]
  .have q':st mask h r+(rl mask (lp mask h r).1+1)<=N:=Ob q
   have hfind:(GH (rl mask (lp mask h r).1+1)).find? (λk=>(owner.getD ((lp mask h r).1+k) (fm 0)).isNone)=fp:=by
    rw[Vo]
    intro k hk
    rewrite [Hn] at hk
    rw[hpos k (by exact Hy ‹_›)]
    have hm:=hb (st mask h r+k) (by lia)
    intro z
    exact(hS _ (jM _ _ _)).mp z hm
   rw[hfind]
   dsimp only
   exact QC hS hN hb f (r+1) q' (by rw[show r+1+f=r+(f+1) by exact Lp r f];exact h2)
structure Owns (mask:Nat) (M:List (Int×Gd)) (owner:Array (Option Nat)) (k:Nat) (L:List Ent):Prop where
 size:owner.size=mask+1
 snd:Snd mask L
 len:L.length=k
 some_:∀ e∈L,∃ i,i<k/\owner.getD e.1 fp=fm i/\M[i]? = fm e.2
 none_:∀ j,j<=mask->j∉slots L->owner.getD j fp=fp
 all:∀ i,i<k->∃ j e,M[i]? = fm e/\(j,e)∈L
theorem pY (mask:Nat) (M:List (Int×Gd)):Owns mask M (gb (mask+1) fp) 0 [] :=
 ⟨by exact Array.size_replicate,⟨List.Pairwise.nil,λe h=>(nomatch h),λe h=>(nomatch h)⟩,rfl,λe h=>(nomatch h),λj hj Z=>by simp[HO,Array.getElem?_replicate];split<;>rfl,λi hi=>absurd hi (NN _)⟩
theorem ins_len {L:List Ent} (hs:Sorted (L.map (·.1))) {e:Ent} (hf:e.1∉slots L):(ins L e).length=L.length+1:=by
 have:∀ (L:List Ent),e.1∉slots L->(ins L e).length=L.length+1:=by
  intro L
  induction L with
  | nil=>intro _;rfl
  | cons x r ih =>
   intro hf
   have hx:e.1≠x.1:=λq=>hf (Gr.mpr ⟨x,Gp,q.symm⟩)
   have ih':=ih λq=>hf (by (refine xEA (Gr.mp q) λy hy hq=>?_);exact Gr.mpr ⟨y,Go _ hy,hq⟩)
   unfold ins at ih' ⊢
   rw[Gs,GC] at ih' ⊢
   rw[Ks,Ks]
   by_cases q:x.1<e.1
   .have q2:¬ e.1<x.1:=by exact Nat.not_lt_of_gt q
    simp only[q,q2,decide_true,decide_false,if_true,GQ,if_false,GC]
    lia
   .have q2:e.1<x.1:=by lia
    simp only[q,q2,decide_true,decide_false,if_true,GQ,if_false,GC]
    exact Gq ((λ{m k n}=>gu.mpr) (id (Gq ih')))
 exact this L hf
theorem Owns.next {mask:Nat} {M:List (Int×Gd)} {owner:Array (Option Nat)} {k:Nat} {L:List Ent} (g:Good mask) (O:Owns mask M owner k L) {e:Int×Gd} (he:M[k]? = fm e) (hk:k<=mask) :
  ∃ j L',layClean.free mask owner (turns mask) (bits e.1%(mask+1)) (bits e.1)=fm j/\Owns mask M (owner.setIfInBounds j (fm k)) (k+1) L':=by
 refine xEAA (first_free g e.1 O.snd.nodup (by show (L.map _).length<=_;rw[Ge,O.len];exact hk)) λN hN hf hb=>?_
 have hS:∀ j,j<=mask->((owner.getD j (fm 0)).isNone=Gh↔j∉slots L):=λj hj=>by
  have hlt:j<owner.size:=by rw[O.size];exact GW ‹_›
  have e1:owner.getD j (fm 0)=owner[j]:=by exact Gq (Tq (fm 0))
  have e2:owner.getD j fp=owner[j]:=by exact Gq (Tq fp)
  rw[e1]
  constructor
  .intro z hm
   refine xEA (Gr.mp hm) λx hx E5=>?_;subst E5
   refine xEAA (O.some_ x hx) λi Z hi Z=>?_
   replace hi:=e2 ▸ hi;replace z:=hi ▸ z;cases z
  .intro hm
   have:=O.none_ j hj hm
   replace this:=e2 ▸ this;rw[this];rfl
 have hfree:=QC hS hf hb (turns mask) 0 (GU _) (by
  have h1:st mask e.1 (13+mask)<st mask e.1 (13+mask+1):=by show _<st mask e.1 (13+mask)+_;lia
  have h2:st mask e.1 (13+mask+1)<=st mask e.1 (0+turns mask):=QW _ _ (by delta turns;lia)
  lia)
 have hle:=jM mask e.1 N
 refine⟨at' mask e.1 N,ins L (at' mask e.1 N,e),hfree,?_⟩
 have mem:=λx=>mem_ins (L:=L) (e:=(at' mask e.1 N,e)) (x:=x) hf
 have hlt:at' mask e.1 N<owner.size:=by rw[O.size];exact GW ‹_›
 have gself:(owner.setIfInBounds (at' mask e.1 N) (fm k)).getD (at' mask e.1 N) fp=fm k:=by simp[HO,hlt]
 have gother:∀ j,j≠at' mask e.1 N->(owner.setIfInBounds (at' mask e.1 N) (fm k)).getD j fp=owner.getD j fp:=λj hj=>by
  simp[HO,Ok,Hk hj]
 refine⟨by simp[O.size],snd_ins O.snd rfl hf hb,?_,λx hx=>?_,λj hj hjn=>?_,λi hi=>?_⟩
 .rw[ins_len O.snd.srt hf,O.len]
 .rcases(mem x).mp hx with rfl | hx
  .exact⟨k,Oa _,gself,he⟩
  .refine xEAA (O.some_ x hx) λi h1 h2 h3=>?_
   exact⟨i,by exact Nat.lt_add_right 1 h1,by rw[gother _ (λq=>hf (Gr.mpr ⟨x,hx,q⟩))];exact h2,h3⟩
 .have h1:j≠at' mask e.1 N:=λq=>hjn (Gr.mpr ⟨_,(mem _).mpr (.inl rfl),q.symm⟩)
  rw[gother j h1]
  exact O.none_ j hj λhm=>hjn (by (refine xEA (Gr.mp hm) λx hx q=>?_);exact Gr.mpr ⟨x,(mem x).mpr (.inr hx),q⟩)
 .rcases LQ (Hy hi) with q | q
  .refine xEEA (O.all i q) λj e' h1 h2=>?_
   exact⟨j,e',h1,(mem _).mpr (.inr h2)⟩
  .subst q;exact⟨_,e,he,(mem _).mpr (.inl rfl)⟩
theorem Qj {mask:Nat} (g:Good mask) {M:List (Int×Gd)} (hl:M.length<=mask+1):∃ owner L,layClean mask (M.map (·.1)).toArray=fm owner/\Owns mask M owner M.length L:=by
 have aux:∀ (rest:List (Int×Gd)) (k:Nat) (owner:Array (Option Nat)) (L:List Ent),Owns mask M owner k L->M.drop k=rest->k+rest.length=M.length ->
   ∃ owner' L',((rest.map (·.1)).foldl (λ(acc:Option (Array (Option Nat)×Nat)) h=>do
    let (owner,k) ← acc
    let j ← layClean.free mask owner (turns mask) (bits h%(mask+1)) (bits h)
    pure (owner.setIfInBounds j (fm k),k+1)) (fm (owner,k)))=fm (owner',M.length)/\Owns mask M owner' M.length L':=by
  intro rest
  induction rest with
  | nil=>intro k owner L O hd hlen;simp at hlen;subst hlen;exact⟨owner,L,rfl,O⟩
  | cons e r ih =>
   intro k owner L O hd hlen
   have he:M[k]? = fm e:=by rw[←List.head?_drop,hd];rfl
   have hdr:M.drop (k+1)=r:=by rw[←List.tail_drop,hd];rfl
   replace hlen:=GC ▸ hlen
   refine xEEA (O.next g he (by lia)) λj L' hj O'=>?_
   rw[GF,Km]
   show ∃ owner' L',(List.foldl _ (layClean.free mask owner (turns mask) (bits e.1%(mask+1)) (bits e.1)>>=λj=>pure (owner.setIfInBounds j (fm k),k+1)) _)=_/\_
   rw[hj]
   exact ih (k+1) _ L' O' hdr (by lia)
 refine xEEA (aux M 0 _ _ (pY mask M) rfl (by exact VI M.length)) λowner L h1 h2=>?_
 refine⟨owner,L,?_,h2⟩
 delta layClean
 rw[←Array.foldl_toList]
 show T4 _ (List.foldl _ _ (M.map (·.1)))=_
 have:=congrArg (T4 (·.1)) h1
 exact this
theorem Js:∀ {L L':List Ent},Sorted (L.map (·.1))->Sorted (L'.map (·.1))->(∀ x,x∈L↔x∈L')->L=L'
 | [],[],_,_,_=>rfl
 | [],y::r,_,_,h=>absurd ((h y).mpr Gp) (by exact Gl)
 | x::r,[],_,_,h=>absurd ((h x).mp Gp) (by exact Gl)
 | x::r,y::r',h1,h2,h=>by
  delta Sorted at h1 h2
  rw[GF,KG] at h1 h2
  have lt1:∀ z∈r,x.1<z.1:=λz hz=>h1.1 _ (Gr.mpr ⟨z,hz,rfl⟩)
  have lt2:∀ z∈r',y.1<z.1:=λz hz=>h2.1 _ (Gr.mpr ⟨z,hz,rfl⟩)
  have exy:x=y:=by
   rcases Gi.mp ((h x).mp Gp) with q | q
   .exact q
   .rcases Gi.mp ((h y).mpr Gp) with q2 | q2
    .exact q2.symm
    .have:=lt2 x q;have:=lt1 y q2;lia
  subst exy
  rw[Js h1.2 h2.2 λz=>?_]
  constructor
  .intro hz
   rcases Gi.mp ((h z).mp (Go _ hz)) with q | q
   .subst q;have:=lt1 z hz;lia
   .exact q
  .intro hz
   rcases Gi.mp ((h z).mpr (Go _ hz)) with q | q
   .subst q;have:=lt2 z hz;lia
   .exact q
theorem laid_ok {mask finger moves:Nat} {led plain:Bool} (g:Good mask) {M:List (Int×Gd)} (hl:M.length<=mask):∃ t order L,laid mask finger moves led plain (M.map (·.1)).toArray=fm (t,order) /\
  t.mask=mask/\t.led=led/\t.moves=moves/\t.plain=plain/\Laid t (order.filterMap (M.toArray[·]?)) L/\Snd mask L/\L.length=M.length/\(∀ e:Int×Gd,(∃ j,(j,e)∈L)↔e∈M):=by
 refine xEEA (Qj g (M:=M) (by exact N2 ‹_›)) λowner L h1 O=>?_
 let live:=(GH (mask+1)).filterMap λj=>(owner.getD j fp).map (j,·)
 refine⟨{ mask,place:=(live.map (·.1)).toArray,dummies := #[],finger,led,moves,plain },(live.map (·.2)).toArray,L,?_,rfl,rfl,rfl,rfl,?_,O.snd,O.len,λe=>?_⟩
 .delta laid
  rw[h1];rfl
 .have hmem:∀ p:Nat×Nat,p∈live↔p.1<=mask/\owner.getD p.1 fp=fm p.2:=λp=>by
   show p∈List.filterMap _ _↔_
   rw[Vn]
   constructor
   .intro E9;refine xEA E9 λj hj q=>?_;clear E9
    rewrite [Hn] at hj
    refine xEA (Gz.mp q) λi hi E5=>?_;subst E5
    exact⟨by show j<=mask;exact Hy ‹_›,hi⟩
   .intro E9;refine xA E9 λh1 h2=>?_;clear E9
    exact⟨p.1,Hn.mpr (by exact GW ‹_›),by rw[h2];rfl⟩
  have hget:∀ p∈live,∃ e,M[p.2]? = fm e/\(p.1,e)∈L:=λp hp=>by
   refine xA ((hmem p).mp hp) λh2 h3=>?_
   have hin:p.1∈slots L:=HR λq=>by have:=O.none_ _ h2 q;replace this:=h3 ▸ this;cases this
   refine xEA (Gr.mp hin) λx hx hx1=>?_
   refine xEAA (O.some_ x hx) λi hi h4 h5=>?_
   replace h4:=hx1 ▸ h4;replace h4:=h3 ▸ h4
   cases h4
   exact⟨x.2,h5,by rw[←hx1];exact hx⟩
  have hsrt:Sorted (live.map (·.1)):=by
   show Sorted (O6 _ (List.filterMap _ _))
   delta Sorted
   rw[YC,List.pairwise_filterMap]
   refine List.Pairwise.imp (λ{a b} hab x hx y hy=>?_) List.pairwise_lt_range
   simp only[V7,Gz] at hx hy
   refine xEA hx λZ Z E5=>?_;try clear hx;subst E5
   refine xEA hy λZ Z E5=>?_;try clear hy;subst E5
   exact hab
  have key:∀ (ps:List (Nat×Nat)),(∀ p∈ps,∃ e,M[p.2]? = fm e/\(p.1,e)∈L)->∃ es:List (Int×Gd),(ps.map (·.2)).filterMap (M.toArray[·]?)=es/\es.length=ps.length/\∀ (i:Nat) (p:Nat×Nat),ps[i]? = fm p->∃ e:Int×Gd,es[i]? = fm e/\(p.1,e)∈L/\M[p.2]? = fm e:=by
   intro ps
   induction ps with
   | nil=>intro _;exact⟨[],rfl,rfl,λi p h=>by simp at h⟩
   | cons p r ih =>
    intro hps
    refine xEA (hps p Gp) λe he heL=>?_
    refine xEAA (ih λq hq=>hps q (Go _ hq)) λes h1 h2 h3=>?_
    refine⟨e::es,?_,by exact Nat.succ_inj.mpr h2,λi q hq=>?_⟩
    .have he':M.toArray[p.2]? = fm e:=by simpa using he
     rw[GF,KU,he',h1]
    .cases i with
     | zero=>simp at hq;subst hq;exact⟨e,rfl,heL,he⟩
     | succ i=>simp at hq;(refine xEA (h3 i q hq) λe' r1 r2=>?_);exact⟨e',by simpa using r1,r2⟩
  refine xEAA (key live hget) λes k1 k2 k3=>?_
  have hL:(live.map (·.1)).zip es=L:=by
   have hz1:((live.map (·.1)).zip es).map (·.1)=live.map (·.1):=Y5 (by rw[Ge,k2];exact GI _)
   refine Js (by rw[hz1];exact hsrt) O.snd.srt λx=>?_
   constructor
   .intro hx
    refine xE (GV.mp hx) λi hi=>?_
    rewrite [WV] at hi
    refine xA hi λh4 h5=>?_;try clear hi
    replace h4:=(Gx) ▸ h4;rewrite [Gz] at h4
    refine xEA h4 λp hp h6=>?_;try clear h4
    refine xEAA (k3 i p hp) λe h7 h8 Z=>?_
    replace h7:=h5 ▸ h7
    cases h7
    obtain⟨x1,x2⟩:=x
    simp only at h6 h8
    rw[←h6];exact h8
   .intro hx
    refine xEAA (O.some_ x hx) λi hi h4 h5=>?_
    have hp:(x.1,i)∈live:=(hmem _).mpr ⟨O.snd.le x hx,h4⟩
    refine xE (GV.mp hp) λn hn=>?_
    refine xEAA (k3 n _ hn) λe h7 h8 h9=>?_
    replace h9:=h5 ▸ h9
    cases h9
    refine GV.mpr ⟨n,?_⟩
    rw[WV]
    exact⟨by rw[Gx,hn];rfl,h7⟩
  have hz1:L.map (·.1)=live.map (·.1):=by rw[←hL];exact Y5 (by rw[Ge,k2];exact GI _)
  have hz2:L.map (·.2)=es:=by rw[←hL];exact Y3 (by rw[Ge,k2];exact GI _)
  refine⟨hz1.symm,?_,rfl,O.snd.srt⟩
  show ((live.map (·.2)).toArray.filterMap _).toList=_
  rw[Array.toList_filterMap,hz2]
  exact k1
 .constructor
  .intro E9;refine xE E9 λj hj=>?_;clear E9
   refine xEAA (O.some_ _ hj) λi Z Z h3=>?_
   exact GS h3
  .intro he
   refine xE (GV.mp he) λi hi=>?_
   refine xEEA (O.all i (GK.mp hi).1) λj e' h2 h3=>?_
   replace h2:=hi ▸ h2;cases h2
   exact⟨j,h3⟩
end Mine.ST
namespace Mine
section
open SeqAt AutoSeq1 MeetsSeq MeetsSeq2 MeetsSeq3
noncomputable def ltL:List Int->List Int->Bool
 | [],[]=>Gk
 | [],_::_=>Gh
 | _::_,[]=>Gk
 | x::xs,y::ys=>if x=y then ltL xs ys else decide (x<y)
theorem ltL_nil (ys:List Int):ltL [] ys=decide (0<ys.length):=by cases ys<;>rfl
theorem ltL_nil2 (xs:List Int):ltL xs []=Gk:=by cases xs<;>rfl
theorem IntsAre.at {us:List Gd} {xs:List Int} (h:Ni us xs):∀ {i:Nat} {x:Int},xs[i]? = fm x->∃ t,us[i]? = fm (.int x t):=by
 induction h with
 | nil=>intro i x h;simp at h
 | cons n0 t0 r ih =>
  intro i x h
  cases i with
  | zero=>simp at h;subst h;exact⟨_,rfl⟩
  | succ i=>simp at h;obtain⟨t,e⟩:=ih h;exact⟨t,by simpa using e⟩
theorem IntsAre.len {us:List Gd} {xs:List Int} (h:Ni us xs):us.length=xs.length:=by
 induction h with
 | nil=>rfl
 | cons n0 t0 r ih=>rw[GC,GC,ih]
theorem lt_loop (l b:Gn) {us vs:List Gd} {xs ys:List Int} (n n2:Nat) (h1:Ni us xs) (h2:Ni vs ys) (k:Nat) :
  ∀ i:Nat,us.length-i=k->i<=us.length->i<=vs.length->YB (Hm.«list.__eq__.loop» ⟨[.ref l,.ref b,LM i,LM 0],[]⟩)
   (λA R s=>s.heap.get? l=fm { cls:=.type "list",data:=.seq us.toArray n }/\s.heap.get? b=fm { cls:=.type "list",data:=.seq vs.toArray n2 } /\
    R (.ok (.ret (.bool (ltL (xs.drop i) (ys.drop i))))) s):=by
 have e1:=IntsAre.len h1
 have e2:=IntsAre.len h2
 induction k with
 | zero =>
  intro i hk hi1 hi2 prog w A R s h
  obtain⟨hp,g,d,tk,os⟩:=s;obtain⟨hl,hb,h⟩:=h
  have hi:i=us.length:=AQ hk hi1
  wp_walk using Hw hl,Hw hb
  have n1:us.toArray[((i:Nat):Int).toNat]? = fp:=by simp;exact Ng hk
  rw[n1]
  wp_walk using Hw hl,Hw hb
  show R (.ok (.ret (.bool (decide (us.toArray.size<vs.toArray.size))))) _
  rw[Ky (by rw[←e1];exact Ng hk),ltL_nil] at h
  have:decide (us.toArray.size<vs.toArray.size)=decide (0<(ys.drop i).length):=by
   rw[Tp,decide_eq_true_eq,decide_eq_true_eq,Hc,hi,←e2];simp only[Gw];exact Nat.sub_pos_iff_lt.symm
  rw[this];exact h
 | succ k ih =>
  intro i hk hi1 hi2 prog w A R s h
  obtain⟨hp,g,d,tk,os⟩:=s;obtain⟨hl,hb,h⟩:=h
  have hlt:i<us.length:=HC hk
  have hx:i<xs.length:=e1 ▸ hlt
  obtain⟨t,n1⟩:=IntsAre.at h1 (i:=i) (x:=xs[i]) (by simp)
  have n1':us.toArray[((i:Nat):Int).toNat]? = fm (.int xs[i] t):=by simpa using n1
  have d1:xs.drop i=xs[i]::xs.drop (i+1):=by simp
  rcases ND i vs.length with q | q
  .have hy:i<ys.length:=e2 ▸ q
   obtain⟨u,n2'⟩:=IntsAre.at h2 (i:=i) (x:=ys[i]) (by simp)
   have n2'':vs.toArray[((i:Nat):Int).toNat]? = fm (.int ys[i] u):=by simpa using n2'
   have d2:ys.drop i=ys[i]::ys.drop (i+1):=by simp
   have hc:((i:Int)+1)=((i+1:Nat):Int):=by push_cast;rfl
   rw[d1,d2] at h
   wp_walk using Hw hl,Hw hb
   rw[n1',n2'']
   refine Ga (EqAt.int_int xs[i] t ys[i] u prog w _ _ ?_)
   cases hb':(xs[i]==ys[i]) with
   | true =>
    have heq:xs[i]=ys[i]:=by simpa using hb'
    unfold ltL at h
    rw[if_pos heq] at h
    wp_walk
    rw[hc]
    exact⟨VN plain_eq_loop _,Nn entry_eq_loop (by
     rw[Nk plain_eq_loop _]
     exact ih (i+1) (AL hk) hlt q prog w A R _ ⟨hl,hb,h⟩)⟩
   | false =>
    have hne:xs[i]≠ys[i]:=by simpa using hb'
    unfold ltL at h
    rw[if_neg hne] at h
    wp_walk using Hw hl,Hw hb
    rw[n1',n2'']
    refine Ga (hV (op:=.Lt) (TP _ xs[i] t) (TP _ ys[i] u) Xo Xj (W8 _ _) (gives_int_lt xs[i] ys[i] t u) (λx=>nomatch x) ?_)
    exact Gb h
  .have n2':vs.toArray[((i:Nat):Int).toNat]? = fp:=by simp;omega
   wp_walk using Hw hl,Hw hb
   rw[n1',n2']
   wp_walk using Hw hl,Hw hb
   show R (.ok (.ret (.bool (decide (us.toArray.size<vs.toArray.size))))) _
   rw[show ys.drop i=[] from Ky (by omega),ltL_nil2] at h
   have:decide (us.toArray.size<vs.toArray.size)=Gk:=by simp;omega
   rw[this];exact h
end
end Mine
@[elab_as_elim] theorem Mine.rwm {α:Sort _} {a b:α} {motive:α->Prop} (h:a=b) (m:motive b):motive a:=h ▸ m
@[elab_as_elim] theorem Mine.rwn {α:Sort _} {a b:α} {motive:α->Prop} (h:b=a) (m:motive b):motive a:=h ▸ m
@[elab_as_elim] theorem Mine.rwi {a b:Prop} {motive:Prop->Prop} (h:a↔b) (m:motive b):motive a:=propext h ▸ m
local macro_rules
 | `(tactic| rewrite [←$t:term]) => `(tactic| first | with_reducible refine Mine.rwn $t ?_ | with_reducible refine Mine.rwn ($t ..) ?_ | rewrite (occs:=.all) [←$t])
 | `(tactic| rewrite [$t:term]) => `(tactic| first | with_reducible refine Mine.rwm $t ?_ | with_reducible refine Mine.rwm ($t ..) ?_ | with_reducible refine Mine.rwi ($t ..) ?_ | rewrite (occs:=.all) [$t:term])
local macro_rules
 | `(tactic| rw[$r:rwRule]) => `(tactic| (rewrite [$r];try (with_reducible rfl)))
 | `(tactic| rw[$r:rwRule,$rs,*]) => `(tactic| (rewrite [$r];rw[$rs,*]))
local macro_rules
 | `(tactic| ac_rfl) => `(tactic| try (show let Φ':=_;Mine.EX _ _ _ _ _ Φ' _;intro Φ'))
namespace Mine
noncomputable abbrev PH:=Gn->Option Obj
noncomputable def Sub (I J:PH):Prop:=∀ a o,I a=fm o->J a=fm o
theorem Sub.refl (I:PH):Sub I I:=λZ Z h=>h
theorem Sub.trans {I J K:PH} (x:Sub I J) (y:Sub J K):Sub I K:=λa o h=>y a o (x a o h)
noncomputable def uni (F G:PH):PH:=λa=>match G a with | some o=>fm o | none=>F a
noncomputable def upd {α:Type} (f:Gn->Option α) (a:Gn) (x:α):Gn->Option α:=λb=>if b=a then fm x else f b
theorem zd {α:Type} (f:Gn->Option α) (a:Gn) (x:α):upd f a x a=fm x:=if_pos rfl
theorem zc {α:Type} (f:Gn->Option α) {a b:Gn} (x:α) (h:b≠a):upd f a x b=f b:=if_neg h
theorem fA {I:PH} {a:Gn} {o:Obj} (h:I a=fp):Sub I (upd I a o):=λb o' e=>by
 by_cases q:b=a
 .subst q;replace e:=h ▸ e;cases e
 .rw[zc _ _ q];exact e
noncomputable def jJ:HF->List HF×Arguments×Xz×Pos×Expr
 | .FunctionDef _ a b _ _ _ s _ _ p=>(b,a,s,p,default)
 | .ClassDef _ _ _ b .. => (b,default,default,default,default)
 | .For _ _ b _ _=>(b,default,default,default,default)
 | .While t b _ _=>(b,default,default,default,t)
 | .Return e _=>([],default,default,default,e.getD default)
 | _=>([],default,default,default,default)
noncomputable def zt (s:HF):List HF:=(jJ s).1
noncomputable def zE (s:HF):Arguments:=(jJ s).2.1
noncomputable def zf (s:HF):Xz:=(jJ s).2.2.1
noncomputable def posOf (s:HF):Pos:=(jJ s).2.2.2.1
noncomputable def exprOf (s:HF):Expr:=(jJ s).2.2.2.2
inductive PV where
 | none
 | bool (b:Bool)
 | int (i:Int)
 | str (x:Str)
 | bytes (b:Array UInt8)
 | tup (ds:List PV)
 | lst (ds:List PV)
 | ref (a:Gn)
 | raw (v:Gd)
 | fs
 | rng (n:Nat)
 | fn (st:HF) (q:Str)
 | ob (o:Obj)
mutual
inductive VR (I:PH):Gd->PV->Prop
 | none:VR I .none .none
 | bool (b:Bool):VR I (.bool b) (.bool b)
 | int (i:Int) (t:Tok):VR I (.int i t) (.int i)
 | str (x:Str) (t:Tok):VR I (.str x t) (.str x)
 | bytes (b:Array UInt8) (t:Tok):VR I (.bytes b t) (.bytes b)
 | tup {a:Gn} {vs:List Gd} {n:Nat} {ds:List PV}:I a=fm { cls:=.type "tuple",data:=.seq vs.toArray n }->VRs I vs ds->VR I (.ref a) (.tup ds)
 | lst {a:Gn} {vs:List Gd} {n:Nat} {ds:List PV}:I a=fm { cls:=.type "list",data:=.seq vs.toArray n }->VRs I vs ds->VR I (.ref a) (.lst ds)
 | ref (a:Gn):VR I (.ref a) (.ref a)
 | raw (v:Gd):VR I v (.raw v)
 | fs {a:Gn} {led:Bool}:I a=fm { cls:=.type "frozenset",data:=.set #[] 0 (.fresh 0 0 led) }->VR I (.ref a) .fs
 | rng {a:Gn} {n:Nat} {t u v:Tok}:I a=fm { cls:=.type "range",data:=.fields #[.int 0 t,.int n u,.int 1 v] }->VR I (.ref a) (.rng n)
 | fn {a c:Gn} {o oc:Obj} {fd:LS} {vs:Array Gd} {t:Tok} {st:HF} {q:Str}:I a=fm o ->
   (o.cls=.type "function" /\ o.data=.func fd/\fd.params=zE st/\fd.body=.stmts (zt st)/\fd.scope=zf st/\fd.closure=[]/\fd.globals=HX /\
    fd.builtins=NF/\fd.qualname=q/\fd.defaults=.none/\fd.kwdefaults=.none/\fd.code=.ref c)->I c=fm oc->(oc.data=.fields vs/\vs[1]? = fm (.str q t))->VR I (.ref a) (.fn st q)
 | ob {a:Gn} {o:Obj}:I a=fm o->VR I (.ref a) (.ob o)
inductive VRs (I:PH):List Gd->List PV->Prop
 | nil:VRs I [] []
 | cons {v:Gd} {vs:List Gd} {d:PV} {ds:List PV}:VR I v d->VRs I vs ds->VRs I (v::vs) (d::ds)
end
section
variable {I:PH} {v:Gd} {C:Gd->Prop} {ds:List PV}
noncomputable def VRf (I:PH) (v:Gd):PV->Prop
 | .none=>v=.none
 | .bool b=>v=.bool b
 | .int i=>∃ t,v=.int i t
 | .str x=>∃ t,v=.str x t
 | .bytes x=>∃ t,v=.bytes x t
 | .tup ds=>∃ a vs n,v=.ref a/\I a=fm { cls:=.type "tuple",data:=.seq vs.toArray n }/\VRs I vs ds
 | .lst ds=>∃ a vs n,v=.ref a/\I a=fm { cls:=.type "list",data:=.seq vs.toArray n }/\VRs I vs ds
 | .ref a=>v=.ref a
 | .raw x=>v=x
 | .fs=>∃ a led,v=.ref a/\I a=fm { cls:=.type "frozenset",data:=.set #[] 0 (.fresh 0 0 led) }
 | .rng n=>∃ a t u w,v=.ref a/\I a=fm { cls:=.type "range",data:=.fields #[.int 0 t,.int n u,.int 1 w] }
 | .fn st q=>∃ a c o oc fd vs t,v=.ref a/\I a=fm o/\(o.cls=.type "function" /\ o.data=.func fd/\fd.params=zE st/\fd.body=.stmts (zt st)/\fd.scope=zf st/\fd.closure=[]/\fd.globals=HX /\
    fd.builtins=NF/\fd.qualname=q/\fd.defaults=.none/\fd.kwdefaults=.none/\fd.code=.ref c)/\I c=fm oc/\(oc.data=.fields vs/\vs[1]? = fm (.str q t))
 | .ob o=>∃ a,v=.ref a/\I a=fm o
theorem VR.inv {d:PV} (h:VR I v d):VRf I v d :=
 VR.casesOn (motive_1:=λv d Z=>VRf I v d) h rfl (λZ=>rfl) (λZ t=>⟨t,rfl⟩) (λZ t=>⟨t,rfl⟩) (λZ t=>⟨t,rfl⟩) (λe r=>(iEEEAA _ _ _ rfl e r)) (λe r=>(iEEEAA _ _ _ rfl e r)) (λZ=>rfl) (λZ=>rfl)
  (λe=>(iEEA _ _ rfl e)) (λe=>(iEEEEA _ _ _ _ rfl e)) (λa b c d=>(qN _ _ _ _ _ _ _ rfl a b c d)) λe=>(iEA _ rfl e)
theorem fJ {a:Gn} (h:VR I v (.ref a)):v=.ref a:=h.inv
theorem VRs.nl {vs:List Gd} (h:VRs I vs []):vs=[]:=VRs.casesOn (motive_2:=λvs ds Z=>ds=[]->vs=[]) h (λZ=>rfl) (λZ Z e=>nomatch e) rfl
theorem VRs.uc {vs:List Gd} {d:PV} (h:VRs I vs (d::ds)):∃ v us,vs=v::us/\VR I v d/\VRs I us ds :=
 VRs.casesOn (motive_2:=λvs es Z=>es=d::ds->∃ v us,vs=v::us/\VR I v d/\VRs I us ds) h (λe=>nomatch e) (λa b e=>by injection e with e1 e2;exact xk _ _ rfl (e1 ▸ a) (e2 ▸ b)) rfl
theorem dG {a:Gn} {motive:∀ v,VR I v (.ref a)->Prop} {v:Gd} (h:VR I v (.ref a)) (ref:motive (.ref a) (.ref a)):motive v h:=by cases h.inv;exact ref
theorem AX {x:Gd} {motive:∀ v,VR I v (.raw x)->Prop} {v:Gd} (h:VR I v (.raw x)) (raw:motive x (.raw x)):motive v h:=by cases h.inv;exact raw
theorem dv {motive:∀ v,VR I v (.tup ds)->Prop} {v:Gd} (h:VR I v (.tup ds)) (tup:∀ {a:Gn} {vs:List Gd} {n:Nat} (e:I a=fm { cls:=.type "tuple",data:=.seq vs.toArray n }) (r:VRs I vs ds),motive (.ref a) (.tup e r)):motive v h:=by (refine qY (h.inv) λa vs n E5 e r=>?_;subst E5);exact tup e r
theorem VR.cl {motive:∀ v,VR I v (.lst ds)->Prop} {v:Gd} (h:VR I v (.lst ds)) (lst:∀ {a:Gn} {vs:List Gd} {n:Nat} (e:I a=fm { cls:=.type "list",data:=.seq vs.toArray n }) (r:VRs I vs ds),motive (.ref a) (.lst e r)):motive v h:=by (refine qY (h.inv) λa vs n E5 e r=>?_;subst E5);exact lst e r
theorem Az {motive:∀ v,VR I v .fs->Prop} {v:Gd} (h:VR I v .fs) (fs:∀ {a:Gn} {led:Bool} (e:I a=fm { cls:=.type "frozenset",data:=.set #[] 0 (.fresh 0 0 led) }),motive (.ref a) (.fs e)):motive v h:=by (refine xEEA (h.inv) λa led E5 e=>?_;subst E5);exact fs e
theorem VR.cg {n:Nat} {motive:∀ v,VR I v (.rng n)->Prop} {v:Gd} (h:VR I v (.rng n)) (rng:∀ {a:Gn} {t u w:Tok} (e:I a=fm { cls:=.type "range",data:=.fields #[.int 0 t,.int n u,.int 1 w] }),motive (.ref a) (.rng e)):motive v h:=by (refine xEEEEA (h.inv) λa t u w E5 e=>?_;subst E5);exact rng e
theorem Ab {o:Obj} {motive:∀ v,VR I v (.ob o)->Prop} {v:Gd} (h:VR I v (.ob o)) (ob:∀ {a:Gn} (e:I a=fm o),motive (.ref a) (.ob e)):motive v h:=by (refine xEA (h.inv) λa E5 e=>?_;subst E5);exact ob e
theorem ft {d:PV} {motive:∀ vs,VRs I vs (d::ds)->Prop} {vs:List Gd} (h:VRs I vs (d::ds)) (cons:∀ {v:Gd} {vs:List Gd} (a:VR I v d) (r:VRs I vs ds),motive (v::vs) (.cons a r)):motive vs h:=by (refine zy (h.uc) λv us E5 a b=>?_;subst E5);exact cons a b
theorem VR.mono {I J:PH} (hs:Sub I J) {v:Gd} {d:PV} (h:VR I v d):VR J v d :=
 VR.rec (motive_1:=λv d Z=>VR J v d) (motive_2:=λvs ds Z=>VRs J vs ds) .none .bool .int .str .bytes (λe Z i=>.tup (hs _ _ e) i) (λe Z i=>.lst (hs _ _ e) i) .ref .raw (λe=>.fs (hs _ _ e)) (λe=>.rng (hs _ _ e))
  (λa b c d=>.fn (hs _ _ a) b (hs _ _ c) d) (λe=>.ob (hs _ _ e)) .nil (λZ Z a b=>.cons a b) h
theorem dq {P:List Gd->List PV->Prop} (h0:P [] []) (h1:∀ v vs d ds,VR I v d->VRs I vs ds->P vs ds->P (v::vs) (d::ds)):∀ {ds:List PV} {vs:List Gd},VRs I vs ds->P vs ds
 | [],vs,h=>h.nl ▸ h0
 | d::ds,vs,h=>zy (h.uc) λv us e a b=>e ▸ h1 v us d ds a b (dq h0 h1 b)
theorem VRs.mono {J:PH} (hs:Sub I J) {vs:List Gd} (h:VRs I vs ds):VRs J vs ds:=dq (P:=λvs ds=>VRs J vs ds) .nil (λZ Z Z Z a Z i=>.cons (a.mono hs) i) h
end
theorem VRs.length {I:PH} {vs:List Gd} {ds:List PV} (h:VRs I vs ds):vs.length=ds.length:=dq (P:=λvs ds=>vs.length=ds.length) rfl (λZ Z Z Z Z Z i=>congrArg Nat.succ i) h
theorem VRs.append {I:PH} {vs:List Gd} {ds:List PV} {ws:List Gd} {es:List PV} (h:VRs I vs ds) (k:VRs I ws es):VRs I (vs++ws) (ds++es):=dq (P:=λvs ds=>VRs I (vs++ws) (ds++es)) k (λZ Z Z Z a Z i=>.cons a i) h
theorem VRs.get {I:PH} {vs:List Gd} {ds:List PV} (h:VRs I vs ds):∀ {i:Nat} {d:PV},ds[i]? = fm d->∃ v,vs[i]? = fm v/\VR I v d :=
 dq (P:=λvs ds=>∀ {i:Nat} {d:PV},ds[i]? = fm d->∃ v,vs[i]? = fm v/\VR I v d) (λe=>nomatch e) (λv _ _ _ a _ ih {i d} e=>match i,e with | 0,e=>⟨v,rfl,K5 e ▸ a⟩ | _+1,e=>ih e) h
theorem VRs.get' {I:PH} {vs:List Gd} {ds:List PV} (h:VRs I vs ds):∀ {i:Nat} {v:Gd},vs[i]? = fm v->∃ d,ds[i]? = fm d/\VR I v d :=
 dq (P:=λvs ds=>∀ {i:Nat} {v:Gd},vs[i]? = fm v->∃ d,ds[i]? = fm d/\VR I v d) (λe=>nomatch e) (λ_ _ d _ a _ ih {i v} e=>match i,e with | 0,e=>⟨d,rfl,K5 e ▸ a⟩ | _+1,e=>ih e) h
theorem VRs.none_iff {I:PH} {vs:List Gd} {ds:List PV} (h:VRs I vs ds) {i:Nat} (e:ds[i]? = fp):vs[i]? = fp:=by
 rw[G0] at e ⊢;rw[h.length];exact e
theorem VRs.take {I:PH} {vs:List Gd} {ds:List PV} (h:VRs I vs ds):∀ n,VRs I (vs.take n) (ds.take n) :=
 dq (P:=λvs ds=>∀ n,VRs I (vs.take n) (ds.take n)) (λn=>by rw[Xa,Xa];exact .nil) (λZ Z Z Z a Z i n=>match n with | 0=>.nil | n+1=>.cons a (i n)) h
theorem VRs.drop {I:PH} {vs:List Gd} {ds:List PV} (h:VRs I vs ds):∀ n,VRs I (vs.drop n) (ds.drop n) :=
 dq (P:=λvs ds=>∀ n,VRs I (vs.drop n) (ds.drop n)) (λn=>by rw[List.drop_nil,List.drop_nil];exact .nil) (λZ Z Z Z a r i n=>match n with | 0=>.cons a r | n+1=>i n) h
theorem VRs.snoc {I:PH} {vs:List Gd} {ds:List PV} {v:Gd} {d:PV} (h:VRs I vs ds) (k:VR I v d):VRs I (vs++[v]) (ds++[d]):=h.append (.cons k .nil)
inductive MO where
 | lst (ds:List PV)
 | dct (es:List (List Int×PV))
 | dcx (es:List (List Int×PV)) (ep:Nat)
 | set (ks:List (List Int))
 | ns (es:List (Str×PV))
 | slt (C dx:Gn) (ds:List PV)
 | nod (ds:List PV)
 | obj (o:Obj)
 | exc (cls:Gd) (args:Option (List PV))
 | xnew (cls:Gd) (ds:List PV)
noncomputable abbrev Own:=Gn->Option MO
section
variable (w:K6)
noncomputable abbrev prg:LH:=Hu
noncomputable abbrev tk:HeapKind prg w (List Int):=tupleKind (intKind prg w)
inductive Ents (I:PH):List (List Int×Gn×Gd)->List (List Int×PV)->Prop
 | nil:Ents I [] []
 | cons {k:List Int} {a:Gn} {v:Gd} {d:PV} {xs:List (List Int×Gn×Gd)} {es:List (List Int×PV)}:VR I (.ref a) (.tup (k.map PV.int))->VR I v d->Ents I xs es->Ents I ((k,a,v)::xs) ((k,d)::es)
inductive SetEl (I:PH):List ST.Ent->List (List Int)->Prop
 | nil:SetEl I [] []
 | cons {j:Nat} {h:Int} {v:Gd} {k:List Int} {L:List ST.Ent} {ks:List (List Int)}:VR I v (.tup (k.map PV.int))->h=GO (intKind prg w) k->SetEl I L ks->SetEl I ((j,h,v)::L) (k::ks)
inductive Tups (I:PH) (vs:Array Gd) (ds:List PV):Prop
 | mk (t:Gn) (tvs:Array Gd) (n:Nat):vs[0]? = fm (.ref t)->I t=fm { cls:=.type "tuple",data:=.seq tvs n }->VRs I tvs.toList ds->Tups I vs ds
noncomputable def OR (I:PH) (o:Obj):MO->Prop
 | .lst ds=>∃ vs n,o={ cls:=.type "list",data:=.seq vs.toArray n }/\VRs I vs ds
 | .dct es=>o.ExactDict/\∃ el ep xs,o.data=.dict el ep/\el.toList=xs.map (N0 (tk w))/\(xs.map (·.1)).Nodup/\Ents I xs es
 | .dcx es ep=>o.ExactDict/\∃ el xs,o.data=.dict el ep/\el.toList=xs.map (N0 (tk w))/\(xs.map (·.1)).Nodup/\Ents I xs es
 | .set ks=>o.cls=.type "set" /\ o.dict=fp/\o.slots = #[]/\∃ es ep t L ks',o.data=.set es ep t/\ST.Good t.mask/\L.length*5<t.mask*3/\ST.Laid t es L/\ST.Snd t.mask L/\SetEl w I L ks'/\ks'.Nodup/\∀ k,k∈ks'↔k∈ks
 | .ns es=>(∃ el ep,o={ cls:=.type "dict",data:=.dict el ep }/\Nv el/\el.size<=es.length/\∀ x,match es.lookup x with | some d=>∃ v,Kn el x=fm v/\VR I v d | none=>Kn el x=fp)
 | .slt C dx ds=>∃ vs:List Gd,o={ cls:=.ref C,dict:=fm dx,data:=.plain,slots:=(vs.map fm).toArray }/\VRs I vs ds
 | .nod ds=>∃ (dx:Gn) (vs:List Gd),o={ cls:=.ref 40,dict:=fm dx,data:=.plain,slots:=(vs.map fm).toArray }/\I dx=fm { cls:=.type "dict",data:=.dict #[] }/\VRs I vs ds
 | .obj o'=>o=o'/\o.cls≠.type "frame"
 | .exc cls args=>o.cls=cls/\cls≠.type "frame" /\ ∃ vs,o.data=.fields vs/\vs.size=6 /\
   (∀ ds,args=fm ds->Tups I vs ds)/\(args=fp->vs[2]? = fm .none)
 | .xnew cls ds=>cls≠.type "frame" /\ ∃ t tvs n,o={ cls:=cls,data:=.fields #[.ref t,.none,.none,.none,.bool Gk,.none] }/\I t=fm { cls:=.type "tuple",data:=.seq tvs n }/\VRs I tvs.toList ds
theorem Ents.mono {I J:PH} (hs:Sub I J) {xs:List (List Int×Gn×Gd)} {es:List (List Int×PV)} (h:Ents I xs es):Ents J xs es:=by
 induction h with
 | nil=>exact .nil
 | cons h1 h3 _ ih=>exact .cons (h1.mono hs) (h3.mono hs) ih
theorem SetEl.mono {I J:PH} (hs:Sub I J) {L:List ST.Ent} {ks:List (List Int)} (h:SetEl w I L ks):SetEl w J L ks:=by
 induction h with
 | nil=>exact .nil
 | cons h1 h2 _ ih=>exact .cons (h1.mono hs) h2 ih
theorem OR.mono {I J:PH} (hs:Sub I J) {o:Obj} {mo:MO} (h:OR w I o mo):OR w J o mo:=by
 cases mo with
 | lst ds=>(refine xEEA h λvs n e r=>?_;try clear h);exact iEEA vs n e (r.mono hs)
 | dct es=>(refine xAEEEAAA h λe1 el ep xs h1 h2 h3 h4=>?_;try clear h);exact⟨e1,el,ep,xs,h1,h2,h3,h4.mono hs⟩
 | dcx es ep=>(refine xAEEAAA h λe1 el xs h1 h2 h3 h4=>?_;try clear h);exact⟨e1,el,xs,h1,h2,h3,h4.mono hs⟩
 | set ks=>(refine jl h λe1 e2 e3 es ep t L ks' h1 h2 h3 h4 h5 h6 h7 h8=>?_;try clear h);exact⟨e1,e2,e3,es,ep,t,L,ks',h1,h2,h3,h4,h5,h6.mono w hs,h7,h8⟩
 | ns es =>
  refine zF h λel ep e1 e2 e0 e3=>?_;try clear h
  refine vn el ep e1 e2 e0 (λx=>?_)
  have:=e3 x
  cases q:es.lookup x with
  | none=>replace this:=q ▸ this;exact this
  | some d=>replace this:=q ▸ this;(refine xEA this λv h1 h2=>?_;try clear this);exact iEA v h1 (h2.mono hs)
 | slt C dx ds=>(refine xEA h λvs e r=>?_;try clear h);exact iEA vs e (r.mono hs)
 | nod ds=>(refine zy h λdx vs e e2 r=>?_;try clear h);exact xk dx vs e (hs _ _ e2) (r.mono hs)
 | obj o'=>exact h
 | exc cls args=>(refine xAAEAAA h λh1 h2 vs h3 h4 h5 h6=>?_;try clear h);exact⟨h1,h2,vs,h3,h4,λds hds=>(h5 ds hds).casesOn λt tvs n g1 g2 g3=>⟨t,tvs,n,g1,hs _ _ g2,g3.mono hs⟩,h6⟩
 | xnew cls ds=>(refine xAEEEAA h λh0 t tvs n h1 h2 h3=>?_;try clear h);exact⟨h0,t,tvs,n,h1,hs _ _ h2,h3.mono hs⟩
end
noncomputable def PV.onI {α:Type} (d:PV) (e:α) (f:Int->α):α:=match d with | .int n=>f n | _=>e
noncomputable def PV.onL {α:Type} (d:PV) (e:α) (f:List PV->α):α:=match d with | .lst l=>f l | _=>e
noncomputable def PV.onT {α:Type} (d:PV) (e:α) (f:List PV->α):α:=match d with | .tup l=>f l | _=>e
noncomputable def PV.on3 {α:Type} (l:List PV) (e:α) (f:PV->PV->PV->α):α:=match l with | [a,b,c]=>f a b c | _=>e
theorem pc {α:Type} {f:α->PV} {I:PH} {P:List Gd->List α->Prop} (h0:P [] []) (h1:∀ v vs a as,VR I v (f a)->VRs I vs (as.map f)->P vs as->P (v::vs) (a::as)):∀ {as:List α} {vs:List Gd},VRs I vs (as.map f)->P vs as
 | [],vs,h=>h.nl ▸ h0
 | a::as,vs,h=>zy (h.uc) λv us e x y=>e ▸ h1 v us a as x y (pc h0 h1 y)
section
variable {I:PH} {v:Gd} {vs:List Gd} {ds:List PV} {C:Prop}
theorem fM {i:Int} (h:VR I v (.int i)) (k:∀ t,v=.int i t->C):C:=let ⟨t,e⟩:=h.inv;k t e
theorem fW {x:Str} (h:VR I v (.str x)) (k:∀ t,v=.str x t->C):C:=let ⟨t,e⟩:=h.inv;k t e
theorem fY {x:Array UInt8} (h:VR I v (.bytes x)) (k:∀ t,v=.bytes x t->C):C:=let ⟨t,e⟩:=h.inv;k t e
theorem pJ (h:VR I v .none):v=.none:=h.inv
theorem dX {b:Bool} (h:VR I v (.bool b)):v=.bool b:=h.inv
theorem pS {x:Gd} (h:VR I v (.raw x)):v=x:=h.inv
theorem VRs.k {d:PV} (h:VRs I vs (d::ds)) (k:∀ v us,vs=v::us->VR I v d->VRs I us ds->C):C:=let ⟨v,us,e,a,b⟩:=h.uc;k v us e a b
end
theorem nst {e:Expr} (h:Nat.beq e.ctorIdx 22=Gk):∀ x p,e≠.Starred x p:=λx p he=>by subst he;injection h
theorem dc {p:Prop} [i:Decidable p] (h:decide p=Gh):p:=of_decide_eq_true h
theorem lb {n m:Nat} (h:Nat.ble n m=Gh):n<=m:=HN h
theorem dn {p:Prop} [i:Decidable p] (h:decide p=Gk):¬ p:=of_decide_eq_false h
@[elab_as_elim] theorem gm {α:Type} {motive:α->Prop} (a:α) (k:∀ x,motive x):motive a:=k a
@[elab_as_elim] theorem gn {α:Type} {motive:α->Prop} (a:α) (k:∀ x,a=x->motive x):motive a:=k a rfl
noncomputable def top (i:Nat):HF:=prg.main.body.getD i default
noncomputable def zz (st:HF) (i:Nat):HF:=(zt st).getD i default
inductive NsP (G:PH) (a:Gn) (m:Str->Option Gd):Prop
 | mk (o:Obj) (es:Array KY) (ep:Nat):G a=fm o->o.data=.dict es ep->Nv es->(∀ name,Kn es name=m name)->NsP G a m
theorem NsP.mono {G H:PH} {a m} (h:NsP G a m) (s:Sub G H):NsP H a m:=(h).casesOn λo es ep e r r2 r3=>⟨o,es,ep,s _ _ e,r,r2,r3⟩
inductive CodeRecI (I:PH) (cd:Gd) (q:Str):Prop
 | mk (c:Gn) (o:Obj) (vs:Array Gd) (t:Tok):cd=.ref c->I c=fm o->o.data=.fields vs->vs[1]? = fm (.str q t)->CodeRecI I cd q
theorem CodeRecI.mono {G H:PH} {cd q} (h:CodeRecI G cd q) (s:Sub G H):CodeRecI H cd q:=(h).casesOn λc o vs t e g r r2=>⟨c,o,vs,t,e,s _ _ g,r,r2⟩
structure FnAt (I:PH) (a:Gn) (st:HF) (q:Str) (dfl:Gd) (c:Gn):Prop where
 ex:∃ o fd,I a=fm o/\o.cls=.type "function" /\ o.data=.func fd/\fd.params=zE st/\fd.body=.stmts (zt st)/\fd.scope=zf st/\fd.closure=[]/\fd.globals=HX /\
  fd.builtins=NF/\fd.qualname=q/\fd.defaults=dfl/\fd.kwdefaults=.none/\fd.code=.ref c
 code:CodeRecI I (.ref c) q
theorem FnAt.mono {G H:PH} {a st q dfl c} (h:FnAt G a st q dfl c) (s:Sub G H):FnAt H a st q dfl c :=
 ⟨xEEA (h.ex) λo fd e r=>(iEEA o fd (s _ _ e) r),h.code.mono s⟩
noncomputable def fnTab:List (Gn×HF×String×Gd×Gn) :=
 [(36,zz (top 4) 1,"_NodeInfo.__init__",.none,35),(73,zz (top 6) 0,"TopologicalSorter.__init__",.ref 66,72),(80,zz (top 6) 1,"TopologicalSorter._get_nodeinfo",.none,79),
  (87,zz (top 6) 2,"TopologicalSorter.add",.none,86),(92,zz (top 6) 3,"TopologicalSorter.prepare",.none,91),(99,zz (top 6) 4,"TopologicalSorter.get_ready",.none,98),
  (106,zz (top 6) 5,"TopologicalSorter.is_active",.none,105),(120,zz (top 6) 7,"TopologicalSorter.done",.none,119),(127,zz (top 6) 8,"TopologicalSorter._find_cycle",.none,126),
  (148,top 8,"_get_sep",.none,147),(168,top 11,"skip_chars",.none,167),(175,top 12,"skip_until",.none,174),(182,top 13,"suffixed_err",.none,181),
  (189,top 15,"_law_path",.none,188),(196,top 16,"_law_read",.none,195),(203,top 17,"_law_leaps",.none,202),(210,top 18,"_law_due",.none,209),(215,top 19,"_law_choices",.none,214),(220,top 20,"law",.none,219)]
noncomputable def globTab:List (Str×PV) :=
 [(oS "_NODE_OUT",.int (-1)),(oS "_NODE_DONE",.int (-2)),(oS "_NodeInfo",.ref 40),(oS "CycleError",.ref 55),(oS "TopologicalSorter",.ref 137),
  (oS "_get_sep",.ref 148),(oS "TOMLDecodeError",.ref 158),(oS "skip_chars",.ref 168),(oS "skip_until",.ref 175),(oS "suffixed_err",.ref 182),
  (oS "_law_path",.ref 189),(oS "_law_read",.ref 196),(oS "_law_leaps",.ref 203),(oS "_law_due",.ref 210),(oS "_law_choices",.ref 215),(oS "law",.ref 220)]
noncomputable def bltTab:List (Str×Gd) :=
 [(oS "len",.builtin "len"),(oS "range",.type "range"),(oS "sum",.builtin "sum"),(oS "sorted",.builtin "sorted"),(oS "max",.builtin "max"),
  (oS "isinstance",.builtin "isinstance"),(oS "bytes",.type "bytes"),(oS "str",.type "str"),(oS "frozenset",.type "frozenset"),(oS "tuple",.type "tuple"),
  (oS "iter",.builtin "iter"),(oS "bool",.type "bool"),(oS "set",.type "set"),(oS "IndexError",.type "IndexError"),(oS "ValueError",.type "ValueError"),(oS "StopIteration",.type "StopIteration")]
noncomputable def tabP:Gn:=177
noncomputable def yg:Str:=oS "suffixed_err.<locals>.coord_repr"
noncomputable def zk:HF:=(zt (top 13)).getD 0 default
noncomputable def findTab:List ((Gn×Str)×Option Gd) :=
 [((137,"__init__"),fm (.ref 73)),((137,"_get_nodeinfo"),fm (.ref 80)),((137,"add"),fm (.ref 87)),((137,"prepare"),fm (.ref 92)),((137,"get_ready"),fm (.ref 99)),((137,"is_active"),fm (.ref 106)),
  ((137,"done"),fm (.ref 120)),((137,"_find_cycle"),fm (.ref 127)),((137,"_node2info"),fp),((137,"_ready_nodes"),fp),((137,"_npassedout"),fp),((137,"_nfinished"),fp),
  ((137,"__getattribute__"),fm (.builtin "object.__getattribute__")),((137,"__getattr__"),fp),((137,"__setattr__"),fm (.builtin "object.__setattr__")),
  ((40,"__init__"),fm (.ref 36)),((40,"node"),fm (.ref 41)),((40,"npredecessors"),fm (.ref 42)),((40,"successors"),fm (.ref 43)),
  ((40,"__getattribute__"),fm (.builtin "object.__getattribute__")),((40,"__getattr__"),fp),((40,"__setattr__"),fm (.builtin "object.__setattr__"))]
noncomputable def takeTab:List ((Gn×Str)×Option Gd) :=
 [((137,"_node2info"),fp),((137,"_ready_nodes"),fp),((137,"_npassedout"),fp),((137,"_nfinished"),fp),((40,"node"),fm (.ref 41)),((40,"npredecessors"),fm (.ref 42)),((40,"successors"),fm (.ref 43))]
structure KOk (K:ON):Prop where
 code:∃ o vs file tf flags tg inF text tt,K.lookup 181=fm o/\o.cls=.type "code" /\ o.data=.fields vs/\vs[11]? = fm (.ref tabP)/\vs.getD 11 .none=.ref tabP/\vs.getD 18 .none=.str file tf /\
  vs.getD 7 .none=.int flags tg/\vs.getD 9 .none=.bool inF/\vs.getD 10 .none=.int text tt
 toml:∃ nm q N bs hdct sn sub ab col dd k0 k1 k2 k3 k5,K.lookup 158=fm (Lu nm q 158 N bs [.type "ValueError",.type "Exception",.type "BaseException",.type "object"] hdct sn sub ab col dd k0 k1 k2 k3 k5 "ValueError.__new__") /\
  ∃ o es ep,K.lookup N=fm o/\o.data=.dict es ep/\Nv es/\Kn es "__init__" = fp/\Kn es "__str__" = fp
 made:Vi K 137=Gh/\Vi K 40=Gh/\Vc K 137=Gh/\Vc K 40=Gh
 cls:∃ cd cd',Vk K 137=fm cd/\cd.hasDict=Gh/\Vk K 40=fm cd'/\cd'.hasDict=Gk
 find:∀ C n r,findTab.lookup (C,n)=fm r->NB K (.ref C) n=fm r
 take:∀ C n r,takeTab.lookup (C,n)=fm r->XN K C n=fm r
 slot:NQ K 41 40=fm 0/\NQ K 42 40=fm 1/\NQ K 43 40=fm 2/\Ny K (.ref 41)=fm (.type "member_descriptor")/\Ny K (.ref 42)=fm (.type "member_descriptor")/\Ny K (.ref 43)=fm (.type "member_descriptor")
 fns:∀ f∈[36,73,80,87,92,99,106,120,127],Ny K (.ref f)=fm (.type "function")
structure Base (I:PH):Prop where
 stat:∃ m,NsP I cStatics m/\m "sys.recursionlimit" = fp
 glob:∃ m,NsP I HX m/\(∀ x d,globTab.lookup x=fm d->∃ v,m x=fm v/\VR I v d)/\(∀ x v,bltTab.lookup x=fm v->m x=fp) /\
  ∃ bm o,m "__builtins__" = fm (.ref bm)/\bm≠NF/\bm≠HX/\bm≠tabP/\I bm=fm o/\o.cls=.type "module" /\ o.dict=fm NF/\o.data=.plain
 frag:∃ K:ON,(∀ a o,K.lookup a=fm o->I a=fm o)/\KOk K
 bltn:∃ m,NsP I NF m/\∀ x v,bltTab.lookup x=fm v->m x=fm v
 fns:∀ (i:Nat) a st q dfl c,fnTab[i]? = fm (a,st,q,dfl,c)->FnAt I a st (G7 q) dfl c
 sysm:∃ o,I VX=fm o
 dfl:∃ n,I 66=fm { cls:=.type "tuple",data:=.seq #[.none] n }
theorem Base.mono {I J:PH} (h:Base I) (s:Sub I J):Base J where
 stat:=xEA (h.stat) λm h1 h2=>(iEA m (h1.mono s) h2)
 glob:=let ⟨m,h1,h2,h3,bm,o,g1,g2,g3,g4,g5,g6⟩:=h.glob;⟨m,h1.mono s,λx d e=>xEA (h2 x d e) λv q r=>⟨v,q,r.mono s⟩,h3,bm,o,g1,g2,g3,g4,s _ _ g5,g6⟩
 frag:=xEA (h.frag) λK h1 h2=>(iEA K (λa o e=>s _ _ (h1 a o e)) h2)
 bltn:=xEA (h.bltn) λm h1 h2=>(iEA m (h1.mono s) h2)
 fns:=λi a st q dfl c e=>(h.fns i a st q dfl c e).mono s
 sysm:=(h.sysm).elim λo e=>⟨o,s _ _ e⟩
 dfl:=(h.dfl).elim λn e=>⟨n,s _ _ e⟩
noncomputable def TabOk (I:PH) (h:Kf):Prop :=
 h.get? tabP=fm { cls:=.none,data:=.fields #[] } \/
 ∃ c,h.get? tabP=fm { cls:=.none,data:=.fields #[LM (posOf zk).line,LM (posOf zk).col,c] }/\CodeRecI I c yg
theorem TabOk.mono {I J:PH} {h:Kf} (x:TabOk I h) (s:Sub I J):TabOk J h:=by
 rcases x with x | E71
 .exact .inl x
 .refine xEA E71 λc x y=>?_;clear E71
  exact .inr (iEA c x (y.mono s))
theorem TabOk.keep {I:PH} {h h':Kf} (x:TabOk I h) (k:∀ o,h.get? tabP=fm o->h'.get? tabP=fm o):TabOk I h':=by
 rcases x with x | E72
 .exact .inl (k _ x)
 .refine xEA E72 λc x y=>?_;clear E72
  exact .inr (iEA c (k _ x) y)
noncomputable def SimO (o o':Obj):Prop:=o'=o\/(o.cls=.type "frame" /\ ∃ sl,o'={ o with slots:=sl })
theorem SimO.refl (o:Obj):SimO o o:=.inl rfl
theorem SimO.trans {a b c:Obj} (x:SimO a b) (y:SimO b c):SimO a c:=by
 rcases x with rfl | E73
 .exact y
 .refine xAE E73 λh1 sl E5=>?_;clear E73;subst E5
  rcases y with rfl | E74
  .exact .inr (iAE h1 sl rfl)
  .refine xAE E74 λh2 sl' E5=>?_;clear E74;subst E5
   exact .inr (iAE h1 sl' rfl)
theorem SimO.data {a b:Obj} (x:SimO a b):b.data=a.data:=by
 rcases x with rfl | ⟨_,_,rfl⟩<;>rfl
theorem SimO.cls {a b:Obj} (x:SimO a b):b.cls=a.cls:=by
 rcases x with rfl | ⟨_,_,rfl⟩<;>rfl
noncomputable def yp (o:Obj):Prop:=o.cls=.type "frame" /\ ∃ es n,o.data=.dict es n
structure HP (w:K6) (l:List Env) (F I:PH) (own:Own) (h:Kf):Prop where
 fr:∀ a o,F a=fm o->∃ o',h.get? a=fm o'/\SimO o o'
 fz:Sub I h.get?
 ow:∀ a mo,own a=fm mo->∃ o,h.get? a=fm o/\OR w I o mo
 fi:∀ a o,F a=fm o->I a=fp
 oa:∀ a mo,own a=fm mo->F a=fp/\I a=fp/\a≠tabP
 tf:F tabP=fp
 ti:I tabP=fp
 tab:TabOk I h
 base:Base I
 stk:∀ e∈l,e.scope.kind≠.module/\∃ L o,e.frame=fm L/\F L=fm o/\yp o
noncomputable def Loose (F I:PH) (own:Own) (a:Gn):Prop:=F a=fp/\I a=fp/\own a=fp/\a≠tabP
section
variable {w:K6} {l:List Env} {F I:PH} {own:Own} {h h':Kf} {a:Gn} {o:Obj}
theorem HP.F_lt (H:HP w l F I own h) (e:F a=fm o):a<h.objs.size:=xEA (H.fr a o e) λZ e' Z=>HU e'
theorem HP.I_lt (H:HP w l F I own h) (e:I a=fm o):a<h.objs.size:=HU (H.fz a o e)
theorem HP.own_lt {mo:MO} (H:HP w l F I own h) (e:own a=fm mo):a<h.objs.size:=xEA (H.ow a mo e) λZ e' Z=>HU e'
theorem TabOk.lt (x:TabOk I h):tabP<h.objs.size:=by
 rcases x with x | ⟨c,x,y⟩<;>exact HU x
theorem HP.new (H:HP w l F I own h):Loose F I own h.objs.size:=by
 refine⟨?_,?_,?_,?_⟩
 .cases e:F h.objs.size with
  | none=>rfl
  | some o=>exact absurd (H.F_lt e) (Of _)
 .cases e:I h.objs.size with
  | none=>rfl
  | some o=>exact absurd (H.I_lt e) (Of _)
 .cases e:own h.objs.size with
  | none=>rfl
  | some o=>exact absurd (H.own_lt e) (Of _)
 .exact λe=>absurd H.tab.lt (e ▸ Of _)
theorem HP.keep (H:HP w l F I own h) (k:∀ b o,(F b≠fp\/I b≠fp\/own b≠fp\/b=tabP)->h.get? b=fm o->h'.get? b=fm o):HP w l F I own h' where
 fr:=λa o e=>xEA (H.fr a o e) λo' h1 h2=>(iEA o' (k _ _ (.inl (by rw[e];(intro h;injection h;done))) h1) h2)
 fz:=λa o e=>k _ _ (.inr (.inl (by rw[e];(intro h;injection h;done)))) (H.fz a o e)
 ow:=λa mo e=>xEA (H.ow a mo e) λo h1 h2=>(iEA o (k _ _ (.inr (.inr (.inl (by rw[e];(intro h;injection h;done))))) h1) h2)
 fi:=H.fi
 oa:=H.oa
 tf:=H.tf
 ti:=H.ti
 tab:=H.tab.keep λo e=>k _ _ (.inr (.inr (.inr rfl))) e
 base:=H.base
 stk:=H.stk
theorem HP.all (H:HP w l F I own h) (k:∀ b o,h.get? b=fm o->h'.get? b=fm o):HP w l F I own h':=H.keep λb o Z e=>k b o e
theorem HP.push (H:HP w l F I own h) (o:Obj):HP w l F I own (h.push o):=H.all λZ Z e=>GN o e
theorem Loose.not (x:Loose F I own a) {b:Gn} (y:F b≠fp\/I b≠fp\/own b≠fp\/b=tabP):b≠a:=by
 rintro rfl
 rcases y with y | y | y | y
 .exact y x.1
 .exact y x.2.1
 .exact y x.2.2.1
 .exact x.2.2.2 y
theorem HP.at_loose (H:HP w l F I own h) (x:Loose F I own a) (k:Og a h h'):HP w l F I own h':=H.keep λb o y e=>k b o (x.not y) e
theorem HP.freeze (H:HP w l F I own h) (x:Loose F I own a) (e:h.get? a=fm o):HP w l F (upd I a o) own h:=by
 have s:Sub I (upd I a o):=fA x.2.1
 refine⟨H.fr,λb o' e'=>?_,λb mo e'=>?_,λb o' e'=>?_,λb mo e'=>?_,H.tf,?_,H.tab.mono s,H.base.mono s,H.stk⟩
 .by_cases q:b=a
  .subst q;rewrite [zd] at e';(injection e' with E1;subst E1);exact e
  .replace e':=zc _ _ q ▸ e';exact H.fz b o' e'
 ·(refine xEA (H.ow b mo e') λo' h1 h2=>?_);exact iEA o' h1 (h2.mono w s)
 .have q:b≠a:=by rintro rfl;replace e':=x.1 ▸ e';injection e'
  rw[zc _ _ q];exact H.fi b o' e'
 .have q:b≠a:=by rintro rfl;replace e':=x.2.2.1 ▸ e';injection e'
  rw[zc _ _ q];exact H.oa b mo e'
 .rw[zc _ _ (Hk x.2.2.2)];exact H.ti
theorem HP.push_frozen (H:HP w l F I own h) (o:Obj) (hf:o.isFreed=Gk:=by rfl):HP w l F (upd I h.objs.size o) own (h.push o):=(H.push o).freeze H.new (GA _ hf)
theorem HP.take {mo:MO} (H:HP w l F I own h) (x:Loose F I own a) (e:h.get? a=fm o) (r:OR w I o mo):HP w l F I (upd own a mo) h:=by
 refine⟨H.fr,H.fz,λb mo' e'=>?_,H.fi,λb mo' e'=>?_,H.tf,H.ti,H.tab,H.base,H.stk⟩
 .by_cases q:b=a
  .subst q;rewrite [zd] at e';(injection e' with E1;subst E1);exact iEA o e r
  .replace e':=zc _ _ q ▸ e';exact H.ow b mo' e'
 .by_cases q:b=a
  .subst q;exact⟨x.1,x.2.1,x.2.2.2⟩
  .replace e':=zc _ _ q ▸ e';exact H.oa b mo' e'
theorem HP.set {mo mo':MO} (H:HP w l F I own h) (y:own a=fm mo) (k:Og a h h') (e:h'.get? a=fm o) (r:OR w I o mo'):HP w l F I (upd own a mo') h':=by
 refine xAA (H.oa a mo y) λa1 a2 a3=>?_
 refine⟨λb o' e'=>?_,λb o' e'=>k b o' ?_ (H.fz b o' e'),λb m' e'=>?_,H.fi,λb m' e'=>?_,H.tf,H.ti,H.tab.keep λo' e'=>k _ o' (Hk a3) e',H.base,H.stk⟩
 .refine xEA (H.fr b o' e') λo2 h1 h2=>?_
  exact iEA o2 (k b o2 (by rintro rfl;replace e':=a1 ▸ e';injection e') h1) h2
 .rintro rfl;replace e':=a2 ▸ e';injection e'
 .by_cases q:b=a
  .subst q;rewrite [zd] at e';(injection e' with E1;subst E1);exact iEA o e r
  .replace e':=zc _ _ q ▸ e';(refine xEA (H.ow b m' e') λo2 h1 h2=>?_);exact iEA o2 (k b o2 q h1) h2
 .by_cases q:b=a
  .subst q;exact⟨a1,a2,a3⟩
  .replace e':=zc _ _ q ▸ e';exact H.oa b m' e'
end
structure Loc (I:PH) (env:Env) (loc:List (Str×PV)) (G:PH):Prop where
 kind:env.scope.kind=.function
 glo:env.globals=HX
 blt:env.builtins=NF
 ns:∃ m,NsP G env.locals m/\∀ x d,loc.lookup x=fm d->env.kindOf x=fm .local->∃ v,m x=fm v/\VR I v d
 cell:∀ x d,loc.lookup x=fm d->(env.kindOf x=fm .cell\/env.kindOf x=fm .free)->∃ c o v,env.cells.lookup x=fm c/\G c=fm o/\o.data=.cell (fm v)/\VR I v d
 cells:∀ x c,env.cells.lookup x=fm c->c≠env.locals/\∃ o v,G c=fm o/\o.data=.cell v
 inj:∀ x y c,env.cells.lookup x=fm c->env.cells.lookup y=fm c->x=y
 has:∀ y,env.kindOf y=fm .cell->∃ c,env.cells.lookup y=fm c
structure PSt where
 loc:List (Str×PV)
 own:Own
inductive Rep (w:K6) (l:List Env) (F I:PH) (env:Env) (ρ:PSt) (s:Gg):Prop
 | mk (G:PH):HP w l (uni F G) I ρ.own s.heap->Loc I env ρ.loc G->(∀ a o,G a=fm o->F a=fp)->Rep w l F I env ρ s
structure Lv where
 n:Nat
 b:Bool
 h:Option Gn
noncomputable def Lv.up (k:Lv):Lv:=⟨k.n+1,k.b,k.h⟩
noncomputable def Lv.any (k:Lv):Lv:=⟨k.n,Gk,fp⟩
noncomputable def Lv.han (k:Lv) (e:Gn):Lv:=⟨k.n,Gk,fm e⟩
structure OkA (k:Lv) (A:GZ) (l:List Env):Prop where
 fr:A.frames=fm l
 hd:k.b=Gh->A.handled=fp
 hh:∀ e,k.h=fm e->A.handled=fm (.ref e)
 dp:A.depth+k.n<recursionLimit
 un:A.units+64*k.n+256<NM
noncomputable def Same (s s':Gg):Prop:=s'.gens=s.gens/\s'.os=s.os
theorem Same.refl (s:Gg):Same s s:=⟨rfl,rfl⟩
theorem Same.trans {a b c:Gg} (x:Same a b) (y:Same b c):Same a c:=⟨y.1.trans x.1,y.2.trans x.2⟩
section
variable (w:K6)
noncomputable abbrev mdl:YA:=model prg w
inductive Py {α:Type} (l:List Env) (F:PH) (own:Own) (I:PH) (s:Gg) (R:PH->α->Prop) (v:α) (s':Gg):Prop
 | mk (J:PH):Sub I J->HP w l F J own s'.heap->R J v->Same s s'->Py l F own I s R v s'
noncomputable def PR {α:Type} (k:Lv) (own:Own) (P:PH->Prop) (t:Sem α) (R:PH->α->Prop):Prop :=
 ∀ (A:GZ) (l:List Env) (F I:PH) (s:Gg),OkA k A l->HP w l F I own s.heap->P I ->
  Gf (mdl w) A t (Py w l F own I s R) (λZ Z=>False) s
noncomputable def TD {α:Type} (k:Lv) (env:Env) (ρ:PSt) (P:PH->Prop) (t:Sem α) (R:PH->α->Prop):Prop :=
 ∀ (A:GZ) (l:List Env) (F I:PH) (s:Gg),OkA k A l->HP w l F I ρ.own s.heap->Loc I env ρ.loc F->P I ->
  Gf (mdl w) A t (Py w l F ρ.own I s R) (λZ Z=>False) s
noncomputable def EVd (k:Lv) (env:Env) (ρ:PSt) (e:Expr) (d:PV):Prop:=TD w k env ρ (λZ=>True) (eval e env) (λI v=>VR I v d)
end
section
variable {w:K6} {k:Lv} {env:Env} {ρ:PSt}
section
variable {l:List Env} {F I J K:PH} {own own':Own} {s s' s'':Gg} {α:Type} {P:PH->Prop} {t:Sem α} {R:PH->α->Prop} {A:GZ} {Q:α->Gg->Prop} {E:Gd->Gg->Prop}
theorem mP {s0:Gg} (h:Gf (mdl w) A t (Py w l F own I s R) E s0) (k:∀ v s' J,Sub I J->HP w l F J own s'.heap->R J v->Same s s'->Q v s'):Gf (mdl w) A t Q E s0:=Gm h (λv s' z=>by cases z with | mk J a H r q=>exact k v s' J a H r q) λZ Z x=>x
theorem mPf {s0:Gg} (h:Gf (mdl w) A t (Py w l F own I s R) (λZ Z=>False) s0) (k:∀ v s' J,Sub I J->HP w l F J own s'.heap->R J v->Same s s'->Q v s'):Gf (mdl w) A t Q E s0:=Gm h (λv s' z=>by cases z with | mk J a H r q=>exact k v s' J a H r q) λZ Z x=>x.elim
end
theorem OkA.in1 {k:Lv} {A:GZ} {l:List Env} (h:OkA k.up A l):OkA k A.in1 l :=
 ⟨h.fr,h.hd,h.hh,by have:=h.dp;show A.depth+k.n<_;simp only[Lv.up] at this;exact Nat.lt_of_succ_lt this,by have:=h.un;simp only[Lv.up] at this;show A.units+1+64*k.n+256<_;exact AV ‹_›⟩
theorem OkA.mark {k:Lv} {A:GZ} {l:List Env} (h:OkA k A l) (v:Option Gd):OkA k.any (A.mark v) l:=⟨h.fr,λe=>(nomatch e),λZ e=>(nomatch e),h.dp,h.un⟩
theorem OkA.han {k:Lv} {A:GZ} {l:List Env} (h:OkA k A l) (e:Gn):OkA (k.han e) (A.mark (fm (.ref e))) l:=⟨h.fr,λe=>(nomatch e),λZ q=>by (injection q with E1;subst E1);rfl,h.dp,h.un⟩
theorem Loc.mono {I J F:PH} {loc:List (Str×PV)} (h:Loc I env loc F) (s:Sub I J):Loc J env loc F where
 kind:=h.kind
 glo:=h.glo
 blt:=h.blt
 ns:=xEA (h.ns) λm h1 h2=>(iEA m h1 (λx d e k=>xEA (h2 x d e k) λv e1 e2=>⟨v,e1,e2.mono s⟩))
 cell:=λx d e k=>zs (h.cell x d e k) λc o v h1 h2 h3 h4=>(zI c o v h1 h2 h3 (h4.mono s))
 cells:=h.cells
 inj:=h.inj
 has:=h.has
theorem PR.td {α:Type} {P:PH->Prop} {t:Sem α} {R:PH->α->Prop} (h:PR w k ρ.own P t R):TD w k env ρ P t R :=
 λA l F I s hA H Z hP=>h A l F I s hA H hP
theorem PR.weaken {α:Type} {own:Own} {P P':PH->Prop} {t:Sem α} {R R':PH->α->Prop} (h:PR w k own P t R) (hP:∀ I,P' I->P I) (hR:∀ I v,R I v->R' I v):PR w k own P' t R' :=
 λA l F I s hA H hp=>mP (h A l F I s hA H (hP I hp)) (λv Z I' a b c d=>⟨I',a,b,hR _ v c,d⟩)
theorem TD.weaken {α:Type} {P P':PH->Prop} {t:Sem α} {R R':PH->α->Prop} (h:TD w k env ρ P t R) (hP:∀ I,P' I->P I) (hR:∀ I v,R I v->R' I v):TD w k env ρ P' t R' :=
 λA l F I s hA H L hp=>mP (h A l F I s hA H L (hP I hp)) (λv Z I' a b c d=>⟨I',a,b,hR _ v c,d⟩)
noncomputable def Mono (P:PH->Prop):Prop:=∀ I J,Sub I J->P I->P J
theorem di:Mono λZ=>True:=λZ Z Z Z=>trivial
theorem AH {v:Gd} {d:PV}:Mono λI=>VR I v d:=λZ Z s h=>h.mono s
theorem fP {v:List Gd} {d:List PV}:Mono λI=>VRs I v d:=λZ Z s h=>h.mono s
theorem pW {P Q:PH->Prop} (p:Mono P) (q:Mono Q):Mono λI=>P I/\Q I:=λI J s h=>⟨p I J s h.1,q I J s h.2⟩
theorem PR.bind {α β:Type} {own:Own} {P:PH->Prop} {t:Sem α} {f:α->Sem β} {R:PH->α->Prop} {R':PH->β->Prop} (mP:Mono P) (h:PR w k own P t R)
  (h':∀ v,PR w k own (λI=>P I/\R I v) (f v) R'):PR w k own P (t>>=f) R' :=
 λA l F I s hA H hp=>Ga (Gm (h A l F I s hA H hp) (λv s' E9=>E9.casesOn λI' a b c d =>
  Gm (h' v A l F I' s' hA b ⟨mP _ _ a hp,c⟩) (λZ Z E9=>E9.casesOn λI'' a' b' c' d'=>⟨I'',a.trans a',b',c',d.trans d'⟩) λZ Z x=>x) λZ Z x=>x)
theorem TD.pure {α:Type} {P:PH->Prop} {v:α} {R:PH->α->Prop} (h:∀ I,P I->R I v):TD w k env ρ P (Pure.pure v:Sem α) R :=
 λA l F I s Z H Z hp=>Gb ⟨I,.refl I,H,h I hp,.refl s⟩
theorem PR.pure {α:Type} {own:Own} {P:PH->Prop} {v:α} {R:PH->α->Prop} (h:∀ I,P I->R I v):PR w k own P (Pure.pure v:Sem α) R :=
 λA l F I s Z H hp=>Gb ⟨I,.refl I,H,h I hp,.refl s⟩
theorem HP.nsF {l:List Env} {F I:PH} {own:Own} {h:Kf} {a:Gn} {m:Str->Option Gd} (H:HP w l F I own h) (n:NsP F a m):h.Ns a m:=by
 obtain⟨o,es,ep,e,hd,r,r2⟩:=n
 refine xEA (H.fr a o e) λo' e' hs=>?_
 exact zI o' es ep e' (hs.data.trans hd) r r2
theorem HP.nsI {l:List Env} {F I:PH} {own:Own} {h:Kf} {a:Gn} {m:Str->Option Gd} (H:HP w l F I own h) (n:NsP I a m):h.Ns a m:=by
 obtain⟨o,es,ep,e,hd,r,r2⟩:=n
 exact zI o es ep (H.fz a o e) hd r r2
theorem HP.noLimit {l:List Env} {F I:PH} {own:Own} {h:Kf} (H:HP w l F I own h):h.NoLimit:=xEA (H.base.stat) λm h1 h2=>(iEA m (H.nsI h1) h2)
theorem HP.codeRec {l:List Env} {F I:PH} {own:Own} {h:Kf} {cd:Gd} {q:Str} (H:HP w l F I own h) (c:CodeRecI I cd q):h.CodeRec cd q :=
 (c).casesOn λc o vs t e g r r2=>(Qa c o vs t e (H.fz _ _ g) r r2)
theorem fq {x:Str} {pos:Pos} {d:PV} (hl:env.kindOf x=fm .local) (hx:ρ.loc.lookup x=fm d) (hd:(x==("__debug__" : Str))=Gk:=by exact Hv Gk):EVd w k env ρ (.Name x pos) d :=
 λA l F I s Z H L Z=>by
  show let Q':=_;let E':=_;Gf _ _ _ Q' E' _;intro Q' E'
  refine xEA (L.ns) λm hm hv=>?_
  refine xEA (hv x d hx hl) λv e r=>?_
  exact wpAny_Name (gg L.kind hl (H.nsF hm) e ⟨I,.refl I,H,r,.refl s⟩) hd
theorem Ai {x:Str} {pos:Pos} {d:PV} (hl:env.kindOf x=fm .cell) (hx:ρ.loc.lookup x=fm d) (hd:(x==("__debug__" : Str))=Gk:=by exact Hv Gk):EVd w k env ρ (.Name x pos) d :=
 λA l F I s Z H L Z=>by
  refine zs (L.cell x d hx (.inl hl)) λc o v h1 h2 h3 h4=>?_
  refine xEA (H.fr c o h2) λo' e' hs=>?_
  exact wpAny_Name (wpAny_loadName_cell L.kind hl h1 (iEA o' e' (hs.data.trans h3)) ⟨I,.refl I,H,h4,.refl s⟩) hd
theorem fV {x:Str} {pos:Pos} {d:PV} (hl:env.kindOf x=fm .globalImplicit) (hx:globTab.lookup x=fm d) (hd:(x==("__debug__" : Str))=Gk:=by exact Hv Gk):EVd w k env ρ (.Name x pos) d :=
 λA l F I s Z H L Z=>by
  refine yZ (H.base.glob) λm h1 h2 Z Z=>?_
  refine xEA (h2 x d hx) λv e r=>?_
  exact Wu L.kind hl (Calls.loadGlobal_global (L.glo ▸ H.nsI h1) e ⟨I,.refl I,H,r,.refl s⟩) hd
theorem fZ {x:Str} {pos:Pos} {v:Gd} (hl:env.kindOf x=fm .globalImplicit) (hx:bltTab.lookup x=fm v) (hd:(x==("__debug__" : Str))=Gk:=by exact Hv Gk):EVd w k env ρ (.Name x pos) (.raw v) :=
 λA l F I s Z H L Z=>by
  refine yZ (H.base.glob) λm h1 Z h3 Z=>?_
  refine xEA (H.base.bltn) λmb b1 b2=>?_
  exact Wu L.kind hl (Calls.loadGlobal_builtin (L.glo ▸ H.nsI h1) (h3 x v hx) (L.blt ▸ H.nsI b1) (b2 x v hx) ⟨I,.refl I,H,.raw v,.refl s⟩) hd
theorem EVd.int {i:Int} {c:Nat} {pos:Pos}:EVd w k env ρ (.Constant (.int i) c pos) (.int i) :=
 λA l F I s Z H L Z=>wpAny_Constant_int ⟨I,.refl I,H,.int _ _,⟨rfl,rfl⟩⟩
theorem EVd.str {x:Str} {c:Nat} {pos:Pos}:EVd w k env ρ (.Constant (.str x) c pos) (.str x) :=
 λA l F I s Z H L Z=>Calls.Constant_str ⟨I,.refl I,H,.str _ _,⟨rfl,rfl⟩⟩
theorem EVd.bytes {x:List UInt8} {c:Nat} {pos:Pos}:EVd w k env ρ (.Constant (.bytes x) c pos) (.bytes x.toArray) :=
 λA l F I s Z H L Z=>λZ Z Z=>⟨I,.refl I,H,.bytes _ _,⟨rfl,rfl⟩⟩
theorem EVd.bool {b:Bool} {c:Nat} {pos:Pos}:EVd w k env ρ (.Constant (.bool b) c pos) (.bool b) :=
 λA l F I s Z H L Z=>Gb ⟨I,.refl I,H,.bool _,.refl s⟩
theorem EVd.none {c:Nat} {pos:Pos}:EVd w k env ρ (.Constant .none c pos) .none :=
 λA l F I s Z H L Z=>Gb ⟨I,.refl I,H,.none,.refl s⟩
theorem fC {e1 e2:Expr} {op:XB} {pos:Pos} {d1 d2 d:PV} (h1:EVd w k env ρ e1 d1) (h2:EVd w k env ρ e2 d2)
  (h:∀ v1 v2,PR w k ρ.own (λI=>VR I v1 d1/\VR I v2 d2) (N9 op v1 v2) (λI v=>VR I v d)):EVd w k env ρ (.BinOp e1 op e2 pos) d :=
 λA l F I s hA H L Z=>wpAny_BinOp (mP (h1 A l F I s hA H L trivial) (λv1 s1 I1 a1 H1 r1 q1 =>
  mP (h2 A l F I1 s1 hA H1 (L.mono a1) trivial) (λv2 s2 I2 a2 H2 r2 q2 =>
   mP (h v1 v2 A l F I2 s2 hA H2 ⟨r1.mono a2,r2⟩) (λv s3 I3 a3 H3 r3 q3=>⟨I3,a1.trans (a2.trans a3),H3,r3,q1.trans (q2.trans q3)⟩))))
end
inductive PF where
 | next | brk | cont
 | ret (d:PV)
noncomputable def FR (I:PH):Flow->PF->Prop
 | .next,.next=>True
 | .brk,.brk=>True
 | .cont,.cont=>True
 | .ret v,.ret d=>VR I v d
 | _,_=>False
structure ExcD where
 cls:Gd
 args:Option (List PV)
inductive Trc (F I:PH) (own:Own) (h:Kf) (e:Gn) (vs:Array Gd):Prop
 | mk (T:Gn) (oT:Obj) (ts:Array Gd):vs[1]? = fm (.ref T)->Loose F I own T->T≠e->h.get? T=fm oT->oT.data=.fields ts->3<ts.size->Trc F I own h e vs
inductive ExcIn (F I:PH) (own:Own) (h:Kf) (ev:Gd) (x:ExcD):Prop
 | mk (e:Gn) (o:Obj) (vs:Array Gd):ev=.ref e->Loose F I own e->h.get? e=fm o->o.cls=x.cls->o.data=.fields vs->vs.size=6 ->
  (∀ ds,x.args=fm ds->Tups I vs ds) ->
  (x.args=fp->vs[2]? = fm .none) ->
  (vs[1]? = fm .none\/Trc F I own h e vs)->ExcIn F I own h ev x
inductive RepX (w:K6) (l:List Env) (F I:PH) (env:Env) (ρ:PSt) (s:Gg) (ev:Gd) (x:ExcD):Prop
 | mk (G:PH):HP w l (uni F G) I ρ.own s.heap->Loc I env ρ.loc G->(∀ a o,G a=fm o->F a=fp)->ExcIn (uni F G) I ρ.own s.heap ev x->RepX w l F I env ρ s ev x
inductive Ey (w:K6) (l:List Env) (F I:PH) (env:Env) (s:Gg) (Φ:PF->PSt->Prop) (f:Flow) (s':Gg):Prop
 | mk (J:PH) (ρ':PSt) (p:PF):Sub I J->Rep w (env::l) F J env ρ' s'->FR J f p->Same s s'->Φ p ρ'->Ey w l F I env s Φ f s'
inductive XP (w:K6) (l:List Env) (F I:PH) (env:Env) (s:Gg) (Ψ:ExcD->PSt->Prop) (ev:Gd) (s':Gg):Prop
 | mk (J:PH) (ρ':PSt) (x:ExcD):Sub I J->RepX w (env::l) F J env ρ' s' ev x->Same s s'->Ψ x ρ'->XP w l F I env s Ψ ev s'
inductive Ay {α:Type} (w:K6) (l:List Env) (F I:PH) (env:Env) (ρ:PSt) (s:Gg) (R:PH->α->Prop) (v:α) (s':Gg):Prop
 | mk (J:PH):Sub I J->Rep w l F J env ρ s'->R J v->Same s s'->Ay w l F I env ρ s R v s'
section
variable (w:K6)
noncomputable def EX (k:Lv) (env:Env) (ρ:PSt) (ss:List HF) (Φ:PF->PSt->Prop) (Ψ:ExcD->PSt->Prop):Prop :=
 ∀ (A:GZ) (l:List Env) (F I:PH) (s:Gg),OkA k A (env::l)->Rep w (env::l) F I env ρ s ->
  Gf (mdl w) A (execs ss env) (Ey w l F I env s Φ) (XP w l F I env s Ψ) s
noncomputable def EX1 (k:Lv) (env:Env) (ρ:PSt) (st:HF) (Φ:PF->PSt->Prop) (Ψ:ExcD->PSt->Prop):Prop :=
 ∀ (A:GZ) (l:List Env) (F I:PH) (s:Gg),OkA k A (env::l)->Rep w (env::l) F I env ρ s ->
  Gf (mdl w) A (exec st env) (Ey w l F I env s Φ) (XP w l F I env s Ψ) s
noncomputable def TDb (k:Lv) (env:Env) (ρ:PSt) (e:Expr) (b:Bool):Prop:=TD w k env ρ (λZ=>True) (isTrue e env (eval e env)) (λZ v=>v=b)
end
noncomputable def PSt.set (ρ:PSt) (x:Str) (d:PV):PSt:={ ρ with loc:=(x,d)::ρ.loc }
noncomputable def noX:ExcD->PSt->Prop:=λZ Z=>False
section
variable {w:K6} {k:Lv} {env:Env} {ρ ρ':PSt} {Φ:PF->PSt->Prop} {Ψ:ExcD->PSt->Prop} {l:List Env} {F I J K:PH} {s s' s'':Gg} {ev:Gd} {x:ExcD}
theorem mA {α:Type} {t:Sem α} {A:GZ} {R:PH->α->Prop} {Q:α->Gg->Prop} {E:Gd->Gg->Prop} {s0:Gg} (h:Gf (mdl w) A t (Ay w l F I env ρ s R) E s0) (k:∀ v s' J,Sub I J->Rep w l F J env ρ s'->R J v->Same s s'->Q v s'):Gf (mdl w) A t Q E s0:=Gm h (λv s' z=>by cases z with | mk J a H r q=>exact k v s' J a H r q) λZ Z x=>x
theorem mE {t:Sem Flow} {A:GZ} {Q:Flow->Gg->Prop} {E:Gd->Gg->Prop} {s0:Gg} (h:Gf (mdl w) A t (Ey w l F I env s Φ) E s0) (k:∀ f s' J ρ' p,Sub I J->Rep w (env::l) F J env ρ' s'->FR J f p->Same s s'->Φ p ρ'->Q f s'):Gf (mdl w) A t Q E s0:=Gm h (λv s' z=>by cases z with | mk J ρ' p a H r q c=>exact k v s' J ρ' p a H r q c) λZ Z x=>x
end
section
variable {w:K6} {k:Lv} {env:Env} {ρ:PSt} {Φ:PF->PSt->Prop} {Ψ:ExcD->PSt->Prop}
theorem EX.nil (h:Φ .next ρ):EX w k env ρ [] Φ Ψ:=λA l F I s hA R=>TY ⟨I,ρ,.next,.refl I,R,trivial,.refl s,h⟩
theorem EX.cons {st:HF} {rest:List HF} {Φ₁:PF->PSt->Prop} (h1:EX1 w k env ρ st Φ₁ Ψ) (h2:∀ ρ',Φ₁ .next ρ'->EX w k env ρ' rest Φ Ψ) (h3:∀ p ρ',p≠.next->Φ₁ p ρ'->Φ p ρ') :
  EX w k env ρ (st::rest) Φ Ψ:=λA l F I s hA R=>wpAny_execs_cons (mE (h1 A l F I s hA R) (λf s1 I1 ρ1 p a1 R1 r1 q1 c1=>by
   cases f with
   | next =>
    cases p with
    | next=>exact Gm (h2 ρ1 c1 A l F I1 s1 hA R1) (λf s2 E9=>E9.casesOn λI2 ρ2 p a2 R2 r2 q2 c2=>⟨I2,ρ2,p,a1.trans a2,R2,r2,q1.trans q2,c2⟩) λf s2 E9=>E9.casesOn λI2 ρ2 x a2 R2 q2 c2=>⟨I2,ρ2,x,a1.trans a2,R2,q1.trans q2,c2⟩
    | _=>exact r1.elim
   | brk =>
    cases p with
    | brk=>exact⟨I1,ρ1,.brk,a1,R1,r1,q1,h3 _ _ (by intro h;injection h) c1⟩
    | _=>exact r1.elim
   | cont =>
    cases p with
    | cont=>exact⟨I1,ρ1,.cont,a1,R1,r1,q1,h3 _ _ (by intro h;injection h) c1⟩
    | _=>exact r1.elim
   | ret v =>
    cases p with
    | ret d=>exact⟨I1,ρ1,.ret d,a1,R1,r1,q1,h3 _ _ (by intro h;injection h) c1⟩
    | _=>exact r1.elim))
theorem EX.step {st:HF} {rest:List HF} {ρ₁:PSt} (h1:EX1 w k env ρ st (λp ρ'=>p=.next/\ρ'=ρ₁) Ψ) (h2:EX w k env ρ₁ rest Φ Ψ):EX w k env ρ (st::rest) Φ Ψ :=
 EX.cons h1 (λρ' h=>h.2 ▸ h2) λp ρ' hp h=>absurd h.1 hp
theorem fy {st:HF} {rest:List HF} {D:PSt->Prop} (h1:EX1 w k env ρ st (λp ρ'=>p=.next/\D ρ') Ψ) (h2:∀ ρ₁,D ρ₁->EX w k env ρ₁ rest Φ Ψ):EX w k env ρ (st::rest) Φ Ψ :=
 EX.cons h1 (λρ' h=>h2 ρ' h.2) λp ρ' hp h=>absurd h.1 hp
theorem fw {st:HF} (h1:EX1 w k env ρ st Φ Ψ):EX w k env ρ [st] Φ Ψ :=
 EX.cons h1 (λρ' h=>EX.nil h) λp ρ' hp h=>h
theorem EX.mono {ss:List HF} {Φ':PF->PSt->Prop} (h:EX w k env ρ ss Φ Ψ) (hΦ:∀ p ρ,Φ p ρ->Φ' p ρ):EX w k env ρ ss Φ' Ψ :=
 λA l F I s hA R=>mE (h A l F I s hA R) (λf s1 I1 ρ1 p a1 R1 r1 q1 c1=>⟨I1,ρ1,p,a1,R1,r1,q1,hΦ _ _ c1⟩)
theorem EX1.mono {st:HF} {Φ':PF->PSt->Prop} (h:EX1 w k env ρ st Φ Ψ) (hΦ:∀ p ρ,Φ p ρ->Φ' p ρ):EX1 w k env ρ st Φ' Ψ :=
 λA l F I s hA R=>mE (h A l F I s hA R) (λf s1 I1 ρ1 p a1 R1 r1 q1 c1=>⟨I1,ρ1,p,a1,R1,r1,q1,hΦ _ _ c1⟩)
theorem fS {st:HF} {q:PF} {r:PSt} (h:EX1 w k env ρ st (λp ρ'=>p=q/\ρ'=r) Ψ) (c:Φ q r):EX1 w k env ρ st Φ Ψ:=EX1.mono h λp ρ' z=>z.elim λe1 e2=>by subst e1 e2;exact c
theorem zm {F G:PH} {a:Gn} {o:Obj} (h:G a=fm o):uni F G a=fm o:=by delta uni;rw[h]
theorem Loc.up {I F G:PH} {loc:List (Str×PV)} (h:Loc I env loc G):Loc I env loc (uni F G) where
 kind:=h.kind
 glo:=h.glo
 blt:=h.blt
 ns:=xEA (h.ns) λm ⟨o,es,ep,e,r,r2,r3⟩ h2=>(iEA m ⟨o,es,ep,zm e,r,r2,r3⟩ h2)
 cell:=λx d e k=>zs (h.cell x d e k) λc o v h1 h2 h3 h4=>(zI c o v h1 (zm h2) h3 h4)
 cells:=λx c e=>zJ (h.cells x c e) λh1 o v h2 h3=>(yx h1 o v (zm h2) h3)
 inj:=h.inj
 has:=h.has
theorem TD.at {α:Type} {P:PH->Prop} {t:Sem α} {R:PH->α->Prop} (h:TD w k env ρ P t R) {A:GZ} {l:List Env} {F I:PH} {s:Gg} (hA:OkA k A l) (X:Rep w l F I env ρ s) (hp:P I)
  {E:Gd->Gg->Prop}:Gf (mdl w) A t (Ay w l F I env ρ s R) E s:=by
 obtain⟨G,H,L,D⟩:=X
 exact mPf (h A l _ I s hA H L.up hp) (λv s' I' a H' r q=>⟨I',a,⟨G,H',L.mono a,D⟩,r,q⟩)
theorem zb {α:Type} {x y:Str} {d:α} {l:List (Str×α)} (h:x≠y):Hd x ((y,d)::l)=Hd x l:=by
 rw[Lz]
 have:(x==y)=Gk:=by simpa using h
 rw[this]
theorem ln {α:Type} {x y:Str} {d:α} {l:List (Str×α)} {v:Option α} (e:Hd x l=v) (h:x≠y:=by decide):Hd x ((y,d)::l)=v:=(zb h).trans e
theorem ze {α:Type} {x:Str} {d:α} {l:List (Str×α)}:Hd x ((x,d)::l)=fm d:=by
 rw[Lz];simp
theorem qX {M:YA} {A:GZ} {E:Gd->Gg->Prop} {s:Gg} {a:Gn} {o:Obj} {es:Array KY} {ep:Nat} {name:Str} {v:Gd} {Q:Unit->Gg->Prop}
  (ho:s.heap.get? a=fm o) (hd:o.data=.dict es ep) (hk:Nv es)
  (h:∀ h' es' ep',h'.get? a=fm { o with data:=.dict es' ep' }->Nv es'->(∀ x,Kn es' x=if x=name then fm v else Kn es x)->HI a s.heap h' ->
   Q () { s with heap:=h',toks:=s.toks+1 }):Gf M A (nsSet a name v) Q E s:=by
 have hany:es.any (·.refKey)=Gk:=by
  rw[TX];intro e he;(refine xEE (hk e he) λn t q=>?_);simp[OG,q]
 intro Γ p _
 simp only[nsSet,strHash,Sem.wp_bind',Sem.wp_cmd_ask,Sem.wp_pure',Y0]
 rw[YO M Γ _ p { s with toks:=s.toks+1 } (o:=o) _ ho]
 simp only[hd,YM,Xx,hany,Nr,GQ,if_false,XQ]
 refine⟨by rw[ho];rfl,?_⟩
 obtain⟨c,d,dt,sl⟩:=o
 simp only at hd
 subst hd
 cases hi:es.findIdx? (·.key.isStr name) with
 | some i =>
  exact h _ (es.modify i λe=>{ e with val:=v }) ep (by rw[GM _ ho (by simp only[LB,KI,hi];rfl)];simp only[LB,KI,hi]) (hk.modify _ _)
   (λx=>findBy_modify (λn v=>v.isStr n) YZ es name x v i hi) (GB ..)
 | none =>
  exact h _ (es.push _) (ep+1) (by rw[GM _ ho (by simp only[LB,KI,hi];rfl)];simp only[LB,KI,hi];rfl) (hk.push _ _ _ _)
   (λx=>findBy_push (λn v=>v.isStr n) es name x _ _ v (λy=>by
    show (name==y)=decide (y=name)
    by_cases q:y=name
    .subst q;rfl
    .have:¬ name=y:=λe=>q e.symm
     simp[q,this]) hi) (GB ..)
theorem HP.setG {l:List Env} {F G I:PH} {own:Own} {h h':Kf} {a:Gn} {o o':Obj} (H:HP w l (uni F G) I own h) (e:G a=fm o) (k:Og a h h') (e':h'.get? a=fm o') (hf:yp o->yp o') :
  HP w l (uni F (upd G a o')) I own h':=by
 have eF:uni F G a=fm o:=zm e
 have hI:I a=fp:=H.fi _ _ eF
 have hO:own a=fp:=by
  cases q:own a with
  | none=>rfl
  | some mo=>have:=(H.oa _ _ q).1;replace this:=eF ▸ this;injection this
 have hT:a≠tabP:=by rintro q;have:=H.tf;(replace this:=(Gq q) ▸ this;replace this:=eF ▸ this);injection this
 have ev:∀ b,uni F (upd G a o') b=if b=a then fm o' else uni F G b:=λb=>by
  by_cases q:b=a
  .subst q;rw[if_pos rfl];exact zm (zd ..)
  .rw[if_neg q];delta uni;rw[zc _ _ q]
 refine⟨λb o2 e2=>?_,λb o2 e2=>k b o2 (by rintro rfl;replace e2:=hI ▸ e2;injection e2) (H.fz b o2 e2),λb mo e2=>?_,λb o2 e2=>?_,λb mo e2=>?_,?_,H.ti,H.tab.keep λo2 e2=>k _ o2 (Hk hT) e2,H.base,λen hen=>?_⟩
 .rewrite [ev] at e2
  by_cases q:b=a
  .subst q;replace e2:=if_pos rfl ▸ e2;(injection e2 with E1;subst E1);exact iEA o' e' (.refl _)
  .replace e2:=if_neg q ▸ e2;(refine xEA (H.fr b o2 e2) λo3 h1 h2=>?_);exact iEA o3 (k b o3 q h1) h2
 ·(refine xEA (H.ow b mo e2) λo3 h1 h2=>?_);exact iEA o3 (k b o3 (by rintro rfl;replace e2:=hO ▸ e2;injection e2) h1) h2
 .rewrite [ev] at e2
  by_cases q:b=a
  .subst q;exact hI
  .replace e2:=if_neg q ▸ e2;exact H.fi b o2 e2
 .have q:b≠a:=by rintro rfl;replace e2:=hO ▸ e2;injection e2
  rw[ev,if_neg q];exact H.oa b mo e2
 .rw[ev,if_neg (Hk hT)];exact H.tf
 .refine xM (H.stk en hen) λh1 L oL h2 h3 h4=>?_
  by_cases q:L=a
  .subst q
   replace h3:=eF ▸ h3;(injection h3 with E1;subst E1)
   exact uH h1 L o' h2 (by rw[ev,if_pos rfl]) (hf h4)
  .exact uH h1 L oL h2 (by rw[ev,if_neg q];exact h3) h4
theorem Rep.storeL {A:GZ} {l:List Env} {F I:PH} {s:Gg} {x:Str} {v:Gd} {d:PV} {E:Gd->Gg->Prop} {Q:Unit->Gg->Prop} (X:Rep w l F I env ρ s) (hl:env.kindOf x=fm .local) (hv:VR I v d)
  (h:∀ s',Rep w l F I env (ρ.set x d) s'->Same s s'->Q () s'):Gf (mdl w) A (VB env x v) Q E s:=by
 obtain⟨G,H,L,D⟩:=X
 refine xEA (L.ns) λm E21 hv'=>?_;obtain⟨o,es,ep,e,hd,hk,hm⟩:=E21
 refine xEA (H.fr _ _ (zm e)) λo1 e1 hs1=>?_
 rw[fg hl (by rw[L.kind];rfl)]
 refine qX e1 (hs1.data.trans hd) hk λh' es' ep' e' hk' hm' hs=>?_
 refine h _ ⟨upd G env.locals { o1 with data:=.dict es' ep' },H.setG e hs.extBut e' (λf=>(iAEE (hs1.cls.trans f.1) _ _ rfl)),⟨L.kind,L.glo,L.blt,⟨_,⟨_,es',ep',zd ..,rfl,hk',hm'⟩,λy dy hy hly=>?_⟩,λy dy hy hky=>?_,λy c hc=>?_,L.inj,L.has⟩,λb o2 e2=>?_⟩ ⟨rfl,rfl⟩
 .by_cases q:y=x
  .subst q
   replace hy:=(show (ρ.set y d).loc.lookup y=fm d from ze) ▸ hy
   (injection hy with E1;subst E1);exact iEA v (if_pos rfl) hv
  .replace hy:=(show (ρ.set x d).loc.lookup y=ρ.loc.lookup y from zb q) ▸ hy
   refine xEA (hv' y dy hy hly) λu h1 h2=>?_
   exact iEA u (by rw[if_neg q,hm];exact h1) h2
 .have q:y≠x:=by
   rintro rfl
   replace hky:=hl ▸ hky
   rcases hky with hky | hky<;>(injection hky with E1;injection E1)
  replace hy:=(show (ρ.set x d).loc.lookup y=ρ.loc.lookup y from zb q) ▸ hy
  refine zs (L.cell y dy hy hky) λc oc u h1 h2 h3 h4=>?_
  exact zI c oc u h1 (by rw[zc _ _ (L.cells y c h1).1];exact h2) h3 h4
 .refine zJ (L.cells y c hc) λh1 oc u h2 h3=>?_
  exact yx h1 oc u (by rw[zc _ _ h1];exact h2) h3
 .by_cases q:b=env.locals
  .subst q;exact D _ _ e
  .replace e2:=zc _ _ q ▸ e2;exact D _ _ e2
theorem Rep.storeC {A:GZ} {l:List Env} {F I:PH} {s:Gg} {x:Str} {c:Gn} {v:Gd} {d:PV} {E:Gd->Gg->Prop} {Q:Unit->Gg->Prop} (X:Rep w l F I env ρ s) (hl:env.kindOf x=fm .cell) (hc:env.cells.lookup x=fm c) (hv:VR I v d)
  (h:∀ s',Rep w l F I env (ρ.set x d) s'->Same s s'->Q () s'):Gf (mdl w) A (VB env x v) Q E s:=by
 obtain⟨G,H,L,D⟩:=X
 refine zJ (L.cells x c hc) λhcl oc u e hd=>?_
 refine xEA (H.fr _ _ (zm e)) λo1 e1 hs1=>?_
 refine gc L.kind hl hc (iEA o1 e1 (hs1.data.trans hd)) λh' hc' hs=>?_
 refine xEA (hc') λo2 e2 hd2=>?_;try clear hc'
 refine h _ ⟨upd G c o2,H.setG e hs.extBut e2 (λf=>?_),⟨L.kind,L.glo,L.blt,?_,λy dy hy hky=>?_,λy c' hc'=>?_,L.inj,L.has⟩,λb o3 e3=>?_⟩ ⟨rfl,rfl⟩
 ·(refine xAEE f λZ es n q=>?_;try clear f);replace q:=hd ▸ q;injection q
 .refine xEA (L.ns) λm E22 hv'=>?_;obtain⟨o,es,ep,e,hd,r,r2⟩:=E22
  refine iEA m ⟨o,es,ep,by rw[zc _ _ (Hk hcl)];exact e,hd,r,r2⟩ (λy dy hy hly=>?_)
  have q:y≠x:=by rintro rfl;replace hly:=hl ▸ hly;(injection hly with E1;injection E1)
  replace hy:=(show (ρ.set x d).loc.lookup y=ρ.loc.lookup y from zb q) ▸ hy
  exact hv' y dy hy hly
 .by_cases q:y=x
  .subst q
   replace hy:=(show (ρ.set y d).loc.lookup y=fm d from ze) ▸ hy
   (injection hy with E1;subst E1);exact zI c o2 v hc (zd ..) hd2 hv
  .replace hy:=(show (ρ.set x d).loc.lookup y=ρ.loc.lookup y from zb q) ▸ hy
   refine zs (L.cell y dy hy hky) λc' oc' u' h1 h2 h3 h4=>?_
   exact zI c' oc' u' h1 (by rw[zc _ _ (by rintro rfl;exact q (L.inj _ _ _ h1 hc))];exact h2) h3 h4
 .by_cases q:c'=c
  .subst q;exact yx hcl o2 (fm v) (zd ..) hd2
  .refine zJ (L.cells y c' hc') λh1 oc' u' h2 h3=>?_
   exact yx h1 oc' u' (by rw[zc _ _ q];exact h2) h3
 .by_cases q:b=c
  .subst q;exact D _ _ e
  .replace e3:=zc _ _ q ▸ e3;exact D _ _ e3
theorem fH {x:Str} {p1 pos:Pos} {e:Expr} {d:PV} (he:EVd w k env ρ e d) (hl:env.kindOf x=fm .local) (hs:Lq e (fm (.Name x p1)) pos.line env=pure Gk) :
  EX1 w k env ρ (.Assign [.Name x p1] e pos) (λp ρ'=>p=.next/\ρ'=ρ.set x d) Ψ:=λA l F I s hA R =>
 Tg (mA (he.at hA R trivial) (λv s1 I1 a1 R1 r1 q1=>R1.storeL hl r1 λs2 R2 q2=>⟨I1,_,.next,a1,R2,trivial,q1.trans q2,rfl,rfl⟩)) hs
theorem EX1.ret {e:Expr} {pos:Pos} {d:PV} (he:EVd w k env ρ e d):EX1 w k env ρ (.Return (fm e) pos) (λp ρ'=>p=.ret d/\ρ'=ρ) Ψ:=λA l F I s hA R =>
 gY (mA (he.at hA R trivial) (λv s1 I1 a1 R1 r1 q1=>⟨I1,ρ,.ret d,a1,R1,r1,q1,rfl,rfl⟩))
theorem Au {pos:Pos}:EX1 w k env ρ (.Pass pos) (λp ρ'=>p=.next/\ρ'=ρ) Ψ:=λA l F I s hA R =>
 wpAny_Pass ⟨I,ρ,.next,.refl I,R,trivial,.refl s,rfl,rfl⟩
theorem fI {test:Expr} {body orelse:List HF} {pos:Pos} {b:Bool} (ht:TDb w k env ρ test b) (h1:b=Gh->EX w k env ρ body Φ Ψ) (h2:b=Gk->EX w k env ρ orelse Φ Ψ):EX1 w k env ρ (.If test body orelse pos) Φ Ψ :=
 λA l F I s hA R=>wpAny_If (mA (TD.at ht hA R trivial) (λv s1 I1 a1 R1 r1 q1=>by
  subst r1
  cases v with
  | true=>exact Gm (h1 rfl A l F I1 s1 hA R1) (λf s2 E9=>E9.casesOn λI2 ρ2 p a2 R2 r2 q2 c2=>⟨I2,ρ2,p,a1.trans a2,R2,r2,q1.trans q2,c2⟩) λf s2 E9=>E9.casesOn λI2 ρ2 x a2 R2 q2 c2=>⟨I2,ρ2,x,a1.trans a2,R2,q1.trans q2,c2⟩
  | false=>exact Gm (h2 rfl A l F I1 s1 hA R1) (λf s2 E9=>E9.casesOn λI2 ρ2 p a2 R2 r2 q2 c2=>⟨I2,ρ2,p,a1.trans a2,R2,r2,q1.trans q2,c2⟩) λf s2 E9=>E9.casesOn λI2 ρ2 x a2 R2 q2 c2=>⟨I2,ρ2,x,a1.trans a2,R2,q1.trans q2,c2⟩))
end
variable {w:K6} {k:Lv} {env:Env} {ρ:PSt} {own:Own} {Φ:PF->PSt->Prop} {Ψ:ExcD->PSt->Prop} {Ψo:ExcD->Own->Prop} {Θ:PV->Own->Prop} {l:List Env} {F I:PH} {A:GZ} {E:Gd->Gg->Prop}
section
variable (w:K6)
inductive Cy {α:Type} (l:List Env) (F I:PH) (s:Gg) (Φ:PH->α->Own->Prop) (v:α) (s':Gg):Prop
 | mk (J:PH) (own':Own):Sub I J->HP w l F J own' s'.heap->Φ J v own'->Same s s'->Cy l F I s Φ v s'
inductive Cx (l:List Env) (F I:PH) (s:Gg) (Ψ:ExcD->Own->Prop) (ev:Gd) (s':Gg):Prop
 | mk (J:PH) (own':Own) (x:ExcD):Sub I J->HP w l F J own' s'.heap->ExcIn F J own' s'.heap ev x->Same s s'->Ψ x own'->Cx l F I s Ψ ev s'
noncomputable def CALL {α:Type} (k:Lv) (own:Own) (P:PH->Prop) (t:Sem α) (Φ:PH->α->Own->Prop) (Ψ:ExcD->Own->Prop):Prop :=
 ∀ (A:GZ) (l:List Env) (F I:PH) (s:Gg),OkA k A l->HP w l F I own s.heap->P I ->
  Gf (mdl w) A t (Cy w l F I s Φ) (Cx w l F I s Ψ) s
end
noncomputable def noO:ExcD->Own->Prop:=λZ Z=>False
section
theorem mC {α:Type} {t:Sem α} {A:GZ} {l:List Env} {F I:PH} {R:PH->α->Own->Prop} {Q:α->Gg->Prop} {E:Gd->Gg->Prop} {s s0:Gg} (h:Gf (mdl w) A t (Cy w l F I s R) E s0) (k:∀ v s' J own',Sub I J->HP w l F J own' s'.heap->R J v own'->Same s s'->Q v s'):Gf (mdl w) A t Q E s0:=Gm h (λv s' z=>by cases z with | mk J o a H r q=>exact k v s' J o a H r q) λZ Z x=>x
theorem HP.drop {l:List Env} {F I:PH} {own own':Own} {h:Kf} (H:HP w l F I own h) (s:∀ a mo,own' a=fm mo->own a=fm mo):HP w l F I own' h :=
 ⟨H.fr,H.fz,λa mo e=>H.ow a mo (s a mo e),H.fi,λa mo e=>H.oa a mo (s a mo e),H.tf,H.ti,H.tab,H.base,H.stk⟩
inductive BRs (I:PH):List (Str×Gd)->List (Str×PV)->Prop
 | nil:BRs I [] []
 | cons {x:Str} {v:Gd} {d:PV} {bs:List (Str×Gd)} {ds:List (Str×PV)}:VR I v d->BRs I bs ds->BRs I ((x,v)::bs) ((x,d)::ds)
theorem BRs.mono {I J:PH} (s:Sub I J) {bs ds} (h:BRs I bs ds):BRs J bs ds:=by
 induction h with
 | nil=>exact .nil
 | cons h _ ih=>exact .cons (h.mono s) ih
structure EnvOk (env:Env) (st:HF) (c:Gn) (q:Str):Prop where
 scope:env.scope=zf st
 frame:env.frame=fm env.locals
 cells:∀ x,(zf st).names.lookup x=fm .cell->∃ c,env.cells.lookup x=fm c
 code:env.code=.ref c
 glo:env.globals=HX
 blt:env.builtins=NF
 qual:env.qual=q
theorem EnvOk.kind {env:Env} {st:HF} {c:Gn} {q:Str} (h:EnvOk env st c q) (x:Str):env.kindOf x=(zf st).names.lookup x:=by
 show env.scope.names.lookup x=_;rw[h.scope]
theorem EnvOk.kL {env:Env} {st:HF} {c:Gn} {q:Str} (h:EnvOk env st c q) (x:String) (k:(zf st).names.lookup (G7 x)=fm .local:=by rfl):env.kindOf (G7 x)=fm .local:=(h.kind _).trans k
theorem EnvOk.kC {env:Env} {st:HF} {c:Gn} {q:Str} (h:EnvOk env st c q) (x:String) (k:(zf st).names.lookup (G7 x)=fm .cell:=by rfl):env.kindOf (G7 x)=fm .cell:=(h.kind _).trans k
theorem EnvOk.kG {env:Env} {st:HF} {c:Gn} {q:Str} (h:EnvOk env st c q) (x:String) (k:(zf st).names.lookup (G7 x)=fm .globalImplicit:=by rfl):env.kindOf (G7 x)=fm .globalImplicit:=(h.kind _).trans k
set_option tactic.hygienic true in
theorem xx:∀ (names:List (Str×O0)) (n:Nat) (acc:List (Str×Gn)) (x:Str) (c:Gn),(x,c)∈N3 n names acc->(x,c)∈acc\/(n<=c/\(x,LG)∈names)
 | [],_,_,_,_,h=>.inl h
 | (y,kd)::r,n,acc,x,c,h=>by
  unfold N3 at h
  split at h
  .rename_i hk
   rcases xx r (n+1) _ x c h with h | h
   .rcases Gi.mp h with h | h
    ·(injection h with E1 E2;subst E2;subst E1);exact .inr ⟨GI _,by have:=beq_iff_eq.mp hk;subst this;exact Gp⟩
    .exact .inl h
   .exact .inr ⟨by lia,Go _ h.2⟩
  .rcases xx r n _ x c h with h | h
   .exact .inl h
   .exact .inr ⟨h.1,Go _ h.2⟩
theorem yf:∀ (names:List (Str×O0)) (n:Nat) (acc:List (Str×Gn)) (x:Str),(names.lookup x=fm .cell\/∃ c,acc.lookup x=fm c)->∃ c,(N3 n names acc).lookup x=fm c
 | [],_,_,_,h=>by
  rcases h with h | h
  .injection h
  .exact h
 | (y,kd)::r,n,acc,x,h=>by
  unfold N3
  by_cases hk:(kd==LG)=Gh
  .rw[if_pos hk]
   refine yf r (n+1) _ x ?_
   by_cases hy:x=y
   .subst hy;exact .inr ⟨n,ze⟩
   .rcases h with h | ⟨c,h⟩
    .replace h:=zb hy ▸ h;exact .inl h
    .exact .inr ⟨c,by rw[zb hy];exact h⟩
  .rw[if_neg hk]
   refine yf r n _ x ?_
   rcases h with h | h
   .by_cases hy:x=y
    .subst hy
     replace h:=ze ▸ h
     (injection h with E1;subst E1)
     exact absurd rfl hk
    .replace h:=zb hy ▸ h;exact .inl h
   .exact .inr h
theorem HP.addG {l:List Env} {F G I:PH} {own:Own} {h:Kf} (H:HP w l F I own h) (hG:∀ a o,G a=fm o->h.get? a=fm o/\Loose F I own a):HP w l (uni F G) I own h:=by
 have ev:∀ a,G a=fp->uni F G a=F a:=λa e=>by delta uni;rw[e]
 refine⟨λa o e=>?_,H.fz,H.ow,λa o e=>?_,λa mo e=>?_,?_,H.ti,H.tab,H.base,λen hen=>?_⟩
 .cases q:G a with
  | none=>replace e:=ev a q ▸ e;exact H.fr a o e
  | some o'=>replace e:=zm q ▸ e;(injection e with E1;subst E1);exact iEA _ ((hG a _ q).1) (.refl _)
 .cases q:G a with
  | none=>replace e:=ev a q ▸ e;exact H.fi a o e
  | some o'=>exact(hG a o' q).2.2.1
 .cases q:G a with
  | none=>rw[ev a q];exact H.oa a mo e
  | some o'=>have:=(hG a o' q).2.2.2.1;replace this:=e ▸ this;injection this
 .cases q:G tabP with
  | none=>rw[ev _ q];exact H.tf
  | some o'=>exact absurd rfl (hG _ o' q).2.2.2.2
 .refine xM (H.stk en hen) λh1 L o h2 h3 h4=>?_
  refine uH h1 L o h2 ?_ h4
  cases q:G L with
  | none=>rw[ev L q];exact h3
  | some o'=>have:=(hG _ o' q).2.1;replace this:=h3 ▸ this;injection this
theorem HP.dropG {l:List Env} {F G I:PH} {own:Own} {h:Kf} {env:Env} (H:HP w (env::l) (uni F G) I own h) (hl:∀ e∈l,∃ L o,e.frame=fm L/\F L=fm o/\yp o) (hD:∀ a o,G a=fm o->F a=fp):HP w l F I own h:=by
 have up:∀ a o,F a=fm o->uni F G a=fm o:=λa o e=>by
  delta uni
  cases q:G a with
  | none=>exact e
  | some o'=>replace e:=hD a o' q ▸ e;injection e
 refine⟨λa o e=>H.fr a o (up a o e),H.fz,H.ow,λa o e=>H.fi a o (up a o e),λa mo e=>⟨?_,(H.oa a mo e).2⟩,?_,H.ti,H.tab,H.base,λen hen=>⟨(H.stk en (Go _ hen)).1,hl en hen⟩⟩
 .cases q:F a with
  | none=>rfl
  | some o=>have:=(H.oa a mo e).1;replace this:=up a o q ▸ this;injection this
 .cases q:F tabP with
  | none=>rfl
  | some o=>have:=H.tf;replace this:=up _ o q ▸ this;injection this
theorem xV {A:GZ} {E:Gd->Gg->Prop} {l:List Env} {F I:PH} {env:Env} {own:Own} (f:Str×Gd->PUnit->Sem (ForInStep PUnit)) (hf:∀ n v u,f (n,v) u=(do VB env n v;pure (.yield ⟨⟩)))
  (hc:∀ x,env.kindOf x=fm .cell->∃ c,env.cells.lookup x=fm c) :
  ∀ {bs:List (Str×Gd)} {ds:List (Str×PV)} (loc:List (Str×PV)) (s:Gg) (Q:PUnit->Gg->Prop),BRs I bs ds->(∀ x∈ds,env.kindOf x.1=fm .local\/env.kindOf x.1=fm .cell)->Rep w l F I env ⟨loc,own⟩ s ->
   (∀ s',Rep w l F I env ⟨ds.reverse++loc,own⟩ s'->Same s s'->Q ⟨⟩ s')->Gf (mdl w) A (Xw bs ⟨⟩ f) Q E s:=by
 intro bs ds loc s Q B
 refine BRs.rec (motive:=λbs ds _=>∀ loc s Q,(∀ x∈ds,env.kindOf x.1=fm .local\/env.kindOf x.1=fm .cell)->Rep w l F I env ⟨loc,own⟩ s->(∀ s',Rep w l F I env ⟨ds.reverse++loc,own⟩ s'->Same s s'->Q ⟨⟩ s')->Gf (mdl w) A (Xw bs ⟨⟩ f) Q E s) ?_ ?_ B loc s Q
 .intro loc s Q hk R h
  rw[List.forIn_nil];exact Gb (h s R (.refl s))
 .intro x v d bs ds hv B xV loc s Q hk R h
  rw[To,hf]
  have hr:=λy hy=>hk y (Go _ hy)
  rcases hk (x,d) Gp with hl | hl
  .exact Ga (Ga (R.storeL hl hv λs' R' q=>Gb (xV _ s' Q hr R' λs'' R'' q'=>h s'' (by
    rw[Hr,He];exact R'') (q.trans q'))))
  .refine xE (hc x hl) λc hc'=>?_
   exact Ga (Ga (R.storeC hl hc' hv λs' R' q=>Gb (xV _ s' Q hr R' λs'' R'' q'=>h s'' (by
    rw[Hr,He];exact R'') (q.trans q'))))
theorem jP {cs:List (Str×Gn)} (hp:cs.Pairwise λx y=>x.2≠y.2) {x y:Str} {c:Gn} (h1:cs.lookup x=fm c) (h2:cs.lookup y=fm c):x=y:=name_of_addr hp (mem_of_lookup h1) (mem_of_lookup h2)
theorem vD {A:GZ} {l:List Env} {F I:PH} {own:Own} {s:Gg} {E:Gd->Gg->Prop} {Q:Env->Gg->Prop} {st:HF} {fd:LS} {f c:Gn} {q:Str} {bs:List (Str×Gd)} {ds:List (Str×PV)}
  (H:HP w l F I own s.heap) (hsc:fd.scope=zf st) (hkind:(zf st).kind=.function) (hg:fd.globals=HX) (hb:fd.builtins=NF) (hcode:fd.code=.ref c) (B:BRs I bs ds)
  (hn:∀ x∈ds,(zf st).names.lookup x.1=fm .local\/(zf st).names.lookup x.1=fm .cell)
  (h:∀ env s',EnvOk env st c q->Rep w (env::l) F I env ⟨ds.reverse,own⟩ s'->Same s s'->Q env s') :
  Gf (mdl w) A (Vu fd.scope fd.globals [] bs q (fm f) fd.code fp fd.builtins) Q E s:=by
 classical
 simp only[Vu,Option.isSome_none,GQ,if_false]
 refine Ga (gi ?_)
 refine Ga (wpAny_layCells _ (λname kind cells=>by cases hkc:kind==LG<;>with_reducible rfl) _ _ _ _ ?_)
 have ok:=cellsFrom_ok fd.scope.names (s.heap.push { cls:=.type "frame",data:=.dict #[] }) (s.heap.objs.size+1) [] ⟨λZ Z hm=>(nomatch hm),List.Pairwise.nil⟩ (by rw[LA];exact GI _)
 rewrite [LA] at ok
 rw[show ({ s with heap:=s.heap.push { cls:=.type "frame",data:=.dict #[] } }:Gg).heap.objs.size=s.heap.objs.size+1 from LA ..]
 let env:Env:={ scope:=fd.scope,locals:=s.heap.objs.size,globals:=fd.globals,cells:=N3 (s.heap.objs.size+1) fd.scope.names [],qual:=q,func:=fm f,code:=fd.code,frame:=fm s.heap.objs.size,builtins:=fd.builtins }
 let h2:Kf:=pushCells (s.heap.push { cls:=.type "frame",data:=.dict #[] }) fd.scope.names
 let fo:Obj:={ cls:=.type "frame",data:=.dict #[] }
 have hL:h2.get? s.heap.objs.size=fm fo:=TZ _ _ _ _ (GA _ rfl)
 have keep:∀ b o,s.heap.get? b=fm o->h2.get? b=fm o:=λb o e=>TZ _ _ _ _ (GN _ e)
 have H2:HP w l F I own h2:=H.all keep
 have big:∀ b,s.heap.objs.size<=b->Loose F I own b:=λb hb'=>by
  refine⟨?_,?_,?_,?_⟩
  .cases e:F b with
   | none=>rfl
   | some o=>exact absurd (H.F_lt e) (LO.mpr hb')
  .cases e:I b with
   | none=>rfl
   | some o=>exact absurd (H.I_lt e) (LO.mpr hb')
  .cases e:own b with
   | none=>rfl
   | some o=>exact absurd (H.own_lt e) (LO.mpr hb')
  .rintro rfl;exact absurd H.tab.lt (LO.mpr hb')
 let G:PH:=λa=>if a=s.heap.objs.size then fm fo else if ∃ x,(x,a)∈env.cells then h2.get? a else fp
 have hGL:G env.locals=fm fo:=if_pos rfl
 have cellAt:∀ x a,env.cells.lookup x=fm a->a≠env.locals/\∃ o,G a=fm o/\o.data=.cell fp:=λx a e=>by
  have hm:(x,a)∈env.cells:=mem_of_lookup e
  refine xA (ok.empty x a hm) λE21 hlo=>?_;(refine xEA E21 λo ho hd=>?_;clear E21)
  have hne:a≠s.heap.objs.size:=LP hlo
  exact iAEA hne o (by show (if a=_ then _ else _)=_;rw[if_neg hne,if_pos ⟨x,hm⟩];exact ho) hd
 have R:Rep w (env::l) F I env ⟨[],own⟩ { s with heap:=h2 }:=by
  have hG:∀ a o,G a=fm o->h2.get? a=fm o/\Loose F I own a:=λa o e=>by
   by_cases q1:a=s.heap.objs.size
   .subst q1
    have e':fm fo=fm o:=by have:G s.heap.objs.size=fm fo:=if_pos rfl;replace e:=this ▸ e;exact e
    (injection e' with E1;subst E1)
    exact⟨hL,big _ (GI _)⟩
   .have e':(if ∃ x,(x,a)∈env.cells then h2.get? a else fp)=fm o:=by have:G a=_:=if_neg q1;replace e:=this ▸ e;exact e
    by_cases q2:∃ x,(x,a)∈env.cells
    .replace e':=if_pos q2 ▸ e'
     refine xE q2 λx hx=>?_;try clear q2
     exact⟨e',big _ (by have:=(ok.empty x a hx).2;exact KA ‹_›)⟩
    .replace e':=if_neg q2 ▸ e';injection e'
  have HG:=H2.addG hG
  refine⟨G,⟨HG.fr,HG.fz,HG.ow,HG.fi,HG.oa,HG.tf,HG.ti,HG.tab,HG.base,λen hen=>?_⟩,⟨by show fd.scope.kind=_;rw[hsc];exact hkind,hg,hb,(iEA (λZ=>fp) ⟨fo,#[],0,hGL,rfl,λZ he=>by simp at he,λZ=>rfl⟩ (λx d e=>(nomatch e))),λx d e=>(nomatch e),
   λx c' e=>xAEA (cellAt x c' e) λh1 o h2 h3=>(yx h1 o fp h2 h3),λx y c' e1 e2=>jP ok.apart e1 e2,λx hx=>yf _ _ _ _ (.inl hx)⟩,λa o e=>(hG a o e).2.1⟩
  rcases Gi.mp hen with rfl | hen
  .exact⟨by show fd.scope.kind≠_;rw[hsc,hkind];exact dc rfl,env.locals,fo,rfl,zm hGL,rfl,_,_,rfl⟩
  .exact HG.stk en hen
 have eok:EnvOk env st c q:=⟨hsc,rfl,λx hx=>yf _ _ _ _ (.inl (by rw[hsc];exact hx)),hcode,hg,hb,rfl⟩
 refine Ga (xV (env:=env) _ (λZ Z Z=>rfl) (λx hx=>eok.cells x (by rw[←eok.kind];exact hx)) [] _ _ B (λx hx=>by rw[eok.kind];exact hn x hx) R λs' R' sm=>Gb (h env s' eok ?_ ⟨sm.1,sm.2⟩))
 rewrite [Hl] at R'
 exact R'
noncomputable def PF.res:PF->PV
 | .ret d=>d
 | _=>.none
noncomputable def fval:Flow->Gd
 | .ret v=>v
 | _=>.none
theorem FR.res {I:PH} {f:Flow} {p:PF} (h:FR I f p):VR I (fval f) p.res:=by
 cases f<;>cases p<;>first | exact h.elim | exact VR.none | exact h
theorem OkA.deeper {k:Lv} {A:GZ} {l:List Env} (h:OkA k.up A l) (env:Env):OkA k (A.deeper env) (env::l) :=
 ⟨by show A.frames.map (env :: ·)=_;rw[h.fr];rfl,h.hd,h.hh,by have:=h.dp;simp only[Lv.up] at this;show A.depth+1+k.n<_;lia,by have:=h.un;simp only[Lv.up] at this;show A.units+3+64*k.n+256<_;exact Nz.u3 ‹_›⟩
noncomputable def OLe (own own':Own):Prop:=∀ a mo,own a=fm mo->own' a=fm mo
theorem OLe.refl (own:Own):OLe own own:=λZ Z e=>e
theorem QN {i:Nat} {f c:Gn} {st:HF} {q:String} {dfl:Gd} {own:Own} {P:PH->Prop} {vs:List Gd} {kws:List (Str×Gd)} {ds:List (Str×PV)} {Θ:PV->Own->Prop} {b0:HF} {bs0:List HF}
  (hi:fnTab[i]? = fm (f,st,q,dfl,c)) (mP:Mono P) (hsc:(zf st).kind=.function/\(zf st).isCoroutine=Gk/\(zf st).isGenerator=Gk)
  (hb:∀ fd:LS,fd.params=zE st->fd.defaults=dfl->fd.kwdefaults=.none->PR w k own P (NG fd ⟨vs,kws⟩) (λI bs=>BRs I bs ds))
  (hn:∀ x∈ds,(zf st).names.lookup x.1=fm .local\/(zf st).names.lookup x.1=fm .cell)
  (body:∀ env,EnvOk env st c (G7 q++oS ".<locals>.")->EX w k env ⟨ds.reverse,own⟩ (zt st) (λp ρ'=>Θ p.res ρ'.own) noX) :
  CALL w k.up own P (call (.ref f) vs kws) (λI v own'=>∃ d,VR I v d/\Θ d own') noO:=by
 intro A l F I s hA H hP
 show let Q':=_;let E':=_;Gf _ _ _ Q' E' _;intro Q' E'
 obtain⟨⟨o,fd,e,hcls,hd,h1,h2,h3,h4,h5,h6,h7,h8,h9,h10⟩,hcd⟩:=H.base.fns i f st q dfl c hi
 refine NY (Vb (by have:=hA.dp;simp only[Lv.up] at this;exact H0 this) (H.fz _ _ e) hd (by rw[h3];exact hsc.2.1) (by rw[h3];exact hsc.2.2) h2 (by rw[h7,h10];exact H.codeRec hcd) ?_)
 refine mPf (hb fd h1 h8 h9 A.in1 l F I s hA.in1 H hP) (λbs s1 I1 a1 H1 B q1=>?_)
 rw[h4]
 refine vD H1 h3 hsc.1 h5 h6 h10 B hn λenv s2 eok R q2=>⟨?_,YK ?_⟩
 .obtain⟨G,H2,_,_⟩:=R;exact H2.noLimit
 .show let Q':=_;let E':=_;Gf _ _ _ Q' E' _;intro Q' E'
  have eok':EnvOk env st c (G7 q++oS ".<locals>."):=by rw[←h7];exact eok
  refine Gm (body env eok' (A.deeper env) l F I1 s2 (hA.deeper env) R) (λfl s3 E9=>E9.casesOn λI3 ρ3 p a3 R3 r3 q3 c3=>?_) λZ Z E9=>E9.casesOn λZ Z Z Z Z Z x=>x.elim
  obtain⟨G,H3,L3,D3⟩:=R3
  exact⟨I3,ρ3.own,a1.trans a3,H3.dropG (λen hen=>(H.stk en hen).2) D3,⟨p.res,by cases fl<;>exact r3.res,c3⟩,q1.trans (q2.trans q3)⟩
theorem yo {i:Nat} {f c:Gn} {st:HF} {q:String} {dfl:Gd} {own:Own} {P:PH->Prop} {vs:List Gd} {kws:List (Str×Gd)} {ds:List (Str×PV)} {D:PV->Prop}
  (hi:fnTab[i]? = fm (f,st,q,dfl,c)) (mP:Mono P) (hsc:(zf st).kind=.function/\(zf st).isCoroutine=Gk/\(zf st).isGenerator=Gk)
  (hb:∀ fd:LS,fd.params=zE st->fd.defaults=dfl->fd.kwdefaults=.none->PR w k own P (NG fd ⟨vs,kws⟩) (λI bs=>BRs I bs ds))
  (hn:∀ x∈ds,(zf st).names.lookup x.1=fm .local\/(zf st).names.lookup x.1=fm .cell)
  (body:∀ env,EnvOk env st c (G7 q++oS ".<locals>.")->EX w k env ⟨ds.reverse,own⟩ (zt st) (λp ρ'=>D p.res/\OLe own ρ'.own) noX) :
  PR w k.up own P (call (.ref f) vs kws) (λI v=>∃ d,VR I v d/\D d) :=
 λA l F I s hA H hP=>Gm (QN (Θ:=λd own'=>D d/\OLe own own') (b0:=default) (bs0:=[]) hi mP hsc hb hn body A l F I s hA H hP)
  (λv s' E9=>E9.casesOn λI' own' a H' E9 q=>xEAA E9 λd r hd hle=>⟨I',a,H'.drop hle,⟨d,r,hd⟩,q⟩) λZ Z E9=>E9.casesOn λZ Z Z Z Z Z Z x=>x
inductive Args (w:K6) (k:Lv) (env:Env) (ρ:PSt):List Expr->List PV->Prop
 | nil:Args w k env ρ [] []
 | cons {e:Expr} {es:List Expr} {d:PV} {ds:List PV}:EVd w k env ρ e d->(∀ x p,e≠.Starred x p)->Args w k env ρ es ds->Args w k env ρ (e::es) (d::ds)
theorem zU {e:Expr} {es:List Expr} (h:∀ x p,e≠.Starred x p) (env:Env):Kw (e::es) env=(Gk,eval e env)::Kw es env:=by
 cases e<;>first | rfl | exact absurd rfl (h _ _)
theorem Args.td {env:Env} {ρ:PSt} {es:List Expr} {ds:List PV} (h:Args w k env ρ es ds) (pos:Pos):TD w k env ρ (λZ=>True) (spliced (NP pos (Kw es env))) (λI vs=>VRs I vs ds):=by
 induction h with
 | nil=>exact TD.pure λZ Z=>.nil
 | @cons e es d ds h1 h2 _ ih =>
  rw[zU h2]
  intro A l F I s hA H L _
  show let Q':=_;let E':=_;Gf _ _ _ Q' E' _;intro Q' E'
  refine Ve (mP (h1 A l F I s hA H L trivial) (λv s1 I1 a1 H1 r1 q1=>mP (ih A l F I1 s1 hA H1 (L.mono a1) trivial) (λvs s2 I2 a2 H2 r2 q2 =>
   ⟨I2,a1.trans a2,H2,.cons (r1.mono a2) r2,q1.trans q2⟩)))
theorem Args.noStar {env:Env} {ρ:PSt} {es:List Expr} {ds:List PV} (h:Args w k env ρ es ds) (pos:Pos):(NP pos (Kw es env)).any (·.1)=Gk:=by
 induction h with
 | nil=>rfl
 | @cons e es d ds h1 h2 _ ih =>
  rw[zU h2]
  show (Gk||(NP pos (Kw es env)).any (·.1))=Gk
  rw[ih];rfl
theorem Args.evalArgs {env:Env} {ρ:PSt} {es:List Expr} {ds:List PV} (h:Args w k env ρ es ds) (pos:Pos) (f:Gd):TD w k env ρ (λZ=>True) (Wl f Gh (NP pos (Kw es env)) []) (λI a=>a.kw=[]/\VRs I a.pos ds):=by
 have ht:=h.td pos
 have hs:=h.noStar pos
 intro A l F I s hA H L _
 show let Q':=_;let E':=_;Gf _ _ _ Q' E' _;intro Q' E'
 generalize hg:NP pos (Kw es env)=tr at ht hs
 cases tr with
 | nil =>
  delta PySem.evalArgs
  show Gf _ _ (spliced []>>=_) _ _ _
  refine Ga (mP (ht A l F I s hA H L trivial) (λvs s1 I1 a1 H1 r1 q1=>?_))
  exact Ga (Gb (GD (Ga (Gb (Ga (Gb (Gb ⟨I1,a1,H1,⟨rfl,r1⟩,q1⟩)))))))
 | cons p rest =>
  obtain⟨p1,x⟩:=p
  cases p1 with
  | true=>cases hs
  | false=>exact TF (mP (ht A l F I s hA H L trivial) (λvs s1 I1 a1 H1 r1 q1=>⟨I1,a1,H1,⟨rfl,r1⟩,q1⟩))
theorem fR {x:Str} {np pos:Pos} {es:List Expr} {ds:List PV} {d:PV} {env:Env} {ρ:PSt} {i:Nat} {f c:Gn} {st:HF} {q:String} {dfl:Gd}
  (hl:env.kindOf x=fm .globalImplicit) (hx:globTab.lookup x=fm (.ref f)) (hi:fnTab[i]? = fm (f,st,q,dfl,c)) (ha:Args w k env ρ es ds)
  (hc:∀ vs,PR w k ρ.own (λI=>VRs I vs ds) (call (.ref f) vs) (λI v=>VR I v d)) (hd:(x==("__debug__" : Str))=Gk:=by exact Hv Gk):EVd w k env ρ (.Call (.Name x np) es [] pos) d:=by
 intro A l F I s hA H L _
 show let Q':=_;let E':=_;Gf _ _ _ Q' E' _;intro Q' E'
 refine LL (mP (fV hl hx hd A l F I s hA H L trivial) (λfv s1 I1 a1 H1 r1 q1=>?_))
 cases r1 using dG with
 | ref =>
  obtain⟨⟨o,fd,e,hcls,hdat,_⟩,_⟩:=H1.base.fns i f st q dfl c hi
  refine O3 (o:=o) (fd:=fd) (mP (ha.evalArgs pos (.ref f) A l F I1 s1 hA H1 (L.mono a1) trivial) (λar s2 I2 a2 H2 E9 q2=>E9.elim λhkw r2=>⟨⟨H2.fz _ _ (a2 _ _ e),hdat⟩,?_⟩))
  rw[hkw]
  exact mP (hc ar.pos A l F I2 s2 hA H2 r2) (λv s3 I3 a3 H3 r3 q3=>⟨I3,a1.trans (a2.trans a3),H3,r3,q1.trans (q2.trans q3)⟩)
theorem fB {x:Str} {np pos:Pos} {es:List Expr} {ds:List PV} {d:PV} {env:Env} {ρ:PSt} {id:String}
  (hl:env.kindOf x=fm .globalImplicit) (hx:bltTab.lookup x=fm (.builtin id)) (ha:Args w k env ρ es ds)
  (hc:∀ vs,PR w k ρ.own (λI=>VRs I vs ds) (call (.builtin id) vs) (λI v=>VR I v d)) (hd:(x==("__debug__" : Str))=Gk:=by exact Hv Gk):EVd w k env ρ (.Call (.Name x np) es [] pos) d:=by
 intro A l F I s hA H L _
 show let Q':=_;let E':=_;Gf _ _ _ Q' E' _;intro Q' E'
 refine LL (mP (fZ hl hx hd A l F I s hA H L trivial) (λfv s1 I1 a1 H1 r1 q1=>?_))
 cases r1 using AX with
 | raw =>
  refine NU (ha.noStar pos) (mP (ha.evalArgs pos (.builtin id) A l F I1 s1 hA H1 (L.mono a1) trivial) (λar s2 I2 a2 H2 E9 q2=>E9.elim λhkw r2=>?_))
  rw[hkw]
  exact mP (hc ar.pos A l F I2 s2 hA H2 r2) (λv s3 I3 a3 H3 r3 q3=>⟨I3,a1.trans (a2.trans a3),H3,r3,q1.trans (q2.trans q3)⟩)
end
section
theorem TDb.val {e:Expr} {b:Bool} (h:EVd w k env ρ e (.bool b)) (he:isTrue e env (eval e env)=(do let v ← eval e env;Wj e.pos;holding [v] (truthy v)):=by rfl):TDb w k env ρ e b :=
 λA l F I s hA H L Z=>gJ (mP (h A l F I s hA H L trivial) (λv s1 I1 a1 H1 r1 q1=>by (have E0:=dX r1;clear r1;subst E0);exact Kj ⟨I1,a1,H1,rfl,q1⟩)) he
noncomputable def PV.isBytes:PV->Bool
 | .bytes _=>Gh
 | _=>Gk
inductive TB:PV->Prop
 | str (x:Str):TB (.str x)
 | bytes (b:Array UInt8):TB (.bytes b)
theorem vZ {d:PV} (hd:TB d) {vs:List Gd}:PR w k own (λI=>VRs I vs [d,.raw (.type "bytes")]) (call (.builtin "isinstance") vs) (λI v=>VR I v (.bool d.isBytes)):=by
 intro A l F I s hA H hP
 show let Q':=_;let E':=_;Gf _ _ _ Q' E' _;intro Q' E'
 cases hP using ft with
 | cons r1 r2 =>
  cases r2 using ft with
  | cons r2 r3 =>
   (have E0:=VRs.nl r3;clear r3;subst E0);(have E0:=pS r2;clear r2;subst E0)
   cases hd with
   | str x =>
    refine fW r1 λZ E0=>?_;clear r1;subst E0
    exact call_isinstance (isinstance_false_str (T := "bytes") (Hv Gk) (by rfl) (by rw[G8];kernel_rfl)) ⟨I,.refl I,H,.bool _,.refl s⟩
   | bytes b =>
    refine fY r1 λZ E0=>?_;clear r1;subst E0
    exact call_isinstance_yes (Tx := "bytes") (by rfl) (by rfl) (by rw[G8];kernel_rfl) ⟨I,.refl I,H,.bool _,.refl s⟩
noncomputable def jz (d:PV):PV:=if d.isBytes then .bytes #[47] else .str (oS "/")
theorem zO {fd:LS} {st:HF} {vs:List Gd} {kws:List (Str×Gd)} {bs:List (Str×Gd)} {ds:List (Str×PV)} {P:PH->Prop} (h1:fd.params=zE st) (h0:fd.defaults=.none) (h2:fd.kwdefaults=.none)
  (e:∀ fd:LS,fd.params=zE st->fd.defaults=.none->fd.kwdefaults=.none->NG fd ⟨vs,kws⟩=pure bs) (hb:∀ I,P I->BRs I bs ds):PR w k own P (NG fd ⟨vs,kws⟩) (λI bs=>BRs I bs ds):=by
 rw[e fd h1 h0 h2];exact PR.pure hb
theorem yW {d:PV} (hd:TB d) {vs:List Gd}:PR w k.up own (λI=>VRs I vs [d]) (call (.ref 148) vs) (λI v=>VR I v (jz d)):=by
 intro A l F I s hA H hP
 show let Q':=_;let E':=_;Gf _ _ _ Q' E' _;intro Q' E'
 cases hP using ft with
 | cons r1 r2 =>
  (have E0:=VRs.nl r2;clear r2;subst E0)
  refine mP (yo (w:=w) (i:=9) (own:=own) (P:=λI=>VRs I _ [d]) (ds:=[(oS "path",d)]) (D:=λd'=>d'=jz d) rfl fP ⟨rfl,rfl,rfl⟩ (λfd h1 h2 h3=>?_) ?_ (λenv eok=>?_) A l F I s hA H (.cons r1 .nil)) (λv s' I' a H' E9 q=>xEA E9 λd' r e=>⟨I',a,H',e ▸ r,q⟩)
  .refine zO h1 h2 h3 (bs:=[(oS "path",_)]) (λfd h1 h2 h3=>?_) λI h=>by cases h using ft with | cons a b=>exact .cons a .nil
   obtain⟨⟩:=fd
   simp only at h1 h2 h3
   subst h1 h2 h3
   rfl
  .intro x hx
   simp only[Gi,Gl,or_false] at hx
   subst hx
   exact .inl rfl
  .have hp:=eok.kL "path"
   have hi:=eok.kG "isinstance"
   have hb:=eok.kG "bytes"
   refine fw (fI (TDb.val (fB hi rfl (.cons (fq hp rfl) (nst rfl) (.cons (fZ hb rfl) (nst rfl) .nil)) (λvs=>vZ hd))) ?_ ?_)
   .intro h
    refine fw (fS (EX1.ret EVd.bytes) ?_)
    exact⟨by delta jz;rw[h];rfl,OLe.refl _⟩
   .intro h
    refine fw (fS (EX1.ret EVd.str) ?_)
    exact⟨by delta jz;rw[h];rfl,OLe.refl _⟩
end
section
variable {s:Gg}
inductive ExcTr (F I:PH) (own:Own) (h:Kf) (ev:Gd) (x:ExcD):Prop
 | mk (e:Gn) (o:Obj) (vs:Array Gd):ev=.ref e->Loose F I own e->h.get? e=fm o->o.cls=x.cls->o.data=.fields vs->vs.size=6 ->
  (∀ ds,x.args=fm ds->Tups I vs ds)->(x.args=fp->vs[2]? = fm .none)->Trc F I own h e vs->ExcTr F I own h ev x
theorem ExcTr.ex {h:Kf} {ev:Gd} {x:ExcD} (X:ExcTr F I own h ev x):ExcIn F I own h ev x :=
 (X).casesOn λe o vs h1 h2 h3 h4 h5 h6 h7 hctx h8=>⟨e,o,vs,h1,h2,h3,h4,h5,h6,h7,hctx,.inr h8⟩
theorem HP.slots {h h':Kf} {S:List Gn} (H:HP w l F I own h) (x:Heap.SlotsOnly S h h') (hS:∀ b∈S,∃ o,F b=fm o/\yp o):HP w l F I own h':=by
 have same:∀ b o,(I b≠fp\/own b≠fp\/b=tabP)->h.get? b=fm o->h'.get? b=fm o:=λb o y e=>by
  rw[x.2.1 b];exact e
  intro hb
  refine xEA (hS b hb) λo' e' Z=>?_
  rcases y with y | y | y
  .exact y (H.fi _ _ e')
  .cases q:own b with
   | none=>exact y q
   | some mo=>have:=(H.oa b mo q).1;replace this:=e' ▸ this;injection this
  .subst y;replace e':=H.tf ▸ e';injection e'
 refine⟨λa o e=>?_,λa o e=>same a o (.inl (by rw[e];(intro h;injection h;done))) (H.fz a o e),λa mo e=>?_,H.fi,H.oa,H.tf,H.ti,H.tab.keep λo e=>same _ _ (.inr (.inr rfl)) e,H.base,H.stk⟩
 .refine xEA (H.fr a o e) λo' h1 h2=>?_
  by_cases hb:a∈S
  .refine xEA (hS a hb) λoF eF hf=>?_
   replace eF:=e ▸ eF;(injection eF with E1;subst E1)
   obtain⟨sl,hs⟩:=x.2.2 a o' h1
   exact iEA _ hs (h2.trans (.inr ⟨h2.cls.trans hf.1,sl,rfl⟩))
  .exact iEA o' ((x.2.1 a hb).trans h1) h2
 .refine xEA (H.ow a mo e) λo h1 h2=>?_
  exact iEA o (same a o (.inr (.inl (by rw[e];(intro h;injection h;done)))) h1) h2
theorem HP.funFrames (H:HP w l F I own s.heap):s.heap.FunFrames {} l:=by
 have aux:∀ l':List Env,(∀ e∈l',e.scope.kind≠.module/\∃ L o,e.frame=fm L/\F L=fm o/\yp o)->s.heap.FunFrames {} l':=by
  intro l'
  induction l' with
  | nil=>intro _;trivial
  | cons e r ih =>
   intro h
   refine xM (h e Gp) λh1 L o h2 h3 h4=>?_
   refine xEA (H.fr L o h3) λo' e' hs=>?_
   refine xAEE h4 λZ es n hd=>?_;try clear h4
   exact⟨h1,⟨L,o',h2,by rfl,e',λvs q=>by (replace q:=hs.data ▸ q;replace q:=hd ▸ q);injection q⟩,ih λy hy=>h y (Go _ hy)⟩
 exact aux l H.stk
theorem HP.frames_S (H:HP w l F I own s.heap):∀ b∈l.filterMap (·.frame),∃ o,F b=fm o/\yp o:=by
 intro b hb
 refine xEA (Vn.mp hb) λe he hf=>?_
 refine xM (H.stk e he) λZ L o h2 h3 h4=>?_
 replace h2:=hf ▸ h2;(injection h2 with E1;subst E1)
 exact iEA o h3 h4
theorem vT {h:Kf} {a:Gn} {o:Obj} {vs:Array Gd} (e:h.get? a=fm o) (hd:o.data=.fields vs) (f:Array Gd->Array Gd) :
  (h.update a (Hp f)).get? a=fm (o.mapFields f):=GM _ e (TA (K8 hd f))
theorem vf {outer:List Env} {L:Gn} {ev:Gd} {x:ExcD} {Q:Unit->Gg->Prop} (hfr:A.frames=fm (env::outer)) (hl:l=env::outer) (hf:env.frame=fm L) (H:HP w l F I own s.heap) (X:ExcIn F I own s.heap ev x)
  (h:∀ s',HP w l F I own s'.heap->ExcTr F I own s'.heap ev x->Same s s'->Q () s'):Gf (mdl w) A (Yu ev env) Q E s:=by
 obtain⟨e,o,vs,rfl,Le,he,hc,hd,hsz,hargs,hctx,htb⟩:=X
 have h1:1<vs.size:=by lia
 have add:∀ (head:Gd) (b:Bool) (s1:Gg),HP w l F I own s1.heap->s1.heap.get? e=fm o->Same s s1 ->
   Gf (mdl w) A (do let a ← frameOf env;let pl ← entryPlaceOf L b;let n ← WX head a .none (LM L) .none pl;Tv (.ref e) 1 n) Q E s1:=by
  intro head b s1 H1 he1 q1
  subst hl
  refine Ga (wpAny_frameOf_fun hfr H1.funFrames hf λh2 hs2=>?_)
  have H2:HP w (env::outer) F I own h2:=H1.slots hs2 H1.frames_S
  have hne:e∉(env::outer).filterMap (·.frame):=λhm=>by (refine xEA (H1.frames_S e hm) λoF eF Z=>?_);replace eF:=Le.1 ▸ eF;injection eF
  have he2:h2.get? e=fm o:=(hs2.2.1 e hne).trans he1
  refine Ga (wpAny_entryPlaceOf λpl hpl=>?_)
  unfold WX newFields
  refine Ga (GR ?_ (hpl.sizeOk5 _ _ _ _ _))
  have he3:=GN (h:=h2) { cls:=.type "traceback",dict:=fp,data:=.fields ([head,.ref L,.none,LM L,.none]++(if pl.isEmpty then Ha 6 Value.none else pl)).toArray } he2
  refine HV he3 hd h1 ?_
  have LT:Loose F I own h2.objs.size:=H2.new
  have hTe:h2.objs.size≠e:=LP (HU he2)
  refine h _ ((H2.push _).at_loose Le (GB ..).extBut) ⟨e,_,_,rfl,Le,vT he3 hd _,(VH ..).trans hc,K8 hd _,by simp[hsz],λds hds=>?_,λhn=>by rw[Ok];exact Option.mem_def.mp (hctx hn),h2.objs.size,{ cls:=.type "traceback",dict:=fp,data:=.fields ([head,.ref L,.none,LM L,.none]++(if pl.isEmpty then Ha 6 Value.none else pl)).toArray },_,by exact Array.getElem?_setIfInBounds_self_of_lt h1,LT,hTe,?_,rfl,?_⟩ q1
  .obtain⟨t,tvs,n,g1,g2,g3⟩:=hargs ds hds
   exact⟨t,tvs,n,by rw[Ok];exact Option.mem_def.mp g1,g2,g3⟩
  .rw[Kz _ _ (Hk hTe)];exact GA _ rfl
  .simp only[Gw,Gs,GC,V9];lia
 delta Yu
 rw[hf]
 rcases htb with htb | ⟨T,oT,ts,g1,LT,hTe,gT,gd,gs⟩
 .refine Ga (HD he hd htb ?_)
  rw[if_neg (dc rfl)]
  exact add _ _ s H he (.refl s)
 .refine Ga (HD he hd g1 ?_)
  rw[if_pos (show (Hg T != Value.none)=Gh from by simp)]
  refine Ga (HD gT gd (x:=ts[3]) (by exact(Array.getElem?_eq_some_getElem_iff ts 3 gs).mpr trivial) ?_)
  by_cases q:(ts[3]==LM L)=Gh
  .rw[if_pos q]
   exact Gb (h s H ⟨e,o,vs,rfl,Le,he,hc,hd,hsz,hargs,hctx,T,oT,ts,g1,LT,hTe,gT,gd,gs⟩ (.refl s))
  .rw[if_neg q]
   refine Ga (HV gT gd gs ?_)
   exact add _ _ _ (H.at_loose LT (GB ..).extBut) ((Kz _ _ hTe).trans he) ⟨rfl,rfl⟩
theorem z8 {f:Option Gn} {ev:Gd} {x:ExcD} {Q:Unit->Gg->Prop} (H:HP w l F I own s.heap) (X:ExcTr F I own s.heap ev x) (h:∀ s',HP w l F I own s'.heap->ExcTr F I own s'.heap ev x->Same s s'->Q () s') :
  Gf (mdl w) A (fe ev f) Q E s:=by
 obtain⟨e,o,vs,rfl,Le,he,hc,hd,hsz,hargs,hctx,T,oT,ts,g1,LT,hTe,gT,gd,gs⟩:=X
 delta fe
 refine Ga (HD he hd g1 ?_)
 rw[if_pos (show (Hg T != Value.none)=Gh from by simp)]
 refine HV gT gd gs (h _ (H.at_loose LT (GB ..).extBut) ⟨e,o,vs,rfl,Le,(Kz _ _ hTe).trans he,hc,hd,hsz,hargs,hctx,T,_,_,g1,LT,hTe,vT gT gd _,K8 gd _,by simp[gs]⟩ ⟨rfl,rfl⟩)
theorem back_ok {ev:Gd} {x:ExcD} (H:HP w l F I own s.heap) (X:ExcTr F I own s.heap ev x) (h:∀ s',HP w l F I own s'.heap->ExcTr F I own s'.heap ev x->Same s s'->E ev s'):VY (mdl w) A env E ev s:=by
 obtain⟨e,o,vs,rfl,Le,he,hc,hd,hsz,hargs,hctx,T,oT,ts,g1,LT,hTe,gT,gd,gs⟩:=id X
 delta VY
 refine Ga (HD he hd g1 ?_)
 rw[if_neg (by simp)]
 exact z8 H X h
theorem leave_ok {outer:List Env} {L:Gn} {ev:Gd} {x:ExcD} {Q:Unit->Gg->Prop} (hfr:A.frames=fm (env::outer)) (hl:l=env::outer) (hf:env.frame=fm L) (H:HP w l F I own s.heap) (X:ExcIn F I own s.heap ev x)
  (h:∀ s',HP w l F I own s'.heap->ExcTr F I own s'.heap ev x->Same s s'->Q () s'):Gf (mdl w) A (leaving env ev) Q E s:=by
 delta leaving
 exact Ga (vf hfr hl hf H X λs1 H1 X1 q1=>z8 H1 X1 λs2 H2 X2 q2=>h s2 H2 X2 (q1.trans q2))
theorem dg {h:Kf} {e:Gn} {cls:String} (H:HP w l F I own s.heap) (X:X8 s.heap h e cls):HP w l F I own h/\ExcIn F I own h (.ref e) ⟨.type cls,fp⟩:=by
 have Le:Loose F I own e:=by
  have n:=X.new
  refine⟨?_,?_,?_,?_⟩
  .cases q:F e with
   | none=>rfl
   | some o=>(refine xEA (H.fr e o q) λo' h1 Z=>?_);replace h1:=n ▸ h1;injection h1
  .cases q:I e with
   | none=>rfl
   | some o=>have h1:=H.fz e o q;replace h1:=n ▸ h1;injection h1
  .cases q:own e with
   | none=>rfl
   | some o=>(refine xEA (H.ow e o q) λo' h1 Z=>?_);replace h1:=n ▸ h1;injection h1
  .rintro rfl
   rcases H.tab with t | ⟨c,t,_⟩<;>(replace t:=n ▸ t;injection t)
 refine zy (X.there) λob t h1 h2 h3=>?_
 exact⟨H.all X.keeps,e,ob,_,rfl,Le,h1,h2,h3,rfl,λZ q=>(nomatch q),λZ=>rfl,.inl rfl⟩
theorem Loc.sub {G H:PH} {loc:List (Str×PV)} (h:Loc I env loc G) (s:Sub G H):Loc I env loc H where
 kind:=h.kind
 glo:=h.glo
 blt:=h.blt
 ns:=xEA (h.ns) λm n h2=>(iEA m (n.mono s) h2)
 cell:=λx d e k=>zs (h.cell x d e k) λc o v h1 h2 h3 h4=>(zI c o v h1 (s _ _ h2) h3 h4)
 cells:=λx c e=>zJ (h.cells x c e) λh1 o v h2 h3=>(yx h1 o v (s _ _ h2) h3)
 inj:=h.inj
 has:=h.has
theorem Sub.uni_left {F G:PH} (h:∀ a o,G a=fm o->F a=fp):Sub F (uni F G):=λa o e=>by
 delta uni
 cases q:G a with
 | none=>exact e
 | some o'=>replace e:=h a o' q ▸ e;injection e
theorem AG {F G:PH}:Sub G (uni F G):=λa o e=>zm e
theorem HP.less {F G:PH} {h:Kf} (H:HP w l (uni F G) I own h) (hl:∀ e∈l,∃ L o,e.frame=fm L/\F L=fm o/\yp o) (hD:∀ a o,G a=fm o->F a=fp):HP w l F I own h:=by
 have up:Sub F (uni F G):=Sub.uni_left hD
 refine⟨λa o e=>H.fr a o (up a o e),H.fz,H.ow,λa o e=>H.fi a o (up a o e),λa mo e=>⟨?_,(H.oa a mo e).2⟩,?_,H.ti,H.tab,H.base,λen hen=>⟨(H.stk en hen).1,hl en hen⟩⟩
 .cases q:F a with
  | none=>rfl
  | some o=>have:=(H.oa a mo e).1;replace this:=up a o q ▸ this;injection this
 .cases q:F tabP with
  | none=>rfl
  | some o=>have:=H.tf;replace this:=up _ o q ▸ this;injection this
theorem ExcTr.hide {h:Kf} {ev:Gd} {x:ExcD} (X:ExcTr F I own h ev x):∃ G:PH,(∀ a o,G a=fm o->h.get? a=fm o/\Loose F I own a) /\
  ∀ (I':PH) (own':Own) (h':Kf),Sub I I'->HP w l (uni F G) I' own' h'->ExcTr F I' own' h' ev x:=by
 obtain⟨e,o,vs,rfl,Le,he,hc,hd,hsz,hargs,hctx,T,oT,ts,g1,LT,hTe,gT,gd,gs⟩:=X
 refine iEA (λa=>if a=e then fm o else if a=T then fm oT else fp) (λa o' ha=>?_) (λI' own' h' hs H=>?_)
 .dsimp only at ha
  by_cases q1:a=e
  .subst q1;replace ha:=if_pos rfl ▸ ha;(injection ha with E1;subst E1);exact⟨he,Le⟩
  .replace ha:=if_neg q1 ▸ ha
   by_cases q2:a=T
   .subst q2;replace ha:=if_pos rfl ▸ ha;(injection ha with E1;subst E1);exact⟨gT,LT⟩
   .replace ha:=if_neg q2 ▸ ha;injection ha
 .have e1:uni F (λa=>if a=e then fm o else if a=T then fm oT else fp) e=fm o:=zm (if_pos rfl)
  have e2:uni F (λa=>if a=e then fm o else if a=T then fm oT else fp) T=fm oT:=zm (by show (if T=e then fm o else if T=T then fm oT else fp)=_;rw[if_neg hTe,if_pos rfl])
  have loose:∀ a o',F a=fp->uni F (λa=>if a=e then fm o else if a=T then fm oT else fp) a=fm o'->Loose F I' own' a:=by
   intro a o' h1 h2
   refine⟨h1,H.fi _ _ h2,?_,?_⟩
   .cases q:own' a with
    | none=>rfl
    | some mo=>have:=(H.oa _ _ q).1;replace this:=h2 ▸ this;injection this
   .rintro rfl;have:=H.tf;replace this:=h2 ▸ this;injection this
  refine xEA (H.fr _ _ e1) λoe' he' se=>?_
  refine xEA (H.fr _ _ e2) λoT' hT' sT=>?_
  exact⟨e,oe',vs,rfl,loose e o Le.1 e1,he',se.cls.trans hc,se.data.trans hd,hsz,λds hds=>(hargs ds hds).casesOn λt tvs n a1 a2 a3=>⟨t,tvs,n,a1,hs _ _ a2,a3.mono hs⟩,hctx,
   T,oT',ts,g1,loose T oT LT.1 e2,hTe,hT',sT.data.trans gd,gs⟩
end
section
variable (w:K6)
inductive By (l:List Env) (F I:PH) (env:Env) (s:Gg) (Φ:Bool->PSt->Prop) (b:Bool) (s':Gg):Prop
 | mk (J:PH) (ρ':PSt):Sub I J->Rep w (env::l) F J env ρ' s'->Same s s'->Φ b ρ'->By l F I env s Φ b s'
noncomputable def BX (k:Lv) (env:Env) (ρ:PSt) (e:Expr) (Φ:Bool->PSt->Prop) (Ψ:ExcD->PSt->Prop):Prop :=
 ∀ (A:GZ) (l:List Env) (F I:PH) (s:Gg),OkA k A (env::l)->Rep w (env::l) F I env ρ s ->
  Gf (mdl w) A (isTrue e env (eval e env)) (By w l F I env s Φ) (XP w l F I env s Ψ) s
end
section
theorem pn {e:Expr} {b:Bool} (h:TDb w k env ρ e b):BX w k env ρ e (λb' ρ'=>b'=b/\ρ'=ρ) Ψ:=λA l F I s hA R =>
 mA (TD.at h hA R trivial) (λv s1 I1 a1 R1 r1 q1=>⟨I1,ρ,a1,R1,q1,r1,rfl⟩)
theorem XP.noted {A A':GZ} {l:List Env} {F I:PH} {s:Gg} {ev:Gd} {s1:Gg} (hA:A.frames=fm (env::l)) (hA':A'.frames=fm (env::l)) (h:XP w l F I env s Ψ ev s1):notedBy (mdl w) A' env (VY (mdl w) A env (XP w l F I env s Ψ)) ev s1:=by
 obtain⟨I',ρ',x,a,⟨G,H,L,D,X⟩,q,c⟩:=h
 refine zJ (H.stk env Gp) λZ Lf Z hf Z=>?_
 exact vf hA' rfl hf H X λs2 H2 X2 q2=>back_ok H2 X2 λs3 H3 X3 q3=>⟨I',ρ',x,a,⟨G,H3,L,D,X3.ex⟩,q.trans (q2.trans q3),c⟩
theorem fQ {α:Type} {A A':GZ} {l:List Env} {F I:PH} {s:Gg} {t:Sem α} {Q:α->Gg->Prop} {s1:Gg} (hA:A.frames=fm (env::l)) (hA':A'.frames=fm (env::l))
  (h:Gf (mdl w) A' t Q (XP w l F I env s Ψ) s1):Gf (mdl w) A' t Q (notedBy (mdl w) A' env (VY (mdl w) A env (XP w l F I env s Ψ))) s1 :=
 Gm h (λZ Z x=>x) λZ Z x=>x.noted hA hA'
theorem dC {test:Expr} {body orelse:List HF} {pos:Pos} (J:Nat->PSt->Prop) (Bt:Nat->Bool->PSt->Prop)
  (ht:∀ n ρ,J n ρ->BX w k env ρ test (Bt n) Ψ)
  (hb:∀ n ρ,Bt n Gh ρ->EX w k env ρ body (λp ρ'=>match p with | .next | .cont=>∃ m,m<n/\J m ρ' | .brk=>Φ .next ρ' | .ret d=>Φ (.ret d) ρ') Ψ)
  (he:∀ n ρ,Bt n Gk ρ->EX w k env ρ orelse Φ Ψ) (n:Nat) (h:J n ρ):EX1 w k env ρ (.While test body orelse pos) Φ Ψ:=by
 intro A l F I s hA R
 show let Q':=_;let E':=_;Gf _ _ _ Q' E' _;intro Q' E'
 refine wpAny_While (codeAny_whileLoop (λn s1=>∃ I1 ρ1,Sub I I1/\Rep w (env::l) F I1 env ρ1 s1/\Same s s1/\J n ρ1) (λn s1 E9=>zF E9 λI1 ρ1 a1 R1 q1 j1=>?_) n (vn I ρ (.refl I) R (.refl s) h))
 show let Q':=_;let E':=_;Gf _ _ _ Q' E' _;intro Q' E'
 have up:∀ {I1:PH} {s1 s2:Gg} {ev:Gd},Sub I I1->Same s s1->XP w l F I1 env s1 Ψ ev s2->XP w l F I env s Ψ ev s2:=λa q ⟨I',ρ',x,b,X,q',c⟩=>⟨I',ρ',x,a.trans b,X,q.trans q',c⟩
 refine fQ (Ψ:=Ψ) hA.fr hA.fr (Gm (ht n ρ1 j1 A l F I1 s1 hA R1) (λb s2 E9=>E9.casesOn λI2 ρ2 a2 R2 q2 c2=>?_) λev s2 x=>up a1 q1 x)
 have a12:=a1.trans a2
 have q12:=q1.trans q2
 cases b with
 | true =>
  refine fQ (Ψ:=Ψ) hA.fr hA.fr (Gm (hb n ρ2 c2 A l F I2 s2 hA R2) (λf s3 E9=>E9.casesOn λI3 ρ3 p a3 R3 r3 q3 c3=>?_) λev s2 x=>up a12 q12 x)
  cases f<;>cases p<;>first | exact r3.elim | skip
  ·(refine xEA c3 λm hm jm=>?_;try clear c3);exact⟨m,hm,I3,ρ3,a12.trans a3,R3,q12.trans q3,jm⟩
  .exact⟨I3,ρ3,.next,a12.trans a3,R3,trivial,q12.trans q3,c3⟩
  ·(refine xEA c3 λm hm jm=>?_;try clear c3);exact⟨m,hm,I3,ρ3,a12.trans a3,R3,q12.trans q3,jm⟩
  .exact⟨I3,ρ3,_,a12.trans a3,R3,r3,q12.trans q3,c3⟩
 | false =>
  refine fQ (Ψ:=Ψ) hA.fr hA.fr (Gm (he n ρ2 c2 A l F I2 s2 hA R2) (λf s3 E9=>E9.casesOn λI3 ρ3 p a3 R3 r3 q3 c3=>⟨I3,ρ3,p,a12.trans a3,R3,r3,q12.trans q3,c3⟩) λev s2 x=>up a12 q12 x)
theorem pU {body suite:List HF} {b0:HF} {x:Str} {np hpos pos:Pos} {T:String} {Φ₁:PF->PSt->Prop} {Ψ₁:ExcD->PSt->Prop}
  (hb:EX w k env ρ body Φ₁ Ψ₁) (h1:∀ p ρ',Φ₁ p ρ'->Φ p ρ') (hk:env.kindOf x=fm .globalImplicit) (hx:bltTab.lookup x=fm (.type T))
  (hexc:Tz (.type T) (.type "BaseException")=pure Gh) (hnt:Tz (.type ((Manifest.find? T).elim "type" λx=>x.metatype)) (.type "tuple")=pure Gk)
  (hs:∀ xd ρ',Ψ₁ xd ρ'->∃ X,xd.cls=.type X/\Tz (.type X) (.type T)=pure Gh/\EX w k.any env ρ' (b0::suite) Φ Ψ) (hd:(x==("__debug__" : Str))=Gk:=by exact Hv Gk) :
  EX1 w k env ρ (.Try body [.ExceptHandler (fm (.Name x np)) fp (b0::suite) hpos] [] [] pos) Φ Ψ:=by
 intro A l F I s hA R
 show let Q':=_;let E':=_;Gf _ _ _ Q' E' _;intro Q' E'
 refine WK (Gm (hb A l F I s hA R) (λf s1 ⟨I1,ρ1,p,a1,R1,r1,q1,c1⟩=>?_) λev s1 ⟨I1,ρ1,xd,a1,⟨G,H,L,D,X⟩,q1,c1⟩=>?_)
 .cases f with
  | next=>cases p<;>first | exact r1.elim | exact TY ⟨I1,ρ1,.next,a1,R1,trivial,q1,h1 _ _ c1⟩
  | _=>exact⟨I1,ρ1,p,a1,R1,r1,q1,h1 _ _ c1⟩
 .refine xEAA (hs xd ρ1 c1) λXc hX hsub hsuite=>?_
  refine zJ (H.stk env Gp) λZ Lf Z hf Z=>?_
  refine vf hA.fr rfl hf H X λs2 H2 X2 q2=>z8 H2 X2 λs3 H3 X3 q3=>?_
  obtain⟨e,o,vs,rfl,Le,he,hc,hd',hsz,hargs,hctx,htb⟩:=id X3
  refine YJ (X:=Xc) (T:=T) (b:=true) hexc hnt hsub ?_
  show let Q':=_;let E':=_;Gf _ _ _ Q' E' _;intro Q' E'
  have hA':=hA.mark (fm (.ref e))
  have up:∀ {I1:PH} {s1 s2:Gg} {ev:Gd},Sub I I1->Same s s1->XP w l F I1 env s1 Ψ ev s2->XP w l F I env s Ψ ev s2:=λa q ⟨I',ρ',x,b,X,q',c⟩=>⟨I',ρ',x,a.trans b,X,q.trans q',c⟩
  refine xEA (X3.hide (w:=w) (l:=env::l)) λG2 hG2 bk=>?_
  have hD2:∀ a o,G2 a=fm o->uni F G a=fp:=λa o q=>(hG2 a o q).2.1
  refine mPf (fZ (k:=k.any) (ρ:=ρ1) hk hx hd (A.mark (fm (.ref e))) (env::l) _ I1 s3 hA' (H3.addG hG2) (L.sub (AG.trans (Sub.uni_left hD2))) trivial) (λc s4 I4 a4 H4 r4 q4=>?_)
  have E0:=pS r4;clear r4;subst E0
  have X4:ExcTr (uni F G) I4 ρ1.own s4.heap (.ref e) xd:=bk I4 ρ1.own s4.heap a4 H4
  replace H4:=H4.less (λen hen=>(H3.stk en hen).2) hD2
  refine⟨rfl,?_,?_⟩
  .obtain⟨e',o',vs',q',_,he',hc',_⟩:=X4;(injection q' with E1;subst E1);exact iEA o' he' (hc'.trans hX)
  .refine z8 H4 X4 λs5 H5 X5 q5=>?_
   refine fQ (Ψ:=Ψ) hA.fr hA'.fr (Gm (hsuite (A.mark (fm (.ref e))) l F I4 s5 hA' ⟨G,H5,L.mono a4,D⟩) (λf s6 ⟨I6,ρ6,p,a6,R6,r6,q6,c6⟩=>⟨I6,ρ6,p,a1.trans (a4.trans a6),R6,r6,q1.trans (q2.trans (q3.trans (q4.trans (q5.trans q6)))),c6⟩) λev s6 x=>up (a1.trans a4) (q1.trans (q2.trans (q3.trans (q4.trans q5)))) x)
end
section
noncomputable def xl (w:K6) (own:Own) (d:PV) (T:String):Prop:=∀ (l:List Env) (F I:PH) (s:Gg) (v:Gd),HP w l F I own s.heap->VR I v d->s.TypeIs v T
theorem ty_str {x:Str}:xl w own (.str x) "str" := λl F I s v H r=>by (refine fW r λZ E0=>?_;clear r;subst E0);rfl
theorem ty_bytes {x:Array UInt8}:xl w own (.bytes x) "bytes" := λl F I s v H r=>by (refine fY r λZ E0=>?_;clear r;subst E0);rfl
theorem vo {ds:List PV}:xl w own (.tup ds) "tuple" := λl F I s v H r=>by cases r using dv with | tup e _=>exact iEA _ (H.fz _ _ e) rfl
theorem zo {ds:List PV}:xl w own (.lst ds) "list" := λl F I s v H r=>by cases r using VR.cl with | lst e _=>exact iEA _ (H.fz _ _ e) rfl
theorem jt {a:Gn} {ds:List PV} (h:own a=fm (.lst ds)):xl w own (.ref a) "list" := λl F I s v H r=>by
 cases r using dG with
 | ref=>(refine zR (H.ow a _ h) λo e vs n E5 Z=>?_;subst E5);exact iEA _ e rfl
set_option tactic.hygienic true in
theorem ja {A:GZ} {s:Gg} {E:Gd->Gg->Prop} {value slice:Expr} {o i:Gd} {T id:String} {Q:Gd->Gg->Prop} (hT:s.TypeIs o T) (hl:K0 (.type T) "__getitem__" = pure (fm (.builtin id)))
  (h:Gf (mdl w) A (K7 o i) Q E s):Gf (mdl w) A (subscriptTail value slice o i) Q E s:=by
 delta subscriptTail
 refine Ga ?_
 rw[getitemInPython_of_ne hT.not_modules]
 refine Ga (Nl hT hl ?_)
 have fin:∀ ops,Gf (mdl w) A (operate ops (K7 o i)) (λr s₃=>Gf (mdl w) A (letTemporaryGo value o r>>=λZ=>pure r) Q E s₃) E s :=
  λops=>wpAny_operating (Gm h (λr s₃ h₃=>Ga (wpAny_letTemporaryGo (Gb h₃))) λZ Z x=>x)
 have two:subscripted slice Gk o i=operate [i,o] (K7 o i)\/subscripted slice Gk o i=operate [o,i] (K7 o i):=by
  delta subscripted
  cases slice with
  | Slice a b c p=>cases c with
   | none=>exact .inl rfl
   | some c=>exact .inr rfl
  | _=>exact .inr rfl
 refine Gb (Ga ?_)
 show let Q':=_;let E':=_;Gf _ _ _ Q' E' _;intro Q' E'
 rcases two with e | e<;>(rw[e];exact fin _)
theorem EVd.sub {e1 e2:Expr} {pos:Pos} {d1 d2 d:PV} {T id:String} (h1:EVd w k env ρ e1 d1) (h2:EVd w k env ρ e2 d2) (ht:xl w ρ.own d1 T) (hl:K0 (.type T) "__getitem__" = pure (fm (.builtin id)))
  (h:∀ v1 v2,PR w k ρ.own (λI=>VR I v1 d1/\VR I v2 d2) (K7 v1 v2) (λI v=>VR I v d)):EVd w k env ρ (.Subscript e1 e2 pos) d :=
 λA l F I s hA H L Z=>gR (mP (h1 A l F I s hA H L trivial) (λv1 s1 I1 a1 H1 r1 q1 =>
  mP (h2 A l F I1 s1 hA H1 (L.mono a1) trivial) (λv2 s2 I2 a2 H2 r2 q2 =>
   ja (ht l F I2 s2 v1 H2 (r1.mono a2)) hl (mP (h v1 v2 A l F I2 s2 hA H2 ⟨r1.mono a2,r2⟩) (λv s3 I3 a3 H3 r3 q3=>⟨I3,a1.trans (a2.trans a3),H3,r3,q1.trans (q2.trans q3)⟩)))))
theorem Ad {e1 e2:Expr} {op:CmpOp} {pos:Pos} {d1 d2 d:PV} (h1:EVd w k env ρ e1 d1) (h2:EVd w k env ρ e2 d2)
  (h:∀ v1 v2,PR w k ρ.own (λI=>VR I v1 d1/\VR I v2 d2) (Ke op v1 v2) (λI v=>VR I v d)) (hm:Yg op e2=Gk:=by with_unfolding_all rfl):EVd w k env ρ (.Compare e1 [op] [e2] pos) d :=
 λA l F I s hA H L Z=>wpAny_Compare1 (mP (h1 A l F I s hA H L trivial) (λv1 s1 I1 a1 H1 r1 q1 =>
  mP (h2 A l F I1 s1 hA H1 (L.mono a1) trivial) (λv2 s2 I2 a2 H2 r2 q2 =>
   mP (h v1 v2 A l F I2 s2 hA H2 ⟨r1.mono a2,r2⟩) (λv s3 I3 a3 H3 r3 q3=>⟨I3,a1.trans (a2.trans a3),H3,r3,q1.trans (q2.trans q3)⟩)))) hm
theorem fE {e1 e2:Expr} {op:CmpOp} {pos:Pos} {d1 d2:PV} {b:Bool} (h1:EVd w k env ρ e1 d1) (h2:EVd w k env ρ e2 d2)
  (h:∀ v1 v2,PR w k ρ.own (λI=>VR I v1 d1/\VR I v2 d2) (Ke op v1 v2) (λI v=>VR I v (.bool b))) (hm:Yg op e2=Gk:=by with_unfolding_all rfl):TDb w k env ρ (.Compare e1 [op] [e2] pos) b :=
 λA l F I s hA H L Z=>T7 (mP (h1 A l F I s hA H L trivial) (λv1 s1 I1 a1 H1 r1 q1 =>
  mP (h2 A l F I1 s1 hA H1 (L.mono a1) trivial) (λv2 s2 I2 a2 H2 r2 q2 =>
   mP (h v1 v2 A l F I2 s2 hA H2 ⟨r1.mono a2,r2⟩) (λv s3 I3 a3 H3 r3 q3=>by (have E0:=dX r3;clear r3;subst E0);exact Kj ⟨I3,a1.trans (a2.trans a3),H3,rfl,q1.trans (q2.trans q3)⟩)))) hm
section
variable (w)
inductive Px (l:List Env) (F I:PH) (own:Own) (s:Gg) (x:ExcD) (ev:Gd) (s':Gg):Prop
 | mk (J:PH):Sub I J->HP w l F J own s'.heap->ExcIn F J own s'.heap ev x->Same s s'->Px l F I own s x ev s'
noncomputable def PRX {α:Type} (k:Lv) (own:Own) (P:PH->Prop) (t:Sem α) (x:ExcD):Prop :=
 ∀ (A:GZ) (l:List Env) (F I:PH) (s:Gg),OkA k A l->HP w l F I own s.heap->P I ->
  Gf (mdl w) A t (λZ Z=>False) (Px w l F I own s x) s
noncomputable def EVx (k:Lv) (env:Env) (ρ:PSt) (e:Expr) (x:ExcD):Prop :=
 ∀ (A:GZ) (l:List Env) (F I:PH) (s:Gg),OkA k A l->HP w l F I ρ.own s.heap->Loc I env ρ.loc F ->
  Gf (mdl w) A (eval e env) (λZ Z=>False) (Px w l F I ρ.own s x) s
end
theorem EVx.sub {e1 e2:Expr} {pos:Pos} {d1 d2:PV} {x:ExcD} {T id:String} (h1:EVd w k env ρ e1 d1) (h2:EVd w k env ρ e2 d2) (ht:xl w ρ.own d1 T) (hl:K0 (.type T) "__getitem__" = pure (fm (.builtin id)))
  (h:∀ v1 v2,PRX w k ρ.own (λI=>VR I v1 d1/\VR I v2 d2) (K7 v1 v2) x):EVx w k env ρ (.Subscript e1 e2 pos) x :=
 λA l F I s hA H L=>gR (mPf (h1 A l F I s hA H L trivial) (λv1 s1 I1 a1 H1 r1 q1 =>
  mPf (h2 A l F I1 s1 hA H1 (L.mono a1) trivial) (λv2 s2 I2 a2 H2 r2 q2 =>
   ja (ht l F I2 s2 v1 H2 (r1.mono a2)) hl (Gm (h v1 v2 A l F I2 s2 hA H2 ⟨r1.mono a2,r2⟩) (λv s3 x=>x.elim) λev s3 E9=>E9.casesOn λI3 a3 H3 X3 q3=>⟨I3,a1.trans (a2.trans a3),H3,X3,q1.trans (q2.trans q3)⟩))))
theorem AJ {e1 e2:Expr} {op:CmpOp} {pos:Pos} {x:ExcD} {Φ:Bool->PSt->Prop} {Ψ:ExcD->PSt->Prop} (h1:EVx w k env ρ e1 x) (hx:Ψ x ρ) (hm:Yg op e2=Gk:=by with_unfolding_all rfl):BX w k env ρ (.Compare e1 [op] [e2] pos) Φ Ψ :=
 λA l F I s hA E9=>E9.casesOn λG H L D=>T7 (Gm (h1 A (env::l) _ I s hA H L.up) (λv s1 x=>x.elim) λev s1 E9=>E9.casesOn λI1 a1 H1 X1 q1=>⟨I1,ρ,x,a1,⟨G,H1,L.mono a1,D,X1⟩,q1,hx⟩) hm
theorem Je {op:XB} {a b c:Int} {v1 v2:Gd} (h:∀ (A:GZ) (s:Gg) (t u:Tok) (Q:Gd->Gg->Prop) (E:Gd->Gg->Prop),Q (.int c s.toks) { s with toks:=s.toks+1 }->Gf (mdl w) A (N9 op (.int a t) (.int b u)) Q E s) :
  PR w k own (λI=>VR I v1 (.int a)/\VR I v2 (.int b)) (N9 op v1 v2) (λI v=>VR I v (.int c)):=λA l F I s hA H ⟨r1,r2⟩=>by
 (refine fM r1 λZ E0=>?_;clear r1;subst E0);(refine fM r2 λZ E0=>?_;clear r2;subst E0)
 exact h A s _ _ _ _ ⟨I,.refl I,H,.int _ _,⟨rfl,rfl⟩⟩
theorem ur {a b:Int} {v1 v2:Gd}:PR w k own (λI=>VR I v1 (.int a)/\VR I v2 (.int b)) (N9 .Add v1 v2) (λI v=>VR I v (.int (a+b))):=Je λA s t u Q E h=>add_int h
theorem qu {a b:Int} {v1 v2:Gd}:PR w k own (λI=>VR I v1 (.int a)/\VR I v2 (.int b)) (N9 .Sub v1 v2) (λI v=>VR I v (.int (a-b))):=Je λA s t u Q E h=>sub_int h
theorem um {a b:Int} {v1 v2:Gd} (hb:b≠0):PR w k own (λI=>VR I v1 (.int a)/\VR I v2 (.int b)) (N9 .Mod v1 v2) (λI v=>VR I v (.int (a.fmod b))):=Je λA s t u Q E h=>mod_int' hb h
theorem pr_fdiv {a b:Int} {v1 v2:Gd} (hb:b≠0) (hb2:b.natAbs<1073741824):PR w k own (λI=>VR I v1 (.int a)/\VR I v2 (.int b)) (N9 .FloorDiv v1 v2) (λI v=>VR I v (.int (a.fdiv b))):=λA l F I s hA H E9=>E9.elim λr1 r2=>by
 (refine fM r1 λZ E0=>?_;clear r1;subst E0);(refine fM r2 λZ E0=>?_;clear r2;subst E0)
 exact floordiv_int hb ⟨I,.refl I,H,.int _ _,⟨rfl,rfl⟩⟩ (.inl (PyProof.noPylong_small hb2))
theorem uM {op:CmpOp} {a b:Int} {c:Bool} {v1 v2:Gd} (h:∀ (A:GZ) (s:Gg) (t u:Tok) (Q:Gd->Gg->Prop) (E:Gd->Gg->Prop),Q (.bool c) s->Gf (mdl w) A (Ke op (.int a t) (.int b u)) Q E s) :
  PR w k own (λI=>VR I v1 (.int a)/\VR I v2 (.int b)) (Ke op v1 v2) (λI v=>VR I v (.bool c)):=λA l F I s hA H ⟨r1,r2⟩=>by
 (refine fM r1 λZ E0=>?_;clear r1;subst E0);(refine fM r2 λZ E0=>?_;clear r2;subst E0)
 exact h A s _ _ _ _ ⟨I,.refl I,H,.bool _,.refl s⟩
theorem pr_lt {a b:Int} {v1 v2:Gd}:PR w k own (λI=>VR I v1 (.int a)/\VR I v2 (.int b)) (Ke .Lt v1 v2) (λI v=>VR I v (.bool (decide (a<b)))):=uM λA s t u Q E h=>lt_int h
theorem pr_ge {a b:Int} {v1 v2:Gd}:PR w k own (λI=>VR I v1 (.int a)/\VR I v2 (.int b)) (Ke .GtE v1 v2) (λI v=>VR I v (.bool (decide (b<=a)))):=uM λA s t u Q E h=>ge_int h
theorem pr_ne {a b:Int} {v1 v2:Gd}:PR w k own (λI=>VR I v1 (.int a)/\VR I v2 (.int b)) (Ke .NotEq v1 v2) (λI v=>VR I v (.bool (a != b))):=uM λA s t u Q E h=>ne_int h
theorem pr_eq {a b:Int} {v1 v2:Gd}:PR w k own (λI=>VR I v1 (.int a)/\VR I v2 (.int b)) (Ke .Eq v1 v2) (λI v=>VR I v (.bool (a==b))):=uM λA s t u Q E h=>eq_int h
end
noncomputable def tb (b:Bool) (cs:List Nat):PV:=if b then .bytes (cs.map GP).toArray else .str ⟨cs.toArray⟩
noncomputable def tbI (b:Bool) (c:Nat):PV:=if b then .int c else .str ⟨#[c]⟩
noncomputable def Sm (cs:List Nat):Prop:=∀ c∈cs,c<128
theorem jX (b:Bool) (cs:List Nat):TB (tb b cs):=by cases b<;>constructor
theorem ux (b:Bool) (cs:List Nat):jz (tb b cs)=tb b [47]:=by cases b<;>rfl
section
variable {b:Bool} {cs ds:List Nat}
theorem uJ:xl w own (tb b cs) (if b then "bytes" else "str"):=by
 cases b
 .exact ty_str
 .exact ty_bytes
theorem uO:∃ id,K0 (.type (if b then "bytes" else "str")) "__getitem__" = pure (fm (.builtin id)):=by
 cases b
 .exact⟨_,fc.lookup⟩
 .exact⟨_,O4.lookup⟩
theorem xt {vs:List Gd} (h:cs.length<=100000):PR w k own (λI=>VRs I vs [tb b cs]) (call (.builtin "len") vs) (λI v=>VR I v (.int cs.length)):=by
 intro A l F I s hA H hP
 show let Q':=_;let E':=_;Gf _ _ _ Q' E' _;intro Q' E'
 cases hP using ft with
 | cons r1 r2 =>
  (have E0:=VRs.nl r2;clear r2;subst E0)
  cases b with
  | false=>(refine fW r1 λZ E0=>?_;clear r1;subst E0);exact len_str (by simp[NR];lia) ⟨I,.refl I,H,by simp[NR];exact .int _ _,⟨rfl,rfl⟩⟩
  | true=>(refine fY r1 λZ E0=>?_;clear r1;subst E0);exact W.len_bytes (by simp;exact Gc ‹_› (lb rfl)) ⟨I,.refl I,H,by simp;exact .int _ _,⟨rfl,rfl⟩⟩
theorem Zt {i c:Nat} {v1 v2:Gd} (hs:Sm cs) (h:cs.length<=100000) (hi:cs[i]? = fm c):PR w k own (λI=>VR I v1 (tb b cs)/\VR I v2 (.int i)) (K7 v1 v2) (λI v=>VR I v (tbI b c)):=by
 intro A l F I s hA H E9
 refine xA E9 λr1 r2=>?_;clear E9
 have hlt:i<cs.length:=(GK.mp hi).1
 refine fM r2 λZ E0=>?_;clear r2;subst E0
 cases b with
 | false =>
  refine fW r1 λZ E0=>?_;clear r1;subst E0
  refine getItem_str (c:=c) (by simp only[TL,decide_eq_false_iff_not];lia) ?_ ⟨I,.refl I,H,.str _ _,⟨rfl,rfl⟩⟩
  rw[seqIndex_of (by exact La i) (by simp[NR];assumption)]
  simp[hi]
 | true =>
  refine fY r1 λZ E0=>?_;clear r1;subst E0
  refine W.getItem_bytes (l:=cs.map GP) (by simp;exact Gc ‹_› (lb rfl)) (by exact La i) (by simp;assumption) ⟨I,.refl I,H,?_,⟨rfl,rfl⟩⟩
  have hc:c<128:=hs c (GS hi)
  have:((cs.map GP).getD (i:Int).toNat 0).toNat=c:=by
   simp[Gt,hi];exact Hb ‹_› (lb rfl)
  rw[this];exact .int _ _
theorem vL (x:Array UInt8) (i:Int) (t u:Tok) (hr:Os i=Gh) (h:(Tw i x.size).bind (x[·]?)=fp) :
  YB (Hm.«bytes.__getitem__» ⟨[.bytes x t,.int i u],[]⟩) (ff "IndexError"):=by
 intro prog w A R s hS
 show let Q':=_;let E':=_;Gf _ _ _ Q' E' _;intro Q' E'
 show Gf _ _ (Vx (.int i u)>>=λr=>_) _ _ s
 refine Ga ?_
 unfold Vx
 refine Ga (Nl (TP s i u) F.slot_int_index.lookup ?_)
 show Gf _ _ (if (!Builtin.Bytes.fitsIndex i)=Gh then _ else pure (fm i)) _ _ s
 rw[hr]
 refine Gb ?_
 show Gf _ _ (match (Tw i x.size).bind (x[·]?) with | some x=>retInt x.toNat | none=>_) _ _ s
 rw[h]
 first
  | exact Ga (Nf (by exact_raiseError gA hS.1 hS.2))
  | exact Ga (Nf (Ga (by exact_raiseError gA hS.1 hS.2)))
theorem vg {i n:Nat} (h:n<=i):Tw (i:Int) n=fp:=by
 unfold Tw
 have h0:¬ (i:Int)<0:=by exact HQ i
 simp only[h0,if_false]
 rw[if_neg]
 simp only[GE,decide_eq_true_eq]
 lia
theorem Qw {i:Nat} {v1 v2:Gd} (hb:k.b=Gh) (h:cs.length<=100000) (hi:cs.length<=i) (hi2:i<=1000000):PRX w k own (λI=>VR I v1 (tb b cs)/\VR I v2 (.int i)) (K7 v1 v2) ⟨.type "IndexError",fp⟩:=by
 intro A l F I s hA H E9
 refine xA E9 λr1 r2=>?_;clear E9
 refine fM r2 λZ E0=>?_;clear r2;subst E0
 have fin:∀ h' tk e,X8 s.heap h' e "IndexError" -> Px w l F I own s ⟨.type "IndexError",fp⟩ (.ref e) { s with heap:=h',toks:=tk }:=λh' tk e X =>
  (dg H X).casesOn λH' X'=>⟨I,.refl I,H',X',⟨rfl,rfl⟩⟩
 cases b with
 | false =>
  refine fW r1 λZ E0=>?_;clear r1;subst E0
  refine Yf (Xr s _ _) (Hv Gk) fc entry_str_getitem (args_str_getitem _ _) (raises_str_getitem _ (i:Int) _ _ (by simp only[TL,decide_eq_false_iff_not];lia) ?_) ⟨hA.hd hb,fin⟩
  rw[vg (by simpa [NR] using hi)];rfl
 | true =>
  refine fY r1 λZ E0=>?_;clear r1;subst E0
  have h1:Os (i:Int)=Gh:=by simp only[Os,GE,decide_eq_true_eq];lia
  have h2:(Tw (i:Int) (cs.map GP).toArray.size).bind ((cs.map GP).toArray[·]?)=fp:=by rw[vg (by simpa using hi)];rfl
  generalize (i:Int)=j at h1 h2 ⊢
  exact Yf (N4 s _ _) (Hv Gk) O4 W0 (WN _ _) (vL _ j _ _ h1 h2) ⟨hA.hd hb,fin⟩
end
section
variable {b:Bool} {cs ds:List Nat}
inductive PartD (w:K6) (k:Lv) (env:Env) (ρ:PSt):Option Expr->Option Int->Prop
 | none:PartD w k env ρ fp fp
 | some {e:Expr} {i:Int}:EVd w k env ρ e (.int i)->PartD w k env ρ (fm e) (fm i)
theorem PartD.td {e:Option Expr} {i:Option Int} (h:PartD w k env ρ e i):TD w k env ρ (λZ=>True) (evalPart e env) (λZ v=>Oc v i):=by
 cases h with
 | none=>exact TD.pure λZ Z=>.none
 | some h=>exact h.weaken (λZ x=>x) λI v r=>by (refine fM r λZ E0=>?_;clear r;subst E0);exact .int _ _
noncomputable def SlAt (I:PH) (sl:Gn) (vl vu vs:Gd):Prop:=I sl=fm { cls:=.type "slice",data:=.fields #[vl,vu,vs] }
theorem fN {e1:Expr} {lower upper step:Option Expr} {p pos:Pos} {d1 d:PV} {lo hi st:Option Int} {T id:String} (h1:EVd w k env ρ e1 d1) (hl:PartD w k env ρ lower lo) (hu:PartD w k env ρ upper hi) (hst:PartD w k env ρ step st)
  (ht:xl w ρ.own d1 T) (hlk:K0 (.type T) "__getitem__" = pure (fm (.builtin id)))
  (h:∀ v1 sl vl vu vs,Oc vl lo->Oc vu hi->Oc vs st->PR w k ρ.own (λI=>VR I v1 d1/\SlAt I sl vl vu vs) (K7 v1 (.ref sl)) (λI v=>VR I v d)):EVd w k env ρ (.Subscript e1 (.Slice lower upper step p) pos) d :=
 λA l F I s hA H L Z=>gR (mP (h1 A l F I s hA H L trivial) (λv1 s1 I1 a1 H1 r1 q1 =>
  wpAny_Slice (mP (hl.td A l F I1 s1 hA H1 (L.mono a1) trivial) (λvl s2 I2 a2 H2 r2 q2=>mP (hu.td A l F I2 s2 hA H2 (L.mono (a1.trans a2)) trivial) (λvu s3 I3 a3 H3 r3 q3 =>
   mP (hst.td A l F I3 s3 hA H3 (L.mono (a1.trans (a2.trans a3))) trivial) (λvs s4 I4 a4 H4 r4 q4=>by
    have a5:Sub I4 (upd I4 s4.heap.objs.size { cls:=.type "slice",data:=.fields #[vl,vu,vs] }):=fA H4.new.2.1
    have H5:=H4.push_frozen { cls:=.type "slice",data:=.fields #[vl,vu,vs] }
    have r5:=(r1.mono (a2.trans (a3.trans a4))).mono a5
    exact ja (s:={ s4 with heap:=s4.heap.push { cls:=.type "slice",data:=.fields #[vl,vu,vs] } }) (ht l F _ { s4 with heap:=s4.heap.push { cls:=.type "slice",data:=.fields #[vl,vu,vs] } } v1 H5 r5) hlk
     (mP (h v1 _ vl vu vs r2 r3 r4 A l F _ { s4 with heap:=s4.heap.push { cls:=.type "slice",data:=.fields #[vl,vu,vs] } } hA H5 ⟨r5,zd ..⟩)
      (λv s6 I6 a6 H6 r6 q6=>⟨I6,a1.trans (a2.trans (a3.trans (a4.trans (a5.trans a6)))),H6,r6,q1.trans (q2.trans (q3.trans (q4.trans q6)))⟩))))))))
noncomputable def pySl {α:Type} (xs:List α) (lo hi:Option Int):List α:=(xs.drop (lo.elim 0 (OB xs.length))).take (hi.elim xs.length (OB xs.length)-lo.elim 0 (OB xs.length))
theorem vv (x:Str) (l u:Option (Int×Tok)):gj x l u fp=(GH ((u.map (·.1)).elim x.length (OB x.length)-(l.map (·.1)).elim 0 (OB x.length))).map ((l.map (·.1)).elim 0 (OB x.length) + ·):=by
 have e:gj x l u fp=sliceRange (Ls (l.map (·.1)) (u.map (·.1)) fp x.length).1 (Ls (l.map (·.1)) (u.map (·.1)) fp x.length).2.1 (Ls (l.map (·.1)) (u.map (·.1)) fp x.length).2.2:=rfl
 rw[e,sliceBounds_plain]
 exact sliceRange_one _ _
theorem uW (x:Str) (l u:Option (Int×Tok)):(gj x l u fp).filterMap (x.cps[·]?)=pySl x.cps.toList (l.map (·.1)) (u.map (·.1)):=by
 rw[vv,pick_run];rfl
theorem zak (n:Nat) (i:Int):OB n i<=n:=by have:=clipAt_cast n i;lia
theorem Zr {α:Type} (xs:List α) (lo hi:Option Int) (h:hi.elim xs.length (OB xs.length)-lo.elim 0 (OB xs.length)=xs.length):pySl xs lo hi=xs:=by
 have h1:hi.elim xs.length (OB xs.length)<=xs.length:=by cases hi with | none=>exact GI _ | some i=>exact zak _ _
 delta pySl
 by_cases h0:xs.length=0
 .have:xs=[]:=Xm.mp h0
  subst this;simp
 .have h2:lo.elim 0 (OB xs.length)=0:=by lia
  rw[h2] at h ⊢
  rw[XD] at h ⊢
  rw[h,WE,Kq]
theorem dW {v:Gd} {i:Option Int} (h:Oc v i):∃ p:Option (Int×Tok),v=partValue p/\p.map (·.1)=i:=by
 cases h with
 | none=>exact iEA fp rfl rfl
 | int i t=>exact iEA (fm (i,t)) rfl rfl
set_option tactic.hygienic true in
theorem va {lo hi:Option Int} {v1 vl vu:Gd} {sl:Gn} (h:cs.length<=100000) (pl:Oc vl lo) (pu:Oc vu hi) :
  PR w k own (λI=>VR I v1 (tb b cs)/\SlAt I sl vl vu .none) (K7 v1 (.ref sl)) (λI v=>VR I v (tb b (pySl cs lo hi))):=by
 intro A l F I s hA H E9
 refine xA E9 λr1 r2=>?_;clear E9
 have hsl:s.heap.get? sl=fm { cls:=.type "slice",data:=.fields #[vl,vu,.none] }:=H.fz _ _ r2
 cases b with
 | false =>
  refine fW r1 λZ E0=>?_;clear r1;subst E0
  refine xEA (dW pl) λp E5 E6=>?_;subst E5;subst E6
  refine xEA (dW pu) λq E5 E6=>?_;subst E5;subst E6
  have hlen:(pySl cs (p.map (·.1)) (q.map (·.1))).length<=cs.length:=by delta pySl;simp;exact Nz.mi
  refine wpAny_getItem_str_slice (l:=p) (u:=q) (st:=fp) (iEAA _ hsl rfl rfl) rfl ?_
  delta sliceMade
  split
  .rename_i hc
   simp only[GE,beq_iff_eq] at hc
   have e:=hc.2
   rewrite [vv] at e
   simp only[Ge,Lj] at e
   have e2:pySl cs (p.map (·.1)) (q.map (·.1))=cs:=Zr _ _ _ (by simpa [NR] using e)
   rw[e2]
   exact⟨I,.refl I,H,.str _ _,.refl s⟩
  .rw[uW]
   refine⟨?_,I,.refl I,H,.str _ _,⟨rfl,rfl⟩⟩
   show (pySl cs _ _).toArray.size<=_
   simp[N7];lia
 | true =>
  refine fY r1 λZ E0=>?_;clear r1;subst E0
  refine Yf (N4 s _ _) (Hv Gk) O4 W0 (WN _ _) (W.KBc.meets_slice2 _ _ sl pl pu) ⟨(iEAA _ hsl rfl rfl),?_,λt' k'=>⟨I,.refl I,H,?_,⟨rfl,rfl⟩⟩⟩
  .refine Gc (W.KBc.size_picked_le _ _ _) ?_
   simp[N7];exact Gc ‹_› (lb rfl)
  .have e:W.KBy.picked (cs.map GP).toArray lo hi=((pySl cs lo hi).map GP).toArray:=by
    rw[W.KBc.picked_eq]
    simp only[pySl,NK,LZ,Gw,Ge]
   rw[e];exact .bytes _ _
theorem Zs (xs ys:List Nat):((⟨xs.toArray⟩:Str)++(⟨ys.toArray⟩:Str))=⟨(xs++ys).toArray⟩:=by
 show NS _ _=_
 simp[NS]
theorem xr {v1 v2:Gd} (h:cs.length+ds.length<=100000):PR w k own (λI=>VR I v1 (tb b cs)/\VR I v2 (tb b ds)) (N9 .Add v1 v2) (λI v=>VR I v (tb b (cs++ds))):=by
 intro A l F I s hA H E9
 show let Q':=_;let E':=_;Gf _ _ _ Q' E' _;intro Q' E'
 refine xA E9 λr1 r2=>?_;clear E9
 cases b with
 | false =>
  (refine fW r1 λZ E0=>?_;clear r1;subst E0);(refine fW r2 λZ E0=>?_;clear r2;subst E0)
  refine add_str (λt' tk=>⟨I,.refl I,H,?_,⟨rfl,rfl⟩⟩) (by simp[NR,N7];exact Gc ‹_› (lb rfl))
  rw[Zs];exact .str _ _
 | true =>
  (refine fY r1 λZ E0=>?_;clear r1;subst E0);(refine fY r2 λZ E0=>?_;clear r2;subst E0)
  refine W.KBy.add_bytes (by simp;exact Gc ‹_› (lb rfl)) (λt' k'=>⟨I,.refl I,H,?_,⟨rfl,rfl⟩⟩)
  have e:(cs.map GP).toArray++(ds.map GP).toArray=((cs++ds).map GP).toArray:=by simp
  rw[e];exact .bytes _ _
theorem Zd {v1 v2:Gd} {n:Int} (h1:1<=n) (h2:n<=2):PR w k own (λI=>VR I v1 (tb b [47])/\VR I v2 (.int n)) (N9 .Mult v1 v2) (λI v=>VR I v (tb b (Ha n.toNat 47))):=by
 intro A l F I s hA H E9
 refine xA E9 λr1 r2=>?_;clear E9
 refine fM r2 λZ E0=>?_;clear r2;subst E0
 cases b with
 | false =>
  refine fW r1 λZ E0=>?_;clear r1;subst E0
  have hn:n=1\/n=2:=by lia
  refine P.mul_str (by simp only[TL,decide_eq_false_iff_not];lia) (λZ Z=>?_) (λZ Z=>?_) ?_
  .rcases hn with rfl | rfl<;>decide
  .rcases hn with rfl | rfl<;>decide
  .rcases hn with rfl | rfl
   .exact⟨I,.refl I,H,.str _ _,⟨rfl,rfl⟩⟩
   .exact⟨by exact lb rfl,I,.refl I,H,.str _ _,⟨rfl,rfl⟩⟩
 | true =>
  refine fY r1 λZ E0=>?_;clear r1;subst E0
  refine W.bytes_mul_any (b:=[47]) (dc rfl) (by lia) (by lia) (lb rfl) (λt' k'=>⟨I,.refl I,H,?_,⟨rfl,rfl⟩⟩)
  have hn:n=1\/n=2:=by lia
  rcases hn with rfl | rfl<;>exact .bytes _ _
end
noncomputable def AtP (cs sub:List Nat) (i:Nat):Prop:=i+sub.length<=cs.length/\(cs.drop i).take sub.length=sub
noncomputable def fnd (cs sub:List Nat) (p:Nat):Option Nat:=((GH (cs.length+1-p)).map (p + ·)).find? λi=>decide (i+sub.length<=cs.length)&&((cs.drop i).take sub.length==sub)
theorem xO {cs sub:List Nat} {p i:Nat} (h:fnd cs sub p=fm i):p<=i/\AtP cs sub i/\∀ k,p<=k->k<i->¬ AtP cs sub k:=by
 delta fnd at h
 replace h:=(TJ) ▸ h;rewrite [Gz] at h
 refine xEA h λj hj E5=>?_;try clear h;subst E5
 rewrite [OT] at hj
 refine xAA hj λh1 h2 h3=>?_;try clear hj
 simp only[Ln,GE,decide_eq_true_eq,beq_iff_eq] at h1
 refine⟨by exact HK _ _,h1,λq hq1 hq2 hq=>?_⟩
 have:=h3 (q-p) (by exact W9 hq1 hq2)
 simp only[Ln,KP,XM,decide_eq_false_iff_not,beq_eq_false_iff_ne] at this
 replace this:=(show p+(q-p)=q by exact Hj hq1) ▸ this
 rcases this with t | t
 .exact t hq.1
 .exact t hq.2
theorem u9 {cs sub:List Nat} {p:Nat} (h:fnd cs sub p=fp):∀ i,p<=i->¬ AtP cs sub i:=by
 delta fnd at h
 replace h:=(TJ) ▸ h;rewrite [O5,Vo] at h
 intro i hi hq
 have:=h (i-p) (by have:=hq.1;simp;exact Nz.f2 ‹_› ‹_›)
 simp only[Ln,GE,decide_eq_true_eq,beq_iff_eq,not_and] at this
 replace this:=(show p+(i-p)=i by exact Hj hi) ▸ this
 exact this hq.1 hq.2
section
variable {b:Bool} {cs ds:List Nat}
theorem xc:Slot "bytes" "__contains__" "bytes.__contains__" :=
 .of (owner := "bytes") (n := "__contains__") (by rw[HM,Hf];kernel_rfl) (by decide +kernel) (by decide +kernel) (by decide +kernel)
  (by first | exact .inl (by decide +kernel) | exact .inr (by decide +kernel)) (by rw[G8];kernel_rfl)
theorem vx:N8 table "bytes.__contains__" = fm Hm.«bytes.__contains__»:=KM (by kernel_rfl)
theorem vY (a b:Gd):OC "bytes.__contains__" ⟨[a,b],[]⟩:=by
 delta OC;kernel_rfl
theorem ZP {c:Nat} {v1 v2:Gd} (hc:c<128):PR w k own (λI=>VR I v1 (tbI b c)/\VR I v2 (tb b [47])) (Ke .In v1 v2) (λI v=>VR I v (.bool (c==47))):=by
 intro A l F I s hA H E9
 show let Q':=_;let E':=_;Gf _ _ _ Q' E' _;intro Q' E'
 refine xA E9 λr1 r2=>?_;clear E9
 cases b with
 | false =>
  (refine fW r1 λZ E0=>?_;clear r1;subst E0);(refine fW r2 λZ E0=>?_;clear r2;subst E0)
  refine in_str ?_
  rw[StrLaws.found_one]
  have e:decide (c∈(⟨[47].toArray⟩:Str).cps.toList)=(c==47):=by
   by_cases q:c=47<;>simp[q]
  rw[e]
  exact⟨I,.refl I,H,.bool _,.refl s⟩
 | true =>
  (refine fM r1 λZ E0=>?_;clear r1;subst E0);(refine fY r2 λZ E0=>?_;clear r2;subst E0)
  generalize hj:(c:Int)=j
  refine In_slot (N4 s _ _) xc (GX xc (N4 s _ _) vx ?_ (vY _ _))
  show Gf _ _ (VA "bytes.__contains__" (.bytes _ _) (.int j _)>>=λr=>_) _ _ s
  refine Ga ?_
  show let Q':=_;let E':=_;Gf _ _ _ Q' E' _;intro Q' E'
  delta VA
  refine Ga (Np (Hh (a:=j) rfl ?_))
  refine Ga (Hh YY ?_)
  subst hj
  show Gf _ _ (if (decide ((c:Int)<0)||decide ((c:Int)>=256))=Gh then _ else _) _ _ s
  rw[if_neg (by simp;lia)]
  refine Gb (Gb ⟨_,rfl,Kj ⟨I,.refl I,H,?_,.refl s⟩⟩)
  have e:([47].map GP).toArray.contains (c:Int).toNat.toUInt8=(c==47):=by
   have all:∀ x:Fin 128,([47].map GP).toArray.contains x.val.toUInt8=(x.val==47):=by decide +kernel
   exact all ⟨c,hc⟩
  rw[e];exact .bool _
theorem jK (cs ds:List Nat) (i:Nat):StrLaws.At (⟨cs.toArray⟩:Str) ⟨ds.toArray⟩ cs.length i↔AtP cs ds i:=by
 delta StrLaws.At AtP Builtin.Str.subAt
 simp[NR,OL]
theorem at_bytes {cs ds:List Nat} (hc':Sm cs) (hd:Sm ds) (i:Nat):((cs.map GP).toArray.extract i (i+(ds.map GP).toArray.size)==(ds.map GP).toArray)=((cs.drop i).take ds.length==ds):=by
 have inj:∀ (xs ys:List Nat),Sm xs->Sm ys->(xs.map GP=ys.map GP↔xs=ys):=by
  intro xs
  induction xs with
  | nil=>intro ys _ _;cases ys<;>simp
  | cons x xs ih =>
   intro ys hx hy
   cases ys with
   | nil=>simp
   | cons y ys =>
    have h1:x<128:=hx x Gp
    have h2:y<128:=hy y Gp
    have h3:=ih ys (λc hc=>hx c (Go _ hc)) λc hc=>hy c (Go _ hc)
    simp only[GF,LF,h3]
    constructor
    .intro E9;refine xA E9 λe r=>?_;clear E9
     have:=congrArg UInt8.toNat e
     simp at this
     exact⟨by lia,r⟩
    ·(intro E9;refine xA E9 λE5 r=>?_;clear E9;subst E5);exact⟨rfl,r⟩
 have e:(cs.map GP).toArray.extract i (i+(ds.map GP).toArray.size)=(((cs.drop i).take ds.length).map GP).toArray:=by
  simp[OL,NK,LZ]
 rw[e,Tp]
 simp only[beq_iff_eq]
 rw[←inj ((cs.drop i).take ds.length) ds (λc hc=>hc' c (Nq (XX hc))) hd]
 constructor
 .intro q;exact congrArg Array.toList q
 .intro q;rw[q]
theorem qE {p i:Nat} {v1 v2 v3:Gd} (h:cs.length<=100000) (hf:fnd cs ds p=fm i) :
  PR w k own (λI=>VR I v1 (.str ⟨cs.toArray⟩)/\VR I v2 (.str ⟨ds.toArray⟩)/\VR I v3 (.int p)) (call (.builtin "str.index") [v1,v2,v3]) (λI v=>VR I v (.int i)):=by
 intro A l F I s hA H E9
 refine xAA E9 λr1 r2 r3=>?_;clear E9
 (refine fW r1 λZ E0=>?_;clear r1;subst E0);(refine fW r2 λZ E0=>?_;clear r2;subst E0);(refine fM r3 λZ E0=>?_;clear r3;subst E0)
 refine xAA (xO hf) λh1 h2 h3=>?_
 have hp:VC (⟨cs.toArray⟩:Str).length (p:Int)=p:=by
  have:=h2.1
  delta VC;simp[NR];rfl
 generalize (p:Int)=j at hp ⊢
 have g:∀ t u v,Gives (Hm.«str.index» ⟨[.str ⟨cs.toArray⟩ t,.str ⟨ds.toArray⟩ u,.int j v],[]⟩) (.int i):=by
  intro t u v
  show Gives (match VV ⟨cs.toArray⟩ ⟨ds.toArray⟩ (VC (⟨cs.toArray⟩:Str).length j) (min (⟨cs.toArray⟩:Str).length (⟨cs.toArray⟩:Str).length) 1 with | i::_=>retInt i | []=>(do rule "str.index.not-found";raiseError "ValueError" "substring not found")) _
  rw[Nat.min_self,hp]
  have hl:(⟨cs.toArray⟩:Str).length=cs.length:=by rfl
  rcases W1 (⟨cs.toArray⟩:Str) ⟨ds.toArray⟩ p 1 (GI _) with E76 | E77
  .refine xA E76 λZ hn=>?_;clear E76
   exact absurd ((jK cs ds i).mpr h2) (hl ▸ hn i h1)
  .refine zF E77 λa r e ha1 ha2 ha3=>?_;clear E77
   rw[e]
   rw[hl] at ha2 ha3
   have:a=i:=by
    rcases KQ a i with q | q | q
    .exact absurd ((jK cs ds a).mp ha2) (h3 a ha1 q)
    .exact q
    .exact absurd ((jK cs ds i).mpr h2) (ha3 i h1 q)
   subst this
   exact .of_eq rfl
 exact call_gives OZ (Xr s _ _) WB (Wo _ _ _) (g _ _ _) ⟨I,.refl I,H,.int _ _,⟨rfl,rfl⟩⟩
theorem qf {p:Nat} {v1 v2 v3:Gd} (hb:k.b=Gh) (h:cs.length<=100000) (hf:fnd cs ds p=fp) :
  PRX w k own (λI=>VR I v1 (.str ⟨cs.toArray⟩)/\VR I v2 (.str ⟨ds.toArray⟩)/\VR I v3 (.int p)) (call (.builtin "str.index") [v1,v2,v3]) ⟨.type "ValueError",fp⟩:=by
 intro A l F I s hA H E9
 refine xAA E9 λr1 r2 r3=>?_;clear E9
 (refine fW r1 λZ E0=>?_;clear r1;subst E0);(refine fW r2 λZ E0=>?_;clear r2;subst E0);(refine fM r3 λZ E0=>?_;clear r3;subst E0)
 have h1:=u9 hf
 have hp:VC (⟨cs.toArray⟩:Str).length (p:Int)=p:=by
  delta VC;simp[NR];rfl
 generalize (p:Int)=j at hp ⊢
 have g:∀ t u v,YB (Hm.«str.index» ⟨[.str ⟨cs.toArray⟩ t,.str ⟨ds.toArray⟩ u,.int j v],[]⟩) (ff "ValueError"):=by
  intro t u v prog w A R s hS
  show let Q':=_;let E':=_;Gf _ _ _ Q' E' _;intro Q' E'
  show Gf _ _ (match VV ⟨cs.toArray⟩ ⟨ds.toArray⟩ (VC (⟨cs.toArray⟩:Str).length j) (min (⟨cs.toArray⟩:Str).length (⟨cs.toArray⟩:Str).length) 1 with | i::_=>retInt i | []=>_) _ _ s
  rw[Nat.min_self,hp]
  have hl:(⟨cs.toArray⟩:Str).length=cs.length:=by rfl
  rcases W1 (⟨cs.toArray⟩:Str) ⟨ds.toArray⟩ p 1 (GI _) with E78 | E79
  .refine xA E78 λe Z=>?_;clear E78
   rw[e]
   first
    | exact Ga (Nf (by exact_raiseError OJ hS.1 hS.2))
    | exact Ga (Nf (Ga (by exact_raiseError OJ hS.1 hS.2)))
  .refine zF E79 λa r e ha1 ha2 ha3=>?_;clear E79
   replace ha2:=hl ▸ ha2
   exact absurd ((jK cs ds a).mp ha2) (h1 a ha1)
 exact VZ OZ (Xr s _ _) WB (Wo _ _ _) (g _ _ _) ⟨hA.hd hb,λh' tk e X=>(dg H X).casesOn λH' X'=>⟨I,.refl I,H',X',⟨rfl,rfl⟩⟩⟩
theorem yN:Slot "bytes" "index" "bytes.index" :=
 .of (owner := "bytes") (n := "index") (by rw[HM,Hf];kernel_rfl) (by decide +kernel) (by decide +kernel) (by decide +kernel)
  (by first | exact .inl (by decide +kernel) | exact .inr (by decide +kernel)) (by rw[G8];kernel_rfl)
theorem xB:N8 table "bytes.index" = fm Hm.«bytes.index»:=KM (by kernel_rfl)
theorem xK (a b c:Gd):OC "bytes.index" ⟨[a,b,c],[]⟩:=by
 delta OC;kernel_rfl
theorem jc:Xq (.builtin "bytes.index")=pure (.type "method_descriptor"):=by show WZ _=_;kernel_rfl
theorem jq {cs ds:List Nat} (hc:Sm cs) (hd:Sm ds) (p:Nat) (hn:ds≠[]) :
  (if ((cs.length:Int)-(p:Int))<(ds.length:Int) then fp else L7 (cs.map GP).toArray (ds.map GP).toArray p cs.length)=fnd cs ds p:=by
 have at':∀ i,AtP cs ds i↔(i+ds.length<=cs.length/\((cs.map GP).toArray.extract i (i+(ds.map GP).toArray.size)==(ds.map GP).toArray)=Gh):=λi=>by
  delta AtP;rw[at_bytes hc hd];simp
 cases h:fnd cs ds p with
 | some i =>
  refine xAA (xO h) λh1 h2 h3=>?_
  have:=h2.1
  rw[if_neg (by lia)]
  unfold L7
  rw[TJ,Gz]
  refine⟨i-p,?_,by exact Vw ‹_›⟩
  rw[OT]
  refine⟨?_,by simp;exact Nz.f1 ‹_› ‹_›,λj hj=>?_⟩
  .simp only[Ln]
   rw[show i-p+p=i by exact Vw ‹_›]
   exact((at' i).mp h2).2
  .simp only[Ln,KP]
   rw[OS]
   intro q
   exact h3 (j+p) (by exact NO _ _) (by exact Oj hj) ((at' (j+p)).mpr ⟨by exact Nz.f3 ‹_› ‹_›,q⟩)
 | none =>
  have h1:=u9 h
  split
  .rfl
  .unfold L7
   rw[TJ,O5,Vo]
   intro j hj q
   simp only[Ln] at q
   simp only[Gw,Ge,Hn] at hj
   exact h1 (j+p) (by exact NO _ _) ((at' (j+p)).mpr ⟨by exact Nz.f4 ‹_›,q⟩)
theorem ul {M:YA} {A:GZ} {E:Gd->Gg->Prop} {s:Gg} {x y:Array UInt8} {t u v:Tok} {p:Int} {Q:Array UInt8×Array UInt8×Option (Nat×Nat)->Gg->Prop} (hp:0<=p)
  (h:Q (x,y,if (x.size:Int)-p<(y.size:Int) then fp else fm (p.toNat,x.size)) s):Gf M A (Vz .bytes "index" ⟨[.bytes x t,.bytes y u,.int p v],[]⟩) Q E s:=by
 delta Vz
 refine Ga (Hh (a:=(Value.bytes x t,[Value.bytes y u,LV p v])) rfl ?_)
 have hb:∀ (Q:Option Int->Gg->Prop),Q (fm p) s->Gf M A (V5 (fm (.int p v))) Q E s:=by
  intro Q hq
  unfold V5
  refine Ga (Nl (TP s p v) PySem.F.slot_int_index.lookup ?_)
  exact Ga (Hh (a:=p) rfl (Gb hq))
 refine Ga (hb _ ?_)
 refine Ga (Hh (a:=fp) rfl ?_)
 refine Ga (Hh YY ?_)
 refine Ga (Gb ?_)
 refine Ga (Hh (a:=x) rfl ?_)
 have e:V4 x.size (fm p) fp=(p,(x.size:Int)):=by
  delta V4
  have h0:¬ p<0:=by exact Int.not_lt_of_ge hp
  have h1:¬ (x.size:Int)<0:=by exact HQ x.size
  simp[h0,h1]
 rw[e]
 exact Gb h
set_option tactic.hygienic true in
theorem Jd {p i:Nat} {v1 v2 v3:Gd} (h:cs.length<=100000) (hc:Sm cs) (hd:Sm ds) (hn:ds≠[]) (hf:fnd cs ds p=fm i) :
  PR w k own (λI=>VR I v1 (tb Gh cs)/\VR I v2 (tb Gh ds)/\VR I v3 (.int p)) (call (.builtin "bytes.index") [v1,v2,v3]) (λI v=>VR I v (.int i)):=by
 intro A l F I s hA H E9
 show let Q':=_;let E':=_;Gf _ _ _ Q' E' _;intro Q' E'
 refine xAA E9 λr1 r2 r3=>?_;clear E9
 (refine fY r1 λZ E0=>?_;clear r1;subst E0);(refine fY r2 λZ E0=>?_;clear r2;subst E0);(refine fM r3 λZ E0=>?_;clear r3;subst E0)
 refine GX yN (N4 s _ _) xB ?_ (xK _ _ _)
 show Gf _ _ (NL .bytes "index" Gk Gh _) _ _ s
 delta NL
 refine Ga (ul (by exact La p) ?_)
 have e:=jq hc hd p hn
 replace e:=hf ▸ e
 simp only[Gw,Ge]
 split at e
 .injection e
 .rename_i hlt
  rw[if_neg hlt]
  show Gf _ _ (match L7 (cs.map GP).toArray (ds.map GP).toArray p cs.length with | some i=>retInt i | none=>_) _ _ s
  rw[e]
  exact Ga (wpAny_mkInt (Gb ⟨_,rfl,I,.refl I,H,.int _ _,⟨rfl,rfl⟩⟩))
set_option tactic.hygienic true in
theorem jE {p:Nat} {v1 v2 v3:Gd} (hb:k.b=Gh) (h:cs.length<=100000) (hc:Sm cs) (hd:Sm ds) (hn:ds≠[]) (hf:fnd cs ds p=fp) :
  PRX w k own (λI=>VR I v1 (tb Gh cs)/\VR I v2 (tb Gh ds)/\VR I v3 (.int p)) (call (.builtin "bytes.index") [v1,v2,v3]) ⟨.type "ValueError",fp⟩:=by
 intro A l F I s hA H E9
 show let Q':=_;let E':=_;Gf _ _ _ Q' E' _;intro Q' E'
 refine xAA E9 λr1 r2 r3=>?_;clear E9
 (refine fY r1 λZ E0=>?_;clear r1;subst E0);(refine fY r2 λZ E0=>?_;clear r2;subst E0);(refine fM r3 λZ E0=>?_;clear r3;subst E0)
 generalize hj:(p:Int)=j
 have g:∀ t u v,YB (Hm.«bytes.index» ⟨[.bytes (cs.map GP).toArray t,.bytes (ds.map GP).toArray u,.int j v],[]⟩) (ff "ValueError"):=by
  intro t u v prog w A R s hS
  show let Q':=_;let E':=_;Gf _ _ _ Q' E' _;intro Q' E'
  show Gf _ _ (NL .bytes "index" Gk Gh _) _ _ s
  delta NL
  refine Ga (ul (by lia) ?_)
  have e:=jq hc hd p hn
  replace e:=hf ▸ e
  simp only[Gw,Ge]
  subst hj
  have e2:((if (cs.length:Int)-(p:Int)<(ds.length:Int) then fp else fm ((p:Int).toNat,cs.length)).bind λ(lo,hi)=>if Gk=Gh then Builtin.Bytes.rfind? (cs.map GP).toArray (ds.map GP).toArray lo hi else L7 (cs.map GP).toArray (ds.map GP).toArray lo hi)=fp:=by
   split at e
   .rename_i hlt;rw[if_pos hlt];rfl
   .rename_i hlt;rw[if_neg hlt];exact e
  rw[e2]
  first
   | exact Ga (Nf (by exact_raiseError OJ hS.1 hS.2))
   | exact Ga (Nf (Ga (by exact_raiseError OJ hS.1 hS.2)))
 exact VZ yN (N4 s _ _) xB (xK _ _ _) (g _ _ _) ⟨hA.hd hb,λh' tk e X=>(dg H X).casesOn λH' X'=>⟨I,.refl I,H',X',⟨rfl,rfl⟩⟩⟩
end
section
variable {b:Bool} {cs ds:List Nat}
theorem uT {a c:Int} {v1 v2:Gd}:PR w k own (λI=>VR I v1 (.int a)/\VR I v2 (.int c)) (Yv .Add v1 v2) (λI v=>VR I v (.int (a+c))):=λA l F I s hA H E9=>E9.elim λr1 r2=>by
 show let Q':=_;let E':=_;Gf _ _ _ Q' E' _;intro Q' E'
 (refine fM r1 λZ E0=>?_;clear r1;subst E0);(refine fM r2 λZ E0=>?_;clear r2;subst E0)
 exact wpAny_iadd_int ⟨I,.refl I,H,.int _ _,⟨rfl,rfl⟩⟩
theorem AA {x:Str} {p1 pos:Pos} {op:XB} {e:Expr} {d1 d2 d:PV} (hl:env.kindOf x=fm .local) (hx:ρ.loc.lookup x=fm d1) (he:EVd w k env ρ e d2)
  (h:∀ v1 v2,PR w k ρ.own (λI=>VR I v1 d1/\VR I v2 d2) (Yv op v1 v2) (λI v=>VR I v d)) :
  EX1 w k env ρ (.AugAssign (.Name x p1) op e pos) (λp ρ'=>p=.next/\ρ'=ρ.set x d) Ψ:=λA l F I s hA R=>by
 show let Q':=_;let E':=_;Gf _ _ _ Q' E' _;intro Q' E'
 obtain⟨G,H,L,D⟩:=id R
 obtain⟨m,hm,hv⟩:=L.up.ns
 refine xEA (hv x d1 hx hl) λv1 e1 r1=>?_
 refine wpAny_AugAssign_Name (gg L.kind hl (H.nsF hm) e1 ?_)
 show let Q':=_;let E':=_;Gf _ _ _ Q' E' _;intro Q' E'
 exact mA (he.at hA R trivial) (λv2 s2 I2 a2 R2 r2 q2=>by
  obtain⟨G2,H2,L2,D2⟩:=id R2
  exact mPf (h v1 v2 A (env::l) _ I2 s2 hA H2 ⟨r1.mono a2,r2⟩) (λv s3 I3 a3 H3 r3 q3 =>
   Rep.storeL ⟨G2,H3,L2.mono a3,D2⟩ hl r3 λs4 R4 q4=>⟨I3,_,.next,a2.trans a3,R4,trivial,q2.trans (q3.trans q4),rfl,rfl⟩))
noncomputable def skc:List Nat->Nat
 | 47::r=>skc r+1
 | _=>0
noncomputable def zB (cs:List Nat) (p:Nat):Nat:=p+skc (cs.drop p)
theorem skipC_at {cs:List Nat} {p:Nat} (h:cs[p]? = fm 47):zB cs p=zB cs (p+1):=by
 delta zB
 have hp:p<cs.length:=(GK.mp h).1
 have e:cs.drop p=47::cs.drop (p+1):=by
  rw[OM hp]
  replace h:=(Gu hp) ▸ h
  injection h with h;rw[h]
 rw[e]
 show p+(skc (cs.drop (p+1))+1)=_
 exact Gq (Lp p (skc (List.drop (p+1) cs)))
set_option tactic.hygienic true in
theorem ZR {cs:List Nat} {p c:Nat} (h:cs[p]? = fm c) (hc:c≠47):zB cs p=p:=by
 delta zB
 have hp:p<cs.length:=(GK.mp h).1
 have e:cs.drop p=c::cs.drop (p+1):=by
  rw[OM hp]
  replace h:=(Gu hp) ▸ h
  (injection h with E1;subst E1);rfl
 rw[e]
 unfold skc
 split
 .rename_i q;(injection q with E1 E2;subst E2;subst E1);exact absurd rfl hc
 .rfl
theorem Z9 {cs:List Nat} {p:Nat} (h:cs.length<=p):zB cs p=p:=by
 delta zB
 rw[Ky h];rfl
theorem JR {p:Nat} {vs:List Gd} (hb:k.b=Gh) (hs:Sm cs) (hl:cs.length<=1000) (hp:p<=cs.length):PR w k.up own (λI=>VRs I vs [tb b cs,.int p,tb b [47]]) (call (.ref 168) vs) (λI v=>VR I v (.int (zB cs p))):=by
 intro A l F I s hA H hP
 show let Q':=_;let E':=_;Gf _ _ _ Q' E' _;intro Q' E'
 refine VRs.k hP λv vs E0 r1 r2=>?_;clear hP;subst E0
 cases r2 using ft with
 | cons r2 r3 =>
 cases r3 using ft with
 | cons r3 r4 =>
 (have E0:=VRs.nl r4;clear r4;subst E0)
 refine mP (yo (w:=w) (i:=10) (own:=own) (P:=λI=>VRs I _ [tb b cs,.int p,tb b [47]]) (ds:=[(oS "src",tb b cs),(oS "pos",.int p),(oS "chars",tb b [47])]) (D:=λd'=>d'=.int (zB cs p)) rfl fP ⟨rfl,rfl,rfl⟩
  (λfd h1 h2 h3=>?_) ?_ (λenv eok=>?_) A l F I s hA H (.cons r1 (.cons r2 (.cons r3 .nil)))) (λv s' I' a H' E9 q=>xEA E9 λd' r e=>⟨I',a,H',e ▸ r,q⟩)
 .refine zO h1 h2 h3 (bs:=[(oS "src",_),(oS "pos",_),(oS "chars",_)]) (λfd h1 h2 h3=>?_) λI h=>by
   cases h using ft with | cons a h=>cases h using ft with | cons b h=>cases h using ft with | cons c h=>exact .cons a (.cons b (.cons c .nil))
  obtain⟨⟩:=fd
  simp only at h1 h2 h3
  subst h1 h2 h3
  rfl
 .intro x hx
  simp only[Gi,Gl,or_false] at hx
  rcases hx with rfl | rfl | rfl<;>exact .inl rfl
 .have hsrc:=eok.kL "src"
  have hpos:=eok.kL "pos"
  have hch:=eok.kL "chars"
  have hie:=eok.kG "IndexError"
  refine xE (uO (b:=b)) λidg hlk=>?_
  let St:PSt->Nat->Prop:=λρ q=>ρ.own=own/\q<=cs.length/\zB cs q=zB cs p/\ρ.loc.lookup (oS "src")=fm (tb b cs)/\ρ.loc.lookup (oS "pos")=fm (.int q)/\ρ.loc.lookup (oS "chars")=fm (tb b [47])
  let Fi:PSt->Prop:=λρ=>ρ.own=own/\ρ.loc.lookup (oS "pos")=fm (.int (zB cs p))
  refine fy (D:=Fi) (pU (k:=k) (Φ₁:=λpf ρ'=>pf=.next/\Fi ρ') (Ψ₁:=λx ρ'=>x=⟨.type "IndexError",fp⟩/\Fi ρ') ?_ (λZ Z h=>h) hie rfl (by rw[G8];kernel_rfl) (by rw[G8];kernel_rfl) ?_) ?_
  .show let Φ':=_;let Ψ':=_;EX _ _ _ _ _ Φ' Ψ';intro Φ' Ψ'
   refine fw (dC (λn ρ'=>∃ q,n=cs.length-q/\St ρ' q) (λn t ρ'=>∃ q c,n=cs.length-q/\St ρ' q/\cs[q]? = fm c/\t=(c==47)) ?_ ?_ ?_ (cs.length-p) (iEAAAAAA p rfl rfl hp rfl rfl rfl rfl))
   .intro n ρ1 E9;refine xEAAAAAA E9 λq hn ho hq hsk l1 l2 l3=>?_;clear E9
    rcases ND q cs.length with hlt | hge
    .obtain⟨c,hc⟩:∃ c,cs[q]? = fm c:=⟨_,Gu hlt⟩
     have hcs:c<128:=hs c (GS hc)
     intro A l F I s hA R
     refine Gm (pn (Ψ:=_) (fE (b:=c==47) (EVd.sub (fq hsrc l1) (fq hpos l2) uJ hlk (λv1 v2=>Zt hs (by exact Gc ‹_› (lb rfl)) hc)) (fq hch l3) (λv1 v2=>ZP hcs)) A l F I s hA R) (λt s' ⟨I',ρ',a,R',q',h1,h2⟩=>⟨I',ρ',a,R',q',q,c,hn,h2 ▸ ⟨ho,hq,hsk,l1,l2,l3⟩,hc,h1⟩) λZ Z x=>x
    .refine AJ (EVx.sub (fq hsrc l1) (fq hpos l2) uJ hlk (λv1 v2=>Qw hb (by lia) hge (by lia))) ⟨rfl,ho,?_⟩
     rw[←hsk,Z9 hge];exact l2
   .intro n ρ1 E9;refine zF E9 λq c hn E26 hc ht=>?_;clear E9;(refine jT E26 λho hq hsk l1 l2 l3=>?_;clear E26)
    show let Φ':=_;let Ψ':=_;EX _ _ _ _ _ Φ' Ψ';intro Φ' Ψ'
    have hlt:q<cs.length:=(GK.mp hc).1
    have hc47:c=47:=by simpa using ht.symm
    subst hc47
    refine fw (fS (AA hpos l2 EVd.int (λv1 v2=>uT)) ?_)
    refine⟨cs.length-(q+1),by exact pB ‹_› ‹_›,q+1,rfl,ho,by exact Hi ‹_›,by rw[←skipC_at hc];exact hsk,?_,?_,?_⟩
    .exact l1
    .exact rfl
    .exact l3
   .intro n ρ1 E9;refine zF E9 λq c hn E27 hc ht=>?_;clear E9;(refine jT E27 λho hq hsk l1 l2 l3=>?_;clear E27)
    have hc47:c≠47:=by intro e;subst e;injection ht
    refine EX.nil ⟨rfl,ho,?_⟩
    rw[←hsk,ZR hc hc47];exact l2
  .intro xd ρ1 E9;refine xA E9 λE5 hst=>?_;clear E9;subst E5
   refine iEAA ("IndexError") rfl (by rw[G8];kernel_rfl) (fw (EX1.mono Au ?_))
   intro pf ρ2 E9;refine xA E9 λE5 E6=>?_;clear E9;subst E5;subst E6
   exact⟨rfl,hst⟩
  .intro ρ1 E9;refine xA E9 λho l2=>?_;clear E9
   refine fw (fS (EX1.ret (fq hpos l2)) ?_)
   exact⟨rfl,ho ▸ OLe.refl _⟩
end
noncomputable def Nm (env:Env) (x:Str):Prop:=env.kindOf x=fm .local\/env.kindOf x=fm .cell
section
variable {F G I:PH} {h:Kf} {it:Gn} {o:Obj}
theorem HP.hide (H:HP w l F I own h) (L:Loose F I own it) (e:h.get? it=fm o):HP w l (upd F it o) I own h:=by
 refine⟨λa oa e'=>?_,H.fz,H.ow,λa oa e'=>?_,λa mo e'=>?_,?_,H.ti,H.tab,H.base,λen hen=>?_⟩
 .by_cases q:a=it
  .subst q;rewrite [zd] at e';(injection e' with E1;subst E1);exact iEA o e (.refl _)
  .replace e':=Gj (Gq (zc _ _ q)) e';exact H.fr a oa e'
 .by_cases q:a=it
  .subst q;exact L.2.1
  .replace e':=Gj (Gq (zc _ _ q)) e';exact H.fi a oa e'
 .have q:a≠it:=by rintro rfl;replace e':=L.2.2.1 ▸ e';injection e'
  rw[zc _ _ q];exact H.oa a mo e'
 .rw[zc _ _ (Hk L.2.2.2)];exact H.tf
 .refine xM (H.stk en hen) λh1 L' oL h2 h3 h4=>?_
  exact uH h1 L' oL h2 (by rw[zc _ _ (by rintro rfl;replace h3:=L.1 ▸ h3;injection h3)];exact h3) h4
theorem HP.show (H:HP w l (upd F it o) I own h) (hF:F it=fp) (hc:o.cls≠.type "frame"):HP w l F I own h/\Loose F I own it/\h.get? it=fm o:=by
 have eo:upd F it o it=fm o:=zd ..
 have lo:Loose F I own it:=⟨hF,H.fi _ _ eo,by
   cases q:own it with
   | none=>rfl
   | some mo=>exact absurd ((H.oa _ _ q).1.symm.trans eo) (by (intro h;injection h;done)),by rintro q;have:=H.tf;(replace this:=(Gq q) ▸ this;replace this:=Gj (Gq (eo)) this);injection this⟩
 have up:∀ a oa,F a=fm oa->upd F it o a=fm oa:=λa oa e=>by rw[zc _ _ (by rintro rfl;replace e:=Gj (Gq (hF)) e;injection e)];exact e
 refine⟨⟨λa oa e=>H.fr a oa (up a oa e),H.fz,H.ow,λa oa e=>H.fi a oa (up a oa e),λa mo e=>⟨?_,(H.oa a mo e).2⟩,?_,H.ti,H.tab,H.base,λen hen=>?_⟩,lo,?_⟩
 .cases q:F a with
  | none=>rfl
  | some oa=>have:=(H.oa a mo e).1;replace this:=Gj (Gq (up a oa q)) this;injection this
 .cases q:F tabP with
  | none=>rfl
  | some oa=>have:=H.tf;replace this:=Gj (Gq (up _ oa q)) this;injection this
 .refine xM (H.stk en hen) λh1 L' oL h2 h3 h4=>?_
  have q:L'≠it:=by rintro rfl;replace h3:=Gj (Gq (eo)) h3;(injection h3 with E1;subst E1);exact hc h4.1
  exact uH h1 L' oL h2 (by replace h3:=Gj (Gq (zc _ _ q)) h3;exact h3) h4
 .refine xEA (H.fr _ _ eo) λo' h1 h2=>?_
  rcases h2 with rfl | ⟨h3,_⟩
  .exact h1
  .exact absurd h3 hc
theorem xH (hG:G it=fp):uni (upd F it o) G=upd (uni F G) it o:=by
 funext a
 by_cases q:a=it
 .subst q;rw[zd];delta uni;rw[hG];exact zd ..
 .rw[zc _ _ q];delta uni;cases G a with
  | none=>exact zc _ _ q
  | some x=>rfl
theorem Rep.hide {s:Gg} {G:PH} (H:HP w l (uni F G) I ρ.own s.heap) (L:Loc I env ρ.loc G) (D:∀ a o,G a=fm o->F a=fp) (Li:Loose (uni F G) I ρ.own it) (e:s.heap.get? it=fm o):Rep w l (upd F it o) I env ρ s:=by
 have hG:G it=fp:=by
  cases q:G it with
  | none=>rfl
  | some x=>have:=Li.1;replace this:=Gj (Gq (zm q)) this;injection this
 refine⟨G,by rw[xH hG];exact H.hide Li e,L,λa oa ha=>?_⟩
 rw[zc _ _ (by rintro rfl;replace ha:=Gj (Gq (hG)) ha;injection ha)];exact D a oa ha
theorem Rep.show {s:Gg} (R:Rep w l (upd F it o) I env ρ s) (hF:F it=fp) (hc:o.cls≠.type "frame") :
  ∃ G,HP w l (uni F G) I ρ.own s.heap/\Loc I env ρ.loc G/\(∀ a o,G a=fm o->F a=fp)/\Loose (uni F G) I ρ.own it/\s.heap.get? it=fm o:=by
 obtain⟨G,H,L,D⟩:=R
 have hG:G it=fp:=by
  cases q:G it with
  | none=>rfl
  | some x=>have:=D _ _ q;rewrite [zd] at this;injection this
 replace H:=xH hG ▸ H
 have hu:uni F G it=fp:=by delta uni;rw[hG];exact hF
 refine xAA (H.show hu hc) λH1 L1 e1=>?_
 refine vt G H1 L (λa oa ha=>?_) L1 e1
 have:=D a oa ha
 rewrite [zc _ _ (by rintro rfl;rw[hG] at ha;cases ha)] at this;exact this
inductive Iy (w:K6) (l:List Env) (F I:PH) (own:Own) (s:Gg) (it:Gn) (d:PV) (At:Obj->Prop) (r:Option Gd) (s':Gg):Prop
 | mk (v:Gd) (o':Obj) (J:PH):r=fm v->Sub I J->HP w l F J own s'.heap->Loose F J own it->VR J v d->s'.heap.get? it=fm o'->At o'->Same s s'->Iy w l F I own s it d At r s'
structure Itr (w:K6) (k:Lv) (C:PH->Own->Prop) (it:Gn) (ds:List PV) (At:Nat->Obj->Prop):Prop where
 nf:∀ i o,At i o->o.cls≠.type "frame"
 nd:∀ i o,At i o->(∀ es n,o.data≠.dict es n)/\∀ v,o.data≠.cell v
 item:∀ (A:GZ) (l:List Env) (F I:PH) (own:Own) (s:Gg) (i:Nat) (d:PV) (o:Obj),OkA k A l->HP w l F I own s.heap->C I own->Loose F I own it->s.heap.get? it=fm o->At i o->ds[i]? = fm d ->
  Gf (mdl w) A (NZ (.ref it)) (Iy w l F I own s it d (At (i+1))) (λZ Z=>False) s
 done:∀ (A:GZ) (l:List Env) (F I:PH) (own:Own) (s:Gg) (o:Obj),OkA k A l->HP w l F I own s.heap->C I own->Loose F I own it->s.heap.get? it=fm o->At ds.length o ->
  Gf (mdl w) A (NZ (.ref it)) (λr s'=>r=fp/\HP w l F I own s'.heap/\Same s s') (λZ Z=>False) s
 self:∀ (A:GZ) (l:List Env) (F I:PH) (own:Own) (s:Gg) (o:Obj),OkA k A l->HP w l F I own s.heap->Loose F I own it->s.heap.get? it=fm o->At 0 o ->
  Gf (mdl w) A (Xs (.ref it)) (λr s'=>r=.ref it/\s'=s) (λZ Z=>False) s
 tup:∀ (A:GZ) (s:Gg) (i:Nat) (o:Obj) (v:Gd) (tgt:Expr),s.heap.get? it=fm o->At i o->∀ (Q:Unit->Gg->Prop) (E:Gd->Gg->Prop),Q () s->Gf (mdl w) A (Xg tgt (.ref it) v) Q E s
inductive Jy (w:K6) (k:Lv) (CO:Own->Prop) (ds:List PV) (l:List Env) (F I:PH) (own:Own) (s:Gg) (r:Gd) (s':Gg):Prop
 | mk (it:Gn) (o:Obj) (J:PH) (CI:PH->Prop) (At:Nat->Obj->Prop):r=.ref it->Sub I J->HP w l F J own s'.heap->Loose F J own it->s'.heap.get? it=fm o->At 0 o->Mono CI->CI J->Itr w k (λI own=>CI I/\CO own) it ds At->Same s s'->Jy w k CO ds l F I own s r s'
noncomputable def Itb (w:K6) (k:Lv) (CO:Own->Prop) (d:PV) (ds:List PV):Prop :=
 ∀ (A:GZ) (l:List Env) (F I:PH) (own:Own) (s:Gg) (v:Gd),OkA k A l->HP w l F I own s.heap->CO own->VR I v d ->
  Gf (mdl w) A (Xs v) (Jy w k CO ds l F I own s) (λZ Z=>False) s
theorem Rep.store {A:GZ} {s:Gg} {x:Str} {v:Gd} {d:PV} {E:Gd->Gg->Prop} {Q:Unit->Gg->Prop} (X:Rep w l F I env ρ s) (hl:Nm env x) (hv:VR I v d)
  (h:∀ s',Rep w l F I env (ρ.set x d) s'->Same s s'->Q () s'):Gf (mdl w) A (VB env x v) Q E s:=by
 rcases hl with hl | hl
 .exact X.storeL hl hv h
 .refine xE (((X).casesOn λG Z L Z=>L.has x hl)) λc hc=>?_
  exact X.storeC hl hc hv h
theorem f8 {x:Str} {tp pos:Pos} {iter:Expr} {body orelse:List HF} {d:PV} {ds:List PV} {CO:Own->Prop} (hb:k.b=Gh) (hi:EVd w k env ρ iter d) (hI:Itb w k CO d ds) (hl:Nm env x) (J:Nat->PSt->Prop) (hJ:J 0 ρ)
  (hCO:∀ i ρ',J i ρ'->CO ρ'.own)
  (hbody:∀ i d ρ',ds[i]? = fm d->J i ρ'->EX w k env (ρ'.set x d) body (λp ρ''=>match p with | .next | .cont=>J (i+1) ρ'' | .brk=>Φ .next ρ'' | .ret d=>Φ (.ret d) ρ'') Ψ)
  (hfin:∀ ρ',J ds.length ρ'->EX w k env ρ' orelse Φ Ψ) (hs:∀ x,Kl iter env x=pure x:=by intro _;rfl):EX1 w k env ρ (.For (.Name x tp) iter body orelse pos) Φ Ψ:=by
 intro A l F I s hA R
 show let Q':=_;let E':=_;Gf _ _ _ Q' E' _;intro Q' E'
 refine wpAny_For (mA (hi.at hA R trivial) (λv s1 I1 a1 R1 r1 q1=>?_)) hs
 show let Q':=_;let E':=_;Gf _ _ _ Q' E' _;intro Q' E'
 obtain⟨G1,H1,L1,D1⟩:=R1
 refine Gm (hI A (env::l) _ I1 ρ.own s1 v hA H1 (hCO 0 ρ hJ) r1) (λr s2 E9=>E9.casesOn λit o I2 CI At er a2 H2 Li eit hat mCI hCI IT q2=>?_) λZ Z x=>x.elim
 subst er
 have up:∀ {I1:PH} {s1 s2:Gg} {ev:Gd},Sub I I1->Same s s1->XP w l F I1 env s1 Ψ ev s2->XP w l F I env s Ψ ev s2:=λa q E9=>E9.casesOn λI' ρ' x b X q' c=>⟨I',ρ',x,a.trans b,X,q.trans q',c⟩
 have hFit:F it=fp:=by
  have:=Li.1
  unfold uni at this
  split at this
  .injection this
  .exact this
 refine gB (λn s3=>∃ i I3 ρ3 G3 o3,n=ds.length-i/\i<=ds.length/\Sub I I3/\CI I3/\HP w (env::l) (uni F G3) I3 ρ3.own s3.heap/\Loc I3 env ρ3.loc G3/\(∀ a o,G3 a=fm o->F a=fp)/\Loose (uni F G3) I3 ρ3.own it/\s3.heap.get? it=fm o3/\At i o3/\J i ρ3/\Same s s3) ?_ ds.length
  (uX 0 I2 ρ G1 o rfl (GU _) (a1.trans a2) hCI H2 (L1.mono a2) D1 Li eit hat hJ (q1.trans q2))
 intro n s3 E9;refine uU E9 λi I3 ρ3 G3 o3 hn hile a3 hC3 H3 L3 D3 Li3 e3 at3 j3 q3=>?_;clear E9
 show let Q':=_;let E':=_;Gf _ _ _ Q' E' _;intro Q' E'
 cases hd:ds[i]? with
 | none =>
  have hil:i=ds.length:=by have:=G0.mp hd;exact Op hile this
  subst hil
  refine Gm (IT.done A (env::l) _ I3 ρ3.own s3 o3 hA H3 ⟨hC3,hCO _ _ j3⟩ Li3 e3 at3) (λr s4 E9=>xAA E9 λer H4 q4=>?_) λZ Z x=>x.elim
  subst er
  exact fQ (Ψ:=Ψ) hA.fr hA.fr (Gm (hfin ρ3 j3 A l F I3 s4 hA ⟨G3,H4,L3,D3⟩) (λf s5 E9=>E9.casesOn λI5 ρ5 p a5 R5 r5 q5 c5=>⟨I5,ρ5,p,a3.trans a5,R5,r5,q3.trans (q4.trans q5),c5⟩) λev s5 x=>up a3 (q3.trans q4) x)
 | some d1 =>
  have hlt:i<ds.length:=(GK.mp hd).1
  refine Gm (IT.item A (env::l) _ I3 ρ3.own s3 i d1 o3 hA H3 ⟨hC3,hCO _ _ j3⟩ Li3 e3 at3 hd) (λr s4 E9=>E9.casesOn λv4 o4 I4 er a4 H4 Li4 r4 e4 at4 q4=>?_) λZ Z x=>x.elim
  subst er
  refine IT.tup A s4 (i+1) o4 v4 _ e4 at4 _ _ ?_
  have R4:Rep w (env::l) (upd F it o4) I4 env ρ3 s4:=Rep.hide H4 (L3.mono a4) D3 Li4 e4
  refine KD (R4.store hl r4 λs5 R5 q5=>?_)
  show let Q':=_;let E':=_;Gf _ _ _ Q' E' _;intro Q' E'
  have hX:∀ ev s6,XP w l (upd F it o4) I4 env s5 Ψ ev s6->XP w l F I env s Ψ ev s6:=by
   rintro ev s6 ⟨I',ρ',x,b,⟨G',H',L',D',X'⟩,q',c⟩
   have hG':G' it=fp:=by
    cases q:G' it with
    | none=>rfl
    | some y=>have:=D' _ _ q;rewrite [zd] at this;injection this
   rw[xH hG'] at H' X'
   have hu:uni F G' it=fp:=by delta uni;rw[hG'];exact hFit
   refine xAA (H'.show hu (IT.nf _ _ at4)) λH'' Z Z=>?_
   refine⟨I',ρ',x,a3.trans (a4.trans b),⟨G',H'',L',λa oa ha=>?_,?_⟩,q3.trans (q4.trans (q5.trans q')),c⟩
   .have:=D' a oa ha
    rewrite [zc _ _ (by rintro rfl;rw[hG'] at ha;cases ha)] at this;exact this
   .obtain⟨e,oe,vs,h1,h2,h3,h4,h5,h6,h7,hctx,h8⟩:=X'
    have lo:∀ a,Loose (upd (uni F G') it o4) I' ρ'.own a->Loose (uni F G') I' ρ'.own a:=λa E9=>E9.elim λx1 x2=>⟨by
     have q:a≠it:=by rintro rfl;rewrite [zd] at x1;injection x1
     replace x1:=Gj (Gq (zc _ _ q)) x1;exact x1,x2⟩
    refine⟨e,oe,vs,h1,lo e h2,h3,h4,h5,h6,h7,hctx,?_⟩
    rcases h8 with h8 | ⟨T,oT,ts,y1,y2,y3,y4,y5,y6⟩
    .exact .inl h8
    .exact .inr ⟨T,oT,ts,y1,lo T y2,y3,y4,y5,y6⟩
  refine fQ (Ψ:=Ψ) hA.fr hA.fr (Gm (hbody i d1 ρ3 hd j3 A l (upd F it o4) I4 s5 hA R5) (λf s6 E9=>E9.casesOn λI6 ρ6 p a6 R6 r6 q6 c6=>?_) λev s6 x=>hX ev s6 x)
  refine xm (R6.show hFit (IT.nf _ _ at4)) λG6 H6 L6 D6 Li6 e6=>?_
  have a36:=a3.trans (a4.trans a6)
  have q36:=q3.trans (q4.trans (q5.trans q6))
  cases f<;>cases p<;>first | exact r6.elim | skip
  .exact⟨ds.length-(i+1),by exact pB ‹_› ‹_›,i+1,I6,ρ6,G6,o4,rfl,by exact Hi ‹_›,a36,mCI _ _ (a4.trans a6) hC3,H6,L6,D6,Li6,e6,at4,c6,q36⟩
  .exact⟨I6,ρ6,.next,a36,⟨G6,H6,L6,D6⟩,trivial,q36,c6⟩
  .exact⟨ds.length-(i+1),by exact pB ‹_› ‹_›,i+1,I6,ρ6,G6,o4,rfl,by exact Hi ‹_›,a36,mCI _ _ (a4.trans a6) hC3,H6,L6,D6,Li6,e6,at4,c6,q36⟩
  .exact⟨I6,ρ6,_,a36,⟨G6,H6,L6,D6⟩,r6,q36,c6⟩
theorem de {x:Str} {tp pos:Pos} {iter:Expr} {body orelse:List HF} {d:PV} {ds:List PV} {CO:Own->Prop} (hb:k.b=Gh) (hi:EVd w k env ρ iter d) (hI:Itb w k CO d ds) (hl:env.kindOf x=fm .local) (J:Nat->PSt->Prop) (hJ:J 0 ρ)
  (hCO:∀ i ρ',J i ρ'->CO ρ'.own)
  (hbody:∀ i d ρ',ds[i]? = fm d->J i ρ'->EX w k env (ρ'.set x d) body (λp ρ''=>match p with | .next | .cont=>J (i+1) ρ'' | .brk=>Φ .next ρ'' | .ret d=>Φ (.ret d) ρ'') Ψ)
  (hfin:∀ ρ',J ds.length ρ'->EX w k env ρ' orelse Φ Ψ) (hs:∀ x,Kl iter env x=pure x:=by intro _;rfl):EX1 w k env ρ (.For (.Name x tp) iter body orelse pos) Φ Ψ :=
 f8 hb hi hI (.inl hl) J hJ hCO hbody hfin hs
end
section
theorem yM {A:GZ} {s:Gg} {it:Gn} {o:Obj} {n:String} {v:Gd} {tgt:Expr} {Q:Unit->Gg->Prop} {E:Gd->Gg->Prop} (e:s.heap.get? it=fm o) (hc:o.cls=.type n)
  (hn:(["enumerate","zip","dict_itemiterator","dict_reverseitemiterator","odict_iterator","itertools.zip_longest","itertools.pairwise"].contains n)=Gk) (h:Q () s):Gf (mdl w) A (Xg tgt (.ref it) v) Q E s:=by
 have base:∀ a:Gn,Gf (mdl w) A (do
   let o ← load it
   match o.cls,o.data with
   | .type n,.fields vs =>
    if ["enumerate","zip","dict_itemiterator","dict_reverseitemiterator","odict_iterator","itertools.zip_longest","itertools.pairwise"].contains n&&vs[0]? == fm (LM a) then
     rule "for.unpacks-the-owned-tuple"
     updateField it 0 .none
   | _,_=>pure ()) Q E s:=by
  intro a
  refine Ga (gI e ?_)
  rw[hc]
  cases o.data with
  | fields vs =>
   show Gf _ _ (if (["enumerate","zip","dict_itemiterator","dict_reverseitemiterator","odict_iterator","itertools.zip_longest","itertools.pairwise"].contains n&&vs[0]? == fm (LM a))=Gh then _ else _) _ _ _
   rw[hn,WJ,if_neg Gv]
   exact Gb h
  | _=>exact Gb h
 cases tgt<;>first | exact Gb h | (cases v<;>first | exact Gb h | exact base _)
theorem VRs.toArray_get {I:PH} {vs:List Gd} {ds:List PV} (h:VRs I vs ds) {i:Nat} {d:PV} (e:ds[i]? = fm d):∃ v,vs.toArray[i]? = fm v/\VR I v d:=by
 (refine xEA (h.get e) λv h1 h2=>?_);exact iEA v (by simpa using h1) h2
theorem Itr.list {C:PH->Own->Prop} {it a:Gn} {ds:List PV} (hb:k.b=Gh) (hne:a≠it)
  (hC:∀ l F I own (s:Gg),HP w l F I own s.heap->C I own->∃ vs n,s.heap.get? a=fm { cls:=.type "list",data:=.seq vs.toArray n }/\VRs I vs ds) :
  Itr w k C it ds (λi o=>o.cls=.type "list_iterator" /\ o.data=.fields #[.ref a,.int i 0]) where
 nf:=λi o h=>by rw[h.1];exact dc rfl
 nd:=λi o h=>⟨λZ Z q=>(nomatch h.2.symm.trans q),λZ q=>(nomatch h.2.symm.trans q)⟩
 item:=λA l F I own s i d o hA H hc Li e hat hd=>by
  refine xEEA (hC l F I own s H hc) λvs n ea r=>?_
  refine xEA (r.toArray_get hd) λv hv rv=>?_
  refine wpAny_pyNext_list_item (iEA o e hat) (zj _ ea rfl n rfl) hv λh' hit hs=>?_
  refine xEA hit λo' e' hat'=>?_;try clear hit
  exact⟨v,o',I,rfl,.refl I,H.at_loose Li hs.extBut,Li,rv,e',hat',⟨rfl,rfl⟩⟩
 done:=λA l F I own s o hA H hc Li e hat=>by
  refine xEEA (hC l F I own s H hc) λvs n ea r=>?_
  refine wpAny_pyNext_list_end (hA.hd hb) (iEA o e hat) (zj _ ea rfl n rfl) ?_ λh' hs=>⟨rfl,H.at_loose Li hs,⟨rfl,rfl⟩⟩
  have:=r.length
  simp;exact KB this
 self:=λA l F I own s o hA H Li e hat=>wpAny_pyIter_listiter (i:=0) (iEA o e hat) ⟨rfl,rfl⟩
 tup:=λA s i o v tgt e hat Q E h=>yM e hat.1 (Hv Gk) h
theorem Itb.lst {ds:List PV} (hb:k.b=Gh):Itb w k (λZ=>True) (.lst ds) ds:=by
 intro A l F I own s v hA H _ r
 cases r using VR.cl with
 | @lst a vs n e r =>
  have ea:=H.fz _ _ e
  refine Wi (zj _ ea rfl n rfl) ⟨s.heap.objs.size,_,I,λI=>I a=fm { cls:=.type "list",data:=.seq vs.toArray n }/\VRs I vs ds,_,rfl,.refl I,H.push _,H.new,GA _ rfl,⟨rfl,rfl⟩,λI J s h=>⟨s _ _ h.1,h.2.mono s⟩,⟨e,r⟩,
   Itr.list hb (HZ (HU ea)) (λl F I own s H hc=>(iEEA vs n (H.fz _ _ hc.1.1) hc.1.2)),⟨rfl,rfl⟩⟩
theorem Av {a:Gn} {ds:List PV} (hb:k.b=Gh):Itb w k (λown=>own a=fm (.lst ds)) (.ref a) ds:=by
 intro A l F I own s v hA H hc r
 show let Q':=_;let E':=_;Gf _ _ _ Q' E' _;intro Q' E'
 cases r using dG with
 | ref =>
  refine zR (H.ow _ _ hc) λo ea vs n E5 r=>?_;subst E5
  refine Wi (zj _ ea rfl n rfl) ⟨s.heap.objs.size,_,I,λZ=>True,_,rfl,.refl I,H.push _,H.new,GA _ rfl,⟨rfl,rfl⟩,di,trivial,
   Itr.list hb (HZ (HU ea)) (λl F I own s H hc=>?_),⟨rfl,rfl⟩⟩
  refine zR (H.ow _ _ hc.2) λo ea vs n E5 r=>?_;subst E5
  exact iEEA vs n ea r
theorem Al {C:PH->Own->Prop} {it a:Gn} {ds:List PV} (hb:k.b=Gh)
  (hC:∀ l F I own (s:Gg),HP w l F I own s.heap->C I own->∃ vs n,s.heap.get? a=fm { cls:=.type "tuple",data:=.seq vs.toArray n }/\VRs I vs ds) :
  Itr w k C it ds (λi o=>o.cls=.type "tuple_iterator" /\ o.data=.fields #[.ref a,.int i 0]) where
 nf:=λi o h=>by rw[h.1];exact dc rfl
 nd:=λi o h=>⟨λZ Z q=>(nomatch h.2.symm.trans q),λZ q=>(nomatch h.2.symm.trans q)⟩
 item:=λA l F I own s i d o hA H hc Li e hat hd=>by
  refine xEEA (hC l F I own s H hc) λvs n ea r=>?_
  refine xEA (r.toArray_get hd) λv hv rv=>?_
  refine wpAny_pyNext_tuple_item (iEA o e hat) (zj _ ea rfl n rfl) hv λh' hit hs=>?_
  refine xEA hit λo' e' hat'=>?_;try clear hit
  exact⟨v,o',I,rfl,.refl I,H.at_loose Li hs.extBut,Li,rv,e',hat',⟨rfl,rfl⟩⟩
 done:=λA l F I own s o hA H hc Li e hat=>by
  refine xEEA (hC l F I own s H hc) λvs n ea r=>?_
  refine wpAny_pyNext_tuple_end (hA.hd hb) (iEA o e hat) (zj _ ea rfl n rfl) ?_ λh' hs=>⟨rfl,H.at_loose Li hs,⟨rfl,rfl⟩⟩
  have:=r.length
  simp;exact KB this
 self:=λA l F I own s o hA H Li e hat=>wpAny_pyIter_tupleiter (i:=0) (iEA o e hat) ⟨rfl,rfl⟩
 tup:=λA s i o v tgt e hat Q E h=>yM e hat.1 (Hv Gk) h
theorem Itb.tup {ds:List PV} (hb:k.b=Gh):Itb w k (λZ=>True) (.tup ds) ds:=by
 intro A l F I own s v hA H _ r
 cases r using dv with
 | @tup a vs n e r =>
  have ea:=H.fz _ _ e
  refine wpAny_pyIter_tuple (zj _ ea rfl n rfl) ⟨s.heap.objs.size,_,I,λI=>I a=fm { cls:=.type "tuple",data:=.seq vs.toArray n }/\VRs I vs ds,_,rfl,.refl I,H.push _,H.new,GA _ rfl,⟨rfl,rfl⟩,λI J s h=>⟨s _ _ h.1,h.2.mono s⟩,⟨e,r⟩,
   Al hb (λl F I own s H hc=>(iEEA vs n (H.fz _ _ hc.1.1) hc.1.2)),⟨rfl,rfl⟩⟩
noncomputable def rngL (n:Nat):List PV:=(GH n).map λ(i:Nat)=>PV.int (i:Int)
theorem zL {n i:Nat} {d:PV} (h:(rngL n)[i]? = fm d):i<n/\d=.int i:=by
 delta rngL at h
 replace h:=(Gx) ▸ h;rewrite [Gz] at h
 refine xEA h λj h1 h2=>?_;try clear h
 obtain⟨h3,h4⟩:=GK.mp h1
 simp at h3 h4
 subst h4
 exact⟨h3,h2.symm⟩
theorem zx (n:Nat):(rngL n).length=n:=by simp[rngL]
theorem Itb.rng {n:Nat} (hb:k.b=Gh) (hn:n<=100000):Itb w k (λZ=>True) (.rng n) (rngL n):=by
 intro A l F I own s v hA H _ r
 cases r using VR.cg with
 | @rng a t u tv e =>
  have ea:=H.fz _ _ e
  have hsz:VF 0 n 1=n:=by
   delta VF
   rw[if_pos (dc rfl)]
   split<;>lia
  have hsm:Wf 0 n 1=Gh:=by
   delta Wf Builtin.Range.rangeFitsLong
   rw[hsz]
   simp
   lia
  refine wpAny_pyIter_range (a:=0) (b:=n) (c:=1) ea hsm ⟨s.heap.objs.size,_,I,λZ=>True,λi o=>o={ cls:=.type "range_iterator",data:=.fields #[LM i,LM ((n:Int)-i),LM 1] },rfl,.refl I,H.push _,H.new,GA _ rfl,?_,di,trivial,
   { nf:=?_,nd:=?_,item:=?_,done:=?_,self:=?_,tup:=?_ },⟨rfl,rfl⟩⟩
  .rw[hsz];simp
  .rintro i o rfl;show HH "range_iterator" ≠ HH "frame";exact dc rfl
  .rintro i o rfl;exact⟨λZ Z q=>(nomatch q),λZ q=>(nomatch q)⟩
  .rintro A l F I own s i d o hA H _ Li e rfl hd
   obtain⟨hi,rfl⟩:=zL hd
   refine wpAny_pyNext_range_item e (by lia) λh' hit hs=>?_
   refine⟨_,_,I,rfl,.refl I,H.at_loose Li hs.extBut,Li,.int _ _,hit,?_,⟨rfl,rfl⟩⟩
   have e1:(i:Int)+1=((i+1:Nat):Int):=by rfl
   have e2:(n:Int)-(i:Int)-1=(n:Int)-((i+1:Nat):Int):=by lia
   rw[e1,e2]
  .rintro A l F I own s o hA H _ Li e rfl
   rewrite [zx] at e
   exact wpAny_pyNext_range_end (hA.hd hb) e (by lia) λh' hs=>⟨rfl,H.at_loose Li hs,⟨rfl,rfl⟩⟩
  .rintro A l F I own s o hA H Li e rfl
   exact wpAny_pyIter_rangeiter e ⟨rfl,rfl⟩
  .rintro A s i o v tgt e rfl Q E h
   exact yM e rfl (Hv Gk) h
end
section
variable {env cenv:Env}
inductive RepC (w:K6) (l:List Env) (F I:PH) (cenv:Env) (X:Str->Prop) (loc:List (Str×PV)) (own:Own) (s:Gg):Prop
 | mk (G:PH):HP w l (uni F G) I own s.heap->Loc I cenv loc (uni F G)->(∃ o,G cenv.locals=fm o/\o.cls≠.type "frame")->(∀ x c,X x->cenv.kindOf x=fm .cell->cenv.cells.lookup x=fm c->∃ o,G c=fm o)->(∀ a o,G a=fm o->F a=fp)->RepC w l F I cenv X loc own s
theorem Loc.weaken {G:PH} {loc loc':List (Str×PV)} (h:Loc I env loc G) (hw:∀ y e,loc'.lookup y=fm e->loc.lookup y=fm e):Loc I env loc' G where
 kind:=h.kind
 glo:=h.glo
 blt:=h.blt
 ns:=xEA (h.ns) λm h1 h2=>(iEA m h1 (λx d e k=>h2 x d (hw x d e) k))
 cell:=λx d e k=>h.cell x d (hw x d e) k
 cells:=h.cells
 inj:=h.inj
 has:=h.has
theorem RepC.weaken {X:Str->Prop} {loc loc':List (Str×PV)} {s:Gg} (R:RepC w l F I cenv X loc own s) (hw:∀ y e,loc'.lookup y=fm e->loc.lookup y=fm e):RepC w l F I cenv X loc' own s :=
 (R).casesOn λG H L h1 h2 D=>⟨G,H,L.weaken hw,h1,h2,D⟩
theorem qp {F G:PH} {a:Gn} {o:Obj}:uni F (upd G a o)=upd (uni F G) a o:=by
 funext b
 by_cases q:b=a
 .subst q;rw[zd];exact zm (zd ..)
 .rw[zc _ _ q];delta uni;rw[zc _ _ q]
theorem RepC.store {X:Str->Prop} {loc:List (Str×PV)} {s:Gg} {x:Str} {v:Gd} {d:PV} {Q:Unit->Gg->Prop} (R:RepC w l F I cenv X loc own s) (hX:X x) (hk:cenv.kindOf x=fm .local\/cenv.kindOf x=fm .cell) (hv:VR I v d)
  (h:∀ s',RepC w l F I cenv X ((x,d)::loc) own s'->Same s s'->(∀ b o,Loose F I own b->s.heap.get? b=fm o->(∀ c,cenv.cells.lookup x=fm c->b≠c)->b≠cenv.locals->s'.heap.get? b=fm o)->Q () s'):Gf (mdl w) A (VB cenv x v) Q E s:=by
 obtain⟨G,H,L,⟨oC,eC,hoC⟩,hc,D⟩:=R
 rcases hk with hl | hl
 .refine xEA (L.ns) λm E24 hv'=>?_;obtain⟨o,es,ep,e,hd,hk,hm⟩:=E24
  refine xEA (H.fr _ _ e) λo1 e1 hs1=>?_
  rw[fg hl (by rw[L.kind];rfl)]
  refine qX e1 (hs1.data.trans hd) hk λh' es' ep' e' hk' hm' hs=>?_
  have eo:oC=o:=by replace e:=zm eC ▸ e;exact K5 e
  subst eo
  refine h _ ⟨upd G cenv.locals { o1 with data:=.dict es' ep' },H.setG eC hs.extBut e' (λf=>(iAEE (hs1.cls.trans f.1) _ _ rfl)),?_,(iEA _ (zd ..) (by show o1.cls≠_;rw[hs1.cls];exact hoC)),λy c hy hky hcy=>?_,λb o2 e2=>?_⟩ ⟨rfl,rfl⟩ λb o2 Z e2 Z hbC=>(hs.2 b hbC).trans e2
  .rw[qp]
   refine⟨L.kind,L.glo,L.blt,⟨_,⟨_,es',ep',zd ..,rfl,hk',hm'⟩,λy dy hy hly=>?_⟩,λy dy hy hky=>?_,λy c hc=>?_,L.inj,L.has⟩
   .by_cases q:y=x
    .subst q
     replace hy:=ze ▸ hy
     (injection hy with E1;subst E1);exact iEA v (if_pos rfl) hv
    .replace hy:=zb q ▸ hy
     refine xEA (hv' y dy hy hly) λu h1 h2=>?_
     exact iEA u (by rw[if_neg q,hm];exact h1) h2
   .have q:y≠x:=by
     rintro rfl
     replace hky:=hl ▸ hky
     rcases hky with hky | hky<;>(injection hky with E1;injection E1)
    replace hy:=zb q ▸ hy
    refine zs (L.cell y dy hy hky) λc oc u h1 h2 h3 h4=>?_
    exact zI c oc u h1 (by rw[zc _ _ (L.cells y c h1).1];exact h2) h3 h4
   .refine zJ (L.cells y c hc) λh1 oc u h2 h3=>?_
    exact yx h1 oc u (by rw[zc _ _ h1];exact h2) h3
  .refine xE (hc y c hy hky hcy) λoc hoc=>?_
   exact⟨oc,by rw[zc _ _ (L.cells y c hcy).1];exact hoc⟩
  .by_cases q:b=cenv.locals
   .subst q;exact D _ _ eC
   .replace e2:=zc _ _ q ▸ e2;exact D _ _ e2
 .refine xE (L.has x hl) λc hcl=>?_
  refine xE (hc x c hX hl hcl) λoc hoc=>?_
  refine zJ (L.cells x c hcl) λhne oc' u e hd=>?_
  have eo:oc'=oc:=by replace e:=zm hoc ▸ e;(injection e with E1;subst E1);rfl
  subst eo
  refine xEA (H.fr _ _ e) λo1 e1 hs1=>?_
  refine gc L.kind hl hcl (iEA o1 e1 (hs1.data.trans hd)) λh' hc' hs=>?_
  refine xEA (hc') λo2 e2 hd2=>?_;try clear hc'
  refine h _ ⟨upd G c o2,H.setG hoc hs.extBut e2 (λf=>?_),?_,(iEA oC (by rw[zc _ _ (Hk hne)];exact eC) hoC),λy c' hy hky hcy=>?_,λb o3 e3=>?_⟩ ⟨rfl,rfl⟩ λb o3 Z e3 hbc Z=>(hs.2 b (hbc c hcl)).trans e3
  ·(refine xAEE f λZ es n q=>?_;try clear f);replace q:=hd ▸ q;injection q
  .rw[qp]
   refine⟨L.kind,L.glo,L.blt,?_,λy dy hy hky=>?_,λy c' hc'=>?_,L.inj,L.has⟩
   .refine xEA (L.ns) λm E25 hv'=>?_;obtain⟨o,es,ep,e,hd,r,r2⟩:=E25
    refine iEA m ⟨o,es,ep,by rw[zc _ _ (Hk hne)];exact e,hd,r,r2⟩ (λy dy hy hly=>?_)
    have q:y≠x:=by rintro rfl;replace hly:=hl ▸ hly;(injection hly with E1;injection E1)
    replace hy:=zb q ▸ hy
    exact hv' y dy hy hly
   .by_cases q:y=x
    .subst q
     replace hy:=ze ▸ hy
     (injection hy with E1;subst E1);exact zI c o2 v hcl (zd ..) hd2 hv
    .replace hy:=zb q ▸ hy
     refine zs (L.cell y dy hy hky) λc' oc' u' h1 h2 h3 h4=>?_
     exact zI c' oc' u' h1 (by rw[zc _ _ (by rintro rfl;exact q (L.inj _ _ _ h1 hcl))];exact h2) h3 h4
   .by_cases q:c'=c
    .subst q;exact yx hne o2 (fm v) (zd ..) hd2
    .refine zJ (L.cells y c' hc') λh1 oc' u' h2 h3=>?_
     exact yx h1 oc' u' (by rw[zc _ _ q];exact h2) h3
  .by_cases q:c'=c
   .subst q;exact⟨o2,zd ..⟩
   .refine xE (hc y c' hy hky hcy) λoc' hoc'=>?_
    exact⟨oc',by rw[zc _ _ q];exact hoc'⟩
  .by_cases q:b=c
   .subst q;exact D _ _ hoc
   .replace e3:=zc _ _ q ▸ e3;exact D _ _ e3
end
section
variable {env cenv:Env} {X:Str->Prop} {loc:List (Str×PV)} {s:Gg} {G:PH} {it D:Gn} {o oD:Obj}
structure RC (w:K6) (l:List Env) (F I:PH) (cenv:Env) (X:Str->Prop) (loc:List (Str×PV)) (own:Own) (s:Gg) (G:PH):Prop where
 H:HP w l (uni F G) I own s.heap
 L:Loc I cenv loc (uni F G)
 c:∃ o,G cenv.locals=fm o/\o.cls≠.type "frame"
 cs:∀ x c,X x->cenv.kindOf x=fm .cell->cenv.cells.lookup x=fm c->∃ o,G c=fm o
 D:∀ a o,G a=fm o->F a=fp
theorem RC.rep (R:RC w l F I cenv X loc own s G):RepC w l F I cenv X loc own s:=⟨G,R.H,R.L,R.c,R.cs,R.D⟩
theorem RepC.open (R:RepC w l F I cenv X loc own s):∃ G,RC w l F I cenv X loc own s G:=(R).casesOn λG h1 h2 h3 h4 h5=>⟨G,h1,h2,h3,h4,h5⟩
theorem RC.hide (R:RC w l F I cenv X loc own s G) (Li:Loose (uni F G) I own it) (e:s.heap.get? it=fm o):RC w l (upd F it o) I cenv X loc own s G:=by
 have hG:G it=fp:=by
  cases q:G it with
  | none=>rfl
  | some x=>have:=Li.1;replace this:=Gj (Gq (zm q)) this;injection this
 have eu:=xH (F:=F) (o:=o) hG
 refine⟨by rw[eu];exact R.H.hide Li e,?_,R.c,R.cs,λa oa ha=>?_⟩
 .rw[eu]
  refine R.L.sub (fA Li.1)
 .rw[zc _ _ (by rintro rfl;replace ha:=Gj (Gq (hG)) ha;injection ha)];exact R.D a oa ha
theorem RC.show (R:RC w l (upd F it o) I cenv X loc own s G) (hF:F it=fp) (hc:o.cls≠.type "frame") (hd:(∀ es n,o.data≠.dict es n)/\∀ v,o.data≠.cell v):RC w l F I cenv X loc own s G/\Loose (uni F G) I own it/\s.heap.get? it=fm o:=by
 have hG:G it=fp:=by
  cases q:G it with
  | none=>rfl
  | some x=>have:=R.D _ _ q;rewrite [zd] at this;injection this
 have eu:=xH (F:=F) (o:=o) hG
 have H:=R.H
 have L:=R.L
 rw[eu] at H L
 have hu:uni F G it=fp:=by delta uni;rw[hG];exact hF
 refine xAA (H.show hu hc) λH1 L1 e1=>?_
 have eo:upd (uni F G) it o it=fm o:=zd ..
 refine⟨⟨H1,⟨L.kind,L.glo,L.blt,?_,λy dy hy hky=>?_,λy c' hc'=>?_,L.inj,L.has⟩,R.c,R.cs,λa oa ha=>?_⟩,L1,e1⟩
 .refine xEA (L.ns) λm E36 hv'=>?_;obtain⟨o',es,ep,e,hd',r,r2⟩:=E36
  have q:cenv.locals≠it:=by
   intro q
   (replace e:=q ▸ e;replace e:=Gj (Gq (eo)) e);(injection e with E1;subst E1);exact hd.1 _ _ hd'
  replace e:=Gj (Gq (zc _ _ q)) e
  exact iEA m ⟨o',es,ep,e,hd',r,r2⟩ hv'
 .refine zs (L.cell y dy hy hky) λc oc u h1 h2 h3 h4=>?_
  have q:c≠it:=by
   rintro rfl
   replace h2:=Gj (Gq (eo)) h2;(injection h2 with E1;subst E1);exact hd.2 _ h3
  replace h2:=Gj (Gq (zc _ _ q)) h2
  exact zI c oc u h1 h2 h3 h4
 .refine zJ (L.cells y c' hc') λh1 oc u h2 h3=>?_
  have q:c'≠it:=by
   rintro rfl
   replace h2:=Gj (Gq (eo)) h2;(injection h2 with E1;subst E1);exact hd.2 _ h3
  replace h2:=Gj (Gq (zc _ _ q)) h2
  exact yx h1 oc u h2 h3
 .have:=R.D a oa ha
  rewrite [zc _ _ (by rintro rfl;rw[hG] at ha;cases ha)] at this;exact this
theorem RC.mono {I':PH} {s':Gg} (R:RC w l F I cenv X loc own s G) (a:Sub I I') (H:HP w l (uni F G) I' own s'.heap):RC w l F I' cenv X loc own s' G:=⟨H,R.L.mono a,R.c,R.cs,R.D⟩
theorem yn {α:Type} {f:Gn->Option α} {a b:Gn} {x y:α} (h:a≠b):upd (upd f a x) b y=upd (upd f b y) a x:=by
 funext c
 by_cases q1:c=a
 .subst q1
  rw[zc _ _ h,zd,zd]
 .by_cases q2:c=b
  .subst q2;rw[zd,zc _ _ q1,zd]
  .rw[zc _ _ q2,zc _ _ q1,zc _ _ q1,zc _ _ q2]
noncomputable def lstO (vs:List Gd) (n:Nat):Obj:={ cls:=.type "list",data:=.seq vs.toArray n }
inductive Gy (w:K6) (l:List Env) (F I:PH) (cenv:Env) (X:Str->Prop) (loc:List (Str×PV)) (own:Own) (D:Gn) (s:Gg) (ys:List PV) (s':Gg):Prop
 | mk (J:PH) (vs:List Gd) (n:Nat):Sub I J->RepC w l (upd F D (lstO vs n)) J cenv X loc own s'->VRs J vs ys->Same s s'->Gy w l F I cenv X loc own D s ys s'
theorem QM (vs:List Gd) (n:Nat):(lstO vs n).cls≠.type "frame" := by show HH "list" ≠ _;exact dc rfl
theorem lstO_nd (vs:List Gd) (n:Nat):(∀ es m,(lstO vs n).data≠.dict es m)/\∀ v,(lstO vs n).data≠.cell v:=⟨λZ Z h=>(nomatch h),λZ h=>(nomatch h)⟩
theorem RepC.append {vs:List Gd} {n:Nat} {v:Gd} {Q:Gd->Gg->Prop} (R:RepC w l (upd F D (lstO vs n)) I cenv X loc own s) (hF:F D=fp) (hsz:vs.length<=100000)
  (h:∀ s' n',RepC w l (upd F D (lstO (vs++[v]) n')) I cenv X loc own s'->Same s s'->Q .none s'):Gf (mdl w) A (call (.builtin "list.append") [.ref D,v]) Q E s:=by
 refine xE (R.open) λG R=>?_
 refine xAA (R.show hF (QM _ _) (lstO_nd _ _)) λR1 L1 e1=>?_
 refine Ys ⟨n,e1⟩ (λh' hp hs=>?_) (by simp[N7];exact Gc ‹_› (lb rfl))
 refine xE hp λn' e'=>?_;try clear hp
 have e2:h'.get? D=fm (lstO (vs++[v]) n'):=by rw[e'];simp[lstO]
 exact h _ n' (RC.rep (RC.hide (s:={ s with heap:=h' }) (R1.mono (.refl I) (R1.H.at_loose L1 hs.extBut)) L1 e2)) ⟨rfl,rfl⟩
theorem vH {elt:Expr} {gens:List Ov} {scope:Xz} {pos:Pos} {dep:Nat} {x:Str} {px ip:Pos} {ifs:List Expr} {tk:Sem Fin->Sem Fin} {CI:PH->Prop} {CO:Own->Prop} {At:Nat->Obj->Prop} {ds:List PV} {p:PV->Bool} {f:PV->List PV} {caps:List (Str×PV)} {R:Result->Gg->Prop}
  (hturn:compTurn (.ListComp elt gens scope pos) dep (.ref it) (.ref D) cenv=(do
   Wj ip
   match ← NZ (.ref it) with
   | none=>pure (.done .next)
   | some v =>
    Xg (.Name x px) (.ref it) v
    assign (.Name x px) cenv v
    let mut ok:=Gh
    for c in ifs do
     if ok then ok ← isTrue c cenv (eval c cenv)
    if ok then tk (again (.compLoop (.ListComp elt gens scope pos) dep (.ref it) (.ref D) cenv))
    else again (.compLoop (.ListComp elt gens scope pos) dep (.ref it) (.ref D) cenv)))
  (hX:X x) (hk:cenv.kindOf x=fm .local\/cenv.kindOf x=fm .cell) (IT:Itr w k (λI own=>CI I/\CO own) it ds At) (mCI:Mono CI) (hCO:CO own)
  (hcond:∀ d∈ds,TD w k cenv ⟨(x,d)::caps,own⟩ (λZ=>True) (Xw ifs Gh λc r=>if r=Gh then do let ok ← isTrue c cenv (eval c cenv);pure (Kg ok) else pure (Kg r)) (λZ ok=>ok=p d))
  (hA:OkA k A l) (hFi:F it=fp) (hFD:F D=fp) (hne:it≠D) {I0:PH} {s0:Gg} {n0:Nat} {ys0:List PV} {vs0:List Gd}
  (htail:∀ i d,ds[i]? = fm d->p d=Gh->∀ (F1 I1:PH) (s1:Gg) (vs1:List Gd) (n1:Nat),F1 D=fp->RepC w l (upd F1 D (lstO vs1 n1)) I1 cenv X ((x,d)::caps) own s1->VRs I1 vs1 (ys0++((ds.take i).filter p).flatMap f) ->
   ∀ (K:Sem Fin) (Q:Fin->Gg->Prop) (E:Gd->Gg->Prop),(∀ s',(Gy w l F1 I1 cenv X ((x,d)::caps) own D s1 (ys0++((ds.take i).filter p).flatMap f++f d) s')->Gf (mdl w) A K Q E s') ->
   Gf (mdl w) A (tk K) Q E s1)
  (hcx:caps.lookup x=fp)
  (hR0:RepC w l (upd (upd F D (lstO vs0 n0)) it o) I0 cenv X caps own s0) (hvs0:VRs I0 vs0 ys0) (hat:At 0 o) (hCI:CI I0)
  (hfin:∀ s' I' vs n',Sub I0 I'->RepC w l (upd F D (lstO vs n')) I' cenv X caps own s'->VRs I' vs (ys0++(ds.filter p).flatMap f)->Same s0 s'->R (.ok .next) s') :
  Th (mdl w) A (.compLoop (.ListComp elt gens scope pos) dep (.ref it) (.ref D) cenv) R s0:=by
 have hF1:∀ vs n',upd F D (lstO vs n') it=fp:=λvs n'=>by rw[zc _ _ hne];exact hFi
 refine codeAny_loop rfl (λn s'=>∃ i I' vs n' o',n=ds.length+1-i/\i<=ds.length/\Sub I0 I'/\CI I'/\RepC w l (upd (upd F D (lstO vs n')) it o') I' cenv X caps own s'/\At i o'/\VRs I' vs (ys0++((ds.take i).filter p).flatMap f)/\Same s0 s') ?_ (ds.length+1)
  (JT 0 I0 vs0 n0 o rfl (GU _) (.refl _) hCI hR0 hat (by simpa using hvs0) (.refl _))
 intro n s' E9;refine JO E9 λi I' vs n' o' hn hile a1 hC1 R1 at1 v1 q1=>?_;clear E9
 show let Q':=_;let E':=_;Gf _ _ _ Q' E' _;intro Q' E'
 show Gf _ A ((compTurn (.ListComp elt gens scope pos) dep (.ref it) (.ref D) cenv).onRaise (λx=>do Yu x cenv;theTreesLotGoes x)) _ _ s'
 refine wpAny_noted ?_
 rw[hturn]
 refine Ga (Ka (Ga ?_))
 show let Q':=_;let E':=_;Gf _ _ _ Q' E' _;intro Q' E'
 refine xE (R1.open) λG R1=>?_
 refine xAA (R1.show (hF1 vs n') (IT.nf _ _ at1) (IT.nd _ _ at1)) λR2 Li ei=>?_
 cases hd:ds[i]? with
 | none =>
  have hil:i=ds.length:=by have:=G0.mp hd;exact Op hile this
  subst hil
  refine Gm (IT.done A l _ I' own s' o' hA R2.H ⟨hC1,hCO⟩ Li ei at1) (λr s4 E9=>xAA E9 λer H4 q4=>?_) λZ Z x=>x.elim
  show let Q':=_;let E':=_;Gf _ _ _ Q' E' _;intro Q' E'
  subst er
  exact Gb (hfin s4 I' vs n' a1 (RC.rep (R2.mono (.refl _) H4)) (by simpa using v1) (q1.trans q4))
 | some d =>
  have hlt:i<ds.length:=(GK.mp hd).1
  have hmem:d∈ds:=GS hd
  have htake:ds.take (i+1)=ds.take i++[d]:=by rw[Hx,hd];rfl
  refine Gm (IT.item A l _ I' own s' i d o' hA R2.H ⟨hC1,hCO⟩ Li ei at1 hd) (λr s4 E9=>E9.casesOn λv4 o4 I4 er a4 H4 Li4 r4 e4 at4 q4=>?_) λZ Z x=>x.elim
  show let Q':=_;let E':=_;Gf _ _ _ Q' E' _;intro Q' E'
  subst er
  have R4:=RC.rep (RC.hide (R2.mono a4 H4) Li4 e4)
  refine Ga (IT.tup A s4 (i+1) o4 v4 _ e4 at4 _ _ ?_)
  refine Ga (KD (R4.store hX hk r4 λs5 R5 q5 Z=>?_))
  refine xE (R5.open) λG5 R5=>?_
  refine Ga (mPf (hcond d hmem A l _ I4 s5 hA R5.H R5.L trivial) (λok s6 I6 a6 H6 r6 q6=>?_))
  have R6:=R5.mono a6 H6
  have hcapx:∀ y e,caps.lookup y=fm e->((x,d)::caps).lookup y=fm e:=λy e h=>by
   have q:y≠x:=by rintro rfl;replace h:=Gj (Gq (hcx)) h;injection h
   rw[zb q];exact h
  subst r6
  cases hp:p d with
  | false =>
   refine Gb ⟨rfl,ds.length+1-(i+1),by exact A1 ‹_› ‹_›,i+1,I6,vs,n',o4,rfl,by exact Hi ‹_›,a1.trans (a4.trans a6),mCI _ _ (a4.trans a6) hC1,?_,at4,?_,q1.trans (q4.trans (q5.trans q6))⟩
   .exact(RC.rep R6).weaken hcapx
   .rw[htake,LJ]
    rw[Ks,hp,Wb,if_neg Gv,Hl]
    exact v1.mono (a4.trans a6)
  | true =>
   have R7:=RC.rep R6
   replace R7:=(yn (Hk hne)) ▸ R7
   refine htail i d hd hp _ I6 s6 vs n' (by rw[zc _ _ (Hk hne)];exact hFD) R7 (v1.mono (a4.trans a6)) _ _ _ λs7 E9=>E9.casesOn λI7 vs7 n7 a7 R8 v7 q7=>?_
   have a47:=a4.trans (a6.trans a7)
   replace R8:=yn hne ▸ R8
   refine Gb ⟨rfl,ds.length+1-(i+1),by exact A1 ‹_› ‹_›,i+1,I7,vs7,n7,o4,rfl,by exact Hi ‹_›,a1.trans a47,mCI _ _ a47 hC1,R8.weaken hcapx,at4,?_,q1.trans (q4.trans (q5.trans (q6.trans q7)))⟩
   rw[htake,LJ]
   rw[Ks,hp,Wb,if_pos rfl,NE,Nh,Y8,Hl]
   rw[←He]
   exact v7
theorem Jr {elt:Expr} {y:PV} {loc:List (Str×PV)} {I1 F1:PH} {s1:Gg} {vs1:List Gd} {n1:Nat} {ys:List PV} (helt:EVd w k cenv ⟨loc,own⟩ elt y) (hA:OkA k A l) (hF:F1 D=fp) (R:RepC w l (upd F1 D (lstO vs1 n1)) I1 cenv X loc own s1) (hv:VRs I1 vs1 ys) (hl:ys.length<=100000) :
  Gf (mdl w) A (do let _ ← call (.builtin "list.append") [.ref D,←eval elt cenv]) (λZ s'=>Gy w l F1 I1 cenv X loc own D s1 (ys++[y]) s') (λZ Z=>False) s1:=by
 show let Q':=_;let E':=_;Gf _ _ _ Q' E' _;intro Q' E'
 refine xE (R.open) λG R1=>?_
 refine Ga (mPf (helt A l _ I1 s1 hA R1.H R1.L trivial) (λv7 s7 I7 a7 H7 r7 q7=>?_))
 refine Ga ((RC.rep (R1.mono a7 H7)).append hF (by rw[hv.length];exact hl) λs8 n8 R8 q8=>Gb ⟨I7,_,n8,a7,R8,(hv.mono a7).snoc r7,q7.trans q8⟩)
end
theorem z9:∀ (names:List (Str×O0)) (n:Nat) (acc:List (Str×Gn)),N3 n names acc=N3 n names []++acc
 | [],_,_=>rfl
 | (y,kd)::r,n,acc=>by
  unfold N3
  split
  .rw[z9 r (n+1) ((y,n)::acc),z9 r (n+1) [(y,n)]];exact O9 (N3 (n+1) r []) (y,n) acc
  .exact z9 r n acc
theorem vB {env:Env}:∀ (names:List (Str×O0)) (acc:List (Str×Gn)),(∀ y∈names,y.2=Kd->∃ c,env.cells.lookup y.1=fm c) ->
  ∃ cl,(Xw names acc (λ(x:Str×O0) (cs:List (Str×Gn))=>(if x.2==Kd then (do let a ← cellOf env x.1;pure (Kg ((x.1,a)::cs))) else pure (Kg cs):Sem (ForInStep (List (Str×Gn))))))=pure cl /\
   (∀ p∈cl,p∈acc\/(env.cells.lookup p.1=fm p.2/\(p.1,Kd)∈names))/\(∀ p∈acc,p∈cl)/\∀ y∈names,y.2=Kd->∃ c,(y.1,c)∈cl
 | [],acc,_=>(yB acc rfl (λp hp=>.inl hp) (λp hp=>hp) (λy hy=>(nomatch hy)))
 | (y,kd)::r,acc,h=>by
  have hr:=λz hz=>h z (Go _ hz)
  by_cases hk:kd=.free
  .subst hk
   obtain⟨c,hc⟩:=h (y,.free) Gp rfl
   refine yZ (vB r ((y,c)::acc) hr) λcl e h1 h2 h3=>?_
   refine yB cl ?_ (λp hp=>?_) (λp hp=>h2 p (Go _ hp)) (λz hz hzf=>?_)
   .rw[To]
    have:cellOf env y=pure c:=by delta cellOf;rw[hc]
    rw[beq_self_eq_true,if_pos rfl,this]
    exact e
   .rcases h1 p hp with q | q
    .rcases Gi.mp q with rfl | q
     .exact .inr ⟨hc,Gp⟩
     .exact .inl q
    .exact .inr ⟨q.1,Go _ q.2⟩
   .rcases Gi.mp hz with rfl | hz
    .exact⟨c,h2 _ Gp⟩
    .exact h3 z hz hzf
  .refine yZ (vB r acc hr) λcl e h1 h2 h3=>?_
   refine yB cl ?_ (λp hp=>?_) h2 (λz hz hzf=>?_)
   .rw[To]
    have:(kd==Kd)=Gk:=by simpa using hk
    rw[this,if_neg Gv]
    exact e
   .rcases h1 p hp with q | q
    .exact .inl q
    .exact .inr ⟨q.1,Go _ q.2⟩
   .rcases Gi.mp hz with rfl | hz
    .exact absurd hzf hk
    .exact h3 z hz hzf
structure CompEnv (cenv:Env) (names:List (Str×O0)):Prop where
 kind:∀ y,cenv.kindOf y=(names.lookup y).map λkd=>if kd=.free then .cell else kd
theorem JY {α:Type} {y:Str} {a:α} {l:List (Str×α)} (h:(y,a)∈l):∃ b,l.lookup y=fm b:=by
 induction l with
 | nil=>cases h
 | cons p r ih =>
  obtain⟨z,b⟩:=p
  by_cases q:y=z
  .subst q;exact⟨b,ze⟩
  .rw[zb q]
   exact(Gi.mp h).elim (λe=>absurd (congrArg Prod.fst e) q) ih
theorem yP {α:Type} {y:Str} {a:α} {l:List (Str×α)} (hn:(l.map (·.1)).Nodup) (h:(y,a)∈l):l.lookup y=fm a:=by
 induction l with
 | nil=>cases h
 | cons p r ih =>
  have hn:=LX.mp hn
  refine(Gi.mp h).elim (λe=>e ▸ ze) λh'=>?_
  refine(zb λ(q:y=p.1)=>hn.1 (Gr.mpr (iEA (y,a) h' q))).trans (ih hn.2 h')
theorem qq {env:Env} {scope:Xz} (hf:env.scope.kind=.function) (hfr:∀ y∈scope.names,y.2=.free->env.kindOf y.1=fm .cell) (y:Str) :
  (relabel scope env).names.lookup y=(scope.names.lookup y).map λkd=>if kd=.free then .cell else kd:=by
 delta relabel
 dsimp only
 generalize scope.names=names at hfr
 induction names with
 | nil=>rfl
 | cons z r ih =>
  obtain⟨n,kd⟩:=z
  have ih':=ih λy hy=>hfr y (Go _ hy)
  rw[GF]
  have e:(if (kd==Kd&&env.scope.kind==ScopeKind.function&&env.kindOf n==fm LG)=Gh then (n,LG) else (n,kd))=(n,if kd=.free then LG else kd):=by
   by_cases hk:kd=.free
   .subst hk
    have:=hfr (n,.free) Gp rfl
    simp only at this
    rw[hf,this];rfl
   .have:(kd==Kd)=Gk:=by simpa using hk
    rw[this,WJ,WJ,if_neg Gv,if_neg hk]
  rw[e]
  by_cases q:y=n
  .subst q;rw[ze,ze];rfl
  .rw[zb q,zb q];exact ih'
theorem zC {α:Type} {y:Str} {a:α} {l:List (Str×α)} (h:l.lookup y=fm a):(y,a)∈l:=by
 induction l with
 | nil=>cases h
 | cons p r ih =>
  obtain⟨z,b⟩:=p
  by_cases q:y=z
  .subst q;replace h:=ze.symm.trans h;injection h with E1;subst E1;exact Gp
  .exact Go _ (ih ((zb q).symm.trans h))
section
variable {env cenv:Env} {loc caps:List (Str×PV)} {s:Gg} {scope:Xz}
noncomputable def ownN (names:List (Str×O0)) (x:Str):Prop:=names.lookup x=fm .local\/names.lookup x=fm .cell
theorem dT (H:HP w l F I own s.heap) {b:Gn} (hb':s.heap.objs.size<=b):Loose F I own b:=by
 refine⟨?_,?_,?_,?_⟩
 .cases e:F b with
  | none=>rfl
  | some o=>exact absurd (H.F_lt e) (LO.mpr hb')
 .cases e:I b with
  | none=>rfl
  | some o=>exact absurd (H.I_lt e) (LO.mpr hb')
 .cases e:own b with
  | none=>rfl
  | some o=>exact absurd (H.own_lt e) (LO.mpr hb')
 .rintro rfl;exact absurd H.tab.lt (LO.mpr hb')
theorem Qk {cl:List (Str×Gn)} {Q:Env->Gg->Prop} (H:HP w l F I own s.heap) (L:Loc I env loc F) (hkind:scope.kind=.function) (hnd:(scope.names.map (·.1)).Nodup)
  (hfr:∀ y∈scope.names,y.2=.free->env.kindOf y.1=fm .cell) (hcap:∀ y d,caps.lookup y=fm d->loc.lookup y=fm d/\scope.names.lookup y=fm .free)
  (hcl1:∀ p∈cl,env.cells.lookup p.1=fm p.2/\(p.1,Kd)∈scope.names) (hcl2:∀ y∈scope.names,y.2=Kd->∃ c,(y.1,c)∈cl)
  (h:∀ cenv s',CompEnv { cenv with scope:=relabel scope env } scope.names->RepC w l F I { cenv with scope:=relabel scope env } (ownN scope.names) caps own s'->Same s s'->Q cenv s') :
  Gf (mdl w) A (Vu scope env.globals cl [] env.qual fp .none (fm env)) Q E s:=by
 classical
 simp only[Vu,XT,if_true]
 refine Ga (gi ?_)
 refine Ga (wpAny_layCells _ (λname kind cells=>by cases hkc:kind==LG<;>with_reducible rfl) _ _ _ _ ?_)
 have ok:=cellsFrom_ok scope.names (s.heap.push { cls:=.type "dict",data:=.dict #[] }) (s.heap.objs.size+1) [] ⟨λZ Z hm=>(nomatch hm),List.Pairwise.nil⟩ (by rw[LA];exact GI _)
 rewrite [LA] at ok
 rw[show ({ s with heap:=s.heap.push { cls:=.type "dict",data:=.dict #[] } }:Gg).heap.objs.size=s.heap.objs.size+1 from LA ..]
 rw[z9]
 revert ok;refine Mine.gn (N3 (s.heap.objs.size+1) scope.names []) λnew hnew ok=>?_
 have hnewm:∀ y c,(y,c)∈new->(y,LG)∈scope.names:=λy c hm=>by
  rcases xx _ _ _ y c (by rw[hnew];exact hm) with h | h
  .cases h
  .exact h.2
 have hnewhas:∀ y,scope.names.lookup y=fm .cell->∃ c,new.lookup y=fm c:=λy hy=>by rw[←hnew];exact yf _ _ _ _ (.inl hy)
 let fo:Obj:={ cls:=.type "dict",data:=.dict #[] }
 let h2:Kf:=pushCells (s.heap.push fo) scope.names
 let env':Env:={ scope:=relabel scope env,locals:=s.heap.objs.size,globals:=env.globals,cells:=new++cl,qual:=env.qual,func:=fp,code:=env.code,frame:=env.frame,builtins:=env.builtins }
 have hL:h2.get? s.heap.objs.size=fm fo:=TZ _ _ _ _ (GA _ rfl)
 have keep:∀ b o,s.heap.get? b=fm o->h2.get? b=fm o:=λb o e=>TZ _ _ _ _ (GN _ e)
 have H2:HP w l F I own h2:=H.all keep
 have big:∀ b,s.heap.objs.size<=b->Loose F I own b:=λb hb'=>dT H hb'
 let G:PH:=λa=>if a=s.heap.objs.size then fm fo else if ∃ x,(x,a)∈new then h2.get? a else fp
 have hGL:G s.heap.objs.size=fm fo:=if_pos rfl
 have newAt:∀ x a,(x,a)∈new->s.heap.objs.size<a/\∃ o,G a=fm o/\o.data=.cell fp:=λx a hm=>by
  refine xA (ok.empty x a hm) λE27 hlo=>?_;(refine xEA E27 λo ho hd=>?_;clear E27)
  have hne:a≠s.heap.objs.size:=LP hlo
  exact iAEA hlo o (by show (if a=_ then _ else _)=_;rw[if_neg hne,if_pos ⟨x,hm⟩];exact ho) hd
 have hG:∀ a o,G a=fm o->h2.get? a=fm o/\s.heap.objs.size<=a:=λa o e=>by
  by_cases q1:a=s.heap.objs.size
  .subst q1
   replace e:=hGL ▸ e;(injection e with E1;subst E1)
   exact⟨hL,GI _⟩
  .have e':(if ∃ x,(x,a)∈new then h2.get? a else fp)=fm o:=by have:G a=_:=if_neg q1;replace e:=this ▸ e;exact e
   by_cases q2:∃ x,(x,a)∈new
   .replace e':=if_pos q2 ▸ e'
    refine xE q2 λx hx=>?_;try clear q2
    exact⟨e',KJ (newAt x a hx).1⟩
   .replace e':=if_neg q2 ▸ e';injection e'
 have hGs:∀ a,a<s.heap.objs.size->G a=fp:=λa ha=>by
  cases q:G a with
  | none=>rfl
  | some o=>exact absurd ha (LO.mpr (hG a o q).2)
 have uF:∀ a o,F a=fm o->uni F G a=fm o:=λa o e=>by
  delta uni;rw[hGs a (H.F_lt e)];exact e
 have hck:CompEnv env' scope.names:=⟨λy=>qq L.kind hfr y⟩
 have hnewfree:∀ y,(y,Kd)∈scope.names->new.lookup y=fp:=λy hy=>by
  cases q:new.lookup y with
  | none=>rfl
  | some c =>
   have h1:=yP hnd hy
   have h2:=yP hnd (hnewm y c (zC q))
   replace h2:=h1 ▸ h2;(injection h2 with E1;injection E1)
 have clLook:∀ y,(y,Kd)∈scope.names->∃ c,cl.lookup y=fm c/\env.cells.lookup y=fm c:=λy hy=>by
  refine xE (hcl2 _ hy rfl) λc hc=>?_
  refine xE (JY hc) λb hb=>?_
  exact iEA b hb ((hcl1 _ (zC hb)).1)
 have cells2:∀ y c,env'.cells.lookup y=fm c->(new.lookup y=fm c)\/(new.lookup y=fp/\cl.lookup y=fm c/\env.cells.lookup y=fm c):=λy c e=>by
  have e':(new++cl).lookup y=fm c:=e
  rewrite [Oz] at e'
  cases q:new.lookup y with
  | some b=>replace e':=q ▸ e';exact .inl e'
  | none=>replace e':=q ▸ e';exact .inr ⟨rfl,e',(hcl1 _ (zC e')).1⟩
 have HG:HP w l (uni F G) I own h2:=H2.addG λa o e=>⟨(hG a o e).1,big a (hG a o e).2⟩
 have R:RepC w l F I env' (ownN scope.names) caps own { s with heap:=h2 }:=by
  refine⟨G,HG,⟨hkind,L.glo,L.blt,⟨λZ=>fp,⟨fo,#[],0,zm hGL,rfl,λZ he=>by simp at he,λZ=>rfl⟩,λy d hy hly=>?_⟩,λy d hy hky=>?_,λy c hc=>?_,λx y c h1 h2=>?_,λy hy=>?_⟩,⟨fo,hGL,by show HH "dict" ≠ _;exact dc rfl⟩,λx c hX hkx hc=>?_,λa o e=>(big a (hG a o e).2).1⟩
  .have hf:=(hcap y d hy).2
   have hk:=hck.kind y
   replace hk:=hf ▸ hk
   replace hly:=hk ▸ hly;simp at hly
  .refine xA (hcap y d hy) λh1 h2=>?_
   have hm:=zC h2
   refine xEA (clLook y hm) λc c1 c2=>?_
   refine zs (L.cell y d h1 (.inl (hfr _ hm rfl))) λc' o v e1 e2 e3 e4=>?_
   replace e1:=c2 ▸ e1;(injection e1 with E1;subst E1)
   refine zI c o v ?_ (uF _ _ e2) e3 e4
   show (new++cl).lookup y=fm c
   rw[Oz,hnewfree y hm];exact c1
  .rcases cells2 y c hc with q | E81
   .refine xAEA (newAt y c (zC q)) λh1 o h2 h3=>?_
    exact yx (LP h1) o fp (zm h2) h3
   .refine xAA E81 λZ q1 q2=>?_;clear E81
    refine zJ (L.cells y c q2) λZ o v h2 h3=>?_
    exact yx (HZ (H.F_lt h2)) o v (uF _ _ h2) h3
  .rcases cells2 x c h1 with q | ⟨_,q1,q2⟩<;>rcases cells2 y c h2 with r | ⟨_,r1,r2⟩
   .exact jP ok.apart q r
   .refine zJ (L.cells y c r2) λZ o v h3 h4=>?_
    exact absurd (H.F_lt h3) (LO.mpr (KJ (newAt x c (zC q)).1))
   .refine zJ (L.cells x c q2) λZ o v h3 h4=>?_
    exact absurd (H.F_lt h3) (LO.mpr (KJ (newAt y c (zC r)).1))
   .exact L.inj x y c q2 r2
  .replace hy:=hck.kind y ▸ hy
   cases q:scope.names.lookup y with
   | none=>replace hy:=q ▸ hy;injection hy
   | some kd =>
    show ∃ c,(new++cl).lookup y=fm c
    rw[Oz]
    by_cases hf:kd=.free
    .subst hf
     have hm:=zC q
     refine xEA (clLook y hm) λc c1 Z=>?_
     rw[hnewfree y hm];exact⟨c,c1⟩
    .replace hy:=q ▸ hy
     simp only[Oe,if_neg hf] at hy
     (injection hy with E1;subst E1)
     refine xE (hnewhas y q) λc hc=>?_
     rw[hc];exact⟨c,rfl⟩
  .have hx:scope.names.lookup x=fm .cell:=by
    replace hkx:=hck.kind x ▸ hkx
    rcases hX with q | q
    .replace hkx:=q ▸ hkx;simp at hkx
    .exact q
   refine xE (hnewhas x hx) λc' hc'=>?_
   have e':(new++cl).lookup x=fm c:=hc
   rewrite [Oz] at e';replace e':=hc' ▸ e'
   (injection e' with E1;subst E1)
   refine xAEA (newAt x c' (zC hc')) λZ o h2 Z=>?_
   exact⟨o,h2⟩
 exact Ga (Gb (Gb (h _ _ hck R ⟨rfl,rfl⟩)))
end
section
variable {loc caps:List (Str×PV)} {s:Gg} {scope:Xz}
noncomputable def CLoop (w:K6) (k:Lv) (e:Expr) (scope:Xz) (caps:List (Str×PV)) (own:Own) (CO:Own->Prop) (ds res:List PV):Prop :=
 ∀ cenv,CompEnv cenv scope.names->∀ (A:GZ) (l:List Env) (F I0:PH) (s0:Gg) (it D:Gn) (o:Obj) (n0:Nat) (CI:PH->Prop) (At:Nat->Obj->Prop) (R:Result->Gg->Prop),
  Itr w k (λI own=>CI I/\CO own) it ds At->Mono CI->OkA k A l->F it=fp->F D=fp->it≠D->RepC w l (upd (upd F D (lstO [] n0)) it o) I0 cenv (ownN scope.names) caps own s0->At 0 o->CI I0 ->
  (∀ s' I' vs n',Sub I0 I'->RepC w l (upd F D (lstO vs n')) I' cenv (ownN scope.names) caps own s'->VRs I' vs res->Same s0 s'->R (.ok .next) s') ->
  Th (mdl w) A (.compLoop e 0 (.ref it) (.ref D) cenv) R s0
theorem qa (hfr:∀ y∈scope.names,y.2=.free->∃ c,env.cells.lookup y.1=fm c) :
  ∃ cl,gP scope env=pure cl/\(∀ p∈cl,env.cells.lookup p.1=fm p.2/\(p.1,Kd)∈scope.names)/\∀ y∈scope.names,y.2=Kd->∃ c,(y.1,c)∈cl:=by
 refine yZ (vB scope.names [] hfr) λcl e h1 Z h3=>?_
 refine iEAA cl ?_ (λp hp=>?_) h3
 .delta gP
  rw[show (pure cl:Sem (List (Str×Gn)))=(pure cl>>=pure) from rfl,←e]
 .rcases h1 p hp with q | q
  .cases q
  .exact q
theorem jr {elt iter:Expr} {x:Str} {px:Pos} {ifs:List Expr} {rest:List Ov} {pos p:Pos} {use:Option (Gd->Sem Unit)} {Q:Gd->Gg->Prop} {d0:PV} {ds res:List PV} {CO:Own->Prop}
  (hi:EVd w k env ρ iter d0) (hI:Itb w k CO d0 ds) (hCO:CO ρ.own) (hkind:scope.kind=.function) (hnd:(scope.names.map (·.1)).Nodup)
  (hfr:∀ y∈scope.names,y.2=.free->env.kindOf y.1=fm .cell) (hcap:∀ y d,caps.lookup y=fm d->ρ.loc.lookup y=fm d/\scope.names.lookup y=fm .free)
  (loop:CLoop w k (.ListComp elt (⟨.Name x px,iter,ifs,0⟩::rest) scope pos) scope caps ρ.own CO ds res) (hs:∀ x,Kl iter env x=pure x)
  (hA:OkA k A l) (H:HP w l F I ρ.own s.heap) (L:Loc I env ρ.loc F)
  (fin:∀ s' I' D C oC vs n,Sub I I'->HP w l F I' ρ.own s'.heap->Loose F I' ρ.own D->s'.heap.get? D=fm (lstO vs n)->VRs I' vs res->C≠D->Loose F I' ρ.own C->s'.heap.get? C=fm oC->oC.cls≠.type "frame" -> (∃ m,s'.heap.Ns C m)->Same s s'->compPost (mdl w) A E use Q (.ref D) C (.ok .next) s') :
  Gf (mdl w) A (comprehension (.ListComp elt (⟨.Name x px,iter,ifs,0⟩::rest) scope pos) scope env p (newList []) Gk (eval iter env) use) Q E s:=by
 refine xEAA (qa (scope:=scope) (env:=env) λy hy hf=>L.has y.1 (hfr y hy hf)) λcl hclos hcl1 hcl2=>?_
 refine wpAny_comprehension_free (g:=⟨.Name x px,iter,ifs,0⟩) (gs:=rest) rfl hs hclos hkind (λy hy hl=>by rw[yP hnd (a:=y.2) hy,hl]) ?_
 refine mPf (hi A l F I s hA H L trivial) (λv s1 I1 a1 H1 r1 q1=>?_)
 show let Q':=_;let E':=_;Gf _ _ _ Q' E' _;intro Q' E'
 refine Gm (hI A l F I1 ρ.own s1 v hA H1 hCO r1) (λr s2 E9=>E9.casesOn λit o I2 CI At er a2 H2 Li eit hat mCI hCI IT q2=>?_) λZ Z x=>x.elim
 subst er
 refine GR (hd:=by size_fits) ?_
 have Lm:=L.mono (a1.trans a2)
 have hD2:Loose F I2 ρ.own s2.heap.objs.size:=H2.new
 have hne:it≠s2.heap.objs.size:=HZ (HU eit)
 generalize hDd:s2.heap.objs.size=D at hD2 hne ⊢
 have eD:(s2.heap.push (lstO [] 0)).get? D=fm (lstO [] 0):=by rw[←hDd];exact GA _ rfl
 have H3:HP w l F I2 ρ.own (s2.heap.push (lstO [] 0)):=H2.push _
 have eit3:(s2.heap.push (lstO [] 0)).get? it=fm o:=GN _ eit
 have H4:=H3.hide hD2 eD
 have Li4:Loose (upd F D (lstO [] 0)) I2 ρ.own it:=⟨by rw[zc _ _ hne];exact Li.1,Li.2⟩
 have H5:=H4.hide Li4 eit3
 have L5:Loc I2 env ρ.loc (upd (upd F D (lstO [] 0)) it o):=Lm.sub ((fA hD2.1).trans (fA Li4.1))
 refine Qk (s:={ s2 with heap:=s2.heap.push (lstO [] 0) }) H5 L5 hkind hnd hfr hcap hcl1 hcl2 λcenv s4 hce R4 q4=>?_
 have q14:Same s s4:=q1.trans (q2.trans ⟨q4.1,q4.2⟩)
 have go:Th (mdl w) A (.compLoop (.ListComp elt (⟨.Name x px,iter,ifs,0⟩::rest) scope pos) 0 (.ref it) (.ref D) { cenv with scope:=relabel scope env }) (compPost (mdl w) A E use Q (.ref D) cenv.locals) s4:=by
  refine loop _ hce A l F I2 s4 it D o 0 CI At _ IT mCI hA Li.1 hD2.1 hne R4 hat hCI λs' I' vs n' a5 R6 hv q6=>?_
  obtain⟨G,R6⟩:=R6.open
  refine xEA (R6.c) λoC eC hoC=>?_
  replace eC:G cenv.locals=fm oC:=eC
  have eu:uni (upd F D (lstO vs n')) G cenv.locals=fm oC:=zm eC
  refine xEA (R6.H.fr _ _ eu) λoC' gC sC=>?_
  have hFD':upd F D (lstO vs n') cenv.locals=fp:=R6.D _ _ eC
  have hCD:cenv.locals≠D:=by intro q;(replace hFD':=q ▸ hFD';rewrite [zd] at hFD');injection hFD'
  have hFC:F cenv.locals=fp:=by replace hFD':=Gj (Gq (zc _ _ hCD)) hFD';exact hFD'
  have LC:Loose F I' ρ.own cenv.locals:=⟨hFC,R6.H.fi _ _ eu,by
   cases q:ρ.own cenv.locals with
   | none=>rfl
   | some mo=>exact absurd ((R6.H.oa _ _ q).1.symm.trans eu) (by (intro h;injection h;done)),by intro q;have:=R6.H.tf;(replace this:=(Gq q) ▸ this;replace this:=Gj (Gq (eu)) this);injection this⟩
  refine xEA (R6.L.ns) λm hm Z=>?_
  have hns:s'.heap.Ns cenv.locals m:=R6.H.nsF hm
  have H7:HP w l (upd F D (lstO vs n')) I' ρ.own s'.heap:=R6.H.less (λe he=>by
   refine xM (H.stk e he) λZ L' oL h2 h3 h4=>?_
   exact xk L' oL h2 (by rw[zc _ _ (by rintro rfl;replace h3:=hD2.1 ▸ h3;injection h3)];exact h3) h4) R6.D
  refine xAA (H7.show hD2.1 (QM _ _)) λH8 L8 e8=>?_
  exact fin s' I' D cenv.locals oC' vs n' (a1.trans (a2.trans a5)) H8 L8 e8 hv hCD LC gC (by rw[sC.cls];exact hoC) ⟨m,hns⟩ (q14.trans q6)
 refine codeAny_compStart_list go ?_
 show let Q':=_;let E':=_;Gf _ _ _ Q' E' _;intro Q' E'
 obtain⟨G4,R4⟩:=R4.open
 refine xAA (R4.show (by rw[zc _ _ hne];exact Li.1) (IT.nf _ _ hat) (IT.nd _ _ hat)) λR5 Li5 ei5=>?_
 refine Gm (IT.self A l _ I2 ρ.own s4 o hA R5.H Li5 ei5 hat) (λr s5 E9=>E9.elim λer es=>?_) λZ Z x=>x.elim
 subst er;subst es;exact go
theorem JA {elt iter:Expr} {x:Str} {px:Pos} {ifs:List Expr} {rest:List Ov} {pos p:Pos} {use:Option (Gd->Sem Unit)} {Q:Gd->Gg->Prop} {d0:PV} {ds res:List PV} {CO:Own->Prop}
  (hi:EVd w k env ρ iter d0) (hI:Itb w k CO d0 ds) (hCO:CO ρ.own) (hkind:scope.kind=.function) (hnd:(scope.names.map (·.1)).Nodup)
  (hfr:∀ y∈scope.names,y.2=.free->env.kindOf y.1=fm .cell) (hcap:∀ y d,caps.lookup y=fm d->ρ.loc.lookup y=fm d/\scope.names.lookup y=fm .free)
  (loop:CLoop w k (.ListComp elt (⟨.Name x px,iter,ifs,0⟩::rest) scope pos) scope caps ρ.own CO ds res) (hs:∀ x,Kl iter env x=pure x)
  (hA:OkA k A l) (H:HP w l F I ρ.own s.heap) (L:Loc I env ρ.loc F)
  (fin:∀ s' I' D C oC,Sub I I'->HP w l F I' ρ.own s'.heap->VR I' (.ref D) (.lst res)->Loose F I' ρ.own C->s'.heap.get? C=fm oC->oC.cls≠.type "frame" -> (∃ m,s'.heap.Ns C m)->Same s s'->compPost (mdl w) A E use Q (.ref D) C (.ok .next) s') :
  Gf (mdl w) A (comprehension (.ListComp elt (⟨.Name x px,iter,ifs,0⟩::rest) scope pos) scope env p (newList []) Gk (eval iter env) use) Q E s :=
 jr hi hI hCO hkind hnd hfr hcap loop hs hA H L λs' I' D C oC vs n a H8 L8 e8 hv hCD LC gC hoC hm q =>
  fin s' (upd I' D (lstO vs n)) D C oC (a.trans (fA L8.2.1)) (H8.freeze L8 e8) (.lst (zd ..) (hv.mono (fA L8.2.1))) ⟨LC.1,by rw[zc _ _ hCD];exact LC.2.1,LC.2.2⟩ gC hoC hm q
theorem fK {elt iter:Expr} {x:Str} {px:Pos} {ifs:List Expr} {rest:List Ov} {pos:Pos} {d0:PV} {ds res:List PV} {CO:Own->Prop} (caps:List (Str×PV))
  (hi:EVd w k env ρ iter d0) (hI:Itb w k CO d0 ds) (hCO:CO ρ.own) (hkind:scope.kind=.function) (hnd:(scope.names.map (·.1)).Nodup)
  (hfr:∀ y∈scope.names,y.2=.free->env.kindOf y.1=fm .cell) (hcap:∀ y d,caps.lookup y=fm d->ρ.loc.lookup y=fm d/\scope.names.lookup y=fm .free)
  (loop:CLoop w k (.ListComp elt (⟨.Name x px,iter,ifs,0⟩::rest) scope pos) scope caps ρ.own CO ds res) (hs:∀ x,Kl iter env x=pure x:=by intro _;rfl) :
  EVd w k env ρ (.ListComp elt (⟨.Name x px,iter,ifs,0⟩::rest) scope pos) (.lst res):=by
 intro A l F I s hA H L _
 show let Q':=_;let E':=_;Gf _ _ _ Q' E' _;intro Q' E'
 rw[eval_ListComp]
 refine JA hi hI hCO hkind hnd hfr hcap loop hs hA H L λs' I' D C oC a H' r LC gC Z hm q=>?_
 obtain⟨m,hm⟩:=hm
 exact iEA m hm (λh' hsb=>⟨I',a,H'.at_loose LC hsb.extBut,r,⟨q.1,q.2⟩⟩)
theorem dF {y:Str} {py spos:Pos} {elt iter:Expr} {x:Str} {px:Pos} {ifs:List Expr} {rest:List Ov} {pos:Pos} {d0:PV} {ds res:List PV} {CO:Own->Prop} (caps:List (Str×PV))
  (hi:EVd w k env ρ iter d0) (hI:Itb w k CO d0 ds) (hCO:CO ρ.own) (hkind:scope.kind=.function) (hnd:(scope.names.map (·.1)).Nodup)
  (hfr:∀ y∈scope.names,y.2=.free->env.kindOf y.1=fm .cell) (hcap:∀ y d,caps.lookup y=fm d->ρ.loc.lookup y=fm d/\scope.names.lookup y=fm .free)
  (loop:CLoop w k (.ListComp elt (⟨.Name x px,iter,ifs,0⟩::rest) scope pos) scope caps ρ.own CO ds res) (hl:env.kindOf y=fm .local)
  (hsw:Lq (.ListComp elt (⟨.Name x px,iter,ifs,0⟩::rest) scope pos) (fm (.Name y py)) spos.line env=pure Gh) (hs:∀ x,Kl iter env x=pure x:=by intro _;rfl) :
  EX1 w k env ρ (.Assign [.Name y py] (.ListComp elt (⟨.Name x px,iter,ifs,0⟩::rest) scope pos) spos) (λp ρ'=>p=.next/\ρ'=ρ.set y (.lst res)) Ψ:=by
 intro A l F I s hA R
 show let Q':=_;let E':=_;Gf _ _ _ Q' E' _;intro Q' E'
 rw[exec_Assign_Name_used _ _ _ _ hsw]
 refine Ga (Ka (Ga ?_))
 show let Q':=_;let E':=_;Gf _ _ _ Q' E' _;intro Q' E'
 obtain⟨G,H,L,D⟩:=R
 show Gf _ A (do let _ ← comprehension (.ListComp elt (⟨.Name x px,iter,ifs,0⟩::rest) scope pos) scope env _ (newList []) Gk (eval iter env) (fm (assign (.Name y py) env))) _ _ s
 refine Ga (Gm (JA (E:=λZ Z=>False) (use:=fm (assign (.Name y py) env)) (Q:=λZ=>Ey w l F I env s (λp ρ'=>p=.next/\ρ'=ρ.set y (.lst res)) .next) hi hI hCO hkind hnd hfr hcap loop hs hA H L.up λs' I' Da C oC a H' r LC gC hoC hm q=>?_) (λZ s' hq=>Gb (Gb hq)) λZ Z e=>e.elim)
 obtain⟨m,hm⟩:=hm
 show Gf _ A (assign (.Name y py) env (.ref Da)) _ _ _
 show let Q':=_;let E':=_;Gf _ _ _ Q' E' _;intro Q' E'
 have hFC:F C=fp:=by
  have:=LC.1
  unfold uni at this
  split at this
  .injection this
  .exact this
 refine KD (Rep.storeL (Rep.hide H' (L.mono a) D LC gC) hl r λs'' R2 q2=>?_)
 refine xm (R2.show hFC hoC) λG3 H3 L3 D3 LC3 e3=>?_
 refine xEEEA hm λo1 es ep g1 g2=>?_;try clear hm
 refine iEA m ⟨oC,es,ep,e3,by replace g1:=Gj (Gq (gC)) g1;(injection g1 with E1;subst E1);exact g2⟩ (λh' hsb=>⟨I',_,.next,a,⟨G3,H3.at_loose LC3 hsb.extBut,L3,D3⟩,trivial,q.trans ⟨q2.1,q2.2⟩,rfl,rfl⟩)
theorem xg {α β:Type} (f:α->β) (l:List α):l.flatMap (λd=>[f d])=l.map f:=by
 induction l with
 | nil=>rfl
 | cons a r ih=>rw[Nh,ih];rfl
theorem zT {α:Type} (l:List α):l.filter (λZ=>Gh)=l:=T6.mpr λZ Z=>rfl
theorem fF {elt iter:Expr} {x:Str} {px:Pos} {ifs:List Expr} {pos:Pos} {CO:Own->Prop} {ds:List PV} (p:PV->Bool) (f:PV->PV) (hX:ownN scope.names x) (hCO:CO own) (hcx:caps.lookup x=fp) (hlen:ds.length<=100000)
  (hcond:∀ cenv,CompEnv cenv scope.names->∀ d∈ds,TD w k cenv ⟨(x,d)::caps,own⟩ (λZ=>True) (Xw ifs Gh λc r=>if r=Gh then do let ok ← isTrue c cenv (eval c cenv);pure (Kg ok) else pure (Kg r)) (λZ ok=>ok=p d))
  (helt:∀ cenv,CompEnv cenv scope.names->∀ d∈ds,p d=Gh->EVd w k cenv ⟨(x,d)::caps,own⟩ elt (f d)) :
  CLoop w k (.ListComp elt [⟨.Name x px,iter,ifs,0⟩] scope pos) scope caps own CO ds ((ds.filter p).map f):=by
 intro cenv hce A l F I0 s0 it D o n0 CI At R IT mCI hA hFi hFD hne R0 hat hCI hfin
 have hk:cenv.kindOf x=fm .local\/cenv.kindOf x=fm .cell:=by
  rw[hce.kind x]
  rcases hX with q | q<;>rw[q]
  .exact .inl rfl
  .exact .inr rfl
 refine vH (tk:=λK=>(do let _ ← call (.builtin "list.append") [.ref D,←eval elt cenv])>>=λZ=>K) (p:=p) (f:=λd=>[f d]) (ip:=iter.pos) (ys0:=[]) (vs0:=[]) rfl hX hk IT mCI hCO (hcond cenv hce) hA hFi hFD hne (λi d hd hp F1 I1 s1 vs1 n1 hF1 R1 hv1 K Q E hK=>?_) hcx R0 .nil hat hCI (λs' I' vs n' a R' hv q=>hfin s' I' vs n' a R' ?_ q)
 .have hm:=GS hd
  refine Ga (Gm (Jr (helt cenv hce d hm hp) hA hF1 R1 hv1 ?_) (λZ s' h=>hK s' h) λZ Z x=>x.elim)
  rw[xg,KC,Ge]
  have h2:=K9 p (ds.take i)
  have h3:=Lh i ds
  lia
 .rewrite [xg,KC] at hv;exact hv
theorem pz {elt iter iter2:Expr} {x x2:Str} {px px2:Pos} {pos:Pos} {CO:Own->Prop} {ds:List PV} (d2:PV->PV) (es:PV->List PV) (f:PV->PV->PV) (hX:ownN scope.names x) (hX2:ownN scope.names x2) (hxx:x2≠x) (hCO:CO own) (hcx:caps.lookup x=fp) (hcx2:caps.lookup x2=fp)
  (hlen:(ds.flatMap λd=>(es d).map (f d)).length<=100000)
  (hi2:∀ cenv,CompEnv cenv scope.names->∀ d∈ds,EVd w k cenv ⟨(x,d)::caps,own⟩ iter2 (d2 d)) (CO2:PV->Own->Prop) (hI2:∀ d∈ds,Itb w k (CO2 d) (d2 d) (es d)/\CO2 d own)
  (helt:∀ cenv,CompEnv cenv scope.names->∀ d∈ds,∀ e∈es d,EVd w k cenv ⟨(x2,e)::(x,d)::caps,own⟩ elt (f d e)) (hs:∀ cenv x,Kl iter2 cenv x=pure x:=by intro _ _;rfl) :
  CLoop w k (.ListComp elt [⟨.Name x px,iter,[],0⟩,⟨.Name x2 px2,iter2,[],0⟩] scope pos) scope caps own CO ds (ds.flatMap λd=>(es d).map (f d)):=by
 intro cenv hce A l F I0 s0 it D o n0 CI At R IT mCI hA hFi hFD hne R0 hat hCI hfin
 have kof:∀ z,ownN scope.names z->cenv.kindOf z=fm .local\/cenv.kindOf z=fm .cell:=λz hz=>by
  rw[hce.kind z]
  rcases hz with q | q<;>rw[q]
  .exact .inl rfl
  .exact .inr rfl
 refine vH (tk:=λK=>do
    let x' ← eval iter2 cenv
    Wj iter2.pos
    let x' ← Kl iter2 cenv x'
    let _ ← runOwn (.compStart (.ListComp elt [⟨.Name x px,iter,[],0⟩,⟨.Name x2 px2,iter2,[],0⟩] scope pos) 1 (← holding [x'] (Xs x')) (.ref D) cenv) cenv
    K) (ifs:=[]) (p:=λZ=>Gh) (f:=λd=>(es d).map (f d)) (ip:=iter.pos) (ys0:=[]) (vs0:=[])
  (by rfl) hX (kof x hX) IT mCI hCO (λd hd=>TD.pure (v:=true) λZ Z=>rfl) hA hFi hFD hne (λi d hd hp F1 I1 s1 vs1 n1 hF1 R1 hv1 K Q E hK=>?_) hcx R0 .nil hat hCI (λs' I' vs n' a R' hv q=>hfin s' I' vs n' a R' (by rewrite [zT,KC] at hv;exact hv) q)
 have hm:=GS hd
 obtain⟨hIb,hCO2⟩:=hI2 d hm
 generalize hys:([]:List PV)++List.flatMap (λd=>(es d).map (f d)) (List.filter (λZ=>Gh) (List.take i ds))=ys at hv1 ⊢
 have hyl:ys.length+(es d).length<=100000:=by
  have htake:ds.take (i+1)=ds.take i++[d]:=by rw[Hx,hd];rfl
  have e1:(ds.flatMap λd=>(es d).map (f d))=(ds.take (i+1)).flatMap (λd=>(es d).map (f d))++(ds.drop (i+1)).flatMap (λd=>(es d).map (f d)):=by rw[←NE,Tr]
  replace hlen:=e1 ▸ hlen;replace hlen:=htake ▸ hlen;replace hlen:=NE ▸ hlen;replace hlen:=Gs ▸ hlen;replace hlen:=Gs ▸ hlen;replace hlen:=Nh ▸ hlen;replace hlen:=Y8 ▸ hlen;rewrite [Hl,Ge] at hlen
  rw[←hys,KC,zT]
  exact Nat.le_of_add_right_le hlen
 obtain⟨G1,R1⟩:=R1.open
 refine Ga (mPf (hi2 cenv hce d hm A l _ I1 s1 hA R1.H R1.L trivial) (λv s2 I2 a2 H2 r2 q2=>?_))
 refine Ga (Ka (Ga ?_))
 rw[hs]
 refine Gb (Ga (GD (Gm (hIb A l _ I2 own s2 v hA H2 hCO2 r2) (λr s3 E9=>E9.casesOn λit2 o2 I3 CI2 At2 er a3 H3 Li eit hat2 mCI2 hCI2 IT2 q3=>?_) λZ Z x=>x.elim)))
 subst er
 have hGit:G1 it2=fp/\upd F1 D (lstO vs1 n1) it2=fp:=by
  have:=Li.1
  unfold uni at this
  cases q:G1 it2 with
  | none=>replace this:=q ▸ this;exact⟨rfl,this⟩
  | some z=>replace this:=q ▸ this;injection this
 have hne2:it2≠D:=by intro q;have:=hGit.2;(replace this:=q ▸ this;rewrite [zd] at this);injection this
 have hF1it:F1 it2=fp:=by have:=hGit.2;replace this:=Gj (Gq (zc _ _ hne2)) this;exact this
 have R3:RC w l (upd (upd F1 D (lstO vs1 n1)) it2 o2) I3 cenv (ownN scope.names) ((x,d)::caps) own s3 G1:=RC.hide (R1.mono (a2.trans a3) H3) Li eit
 refine Ga (wpAny_runOwn (env:=cenv) (h:=fp) ?_)
 have go:Th (mdl w) A (.compLoop (.ListComp elt [⟨.Name x px,iter,[],0⟩,⟨.Name x2 px2,iter2,[],0⟩] scope pos) 1 (.ref it2) (.ref D) cenv)
   (λr s'=>match r with
    | .ok fl=>Gf (mdl w) A K Q E s'
    | .error e=>VY (mdl w) A cenv E e s') s3:=by
  refine vH (tk:=λK=>(do let _ ← call (.builtin "list.append") [.ref D,←eval elt cenv])>>=λZ=>K) (ifs:=[]) (p:=λZ=>Gh) (f:=λe=>[f d e]) (ip:=iter2.pos) (ys0:=ys) (vs0:=vs1) (by rfl) hX2 (kof x2 hX2) IT2 mCI2 hCO2 (λd hd=>TD.pure (v:=true) λZ Z=>rfl) hA hF1it hF1 hne2
   (λj e he Z F4 I4 s4 vs4 n4 hF4 R4 hv4 K' Q' E' hK'=>?_) (by rw[zb hxx];exact hcx2) (RC.rep R3) (hv1.mono (a2.trans a3)) hat2 hCI2 (λs' I' vs n' a R' hv q=>?_)
  .refine Ga (Gm (Jr (helt cenv hce d hm e (GS he)) hA hF4 R4 hv4 ?_) (λZ s' h=>hK' s' h) λZ Z x=>x.elim)
   rw[xg,Gs,Ge]
   have h2:=K9 (λZ=>Gh) ((es d).take j)
   have h3:=Lh j (es d)
   lia
  .rewrite [xg,zT] at hv
   exact hK s' ⟨I',vs,n',a2.trans (a3.trans a),R',by rw[hys];exact hv,q2.trans (q3.trans q)⟩
 refine fk ?_
 show let Q':=_;let E':=_;Gf _ _ _ Q' E' _;intro Q' E'
 show Gf _ _ ((compStart (.ListComp elt [⟨.Name x px,iter,[],0⟩,⟨.Name x2 px2,iter2,[],0⟩] scope pos) 1 (.ref it2) (.ref D) cenv).onRaise (λx=>do Yu x cenv;Wj theWindowsPlace)) _ _ s3
 refine wpAny_notedAt ?_
 delta compStart
 show Gf _ _ (ask>>=_) _ _ s3
 refine Ga (hZ (wpAny_ite ?_))
 split
 .exact Gb (gy rfl go)
 .refine Ga (Nf ?_)
  show Gf _ _ (Wj iter2.pos>>=_) _ _ s3
  refine xAA (R3.show (by rw[zc _ _ hne2];exact hF1it) (IT2.nf _ _ hat2) (IT2.nd _ _ hat2)) λR5 Li5 ei5=>?_
  refine Ga (Ka (Ga (Gm (IT2.self A l _ I3 own s3 o2 hA R5.H Li5 ei5 hat2) (λr s5 E9=>E9.elim λer es=>?_) λZ Z x=>x.elim)))
  subst er;subst es
  exact Gb (gy rfl go)
end
section
variable (w:K6)
inductive Oy (l:List Env) (F I:PH) (s:Gg) (Φ:PV->Own->Prop) (v:Gd) (s':Gg):Prop
 | mk (J:PH) (own':Own) (d:PV):Sub I J->HP w l F J own' s'.heap->VR J v d->Same s s'->Φ d own'->Oy l F I s Φ v s'
inductive Ody (l:List Env) (F I:PH) (env:Env) (loc:List (Str×PV)) (s:Gg) (Φ:PV->Own->Prop) (v:Gd) (s':Gg):Prop
 | mk (J:PH) (own':Own) (d:PV):Sub I J->Rep w l F J env ⟨loc,own'⟩ s'->VR J v d->Same s s'->Φ d own'->Ody l F I env loc s Φ v s'
inductive Odx (l:List Env) (F I:PH) (env:Env) (loc:List (Str×PV)) (s:Gg) (Ψ:ExcD->Own->Prop) (ev:Gd) (s':Gg):Prop
 | mk (J:PH) (own':Own) (x:ExcD):Sub I J->RepX w l F J env ⟨loc,own'⟩ s' ev x->Same s s'->Ψ x own'->Odx l F I env loc s Ψ ev s'
noncomputable def EVO (k:Lv) (env:Env) (ρ:PSt) (e:Expr) (Φ:PV->Own->Prop) (Ψ:ExcD->Own->Prop):Prop :=
 ∀ (A:GZ) (l:List Env) (F I:PH) (s:Gg),OkA k A l->HP w l F I ρ.own s.heap->Loc I env ρ.loc F ->
  Gf (mdl w) A (eval e env) (Oy w l F I s Φ) (Cx w l F I s Ψ) s
noncomputable def yY (own:Own) (d:PV) (T:String):Prop:=∀ (l:List Env) (F I:PH) (s:Gg) (v:Gd),HP w l F I own s.heap->VR I v d->s.TypeIs v T/\∀ a,v=.ref a->∃ ob,s.heap.get? a=fm ob/\ob.dict=fp
end
noncomputable def del (own:Own) (a:Gn):Own:=λb=>if b=a then fp else own b
section
theorem EVd.o {e:Expr} {d:PV} (h:EVd w k env ρ e d):EVO w k env ρ e (λd' own'=>d'=d/\own'=ρ.own) Ψo:=λA l F I s hA H L =>
 mPf (h A l F I s hA H L trivial) (λv s' I' a H' r q=>⟨I',ρ.own,d,a,H',r,q,rfl,rfl⟩)
theorem EVO.mono {e:Expr} {Θ':PV->Own->Prop} {Ψo':ExcD->Own->Prop} (h:EVO w k env ρ e Θ Ψo) (h1:∀ d o,Θ d o->Θ' d o) (h2:∀ d o,Ψo d o->Ψo' d o):EVO w k env ρ e Θ' Ψo':=λA l F I s hA H L =>
 Gm (h A l F I s hA H L) (λv s' E9=>E9.casesOn λI' o' d a H' r q c=>⟨I',o',d,a,H',r,q,h1 _ _ c⟩) λev s' E9=>E9.casesOn λI' o' x a H' X q c=>⟨I',o',x,a,H',X,q,h2 _ _ c⟩
theorem Aw {e:Expr} {d:PV} (h:EVO w k env ρ e (λd' own'=>d'=d/\OLe ρ.own own') noO):EVd w k env ρ e d:=λA l F I s hA H L Z =>
 Gm (h A l F I s hA H L) (λv s' ⟨I',o',d',a,H',r,q,c1,c2⟩=>⟨I',a,H'.drop c2,c1 ▸ r,q⟩) λev s' E9=>E9.casesOn λI' o' x a H' X q c=>c.elim
theorem EVO.at {e:Expr} (h:EVO w k env ρ e Θ Ψo) {A:GZ} {l:List Env} {F I:PH} {s:Gg} (hA:OkA k A l) (X:Rep w l F I env ρ s) :
  Gf (mdl w) A (eval e env) (Ody w l F I env ρ.loc s Θ) (Odx w l F I env ρ.loc s Ψo) s:=by
 show let Q':=_;let E':=_;Gf _ _ _ Q' E' _;intro Q' E'
 obtain⟨G,H,L,D⟩:=X
 exact Gm (h A l _ I s hA H L.up) (λv s' E9=>E9.casesOn λI' o' d a H' r q c=>⟨I',o',d,a,⟨G,H',L.mono a,D⟩,r,q,c⟩) λev s' E9=>E9.casesOn λI' o' x a H' X q c=>⟨I',o',x,a,⟨G,H',L.mono a,D,X⟩,q,c⟩
noncomputable def lift (loc:List (Str×PV)) (Ψo:ExcD->Own->Prop):ExcD->PSt->Prop:=λx ρ=>ρ.loc=loc/\Ψo x ρ.own
theorem fD {x:Str} {p1 pos:Pos} {e:Expr} (he:EVO w k env ρ e Θ Ψo) (hl:env.kindOf x=fm .local) (hx:∀ xd o,Ψo xd o->Ψ xd ⟨ρ.loc,o⟩) (hs:Lq e (fm (.Name x p1)) pos.line env=pure Gk) :
  EX1 w k env ρ (.Assign [.Name x p1] e pos) (λp ρ'=>p=.next/\∃ d own',Θ d own'/\ρ'=⟨(x,d)::ρ.loc,own'⟩) Ψ:=λA l F I s hA R =>
 Tg (Gm (he.at hA R) (λv s1 E9=>E9.casesOn λI1 o1 d a1 R1 r1 q1 c1=>R1.storeL hl r1 λs2 R2 q2=>⟨I1,_,.next,a1,R2,trivial,q1.trans q2,rfl,d,o1,c1,rfl⟩)
  λev s1 E9=>E9.casesOn λI1 o1 x a1 R1 q1 c1=>⟨I1,_,x,a1,R1,q1,hx _ _ c1⟩) hs
theorem Ao {pos:Pos} {e:Expr} (he:EVO w k env ρ e Θ Ψo) (hx:∀ xd o,Ψo xd o->Ψ xd ⟨ρ.loc,o⟩) :
  EX1 w k env ρ (.Return (fm e) pos) (λp ρ'=>∃ d own',Θ d own'/\p=.ret d/\ρ'=⟨ρ.loc,own'⟩) Ψ:=λA l F I s hA R =>
 gY (Gm (he.at hA R) (λv s1 E9=>E9.casesOn λI1 o1 d a1 R1 r1 q1 c1=>⟨I1,_,.ret d,a1,R1,r1,q1,d,o1,c1,rfl,rfl⟩)
  λev s1 E9=>E9.casesOn λI1 o1 x a1 R1 q1 c1=>⟨I1,_,x,a1,R1,q1,hx _ _ c1⟩)
theorem fU {pos:Pos} {e:Expr} (he:EVO w k env ρ e Θ Ψo) (hx:∀ xd o,Ψo xd o->Ψ xd ⟨ρ.loc,o⟩) (hs:Lq e fp pos.line env=pure Gk:=by rfl) :
  EX1 w k env ρ (.Expr e pos) (λp ρ'=>p=.next/\∃ d own',Θ d own'/\ρ'=⟨ρ.loc,own'⟩) Ψ:=λA l F I s hA R =>
 wpAny_Expr_any (Gm (he.at hA R) (λv s1 E9=>E9.casesOn λI1 o1 d a1 R1 r1 q1 c1=>⟨I1,_,.next,a1,R1,trivial,q1,rfl,d,o1,c1,rfl⟩)
  λev s1 E9=>E9.casesOn λI1 o1 x a1 R1 q1 c1=>⟨I1,_,x,a1,R1,q1,hx _ _ c1⟩) (by obtain⟨G,H,L,D⟩:=R;delta interactive;rw[L.kind];rfl) hs
theorem dH {st:HF} {rest:List HF} {f:PV->Own->PSt} (h:EX1 w k env ρ st (λp ρ'=>p=.next/\∃ d o,Θ d o/\ρ'=f d o) Ψ) (h':∀ d o,Θ d o->EX w k env (f d o) rest Φ Ψ):EX w k env ρ (st::rest) Φ Ψ :=
 fy h λρ' z=>xEEA z λd o q e=>e ▸ h' d o q
theorem pZ {st:HF} {q:PF} {f:PV->Own->PSt} (h:EX1 w k env ρ st (λp ρ'=>p=q/\∃ d o,Θ d o/\ρ'=f d o) Ψ) (h':∀ d o,Θ d o->Φ q (f d o)):EX1 w k env ρ st Φ Ψ :=
 EX1.mono h λp ρ' z=>zJ z λe1 d o q e=>e1 ▸ e ▸ h' d o q
theorem df {st:HF} {rest:List HF} {f:PV->Own->PSt} {m:MO} (h:EX1 w k env ρ st (λp ρ'=>p=.next/\∃ d o,(∃ a,d=.ref a/\own a=fp/\o=upd own a m)/\ρ'=f d o) Ψ) (h':∀ a,own a=fp->EX w k env (f (.ref a) (upd own a m)) rest Φ Ψ):EX w k env ρ (st::rest) Φ Ψ :=
 dH h λd o z=>xEAA z λa e1 n e2=>e1 ▸ e2 ▸ h' a n
theorem EVd.list {es:List Expr} {ds:List PV} {pos:Pos} (h:Args w k env ρ es ds) (hl:ds.length<=100000):EVd w k env ρ (.List es pos) (.lst ds):=λA l F I s hA H L Z=>by
 show let Q':=_;let E':=_;Gf _ _ _ Q' E' _;intro Q' E'
 rw[arm_eval_List]
 refine Ga (Ka (Ga (mP (h.td pos A l F I s hA H L trivial) (λvs s1 I1 a1 H1 r1 q1=>?_))))
 refine GR ?_ (by show vs.toArray.size<=_;rw[Gw,r1.length];exact Gc hl (lb rfl))
 exact⟨_,a1.trans (fA H1.new.2.1),H1.push_frozen (lstO vs 0),.lst (zd ..) (r1.mono (fA H1.new.2.1)),⟨q1.1,q1.2⟩⟩
theorem f7 {es:List Expr} {ds:List PV} {c:Nat} {pos:Pos} (h:Args w k env ρ es ds) (hl:ds.length<=100000):EVd w k env ρ (.Tuple es c pos) (.tup ds):=λA l F I s hA H L Z=>by
 show let Q':=_;let E':=_;Gf _ _ _ Q' E' _;intro Q' E'
 refine wpAny_Tuple (mP (h.td pos A l F I s hA H L trivial) (λvs s1 I1 a1 H1 r1 q1=>⟨by rw[r1.length];exact Gc hl (lb rfl),?_⟩))
 exact⟨_,a1.trans (fA H1.new.2.1),H1.push_frozen { cls:=.type "tuple",data:=.seq vs.toArray 0 },.tup (zd ..) (r1.mono (fA H1.new.2.1)),⟨q1.1,q1.2⟩⟩
theorem EVO.list {es:List Expr} {ds:List PV} {pos:Pos} (h:Args w k env ρ es ds) (hl:ds.length<=100000):EVO w k env ρ (.List es pos) (λd own'=>∃ a,d=.ref a/\ρ.own a=fp/\own'=upd ρ.own a (.lst ds)) Ψo:=λA l F I s hA H L=>by
 show let Q':=_;let E':=_;Gf _ _ _ Q' E' _;intro Q' E'
 rw[arm_eval_List]
 refine Ga (Ka (Ga (mPf (h.td pos A l F I s hA H L trivial) (λvs s1 I1 a1 H1 r1 q1=>?_))))
 refine GR ?_ (by show vs.toArray.size<=_;rw[Gw,r1.length];exact Gc hl (lb rfl))
 exact⟨I1,_,.ref s1.heap.objs.size,a1,(H1.push (lstO vs 0)).take (mo:=.lst ds) H1.new (GA _ rfl) ⟨vs,0,rfl,r1⟩,.ref _,⟨q1.1,q1.2⟩,_,rfl,H1.new.2.2.1,rfl⟩
theorem HP.frz {l:List Env} {F I:PH} {h:Kf} {a:Gn} {o:Obj} {mo:MO} (H:HP w l F I own h) (e:own a=fm mo) (ho:h.get? a=fm o):HP w l F (upd I a o) (del own a) h:=by
 refine xAA (H.oa a mo e) λh1 h2 h3=>?_
 exact(H.drop (own':=del own a) (λb m hb=>by delta del at hb;split at hb;cases hb;exact hb)).freeze ⟨h1,h2,if_pos rfl,h3⟩ ho
theorem EX.freeze {ss:List HF} {a:Gn} {ds:List PV} {loc':List (Str×PV)} (ho:ρ.own a=fm (.lst ds)) (hloc:∀ y d,loc'.lookup y=fm d->ρ.loc.lookup y=fm d\/(ρ.loc.lookup y=fm (.ref a)/\d=.lst ds))
  (h:EX w k env ⟨loc',del ρ.own a⟩ ss Φ Ψ):EX w k env ρ ss Φ Ψ:=λA l F I s hA R=>by
 show let Q':=_;let E':=_;Gf _ _ _ Q' E' _;intro Q' E'
 obtain⟨G,H,L,D⟩:=R
 refine zR (H.ow a _ ho) λo e vs n E5 r=>?_;subst E5
 have hs:Sub I (upd I a (lstO vs n)):=fA (H.oa a _ ho).2.1
 have H2:=H.frz ho e
 have hv:∀ v,VR I v (.ref a)->VR (upd I a (lstO vs n)) v (.lst ds):=λv hv=>by
  (have E0:=fJ hv;clear hv;subst E0);exact .lst (zd ..) (r.mono hs)
 have L2:Loc (upd I a (lstO vs n)) env loc' G:=by
  have Lm:=L.mono hs
  refine⟨Lm.kind,Lm.glo,Lm.blt,?_,λy d hy hk=>?_,Lm.cells,Lm.inj,Lm.has⟩
  .refine xEA (L.ns) λm hm hm2=>?_
   refine iEA m hm (λy d hy hk=>?_)
   rcases hloc y d hy with q | ⟨q,rfl⟩
   ·(refine xEA (hm2 y d q hk) λv h1 h2=>?_);exact iEA v h1 (h2.mono hs)
   ·(refine xEA (hm2 y _ q hk) λv h1 h2=>?_);exact iEA v h1 (hv v h2)
  .rcases hloc y d hy with q | ⟨q,rfl⟩
   .exact Lm.cell y d q hk
   ·(refine zs (L.cell y _ q hk) λc o v h1 h2 h3 h4=>?_);exact zI c o v h1 h2 h3 (hv v h4)
 exact Gm (h A l F _ s hA ⟨G,H2,L2,D⟩) (λf s' E9=>E9.casesOn λI' ρ' p a' R' r' q' c'=>⟨I',ρ',p,hs.trans a',R',r',q',c'⟩) λev s' E9=>E9.casesOn λI' ρ' x a' R' q' c'=>⟨I',ρ',x,hs.trans a',R',q',c'⟩
theorem OLe.del {a:Gn} {mo:MO} (h:own a=fp):OLe own (del (upd own a mo) a):=λb m e=>by
 have q:b≠a:=by rintro rfl;replace e:=h ▸ e;injection e
 show (if b=a then fp else upd own a mo b)=fm m
 rw[if_neg q,zc _ _ q];exact e
theorem tyd_lst {ds:List PV}:yY w own (.lst ds) "list" := λl F I s v H r=>by
 cases r using VR.cl with | lst e _=>exact⟨(iEA _ (H.fz _ _ e) rfl),λa q=>by (injection q with E1;subst E1);exact(iEA _ (H.fz _ _ e) rfl)⟩
theorem j8 {a:Gn} {ds:List PV} (h:own a=fm (.lst ds)):yY w own (.ref a) "list" := λl F I s v H r=>by
 cases r using dG with
 | ref=>(refine zR (H.ow a _ h) λo e vs n E5 Z=>?_;subst E5);exact⟨(iEA _ e rfl),λa q=>by (injection q with E1;subst E1);exact(iEA _ e rfl)⟩
theorem tyd_str {x:Str}:yY w own (.str x) "str" := λl F I s v H r=>by (refine fW r λZ E0=>?_;clear r;subst E0);exact⟨rfl,λa q=>by injection q⟩
theorem ZI {x:Array UInt8}:yY w own (.bytes x) "bytes" := λl F I s v H r=>by (refine fY r λZ E0=>?_;clear r;subst E0);exact⟨rfl,λa q=>by injection q⟩
theorem Args.noStar' {es:List Expr} {ds:List PV} (h:Args w k env ρ es ds) (pos:Pos):(NP pos (Kw es env)).all (λx=>!x.1)=Gh:=by
 induction h with
 | nil=>rfl
 | @cons e es d ds h1 h2 _ ih =>
  rw[zU h2]
  show (!false&&(NP pos (Kw es env)).all _)=Gh
  rw[ih];rfl
theorem dA {o:Expr} {name:Str} {apos pos:Pos} {es:List Expr} {T id:String} {d0:PV} {ds:List PV} (ho:EVd w k env ρ o d0) (hT:yY w ρ.own d0 T) (ha:Args w k env ρ es ds)
  (pa:XA T) (slot:Slot T name id) (hty:Xq (.builtin id)=pure (.type "method_descriptor"))
  (hc:∀ v vs,CALL w k ρ.own (λI=>VR I v d0/\VRs I vs ds) (call (.builtin id) (v::vs)) (λI v own'=>∃ d,VR I v d/\Θ d own') Ψo)
  (hlen:es.length<30:=by exact lb rfl) (hline:(apos.endLine==pos.line)=Gh:=by rfl) (hbase:Ht o name env (eval o env)=eval o env:=by rfl):EVO w k env ρ (.Call (.Attribute o name apos) es [] pos) Θ Ψo:=by
 intro A l F I s hA H L
 show let Q':=_;let E':=_;Gf _ _ _ Q' E' _;intro Q' E'
 refine g9 hbase (by rw[ha.noStar' pos];exact decide_eq_true hlen) hline pa slot hty (mPf (ho A l F I s hA H L trivial) (λov s1 I1 a1 H1 r1 q1=>?_))
 refine xA (hT l F I1 s1 ov H1 r1) λt1 t2=>?_
 refine⟨t1,t2,NU (ha.noStar pos) (mPf (ha.evalArgs pos _ A l F I1 s1 hA H1 (L.mono a1) trivial) (λar s2 I2 a2 H2 E9 q2=>E9.elim λhkw r2=>?_))⟩
 rw[hkw]
 exact Gm (hc ov ar.pos A l F I2 s2 hA H2 ⟨r1.mono a2,r2⟩) (λv s3 E9=>E9.casesOn λI3 o3 a3 H3 E9 q3=>xEA E9 λd r3 c3=>⟨I3,o3,d,a1.trans (a2.trans a3),H3,r3,q1.trans (q2.trans q3),c3⟩)
  λev s3 E9=>E9.casesOn λI3 o3 x a3 H3 X3 q3 c3=>⟨I3,o3,x,a1.trans (a2.trans a3),H3,X3,q1.trans (q2.trans q3),c3⟩
theorem Qy {a:Gn} {ds:List PV} {d:PV} {v:Gd} (ho:own a=fm (.lst ds)) (hl:ds.length<=100000):CALL w k own (λI=>VR I v d) (call (.builtin "list.append") [.ref a,v]) (λI r own'=>r=.none/\own'=upd own a (.lst (ds++[d]))) Ψo:=by
 intro A l F I s hA H hv
 show let Q':=_;let E':=_;Gf _ _ _ Q' E' _;intro Q' E'
 refine zR (H.ow a _ ho) λo e vs n E5 r=>?_;subst E5
 refine Ys ⟨n,e⟩ (λh' hp hs=>?_) (by simp[N7,r.length];exact Gc ‹_› (lb rfl))
 refine xE hp λn' e'=>?_;try clear hp
 have e2:h'.get? a=fm (lstO (vs++[v]) n'):=by rw[e'];simp[lstO]
 exact⟨I,_,.refl I,H.set ho hs.extBut e2 (mo':=.lst (ds++[d])) ⟨_,_,rfl,r.snoc hv⟩,⟨rfl,rfl⟩,⟨rfl,rfl⟩⟩
theorem EVO.append {o e:Expr} {apos pos:Pos} {a:Gn} {ds0:List PV} (ho:EVd w k env ρ o (.ref a)) (h0:ρ.own a=fm (.lst ds0)) (he:EVO w k env ρ e Θ Ψo) (hst:∀ x p,e≠.Starred x p) (hown:∀ d own1,Θ d own1->∃ ds,own1 a=fm (.lst ds)/\ds.length<=100000)
  (hline:(apos.endLine==pos.line)=Gh:=by rfl) (hbase:Ht o "append" env (eval o env)=eval o env:=by rfl) :
  EVO w k env ρ (.Call (.Attribute o "append" apos) [e] [] pos) (λd own'=>∃ d1 own1 ds,Θ d1 own1/\own1 a=fm (.lst ds)/\own'=upd own1 a (.lst (ds++[d1]))/\d=.none) Ψo:=by
 show let Θ':=_;let Ψ':=_;EVO _ _ _ _ _ Θ' Ψ';intro Θ' Ψ'
 intro A l F I s hA H L
 show let Q':=_;let E':=_;Gf _ _ _ Q' E' _;intro Q' E'
 have hse:=zU (e:=e) (es:=[]) hst env
 refine g9 hbase (by rw[hse];rfl) hline NI PySem.F.slot_list_append type_list_append (mPf (ho A l F I s hA H L trivial) (λov s1 I1 a1 H1 r1 q1=>?_))
 refine xA (j8 h0 l F I1 s1 ov H1 r1) λt1 t2=>?_
 have E0:=fJ r1;clear r1;subst E0
 refine⟨t1,t2,?_⟩
 rw[hse]
 refine NU rfl (TF (Ve (Gm (he A l F I1 s1 hA H1 (L.mono a1)) (λv s2 E9=>E9.casesOn λI2 o2 d a2 H2 r2 q2 c2=>?_) λev s3 E9=>E9.casesOn λI3 o3 x a3 H3 X3 q3 c3=>⟨I3,o3,x,a1.trans a3,H3,X3,q1.trans q3,c3⟩)))
 refine YI ?_
 refine xEA (hown d o2 c2) λds g1 g2=>?_
 exact Gm (Qy (k:=k) (Ψo:=Ψo) g1 g2 A l F I2 s2 hA H2 r2) (λr s3 E9=>E9.casesOn λI3 o3 a3 H3 E9 q3=>xA E9 λer eo=>⟨I3,o3,.none,a1.trans (a2.trans a3),H3,er ▸ .none,q1.trans (q2.trans q3),d,o2,ds,c2,g1,eo,rfl⟩)
  λev s3 E9=>E9.casesOn λI3 o3 x a3 H3 X3 q3 c3=>⟨I3,o3,x,a1.trans (a2.trans a3),H3,X3,q1.trans (q2.trans q3),c3⟩
end
noncomputable def pick {α:Type} (xs:List α) (lo hi st:Option Int):List α :=
 (sliceRange (Ls lo hi st xs.length).1 (Ls lo hi st xs.length).2.1 (Ls lo hi st xs.length).2.2).filterMap (xs[·]?)
theorem vk (vs:List Gd) (lo hi st:Option Int):slicePick vs.toArray lo hi st=(pick vs lo hi st).toArray:=by
 unfold slicePick pick
 simp only[Gw,Nd]
theorem VRs.picks {I:PH} {vs:List Gd} {ds:List PV} (h:VRs I vs ds):∀ idx:List Nat,VRs I (idx.filterMap (vs[·]?)) (idx.filterMap (ds[·]?))
 | []=>.nil
 | i::r=>by
  cases q:ds[i]? with
  | none =>
   have q2:=h.none_iff q
   rw[KU,KU,q,q2];exact h.picks r
  | some d =>
   refine xEA (h.get q) λv e hv=>?_
   rw[KU,KU,q,e];exact .cons hv (h.picks r)
theorem VRs.pick {I:PH} {vs:List Gd} {ds:List PV} (h:VRs I vs ds) (lo hi st:Option Int):VRs I (Mine.pick vs lo hi st) (Mine.pick ds lo hi st):=by
 delta Mine.pick;rw[h.length];exact h.picks _
theorem Z8 {α:Type} (xs:List α) (a b:Nat):((GH (b-a)).map (a + ·)).filterMap (xs[·]?)=(xs.drop a).take (b-a):=by
 generalize b-a=n
 induction n generalizing xs a with
 | zero=>rfl
 | succ n ih =>
  rw[LW,GG,XJ,ih,Hx]
  congr 1
  rw[GF,NW,KU,YE,YD]
  cases xs[a+n]? <;> rfl
theorem qD {α:Type} (xs:List α) {lo hi:Option Int} {a b:Nat} (e:Ls lo hi fp xs.length=((a:Int),(b:Int),1)):pick xs lo hi fp=(xs.drop a).take (b-a):=by
 delta pick
 rw[e]
 rw[sliceRange_one]
 exact Z8 xs a b
theorem JK {α:Type} (xs:List α) (b:Nat):pick xs fp (fm (b:Int)) fp=xs.take b:=by
 have e:Ls fp (fm (b:Int)) fp xs.length=(((0:Nat):Int),((min b xs.length:Nat):Int),1):=by
  simp only[Ls,Yy,show (1:Int)>0 by exact dc rfl,if_true,if_neg (show ¬ ((b:Int)<0) by exact HQ b)]
  congr 1
  congr 1
  lia
 rw[qD _ e,WE,XD]
 by_cases h:b<=xs.length
 .rw[gE h]
 .rw[gq (by exact Te ‹_›),KW (GI _),KW (by exact Te ‹_›)]
theorem vy {α:Type} (xs:List α) (a:Nat):pick xs (fm (a:Int)) fp fp=xs.drop a:=by
 have e:Ls (fm (a:Int)) fp fp xs.length=(((min a xs.length:Nat):Int),((xs.length:Nat):Int),1):=by
  simp only[Ls,Yy,show (1:Int)>0 by exact dc rfl,if_true,if_neg (show ¬ ((a:Int)<0) by exact HQ a)]
  congr 1
  lia
 rw[qD _ e]
 by_cases h:a<=xs.length
 .rw[gE h,KW (by simp)]
 .rw[gq (by exact Te ‹_›),Ky (GI _),Ky (by exact Te ‹_›)];exact Xa
section
theorem zh:K0 (.type "list") "__getitem__" = pure (fm (.builtin "list.__getitem__")):=PySem.F.slot_list_getitem.lookup
theorem yD:K0 (.type "tuple") "__getitem__" = pure (fm (.builtin "tuple.__getitem__")):=PySem.F.slot_tuple_getitem.lookup
theorem Qm {i n:Nat} (h:i<n):Tw (i:Int) n=fm i:=by
 unfold Tw
 have h0:¬ (i:Int)<0:=by exact HQ i
 simp only[h0,if_false]
 rw[if_pos (by simp only[GE,decide_eq_true_eq];lia)]
 rfl
theorem zn {ds:List PV} {i:Nat} {d:PV} {v1 v2:Gd} (hi:ds[i]? = fm d) (hs:ds.length<=100000):PR w k own (λI=>VR I v1 (.lst ds)/\VR I v2 (.int i)) (K7 v1 v2) (λI v=>VR I v d):=by
 intro A l F I s hA H E9
 refine xA E9 λr1 r2=>?_;clear E9
 have hlt:i<ds.length:=(GK.mp hi).1
 cases r1 using VR.cl with
 | lst e r =>
  refine fM r2 λZ E0=>?_;clear r2;subst E0
  refine xEA (r.get hi) λv e' hv=>?_
  exact gK (x:=v) (zj _ (H.fz _ _ e) rfl _ rfl) (by exact La i) (by lia) (by rw[OU,Nd];exact e') ⟨I,.refl I,H,hv,.refl s⟩
theorem zN {ds:List PV} {i:Int} {d:PV} {v1 v2:Gd} (h0:0<=i) (hi:ds[i.toNat]? = fm d) (hs:ds.length<=100000):PR w k own (λI=>VR I v1 (.lst ds)/\VR I v2 (.int i)) (K7 v1 v2) (λI v=>VR I v d):=by
 refine xE (Int.eq_ofNat_of_zero_le h0) λn E5=>?_;subst E5
 exact zn (by simpa using hi) hs
theorem Qn {a:Gn} {ds:List PV} {i:Nat} {d:PV} {v1 v2:Gd} (ho:own a=fm (.lst ds)) (hi:ds[i]? = fm d) (hs:ds.length<=100000):PR w k own (λI=>VR I v1 (.ref a)/\VR I v2 (.int i)) (K7 v1 v2) (λI v=>VR I v d):=by
 intro A l F I s hA H E9
 show let Q':=_;let E':=_;Gf _ _ _ Q' E' _;intro Q' E'
 refine xA E9 λr1 r2=>?_;clear E9
 have hlt:i<ds.length:=(GK.mp hi).1
 (have E0:=fJ r1;clear r1;subst E0);(refine fM r2 λZ E0=>?_;clear r2;subst E0)
 refine zR (H.ow a _ ho) λo e vs n E5 r=>?_;subst E5
 refine xEA (r.get hi) λv e' hv=>?_
 exact gK (x:=v) (zj _ e rfl _ rfl) (by exact La i) (by lia) (by rw[OU,Nd];exact e') ⟨I,.refl I,H,hv,.refl s⟩
theorem x5 {a:Gn} {ds:List PV} {d:PV} {v1 v2:Gd} (ho:own a=fm (.lst ds)) (hi:ds.getLast? = fm d) (hs:ds.length<=100000):PR w k own (λI=>VR I v1 (.ref a)/\VR I v2 (.int (-1))) (K7 v1 v2) (λI v=>VR I v d):=by
 intro A l F I s hA H E9
 show let Q':=_;let E':=_;Gf _ _ _ Q' E' _;intro Q' E'
 refine xA E9 λr1 r2=>?_;clear E9
 replace hi:=(List.getLast?_eq_getElem?) ▸ hi
 have hlt:ds.length-1<ds.length:=(GK.mp hi).1
 (have E0:=fJ r1;clear r1;subst E0);(refine fM r2 λZ E0=>?_;clear r2;subst E0)
 refine zR (H.ow a _ ho) λo e vs n E5 r=>?_;subst E5
 refine xEA (r.get hi) λv e' hv=>?_
 have hl:=r.length
 exact wpAny_getItem_list_neg (x:=v) (zj _ e rfl _ rfl) (dc rfl) (by rw[Gw];lia) (dc rfl) (by rw[Gw,show ((-1:Int)+(vs.length:Int)).toNat=ds.length-1 by rw[Nz.t5,hl],Nd];exact e') ⟨I,.refl I,H,hv,.refl s⟩
theorem x9 {ds:List PV} {i:Nat} {d:PV} {v1 v2:Gd} (hi:ds[i]? = fm d) (hs:ds.length<=100000):PR w k own (λI=>VR I v1 (.tup ds)/\VR I v2 (.int i)) (K7 v1 v2) (λI v=>VR I v d):=by
 intro A l F I s hA H E9
 refine xA E9 λr1 r2=>?_;clear E9
 have hlt:i<ds.length:=(GK.mp hi).1
 cases r1 using dv with
 | @tup a vs n e r =>
  refine fM r2 λZ E0=>?_;clear r2;subst E0
  refine xEA (r.get hi) λv e' hv=>?_
  have hl:=r.length
  refine PyProof.Rows.getItem_tuple (j:=i) (x:=v) (zj _ (H.fz _ _ e) rfl _ rfl) (by exact Int.neg_ofNat_le_natCast (2 ^ 63) i) (by lia) ?_ (by rw[Nd];exact e') ⟨I,.refl I,H,hv,.refl s⟩
  rw[Gw];exact Qm (by lia)
theorem yr {ds:List PV} {lo hi st:Option Int} {v1 vl vu vs:Gd} {sl:Gn} (h:ds.length<=100000) (pl:Oc vl lo) (pu:Oc vu hi) (ps:Oc vs st) (h0:st≠fm 0) :
  PR w k own (λI=>VR I v1 (.lst ds)/\SlAt I sl vl vu vs) (K7 v1 (.ref sl)) (λI v=>VR I v (.lst (pick ds lo hi st))):=by
 intro A l F I s hA H E9
 show let Q':=_;let E':=_;Gf _ _ _ Q' E' _;intro Q' E'
 refine xA E9 λr1 r2=>?_;clear E9
 cases r1 using VR.cl with
 | @lst a us n e r =>
  refine Ye (items:=us.toArray) (zj _ (H.fz _ _ e) rfl _ rfl) (iEAA _ (H.fz _ _ r2) rfl rfl) pl pu ps h0 ?_ (by rw[Gw,r.length];simp[N7];exact Gc ‹_› (lb rfl))
  rw[vk]
  exact⟨_,fA H.new.2.1,H.push_frozen (lstO (pick us lo hi st) 0),.lst (zd ..) ((r.pick lo hi st).mono (fA H.new.2.1)),⟨rfl,rfl⟩⟩
theorem yX {ds:List PV} {vs:List Gd} (h:ds.length<=100000):PR w k own (λI=>VRs I vs [.lst ds]) (call (.builtin "len") vs) (λI v=>VR I v (.int ds.length)):=by
 intro A l F I s hA H hP
 cases hP using ft with
 | cons r1 r2 =>
  (have E0:=VRs.nl r2;clear r2;subst E0)
  cases r1 using VR.cl with
  | @lst a us n e r =>
   have hl:=r.length
   refine Ya (zj _ (H.fz _ _ e) rfl _ rfl) (by rw[Gw];lia) ?_
   rw[Gw,hl]
   exact⟨I,.refl I,H,.int _ _,⟨rfl,rfl⟩⟩
theorem vK {a:Gn} {ds:List PV} {vs:List Gd} (ho:own a=fm (.lst ds)) (h:ds.length<=100000):PR w k own (λI=>VRs I vs [.ref a]) (call (.builtin "len") vs) (λI v=>VR I v (.int ds.length)):=by
 intro A l F I s hA H hP
 cases hP using ft with
 | cons r1 r2 =>
  (have E0:=VRs.nl r2;clear r2;subst E0)
  have E0:=fJ r1;clear r1;subst E0
  refine zR (H.ow a _ ho) λo e us n E5 r=>?_;subst E5
  have hl:=r.length
  refine Ya (zj _ e rfl _ rfl) (by rw[Gw];lia) ?_
  rw[Gw,hl]
  exact⟨I,.refl I,H,.int _ _,⟨rfl,rfl⟩⟩
theorem jU {ds:List PV} {vs:List Gd} (h:ds.length<=100000):PR w k own (λI=>VRs I vs [.tup ds]) (call (.builtin "len") vs) (λI v=>VR I v (.int ds.length)):=by
 intro A l F I s hA H hP
 cases hP using ft with
 | cons r1 r2 =>
  (have E0:=VRs.nl r2;clear r2;subst E0)
  cases r1 using dv with
  | @tup a us n e r =>
   have hl:=r.length
   refine len_tuple (items:=us.toArray) (zj _ (H.fz _ _ e) rfl _ rfl) (by rw[Gw];lia) ?_
   rw[Gw,hl]
   exact⟨I,.refl I,H,.int _ _,⟨rfl,rfl⟩⟩
end
noncomputable def nmOf (c:Int):List Nat:=if c.fmod 3=1 then [97] else [97,98]
noncomputable def yh (st:List Nat×List Nat) (c:Int):List Nat×List Nat :=
 let p:=st.1++Ha (1+(c.fdiv 3).fmod 2).toNat 47
 if c.fmod 3=0 then (p,st.2) else (p++nmOf c,st.2++[(p++nmOf c).length])
noncomputable def zQ (cells:List Int):List Nat×List Nat:=cells.foldl yh ([],[0])
noncomputable def natL (ns:List Nat):List PV:=ns.map λ(n:Nat)=>PV.int (n:Int)
noncomputable def intL (ns:List Int):List PV:=ns.map PV.int
theorem fmod2 (a:Int):0<=a.fmod 2/\a.fmod 2<=1:=⟨XK a (dc rfl),by have:=YU a (b:=2) (dc rfl);exact X7.mpr this⟩
theorem fmod3 (a:Int):0<=a.fmod 3/\a.fmod 3<=2:=⟨XK a (dc rfl),by have:=YU a (b:=3) (dc rfl);exact X7.mpr this⟩
theorem Zk (st:List Nat×List Nat) (c:Int):(yh st c).1.length<=st.1.length+4/\(yh st c).2.length<=st.2.length+1:=by
 have:=fmod2 (c.fdiv 3)
 have h2:(nmOf c).length<=2:=by delta nmOf;split<;>decide
 delta yh
 dsimp only
 split
 .simp;exact Int.le_trans (YF this.2 1) (dc rfl)
 .simp;exact OF (AY this) h2
theorem uE (cells:List Int):(zQ cells).1.length<=4*cells.length/\(zQ cells).2.length<=cells.length+1:=by
 delta zQ
 have aux:∀ (cells:List Int) (st:List Nat×List Nat),(cells.foldl yh st).1.length<=st.1.length+4*cells.length/\(cells.foldl yh st).2.length<=st.2.length+cells.length:=by
  intro cells
  induction cells with
  | nil=>intro st;exact⟨GI _,GI _⟩
  | cons c r ih =>
   intro st
   have h1:=ih (yh st c)
   have h2:=Zk st c
   simp only[Km,GC]
   exact⟨Nz.a4 h1.1 h2.1,Nz.a1 h1.2 h2.2⟩
 have:=aux cells ([],[0])
 simp at this
 exact⟨this.1,Gc this.2 (KB (LR ..))⟩
section
variable {b:Bool}
theorem noSt {e:Expr} (h:∀ x p,e≠.Starred x p):∀ x p,e≠.Starred x p:=h
theorem Qv {cells:List Int} {vs:List Gd} (hb:k.b=Gh) (hn:cells.length<=1000):PR w k.up.up own (λI=>VRs I vs [.lst (intL cells),.lst [tb b [97],tb b [97,98]]]) (call (.ref 189) vs)
  (λI v=>VR I v (.tup [tb b ((zQ cells).1++[47]),.lst (natL (zQ cells).2)])):=by
 intro A l F I s hA H hP
 show let Q':=_;let E':=_;Gf _ _ _ Q' E' _;intro Q' E'
 refine VRs.k hP λv vs E0 r1 r2=>?_;clear hP;subst E0
 cases r2 using ft with
 | cons r2 r3 =>
 (have E0:=VRs.nl r3;clear r3;subst E0)
 refine mP (yo (w:=w) (i:=13) (own:=own) (P:=λI=>VRs I _ [.lst (intL cells),.lst [tb b [97],tb b [97,98]]]) (ds:=[(oS "cells",.lst (intL cells)),(oS "names",.lst [tb b [97],tb b [97,98]])])
  (D:=λd'=>d'=.tup [tb b ((zQ cells).1++[47]),.lst (natL (zQ cells).2)]) rfl fP ⟨rfl,rfl,rfl⟩
  (λfd h1 h2 h3=>?_) ?_ (λenv eok=>?_) A l F I s hA H (.cons r1 (.cons r2 .nil))) (λv s' I' a H' E9 q=>xEA E9 λd' r e=>⟨I',a,H',e ▸ r,q⟩)
 .refine zO h1 h2 h3 (bs:=[(oS "cells",_),(oS "names",_)]) (λfd h1 h2 h3=>?_) λI h=>by
   cases h using ft with | cons a h=>cases h using ft with | cons b h=>exact .cons a (.cons b .nil)
  obtain⟨⟩:=fd
  simp only at h1 h2 h3
  subst h1 h2 h3
  rfl
 .intro x hx
  simp only[Gi,Gl,or_false] at hx
  rcases hx with rfl | rfl<;>exact .inl rfl
 .have hcells:=eok.kL "cells"
  have hnames:=eok.kL "names"
  have hpath:=eok.kL "path"
  have hplaces:=eok.kL "places"
  have hcell:=eok.kL "cell"
  have hgs:=eok.kG "_get_sep"
  have hlen:=eok.kG "len"
  obtain⟨idg,hlk⟩:=uO (b:=b)
  refine EX.step (fH (fN (EVd.sub (fq hnames rfl) EVd.int zo zh (λv1 v2=>zn (i:=0) (d:=tb b [97]) rfl (by exact G0.mp rfl))) .none (.some EVd.int) .none uJ hlk
   (λv1 sl vl vu vs pl pu ps=>by cases ps;exact va (lb rfl) pl pu)) hpath rfl) ?_
  refine df (fD (EVO.list (.cons EVd.int (nst rfl) .nil) (lb rfl)) hplaces (λZ Z h=>h) rfl) λa ha=>?_
  let St:PSt->List Nat×List Nat->Prop:=λρ st=>ρ.own=upd own a (.lst (natL st.2))/\ρ.loc.lookup (oS "path")=fm (tb b st.1)/\ρ.loc.lookup (oS "names")=fm (.lst [tb b [97],tb b [97,98]])/\ρ.loc.lookup (oS "places")=fm (.ref a)
  refine fy (D:=λρ=>St ρ (zQ cells)) (de (k:=k.up) (CO:=λZ=>True) (ds:=intL cells) hb (fq hcells rfl) (Itb.lst hb) hcell (λi ρ=>St ρ (zQ (cells.take i))) ?_ (λZ Z Z=>trivial) ?_ ?_) ?_
  .exact⟨rfl,rfl,rfl,rfl⟩
  .intro i d ρ2 hd E9;refine xAAA E9 λo2 l1 l2 l3=>?_;clear E9
   obtain⟨c,hc,rfl⟩:∃ c,cells[i]? = fm c/\d=.int c:=by
    delta intL at hd
    replace hd:=(Gx) ▸ hd
    cases q:cells[i]? with
    | none=>replace hd:=q ▸ hd;injection hd
    | some c=>replace hd:=q ▸ hd;(injection hd with E1;subst E1);exact iEA c rfl rfl
   have htake:cells.take (i+1)=cells.take i++[c]:=by rw[Hx,hc];rfl
   have hrun:zQ (cells.take (i+1))=yh (zQ (cells.take i)) c:=by rw[htake];delta zQ;rw[Lk];rfl
   have hlen1:=uE (cells.take i)
   have htl:=Lh i cells
   generalize zQ (cells.take i)=st at o2 l1 hrun hlen1
   have hm2:=fmod2 (c.fdiv 3)
   have hm3:=fmod3 c
   have hs4:st.1.length<=4000:=Gc hlen1.1 (Vd 4 (Gc htl hn))
   have lc:(ρ2.set (oS "cell") (.int c)).loc.lookup (oS "cell")=fm (.int c):=rfl
   refine EX.step (fH (d:=tb b (st.1++Ha (1+(c.fdiv 3).fmod 2).toNat 47)) (fC (fq hpath (l1)) (fC (fR hgs rfl (i:=9) rfl (.cons (fq hpath (l1)) (nst rfl) .nil) (λvs=>(ux b st.1) ▸ yW (jX b st.1)))
    (fC EVd.int (fC (fC (fq hcell lc) EVd.int (λv1 v2=>pr_fdiv (dc rfl) (lb rfl))) EVd.int (λv1 v2=>um (dc rfl))) (λv1 v2=>ur)) (λv1 v2=>Zd (Int.le_add_of_nonneg_right hm2.1) (YF hm2.2 1)))
    (λv1 v2=>xr (by simp;exact Gc (OF hs4 (AY hm2)) (lb rfl)))) hpath rfl) ?_
   refine Mine.gn (st.1++Ha (1+(c.fdiv 3).fmod 2).toNat 47) λp1 hp1=>?_
   have hp1l:p1.length<=st.1.length+2:=by rw[←hp1];simp;lia
   refine fw (fI (b:=c.fmod 3 != 0) (fE (fC (fq hcell (lc)) EVd.int (λv1 v2=>um (dc rfl))) EVd.int (λv1 v2=>pr_ne)) (λhne=>?_) (λheq=>?_))
   .have hne':c.fmod 3≠0:=by simpa using hne
    have hidx:([tb b [97],tb b [97,98]]:List PV)[(c.fmod 3-1).toNat]? = fm (tb b (nmOf c)):=by
     delta nmOf
     by_cases q:c.fmod 3=1
     .rw[if_pos q,q];rfl
     .rw[if_neg q,show c.fmod 3=2 from Nz.t6 hm3 hne' q];rfl
    have hnm:(nmOf c).length<=2:=by delta nmOf;split<;>decide
    refine EX.step (fH (d:=tb b (p1++nmOf c)) (fC (fq hpath rfl) (EVd.sub (fq hnames ((l2)))
     (fC (fC (fq hcell (lc)) EVd.int (λv1 v2=>um (dc rfl))) EVd.int (λv1 v2=>qu)) zo zh (λv1 v2=>zN (Int.sub_nonneg_of_le (TU.mpr ⟨hm3.1,Hk hne'⟩)) hidx (by simp))) (λv1 v2=>xr (Gc (OF (Gc hp1l (Ku hs4 2)) hnm) (lb rfl)))) hpath rfl) ?_
    refine fw (EX1.mono (fU (EVO.append (a:=a) (ds0:=natL st.2) (fq hplaces (((l3)))) (by show ρ2.own a=_;rw[o2];exact zd ..)
     (EVd.o (fB hlen rfl (.cons (fq hpath rfl) (nst rfl) .nil) (λvs=>xt (by simp;lia)))) (nst rfl) ?_) (λZ Z h=>h)) ?_)
    .intro d own1 E9;refine xA E9 λE5 E6=>?_;clear E9;subst E5;subst E6
     exact iEA (natL st.2) (by show ρ2.own a=_;rw[o2];exact zd ..) (by delta natL;rw[Ge];lia)
    .intro p ρ3 E9;refine zJ E9 λE30 d own3 E31 E32=>?_;clear E9;subst E30;(refine zs E31 λd1 own1 ds E32 h1 E33 E34=>?_;clear E31;obtain⟨rfl,rfl⟩:=E32;subst E33;subst E34);subst E32
     have hds:ds=natL st.2:=by
      have:ρ2.own a=fm (.lst ds):=h1
      (replace this:=o2 ▸ this;rewrite [zd] at this);(injection this with E1;injection E1 with E1;subst E1);rfl
     subst hds
     rw[show zQ (cells.take (i+1))=(p1++nmOf c,st.2++[(p1++nmOf c).length]) by rw[hrun];delta yh;dsimp only;rw[if_neg hne',hp1]]
     refine⟨?_,rfl,?_,?_⟩
     .show upd ρ2.own a _=_
      rw[o2]
      funext x
      by_cases q:x=a
      .subst q;rw[zd,zd];delta natL;rw[GG];rfl
      .rw[zc _ _ q,zc _ _ q,zc _ _ q]
     .exact((l2))
     .exact((l3))
   .have heq':c.fmod 3=0:=by simpa using heq
    refine EX.nil ?_
    rw[show zQ (cells.take (i+1))=(p1,st.2) by rw[hrun];delta yh;dsimp only;rw[if_pos heq',hp1]]
    exact⟨o2,rfl,(l2),(l3)⟩
  .rintro ρ2 h
   refine EX.nil ⟨rfl,?_⟩
   replace h:=(show (intL cells).length=cells.length from Ge ..) ▸ h;replace h:=Kq ▸ h
   exact h
  .intro ρ2 E9;refine xAAA E9 λo2 l1 l2 l3=>?_;clear E9
   have hl:=uE cells
   generalize zQ cells=st at *
   refine EX.freeze (a:=a) (ds:=natL st.2) (loc':=(oS "places",.lst (natL st.2))::ρ2.loc) (by rw[o2];exact zd ..) (λy d hy=>?_) ?_
   .by_cases q:y=oS "places"
    .subst q;replace hy:=ze ▸ hy;(injection hy with E1;subst E1);exact .inr ⟨l3,rfl⟩
    .replace hy:=zb q ▸ hy;exact .inl hy
   have l1':((oS "places",PV.lst (natL st.2))::ρ2.loc).lookup (oS "path")=fm (tb b st.1):=l1
   refine fw (fS (EX1.ret (f7 (.cons (fC (fq hpath l1') (fR hgs rfl (i:=9) rfl (.cons (fq hpath l1') (nst rfl) .nil) (λvs=>(ux b st.1) ▸ yW (jX b st.1))) (λv1 v2=>xr (by simp;lia))) (nst rfl)
    (.cons (fq hplaces rfl) (nst rfl) .nil)) (by simp))) ?_)
   refine⟨rfl,?_⟩
   show OLe own (del ρ2.own a)
   rw[o2];exact OLe.del ha
end
noncomputable def rpOf (b:Bool) (cs:List Nat):Str:=if b then OI (cs.map GP).toArray else reprText ⟨cs.toArray⟩
theorem jS:Slot "bytes" "__repr__" "bytes.__repr__" :=
 .of (owner := "bytes") (n := "__repr__") (by rw[HM,Hf];kernel_rfl) (by decide +kernel) (by decide +kernel) (by decide +kernel)
  (by first | exact .inl (by decide +kernel) | exact .inr (by decide +kernel)) (by rw[G8];kernel_rfl)
theorem ji:N8 table "bytes.__repr__" = fm Hm.«bytes.__repr__»:=KM (by kernel_rfl)
theorem jN (a:Gd):OC "bytes.__repr__" ⟨[a],[]⟩:=by
 delta OC;kernel_rfl
theorem jj (x:Array UInt8) (t:Tok) (h:x.size<=1000):Gives (Hm.«bytes.__repr__» ⟨[.bytes x t],[]⟩) (.str (OI x)):=by
 have e:N5 x=pure (OI x):=by
  delta N5
  have:VW (4*x.size+3+0)=Gk:=by
   delta VW
   simp[N7];lia
  rw[this];rfl
 show Gives (do let z ← N5 x;retStr z) _
 rw[e]
 exact .of_eq rfl
section
variable {b:Bool} {cs:List Nat}
theorem pI {e:Expr} {pos:Pos} {x:Str} (h:EVd w k env ρ e (.str x)) (hx:x.length<=10000):EVd w k env ρ (.FormattedValue e (-1) Option.none pos) (.str x):=λA l F I s hA H L Z =>
 wpAny_FormattedValue_plain (mP (h A l F I s hA H L trivial) (λv s1 I1 a1 H1 r1 q1=>by
  show let Q':=_;let E':=_;Gf _ _ _ Q' E' _;intro Q' E'
  refine fW r1 λZ E0=>?_;clear r1;subst E0
  exact T9 ⟨I1,a1,H1,.str _ _,q1⟩ ⟨I1,a1,H1,.str _ _,⟨q1.1,q1.2⟩⟩ (Gc hx (lb rfl))))
theorem pM {e:Expr} {pos:Pos} (h:EVd w k env ρ e (tb b cs)) (hx:(rpOf b cs).length<=10000) (hc:cs.length<=1000):EVd w k env ρ (.FormattedValue e 114 Option.none pos) (.str (rpOf b cs)):=λA l F I s hA H L Z =>
 wpAny_FormattedValue_repr (mP (h A l F I s hA H L trivial) (λv s1 I1 a1 H1 r1 q1=>by
  show let Q':=_;let E':=_;Gf _ _ _ Q' E' _;intro Q' E'
  have hsz:(rpOf b cs).length<=N7:=Gc hx (lb rfl)
  cases b with
  | false =>
   refine fW r1 λZ E0=>?_;clear r1;subst E0
   exact wpAny_pyReprObj_str (T9 ⟨I1,a1,H1,.str _ _,⟨q1.1,q1.2⟩⟩ ⟨I1,a1,H1,.str _ _,⟨q1.1,q1.2⟩⟩ hsz) hsz
  | true =>
   refine fY r1 λZ E0=>?_;clear r1;subst E0
   exact wpAny_pyReprObj_gives (T := "bytes") rfl jS ji (jN _) (jj _ _ (by simpa using hc)) (T9 ⟨I1,a1,H1,.str _ _,⟨q1.1,q1.2⟩⟩ ⟨I1,a1,H1,.str _ _,⟨q1.1,q1.2⟩⟩ hsz) rfl hsz))
inductive Txts (w:K6) (k:Lv) (env:Env) (ρ:PSt):List Expr->List Str->Prop
 | nil:Txts w k env ρ [] []
 | cons {e:Expr} {es:List Expr} {x:Str} {xs:List Str}:EVd w k env ρ e (.str x)->Txts w k env ρ es xs->Txts w k env ρ (e::es) (x::xs)
noncomputable def glue:Str->List Str->Str
 | acc,[]=>acc
 | acc,x::r=>glue (acc++x) r
theorem QU:∀ (xs:List Str) (acc:Str),acc.length<=(glue acc xs).length
 | [],_=>GI _
 | x::r,acc=>Gc (by rw[Ll];exact HK _ _) (QU r (acc++x))
theorem Txts.joins {es:List Expr} {xs:List Str} (h:Txts w k env ρ es xs):∀ {A:GZ} {l:List Env} {F I:PH} {s0 s:Gg} {acc:Str} {E:Gd->Gg->Prop} {I0:PH},OkA k A l->Sub I0 I->HP w l F I ρ.own s.heap->Loc I env ρ.loc F->Same s0 s->(glue acc xs).length<=10000 ->
  Joins (mdl w) A E (evalEach es env) acc (λout s1=>out.length<=N7/\Py w l F ρ.own I0 s0 (λJ v=>VR J v (.str (glue acc xs))) (.str out s1.toks) { s1 with toks:=s1.toks+1 }) s:=by
 induction h with
 | nil=>intro A l F I s0 s acc E I0 hA a H L q hl;exact⟨Gc hl (lb rfl),I,a,H,.str _ _,q⟩
 | @cons e es x xs h1 _ ih =>
  intro A l F I s0 s acc E I0 hA a H L q hl
  show Gf _ _ (eval e env) _ _ _
  show let Q':=_;let E':=_;Gf _ _ _ Q' E' _;intro Q' E'
  refine mPf (h1 A l F I s hA H L trivial) (λv s1 I1 a1 H1 r1 q1=>?_)
  refine fW r1 λZ E0=>?_;clear r1;subst E0
  exact xk x _ rfl (Gc (Gc (QU xs _) hl) (lb rfl)) (ih hA (a.trans a1) H1 (L.mono a1) (q.trans q1) hl)
theorem dO {e1 e2:Expr} {es:List Expr} {pos:Pos} {xs:List Str} (h:Txts w k env ρ (e1::e2::es) xs) (hl:(glue NC xs).length<=10000):EVd w k env ρ (.JoinedStr (e1::e2::es) pos) (.str (glue NC xs)):=λA l F I s hA H L Z =>
 wpAny_JoinedStr (h.joins hA (.refl I) H L (.refl s) hl)
end
section
theorem Loose.uni_left {F G:PH} {a:Gn} (h:Loose (uni F G) I own a):Loose F I own a:=by
 refine⟨?_,h.2⟩
 have:=h.1
 unfold uni at this
 split at this
 .injection this
 .exact this
theorem ExcIn.loose {F F':PH} {own':Own} {h:Kf} {ev:Gd} {x:ExcD} (X:ExcIn F I own h ev x) (hl:∀ a,Loose F I own a->Loose F' I own' a):ExcIn F' I own' h ev x:=by
 obtain⟨e,o,vs,h1,h2,h3,h4,h5,h6,h7,h8,h9⟩:=X
 refine⟨e,o,vs,h1,hl _ h2,h3,h4,h5,h6,h7,h8,?_⟩
 rcases h9 with h9 | ⟨T,oT,ts,g1,g2,g3,g4,g5,g6⟩
 .exact .inl h9
 .exact .inr ⟨T,oT,ts,g1,hl _ g2,g3,g4,g5,g6⟩
theorem jp {f c:Gn} {st:HF} {q:Str} {dfl:Gd} {own:Own} {P:PH->Prop} {vs:List Gd} {kws:List (Str×Gd)} {ds:List (Str×PV)} {Θ:PV->Own->Prop}
  (hf:∀ I,Base I->P I->FnAt I f st q dfl c) (mP:Mono P) (hsc:(zf st).kind=.function/\(zf st).isCoroutine=Gk/\(zf st).isGenerator=Gk)
  (hb:∀ fd:LS,fd.params=zE st->fd.defaults=dfl->fd.kwdefaults=.none->PR w k own P (NG fd ⟨vs,kws⟩) (λI bs=>BRs I bs ds))
  (hn:∀ x∈ds,(zf st).names.lookup x.1=fm .local\/(zf st).names.lookup x.1=fm .cell)
  (body:∀ env,EnvOk env st c (q++oS ".<locals>.")->EX w k env ⟨ds.reverse,own⟩ (zt st) (λp ρ'=>Θ p.res ρ'.own) (λx ρ'=>Ψo x ρ'.own)) :
  CALL w k.up own P (call (.ref f) vs kws) (λI v own'=>∃ d,VR I v d/\Θ d own') Ψo:=by
 intro A l F I s hA H hP
 show let Q':=_;let E':=_;Gf _ _ _ Q' E' _;intro Q' E'
 obtain⟨⟨o,fd,e,hcls,hd,h1,h2,h3,h4,h5,h6,h7,h8,h9,h10⟩,hcd⟩:=hf I H.base hP
 refine NY (Vb (by have:=hA.dp;simp only[Lv.up] at this;exact H0 this) (H.fz _ _ e) hd (by rw[h3];exact hsc.2.1) (by rw[h3];exact hsc.2.2) h2 (by rw[h7,h10];exact H.codeRec hcd) ?_)
 refine mPf (hb fd h1 h8 h9 A.in1 l F I s hA.in1 H hP) (λbs s1 I1 a1 H1 B q1=>?_)
 rw[h4]
 refine vD H1 h3 hsc.1 h5 h6 h10 B hn λenv s2 eok R q2=>⟨?_,YK ?_⟩
 .obtain⟨G,H2,_,_⟩:=R;exact H2.noLimit
 .show let Q':=_;let E':=_;Gf _ _ _ Q' E' _;intro Q' E'
  have eok':EnvOk env st c (q++oS ".<locals>."):=by rw[←h7];exact eok
  refine Gm (body env eok' (A.deeper env) l F I1 s2 (hA.deeper env) R) (λfl s3 E9=>E9.casesOn λI3 ρ3 p a3 R3 r3 q3 c3=>?_) λev s3 E9=>E9.casesOn λI3 ρ3 x a3 E9 q3 c3=>E9.casesOn λG H3 L3 D3 X3=>?_
  .obtain⟨G,H3,L3,D3⟩:=R3
   exact⟨I3,ρ3.own,a1.trans a3,H3.dropG (λen hen=>(H.stk en hen).2) D3,⟨p.res,by cases fl<;>exact r3.res,c3⟩,q1.trans (q2.trans q3)⟩
  .refine zJ (H3.stk env Gp) λZ Lf Z hfr Z=>?_
   refine leave_ok (outer:=l) (hA.deeper env).fr rfl hfr H3 X3 λs4 H4 X4 q4=>?_
   exact⟨I3,ρ3.own,x,a1.trans a3,H4.dropG (λen hen=>(H.stk en hen).2) D3,X4.ex.loose λa ha=>ha.uni_left,q1.trans (q2.trans (q3.trans q4)),c3⟩
theorem qO {i:Nat} {f c:Gn} {st:HF} {q:String} {dfl:Gd} {P:PH->Prop} (hi:fnTab[i]? = fm (f,st,q,dfl,c)):∀ I,Base I->P I->FnAt I f st (G7 q) dfl c:=λI hb Z=>hb.fns i f st q dfl c hi
theorem HP.codeHd {s:Gg} (H:HP w l F I own s.heap):W.CodeHd s.heap 181 tabP:=by
 refine xEA (H.base.frag) λK hK kok=>?_
 refine uA (kok.code) λo vs file tf flags tg inF text tt h1 h2 h3 h4 h5 h6 h7 h8 h9=>?_
 exact vV o vs file tf flags tg inF text tt (H.fz _ _ (hK _ _ h1)) h2 h3 h4 h5 h6 h7 h8 h9 (dc rfl)
theorem Qs:zk=.FunctionDef (oS "coord_repr") (zE zk) (zt zk) [] fp [] (zf zk) fp (oS "coord_repr") (posOf zk):=rfl
theorem pP {nm:Str} (heq:nm=oS "coord_repr") (hl:env.kindOf nm=fm .local) (hsc:env.scope.kind=.function) (hcd:env.code=.ref 181) (hg:env.globals=HX) (hq:env.qual=oS "suffixed_err" ++ oS ".<locals>.") :
  EX1 w k env ρ zk (λp ρ'=>p=.next/\ρ'=ρ.set nm (.fn zk yg)) Ψ:=by
 subst heq
 intro A l F I s hA R
 show let Q':=_;let E':=_;Gf _ _ _ Q' E' _;intro Q' E'
 rw[Qs]
 refine W.nestDef_K rfl rfl rfl ?_
 show let Q':=_;let E':=_;Gf _ _ _ Q' E' _;intro Q' E'
 obtain⟨G,H,L,D⟩:=R
 have hcl:gP (zf zk) env=pure []:=rfl
 refine Jk (H.base.glob) λmg hm Z Z bm ob g1 g2 g3 g4 g5 g6 g7 g8=>?_
 have hqual:qualnameIn env (oS "coord_repr") (oS "coord_repr")=yg:=by
  delta qualnameIn
  rw[hl,hq];rfl
 rw[hqual]
 have hB:s.heap.BuiltinsAt mg tabP:=(jF bm ob g1 g2 g3 g4 (H.fz _ _ g5) g6 g7 g8)
 have fin:∀ (c':Gn) (ctv doc:Gd) (h2:Kf) (tk:Tok) (I2:PH),Sub I I2->HP w (env::l) (uni F G) I2 ρ.own h2->CodeRecI I2 (.ref c') yg ->
   Gf (mdl w) A (VB env (oS "coord_repr") (.ref h2.objs.size)) (λZ=>Ey w l F I env s (λp ρ'=>p=.next/\ρ'=ρ.set (oS "coord_repr") (.fn zk yg)) .next)
    (XP w l F I env s Ψ)
    { s with heap:=h2.push (W.fnMade (oS "coord_repr") yg (zE zk) (zt zk) (zf zk) [] doc ((mg "__name__").getD .none) c' ctv),toks:=tk }:=by
  intro c' ctv doc h2 tk I2 a2 H2 hc
  show let Q':=_;let E':=_;Gf _ _ _ Q' E' _;intro Q' E'
  have H3:=H2.push_frozen (W.fnMade (oS "coord_repr") yg (zE zk) (zt zk) (zf zk) [] doc ((mg "__name__").getD .none) c' ctv)
  have a3:=fA (o:=W.fnMade (oS "coord_repr") yg (zE zk) (zt zk) (zf zk) [] doc ((mg "__name__").getD .none) c' ctv) H2.new.2.1
  obtain⟨c2,oc,vs,t,e1,e2,e3,e4⟩:=hc.mono a3
  (injection e1 with E1;subst E1)
  refine Rep.storeL (ρ:=ρ) (d:=.fn zk yg) ⟨G,H3,L.mono (a2.trans a3),D⟩ hl (.fn (zd ..) ⟨rfl,rfl,rfl,rfl,rfl,rfl,rfl,rfl,rfl,rfl,rfl,rfl⟩ e2 ⟨e3,e4⟩) λs' R' q'=>⟨_,_,.next,a2.trans a3,R',trivial,⟨q'.1,q'.2⟩,rfl,rfl⟩
 show let Q':=_;let E':=_;Gf _ _ _ Q' E' _;intro Q' E'
 rcases H.tab with ht | E84
 .refine W.makeFunction_K (ps := #[]) (mg:=mg) hcl hg (H.nsI hm) hcd H.codeHd ht trivial rfl (dc rfl) hB λc' ctv doc h' tk hx hge hlt hrec htb=>?_
  refine xEEEEAAA hrec λcX oc vs t e1 e2 e3 e4=>?_;try clear hrec
  (injection e1 with E1;subst E1)
  have H1:HP w (env::l) (uni F G) (upd I c' oc) ρ.own h':=by
   have Lc:Loose (uni F G) I ρ.own c':=dT H hge
   have hcI:CodeRecI (upd I c' oc) (.ref c') yg:=⟨c',oc,vs,t,rfl,zd ..,e3,e4⟩
   have ne:∀ b,(uni F G b≠fp\/I b≠fp\/ρ.own b≠fp)->b≠tabP:=by
    rintro b hb rfl
    rcases hb with hb | hb | hb
    .exact hb H.tf
    .exact hb H.ti
    .cases q:ρ.own tabP with
     | none=>exact hb q
     | some mo=>exact(H.oa _ _ q).2.2 rfl
   have sI:Sub I (upd I c' oc):=fA Lc.2.1
   refine⟨λa o e=>?_,λa o e=>?_,λa mo e=>?_,λa o e=>?_,λa mo e=>?_,H.tf,?_,.inr ⟨_,htb,hcI⟩,H.base.mono sI,H.stk⟩
   ·(refine xEA (H.fr a o e) λo' h1 h2=>?_);exact iEA o' (hx _ _ (ne a (.inl (by rw[e];(intro h;injection h;done)))) h1) h2
   .by_cases q:a=c'
    .subst q;rewrite [zd] at e;(injection e with E1;subst E1);exact e2
    .replace e:=zc _ _ q ▸ e;exact hx _ _ (ne a (.inr (.inl (by rw[e];(intro h;injection h;done))))) (H.fz a o e)
   ·(refine xEA (H.ow a mo e) λo h1 h2=>?_);exact iEA o (hx _ _ (ne a (.inr (.inr (by rw[e];(intro h;injection h;done))))) h1) (h2.mono w sI)
   .rw[zc _ _ (by rintro rfl;replace e:=Lc.1 ▸ e;injection e)];exact H.fi a o e
   .rw[zc _ _ (by rintro rfl;replace e:=Lc.2.2.1 ▸ e;injection e)];exact H.oa a mo e
   .rw[zc _ _ (Hk Lc.2.2.2)];exact H.ti
  have Lc:I c'=fp:=(dT H hge).2.1
  exact fin c' ctv doc h' tk _ (fA Lc) H1 ⟨c',oc,vs,t,rfl,zd ..,e3,e4⟩
 .show let Q':=_;let E':=_;Gf _ _ _ Q' E' _;intro Q' E'
  refine xEA E84 λc ht hc=>?_;clear E84
  obtain⟨c2,oc,vs,t,rfl,e2,e3,e4⟩:=id hc
  refine W.makeFunction_hit (cv:=.ref c2) (mg:=mg) hcl hg (H.nsI hm) hcd H.codeHd ht trivial rfl hB λctv doc h' tk hk hsz=>?_
  exact fin c2 ctv doc h' tk I (.refl I) (H.all hk) hc
end
section
theorem HP.loose_of_none {h:Kf} {e:Gn} (H:HP w l F I own h) (n:h.get? e=fp):Loose F I own e:=by
 refine⟨?_,?_,?_,?_⟩
 .cases q:F e with
  | none=>rfl
  | some o=>(refine xEA (H.fr e o q) λo' h1 Z=>?_);replace h1:=n ▸ h1;injection h1
 .cases q:I e with
  | none=>rfl
  | some o=>have h1:=H.fz e o q;replace h1:=n ▸ h1;injection h1
 .cases q:own e with
  | none=>rfl
  | some o=>(refine xEA (H.ow e o q) λo' h1 Z=>?_);replace h1:=n ▸ h1;injection h1
 .rintro rfl
  rcases H.tab with t | ⟨c,t,_⟩<;>(replace t:=n ▸ t;injection t)
theorem HP.toml {h:Kf} (H:HP w l F I own h):∃ nm q N bs hdct sn sub ab col dd k0 k1 k2 k3 k5 mN,h.get? 158=fm (Lu nm q 158 N bs [.type "ValueError",.type "Exception",.type "BaseException",.type "object"] hdct sn sub ab col dd k0 k1 k2 k3 k5 "ValueError.__new__") /\
  h.Ns N mN/\mN "__init__" = fp/\mN "__str__" = fp:=by
 refine xEA (H.base.frag) λK hK kok=>?_
 refine xJ (kok.toml) λnm q N bs hdct sn sub ab col dd k0 k1 k2 k3 k5 h1 o es ep h2 h3 h4 h5 h6=>?_
 exact vG nm q N bs hdct sn sub ab col dd k0 k1 k2 k3 k5 (Kn es) (H.fz _ _ (hK _ _ h1)) ⟨o,es,ep,H.fz _ _ (hK _ _ h2),h3,h4,λZ=>rfl⟩ h5 h6
theorem Z6 {vs:List Gd} {ds:List PV} (hlen:ds.length<=1000):CALL w k own (λI=>VRs I vs ds) (call (.ref 158) vs) (λI v own'=>∃ e,v=.ref e/\own e=fp/\own'=upd own e (.xnew (.ref 158) ds)) Ψo:=by
 intro A l F I s hA H r
 show let Q':=_;let E':=_;Gf _ _ _ Q' E' _;intro Q' E'
 refine yd (H.toml) λnm q N bs hdct sn sub ab col dd k0 k1 k2 k3 k5 mN h1 h2 h3 h4=>?_
 obtain⟨hp,g,d,tk,os⟩:=s
 refine wpAny_call_exc_sub V0 h1 h2 h3 (hrest:=by rw[r.length];exact Gc hlen (lb rfl)) λh' e hm=>?_
 refine xEAA (hm.there) λt ht hn ht2=>?_
 have Le:Loose F I own e:=H.loose_of_none hm.new
 have Lt:Loose F I own t:=H.loose_of_none hn
 have H1:HP w l F I own h':=H.all hm.keeps
 have H2:=H1.freeze Lt ht2
 have hne:e≠t:=by rintro rfl;replace ht2:=ht ▸ ht2;(injection ht2 with E1;injection E1 with E1 E2;cases E2;injection E1)
 have sI:=fA (o:={ cls:=.type "tuple",data:=.seq vs.toArray }) Lt.2.1
 have Le2:Loose F (upd I t { cls:=.type "tuple",data:=.seq vs.toArray }) own e:=⟨Le.1,by rw[zc _ _ hne];exact Le.2.1,Le.2.2⟩
 refine⟨_,_,sI,H2.take (mo:=.xnew (.ref 158) ds) Le2 ht ⟨(by intro q;injection q),t,vs.toArray,0,rfl,zd ..,?_⟩,⟨e,rfl,Le.2.2.1,rfl⟩,⟨rfl,rfl⟩⟩
 simpa using r.mono sI
theorem EVO.toml {x:Str} {np pos:Pos} {es:List Expr} {ds:List PV} (hl:env.kindOf x=fm .globalImplicit) (hx:globTab.lookup x=fm (.ref 158)) (ha:Args w k env ρ es ds) (hlen:ds.length<=1000) (hd:(x==("__debug__" : Str))=Gk:=by exact Hv Gk) :
  EVO w k env ρ (.Call (.Name x np) es [] pos) (λd own'=>∃ e,d=.ref e/\ρ.own e=fp/\own'=upd ρ.own e (.xnew (.ref 158) ds)) Ψo:=by
 show let Θ':=_;let Ψ':=_;EVO _ _ _ _ _ Θ' Ψ';intro Θ' Ψ'
 intro A l F I s hA H L
 show let Q':=_;let E':=_;Gf _ _ _ Q' E' _;intro Q' E'
 refine gZ (mPf (fV hl hx hd A l F I s hA H L trivial) (λfv s1 I1 a1 H1 r1 q1=>?_))
 cases r1 using dG with
 | ref =>
  delta gl
  refine Ga (GD (mPf (ha.evalArgs pos (.ref 158) A l F I1 s1 hA H1 (L.mono a1) trivial) (λa s2 I2 a2 H2 E9 q2=>E9.elim λhkw r2=>Ga (Ka ?_))))
  obtain⟨apos,akw⟩:=a
  obtain rfl:akw=[]:=hkw
  rw[ha.noStar pos]
  refine yd (H2.toml) λnm q N bs hdct sn sub ab col dd k0 k1 k2 k3 k5 mN h1 h2 h3 h4=>?_
  obtain⟨hp,g,d,tk,os⟩:=s2
  refine Ga (wpAny_keeperOf_exc h1 ?_)
  refine Ga (Gm (Z6 (Ψo:=Ψo) hlen A l F I2 ⟨hp,g,d,tk,os⟩ hA H2 r2) (λv s3 E9=>E9.casesOn λI3 o3 a3 H3 E9 q3=>xEAA E9 λe hv he ho=>Ga (GD (gf (Gb ?_)))) λev s3 E9=>E9.casesOn λI3 o3 x a3 H3 X3 q3 c3=>⟨I3,o3,x,a1.trans (a2.trans a3),H3,X3,q1.trans (q2.trans q3),c3⟩)
  subst hv
  exact⟨I3,o3,.ref e,a1.trans (a2.trans a3),H3,.ref e,q1.trans (q2.trans q3),e,rfl,he,ho⟩
theorem JV:N8 table "proto.unchain" = fm Hm.«proto.unchain»:=KM (by kernel_rfl)
section
variable {nm q:Str} {C N:Gn} {bs bm:List Gd} {hdct:Bool} {sn:List Str} {sub:List Gd} {ab:Bool} {col:Option Bool} {dd:Option Gn} {k0 k1 k2 k3 k5:Option Gd} {newId:String}
theorem JQ {α:Type} {e h:Gn} {oe oh:Obj} {ve vh:Array Gd} {s:Gg} {Q:α->Gg->Prop} (hh:A.handled=fm (.ref h)) (hne:h≠e) (he:s.heap.get? e=fm oe) (hde:oe.data=.fields ve) (hse:2<ve.size) (hoh:s.heap.get? h=fm oh) (hdh:oh.data=.fields vh) (hc:vh[2]? = fm .none)
  (hE:E (.ref e) { s with heap:=s.heap.update e (Hp (·.setIfInBounds 2 (.ref h))) }):Gf (mdl w) A (Vs (.ref e):Sem α) Q E s:=by
 delta Vs
 refine Ga (Tl ?_)
 rw[hh]
 have hne':(Hg h != Hg e)=Gh:=by simpa using hne
 dsimp only
 rw[if_pos hne']
 refine Ga (GD (wpAny_runValue (Nn JV ?_)))
 show let Q':=_;let E':=_;Gf _ _ _ Q' E' _;intro Q' E'
 show Gf _ _ (field (.ref h) 2>>=_) _ _ _
 refine Ga (HD hoh hdh hc ?_)
 show Gf _ _ (ret .none) _ _ _
 refine Gb ?_
 exact Ga (HV he hde hse (Vq hE))
theorem Jh {s:Gg} {x:Sem Gd} {c:Sem Gd} {Q:Flow->Gg->Prop} (hbase:bm.contains (.type "BaseException")=Gh) (hnt:bm.contains (.type "type")=Gk) {h:Gn} (hh:A.handled=fm (.ref h)) (hc:∀ (s:Gg) (Q:Gd->Gg->Prop),Q .none s->Gf (mdl w) A c Q E s)
  (hx:Gf (mdl w) A x (λv s₁=>∃ e t oh vh,v=.ref e/\h≠e/\s₁.heap.get? C=fm (Lu nm q C N bs bm hdct sn sub ab col dd k0 k1 k2 k3 k5 newId)/\C≠e /\
   s₁.heap.get? e=fm { cls:=.ref C,data:=.fields #[.ref t,.none,.none,.none,.bool Gk,.none] }/\s₁.heap.get? h=fm oh/\oh.data=.fields vh/\vh[2]? = fm .none /\
   ∀ h',HI e s₁.heap h'->h'.get? e=fm { cls:=.ref C,data:=.fields #[.ref t,.none,.ref h,.none,.bool Gh,.none] }->E (.ref e) { s₁ with heap:=h' }) E s) :
  Gf (mdl w) A (raiseStmt env (fm x) (fm c)) Q E s:=by
 have hcB:(Hg C::bm).contains (.type "BaseException")=Gh:=by rw[OA,hbase,Bool.or_true]
 have hcT:(Hg C::bm).contains (.type "type")=Gk:=by rw[OA,hnt];rfl
 delta raiseStmt
 refine Ga (Gm hx (λv s₁ h₁=>?_) λZ Z x=>x)
 refine JZ (h₁) λe t oh vh E5 hne hC hCe he hoh hdh hctx hE=>?_;try clear h₁;subst E5
 refine Ga (GD (hc _ _ ?_))
 obtain⟨hp,g,d,tk,os⟩:=s₁
 unfold excFromValue isExcClass
 have u1:=GM (h:=hp) (f:=Hp (·.setIfInBounds 3 .none)) he rfl
 have C1:(hp.update e (Hp (·.setIfInBounds 3 .none))).get? C=fm (Lu nm q C N bs bm hdct sn sub ab col dd k0 k1 k2 k3 k5 newId):=(Kz _ _ (Hk hCe)).trans hC
 have u2:=GM (f:=Hp (·.setIfInBounds 4 (.bool Gh))) u1 rfl
 have C2:((hp.update e (Hp (·.setIfInBounds 3 .none))).update e (Hp (·.setIfInBounds 4 (.bool Gh)))).get? C=fm (Lu nm q C N bs bm hdct sn sub ab col dd k0 k1 k2 k3 k5 newId):=(Kz _ _ (Hk hCe)).trans C1
 have O2:((hp.update e (Hp (·.setIfInBounds 3 .none))).update e (Hp (·.setIfInBounds 4 (.bool Gh)))).get? h=fm oh:=(Kz _ _ (Hk hne)).trans ((Kz _ _ (Hk hne)).trans hoh)
 have u3:=GM (f:=Hp (·.setIfInBounds 2 (.ref h))) u2 rfl
 have last:Gf (mdl w) A (Vs (.ref e):Sem Flow) Q E ⟨(hp.update e (Hp (·.setIfInBounds 3 .none))).update e (Hp (·.setIfInBounds 4 (.bool Gh))),g,d,tk,os⟩:=by
  refine JQ hh hne u2 rfl (by exact HC rfl) O2 hdh hctx (hE _ ?_ ?_)
  .exact(GB ..).trans ((GB ..).trans (GB ..))
  .exact u3
 have isT:∀ (hp':Kf) (oe:Obj) (Q':Bool->Gg->Prop) (E':Gd->Gg->Prop),hp'.get? e=fm oe->oe.cls=.ref C->(∀ cd,oe.data≠.cls cd)->hp'.get? C=fm (Lu nm q C N bs bm hdct sn sub ab col dd k0 k1 k2 k3 k5 newId)->Q' Gk ⟨hp',g,d,tk,os⟩->Gf (mdl w) A (isType (.ref e)) Q' E' ⟨hp',g,d,tk,os⟩:=by
  intro hp' oe Q' E' e1 e2 e3 e4 q
  delta isType
  refine Ga (OX e1 ?_)
  obtain⟨_,_,dt,_⟩:=oe
  cases dt<;>first | exact Gb q | exact absurd rfl (e3 _)
 refine Ga (Gb ?_)
 refine Ga (GD (Ga (Ga (isT hp _ _ _ he rfl (λZ q=>(nomatch q)) hC ?_))))
 show let Q':=_;let E':=_;Gf _ _ _ Q' E' _;intro Q' E'
 rw[if_neg Gv]
 refine Gb ?_
 show let Q':=_;let E':=_;Gf _ _ _ Q' E' _;intro Q' E'
 rw[if_neg Gv]
 delta gO
 show let Q':=_;let E':=_;Gf _ _ _ Q' E' _;intro Q' E'
 refine Ga (Ga (Ts he (gz hC ?_)))
 rw[hcB,if_pos rfl]
 refine Gb ?_
 show Gf _ _ (Tv (.ref e) 3 .none>>=_) _ _ _
 refine Ga (HV he rfl (by exact HC rfl) ?_)
 refine Ga (HV u1 rfl (by exact HC rfl) ?_)
 refine Ga (isT _ _ _ _ u2 rfl (λZ q=>(nomatch q)) C2 ?_)
 rw[if_neg Gv]
 delta raisedInstance
 refine Ga (Ga (Ts u2 (Ga (Ts C2 ?_))))
 show Gf _ _ (if (HH "type" == HH "type")=Gh then _ else _) _ _ _
 rw[if_pos (dc rfl)]
 refine Gb ?_
 refine Ga ?_
 delta fe
 refine Ga (HD u2 rfl (x:=.none) rfl ?_)
 rw[if_neg (dc rfl)]
 exact Gb last
end
end
section
theorem HP.del {h:Kf} (H:HP w l F I own h) (a:Gn):HP w l F I (del own a) h:=H.drop λb m hb=>by delta Mine.del at hb;split at hb;cases hb;exact hb
theorem Loose.del {a b:Gn} (h:Loose F I own b):Loose F I (Mine.del own a) b:=⟨h.1,h.2.1,by delta Mine.del;split;rfl;exact h.2.2.1,h.2.2.2⟩
theorem HP.del_loose {h:Kf} {a:Gn} {mo:MO} (H:HP w l F I own h) (e:own a=fm mo):Loose F I (Mine.del own a) a:=xAA (H.oa a mo e) λh1 h2 h3=>⟨h1,h2,if_pos rfl,h3⟩
theorem pq {x:Expr} {np pos:Pos} {c:Nat} {h:Gn} {Θ:PV->Own->Prop} (hk:k.h=fm h) (hx:EVO w k env ρ x Θ Ψo)
  (hΘ:∀ d own',Θ d own'->∃ e ds,d=.ref e/\own' e=fm (.xnew (.ref 158) ds)/\(∃ cls,own' h=fm (.exc cls fp))/\Ψ ⟨.ref 158,fm ds⟩ ⟨ρ.loc,del own' e⟩)
  (hx':∀ xd o,Ψo xd o->Ψ xd ⟨ρ.loc,o⟩):EX1 w k env ρ (.Raise (fm x) (fm (.Constant .none c np)) pos) Φ Ψ:=by
 intro A l F I s hA R
 show let Q':=_;let E':=_;Gf _ _ _ Q' E' _;intro Q' E'
 rw[arm_exec_Raise]
 refine Ga (Ka ?_)
 refine xu (((R).casesOn λG H Z Z=>H.toml)) λnm q N bs hdct sn sub ab col dd k0 k1 k2 k3 k5 mN hC Z=>?_
 refine Jh (C:=158) (nm:=nm) (q:=q) (N:=N) (bs:=bs) (bm:=[.type "ValueError",.type "Exception",.type "BaseException",.type "object"]) (hdct:=hdct) (sn:=sn) (sub:=sub) (ab:=ab) (col:=col) (dd:=dd) (k0:=k0) (k1:=k1) (k2:=k2) (k3:=k3) (k5:=k5) (newId := "ValueError.__new__")
  (by decide +kernel) (by decide +kernel) (hA.hh h hk) (λs Q q=>Ga (Gb (Ga (Ka (Gb q))))) (Ga (Gm (hx.at hA R) (λv s1 E9=>E9.casesOn λI1 o1 d a1 R1 r1 q1 c1=>Ga (Ka (Gb ?_))) λev s1 E9=>E9.casesOn λI1 o1 xd a1 R1 q1 c1=>⟨I1,_,xd,a1,R1,q1,hx' _ _ c1⟩))
 refine zF (hΘ d o1 c1) λe ds E33 he E34 hΨ=>?_;subst E33;(refine xE E34 λcls hh=>?_;clear E34)
 have E0:=fJ r1;clear r1;subst E0
 obtain⟨G1,H1,L1,D1⟩:=R1
 refine ZG (H1.ow e _ he) λoe ge hfr t tvs n E36 ht hts=>?_;subst E36
 refine Jw (H1.ow h _ hh) λoh gh hcl hfr2 vh hd2 hsz2 hargs2 hctx2=>?_
 have hne:h≠e:=by rintro rfl;replace hh:=he ▸ hh;(injection hh with E1;injection E1)
 have hCI:s1.heap.get? 158=fm (Lu nm q 158 N bs [.type "ValueError",.type "Exception",.type "BaseException",.type "object"] hdct sn sub ab col dd k0 k1 k2 k3 k5 "ValueError.__new__"):=by
  obtain⟨G,H,_,_⟩:=R
  refine xEA (H.base.frag) λK hK kok=>?_
  refine xz (kok.toml) λnm' q' N' bs' hdct' sn' sub' ab' col' dd' k0' k1' k2' k3' k5' h1 Z=>?_
  have e1:=H.fz _ _ (hK _ _ h1)
  replace hC:=e1 ▸ hC
  have e2:=H1.fz _ _ (a1 _ _ (hK _ _ h1))
  rw[e2];exact hC
 have hCe:(158:Gn)≠e:=by
  rintro rfl
  have:=(H1.oa _ _ he).2.1
  refine xEA (H1.base.frag) λK hK kok=>?_
  refine xz (kok.toml) λnm' q' N' bs' hdct' sn' sub' ab' col' dd' k0' k1' k2' k3' k5' h1 Z=>?_
  replace this:=hK _ _ h1 ▸ this;injection this
 refine qd e t oh vh rfl hne hCI hCe ge gh hd2 (hctx2 rfl) (λh' hs he'=>?_)
 have Le:=H1.del_loose he
 refine⟨I1,⟨ρ.loc,del o1 e⟩,⟨.ref 158,fm ds⟩,a1,⟨G1,(H1.del e).at_loose Le hs.extBut,L1,D1,e,_,_,rfl,Le,he',rfl,rfl,rfl,λds' hds=>?_,λq=>(nomatch q),.inl rfl⟩,⟨q1.1,q1.2⟩,hΨ⟩
 (injection hds with E1;subst E1)
 exact⟨t,tvs,n,rfl,ht,hts⟩
theorem As {body suite:List HF} {b0:HF} {x:Str} {np hpos pos:Pos} {T:String} {Φ₁:PF->PSt->Prop} {Ψ₁:ExcD->PSt->Prop}
  (hb:EX w k env ρ body Φ₁ Ψ₁) (h1:∀ p ρ',Φ₁ p ρ'->Φ p ρ') (hk:env.kindOf x=fm .globalImplicit) (hx:bltTab.lookup x=fm (.type T))
  (hexc:Tz (.type T) (.type "BaseException")=pure Gh) (hnt:Tz (.type ((Manifest.find? T).elim "type" λx=>x.metatype)) (.type "tuple")=pure Gk)
  (hs:∀ xd ρ',Ψ₁ xd ρ'->∃ X,xd.cls=.type X/\Tz (.type X) (.type T)=pure Gh/\X ≠ "frame" /\ ∀ e,ρ'.own e=fp->EX w (k.han e) env ⟨ρ'.loc,upd ρ'.own e (.exc (.type X) xd.args)⟩ (b0::suite) (λp ρ''=>Φ p ⟨ρ''.loc,del ρ''.own e⟩) (λx ρ''=>Ψ x ⟨ρ''.loc,del ρ''.own e⟩))
  (hd:(x==("__debug__" : Str))=Gk:=by exact Hv Gk) :
  EX1 w k env ρ (.Try body [.ExceptHandler (fm (.Name x np)) fp (b0::suite) hpos] [] [] pos) Φ Ψ:=by
 intro A l F I s hA R
 show let Q':=_;let E':=_;Gf _ _ _ Q' E' _;intro Q' E'
 refine WK (Gm (hb A l F I s hA R) (λf s1 ⟨I1,ρ1,p,a1,R1,r1,q1,c1⟩=>?_) λev s1 ⟨I1,ρ1,xd,a1,⟨G,H,L,D,X⟩,q1,c1⟩=>?_)
 .cases f with
  | next=>cases p<;>first | exact r1.elim | exact TY ⟨I1,ρ1,.next,a1,R1,trivial,q1,h1 _ _ c1⟩
  | _=>exact⟨I1,ρ1,p,a1,R1,r1,q1,h1 _ _ c1⟩
 .refine yZ (hs xd ρ1 c1) λXc hX hsub hXf hsuite=>?_
  refine zJ (H.stk env Gp) λZ Lf Z hf Z=>?_
  refine vf hA.fr rfl hf H X λs2 H2 X2 q2=>z8 H2 X2 λs3 H3 X3 q3=>?_
  obtain⟨e,o,vs,rfl,Le,he,hc,hd',hsz,hargs,hctx,htb⟩:=id X3
  refine YJ (X:=Xc) (T:=T) (b:=true) hexc hnt hsub ?_
  have hA':=hA.mark (fm (.ref e))
  have up:∀ {I1:PH} {s1 s2:Gg} {ev:Gd},Sub I I1->Same s s1->XP w l F I1 env s1 Ψ ev s2->XP w l F I env s Ψ ev s2:=λa q E9=>E9.casesOn λI' ρ' x b X q' c=>⟨I',ρ',x,a.trans b,X,q.trans q',c⟩
  refine xEA (X3.hide (w:=w) (l:=env::l)) λG2 hG2 bk=>?_
  have hD2:∀ a o,G2 a=fm o->uni F G a=fp:=λa o q=>(hG2 a o q).2.1
  refine mPf (fZ (k:=k.any) (ρ:=ρ1) hk hx hd (A.mark (fm (.ref e))) (env::l) _ I1 s3 hA' (H3.addG hG2) (L.sub (AG.trans (Sub.uni_left hD2))) trivial) (λc s4 I4 a4 H4 r4 q4=>?_)
  have E0:=pS r4;clear r4;subst E0
  have X4:ExcTr (uni F G) I4 ρ1.own s4.heap (.ref e) xd:=bk I4 ρ1.own s4.heap a4 H4
  replace H4:=H4.less (λen hen=>(H3.stk en hen).2) hD2
  refine⟨rfl,?_,?_⟩
  .obtain⟨e',o',vs',q',_,he',hc',_⟩:=X4;(injection q' with E1;subst E1);exact iEA o' he' (hc'.trans hX)
  .refine z8 H4 X4 λs5 H5 X5 q5=>?_
   obtain⟨e',o5,vs5,qe,Le5,he5,hc5,hd5,hsz5,hargs5,hctx5,htb5⟩:=X5
   (injection qe with E1;subst E1)
   have H6:=H5.take (mo:=.exc (.type Xc) xd.args) Le5 he5 ⟨hc5.trans hX,by rintro q;(injection q with E1;subst E1);exact hXf rfl,vs5,hd5,hsz5,hargs5,hctx5⟩
   refine fQ (Ψ:=Ψ) hA.fr hA'.fr (Gm (hsuite e Le5.2.2.1 (A.mark (fm (.ref e))) l F I4 s5 (hA.han e) ⟨G,H6,L.mono a4,D⟩) (λf s6 E9=>E9.casesOn λI6 ρ6 p a6 R6 r6 q6 c6=>?_) λev s6 E9=>E9.casesOn λI6 ρ6 x6 a6 E9 q6 c6=>E9.casesOn λG6 H6' L6 D6 X6=>?_)
   .obtain⟨G6,H6',L6,D6⟩:=R6
    exact⟨I6,⟨ρ6.loc,del ρ6.own e⟩,p,a1.trans (a4.trans a6),⟨G6,H6'.del e,L6,D6⟩,r6,q1.trans (q2.trans (q3.trans (q4.trans (q5.trans q6)))),c6⟩
   .exact up (a1.trans a4) (q1.trans (q2.trans (q3.trans (q4.trans q5)))) ⟨I6,⟨ρ6.loc,del ρ6.own e⟩,x6,a6,⟨G6,H6'.del e,L6,D6,X6.loose λa ha=>ha.del⟩,q6,c6⟩
noncomputable def goes (x:Str) (loc:List (Str×PV)):List (Str×PV):=loc.filter λp=>p.1 != x
theorem JM (x:Str) (loc:List (Str×PV)):(goes x loc).lookup x=fp:=by
 delta goes
 induction loc with
 | nil=>rfl
 | cons p r ih =>
  by_cases h:p.1=x
  .rw[O8 (by simpa using h)];exact ih
  .rw[Xn (by simpa using h)]
   obtain⟨a,b⟩:=p
   rw[zb (Hk h)];exact ih
theorem vi {x y:Str} (loc:List (Str×PV)) (h:y≠x):(goes x loc).lookup y=loc.lookup y:=by
 delta goes
 induction loc with
 | nil=>rfl
 | cons p r ih =>
  obtain⟨a,b⟩:=p
  by_cases q:a=x
  .subst q;rw[O8 (by simp),zb h];exact ih
  .rw[Xn (by simpa using q)]
   by_cases z:y=a
   .subst z;rw[ze,ze]
   .rw[zb z,zb z];exact ih
theorem nsDel_at {M:YA} {A:GZ} {E:Gd->Gg->Prop} {s:Gg} {a:Gn} {o:Obj} {es:Array KY} {ep:Nat} {name:Str} {v:Gd} {Q:Bool->Gg->Prop}
  (ho:s.heap.get? a=fm o) (hd:o.data=.dict es ep) (hk:Nv es) (hv:Kn es name=fm v)
  (h:∀ h' es' ep',h'.get? a=fm { o with data:=.dict es' ep' }->Nv es'->(∀ x,x≠name->Kn es' x=Kn es x)->HI a s.heap h'->Q Gh { s with heap:=h' }):Gf M A (nsDel a name) Q E s:=by
 have hany:es.any (·.refKey)=Gk:=by
  rw[TX];intro e he;(refine xEE (hk e he) λn t h=>?_);simp[OG,h]
 obtain⟨i,hi⟩:∃ i,es.findIdx? (·.key.isStr name)=fm i:=by
  cases q:es.findIdx? (·.key.isStr name) with
  | some i=>exact⟨i,rfl⟩
  | none =>
   simp only[Kn,findBy] at hv
   refine xEA (Gz.mp hv) λe he Z=>?_
   rewrite [Array.findIdx?_eq_none_iff] at q
   have:=q e (Array.mem_of_find?_eq_some he)
   replace this:=(Array.find?_some he) ▸ this;injection this
 have hsome:es.any (·.key.isStr name)=Gh:=by
  rw[Array.any_eq_true']
  obtain⟨hlt,hp,_⟩:=Array.findIdx?_eq_some_iff_getElem.mp hi
  exact iEA _ (Array.getElem_mem hlt) hp
 have hhas:nsHas name o=pure Gh:=by
  rw[nsHas_eq];delta nsHasByArray;rw[hd]
  show (if (es.any λx=>x.key.isStr name)=Gh then _ else _)=_
  rw[hsome];rfl
 delta nsDel
 refine Ga (OX ho ?_)
 rw[hhas]
 refine Ga (Gb ?_)
 rw[if_pos rfl]
 refine Ga (hY ho (Gb ?_))
 obtain⟨cl,d,dt,sl⟩:=o
 simp only at hd
 subst hd
 refine h _ (es.eraseIdxIfInBounds i) (ep+1) ?_ (hk.erase i) (λx hx=>nsFind_erase_other hi hx) (GB ..)
 rw[GM _ ho (by rw[gD,Yz,hi];rfl)]
 rw[gD,Yz,hi]
theorem Rep.unbindL {s:Gg} {x:Str} {d:PV} {Q:Unit->Gg->Prop} (X:Rep w l F I env ρ s) (hl:env.kindOf x=fm .local) (hx:ρ.loc.lookup x=fm d)
  (h:∀ s',Rep w l F I env ⟨goes x ρ.loc,ρ.own⟩ s'->Same s s'->Q () s'):Gf (mdl w) A (unbindName env x) Q E s:=by
 obtain⟨G,H,L,D⟩:=X
 refine xEA (L.ns) λm E35 hv'=>?_;obtain⟨o,es,ep,e,hd,hk,hm⟩:=E35
 refine xEA (H.fr _ _ (zm e)) λo1 e1 hs1=>?_
 refine xEA (hv' x d hx hl) λv hv hvr=>?_
 have hp:(env.scope.kind==.class||(env.scope.kind==.module&&env.locals != env.globals))=Gk:=by rw[L.kind];rfl
 delta unbindName
 refine Ga (gf (Ga ?_))
 show let Q':=_;let E':=_;Gf _ _ _ Q' E' _;intro Q' E'
 delta deleteName
 simp only[hl,hp]
 rw[if_neg (dc rfl)]
 refine Ga (nsDel_at (v:=v) e1 (hs1.data.trans hd) hk (by rw[hm];exact hv) λh' es' ep' e' hk' hm' hs=>?_)
 simp only[Od,GQ,if_false]
 refine Gb (gf (h _ ⟨upd G env.locals { o1 with data:=.dict es' ep' },H.setG e hs.extBut e' (λf=>(iAEE (hs1.cls.trans f.1) _ _ rfl)),⟨L.kind,L.glo,L.blt,⟨_,⟨_,es',ep',zd ..,rfl,hk',λZ=>rfl⟩,λy dy hy hly=>?_⟩,λy dy hy hky=>?_,λy c hc=>?_,L.inj,L.has⟩,λb o2 e2=>?_⟩ ⟨rfl,rfl⟩))
 .have q:y≠x:=by rintro rfl;replace hy:=(show (⟨goes y ρ.loc,ρ.own⟩:PSt).loc.lookup y=fp from JM _ _) ▸ hy;injection hy
  replace hy:=(show (⟨goes x ρ.loc,ρ.own⟩:PSt).loc.lookup y=ρ.loc.lookup y from vi _ q) ▸ hy
  refine xEA (hv' y dy hy hly) λu h1 h2=>?_
  exact iEA u (by rw[hm' y q,hm];exact h1) h2
 .have q:y≠x:=by rintro rfl;replace hy:=(show (⟨goes y ρ.loc,ρ.own⟩:PSt).loc.lookup y=fp from JM _ _) ▸ hy;injection hy
  replace hy:=(show (⟨goes x ρ.loc,ρ.own⟩:PSt).loc.lookup y=ρ.loc.lookup y from vi _ q) ▸ hy
  refine zs (L.cell y dy hy hky) λc oc u h1 h2 h3 h4=>?_
  exact zI c oc u h1 (by rw[zc _ _ (L.cells y c h1).1];exact h2) h3 h4
 .refine zJ (L.cells y c hc) λh1 oc u h2 h3=>?_
  exact yx h1 oc u (by rw[zc _ _ h1];exact h2) h3
 .by_cases q:b=env.locals
  .subst q;exact D _ _ e
  .replace e2:=zc _ _ q ▸ e2;exact D _ _ e2
theorem Af {body suite:List HF} {b0:HF} {x n:Str} {np hpos pos:Pos} {Φ₁:PF->PSt->Prop} {Ψ₁:ExcD->PSt->Prop}
  (hb:EX w k env ρ body Φ₁ Ψ₁) (h1:∀ p ρ',Φ₁ p ρ'->Φ p ρ') (hk:env.kindOf x=fm .globalImplicit) (hx:globTab.lookup x=fm (.ref 158)) (hn:env.kindOf n=fm .local)
  (hs:∀ xd ρ',Ψ₁ xd ρ'->xd.cls=.ref 158/\∀ e,ρ'.own e=fp->EX w (k.han e) env ⟨(n,.ref e)::ρ'.loc,upd ρ'.own e (.exc (.ref 158) xd.args)⟩ (b0::suite) (λp ρ''=>Φ p ⟨goes n ρ''.loc,del ρ''.own e⟩) noX)
  (hd:(x==("__debug__" : Str))=Gk:=by exact Hv Gk) :
  EX1 w k env ρ (.Try body [.ExceptHandler (fm (.Name x np)) (fm n) (b0::suite) hpos] [] [] pos) Φ Ψ:=by
 intro A l F I s hA R
 show let Q':=_;let E':=_;Gf _ _ _ Q' E' _;intro Q' E'
 refine WK (Gm (hb A l F I s hA R) (λf s1 ⟨I1,ρ1,p,a1,R1,r1,q1,c1⟩=>?_) λev s1 ⟨I1,ρ1,xd,a1,⟨G,H,L,D,X⟩,q1,c1⟩=>?_)
 .cases f with
  | next=>cases p<;>first | exact r1.elim | exact TY ⟨I1,ρ1,.next,a1,R1,trivial,q1,h1 _ _ c1⟩
  | _=>exact⟨I1,ρ1,p,a1,R1,r1,q1,h1 _ _ c1⟩
 .show let Q':=_;let E':=_;Gf _ _ _ Q' E' _;intro Q' E'
  refine xA (hs xd ρ1 c1) λhX hsuite=>?_
  refine zJ (H.stk env Gp) λZ Lf Z hf Z=>?_
  refine vf hA.fr rfl hf H X λs2 H2 X2 q2=>z8 H2 X2 λs3 H3 X3 q3=>?_
  obtain⟨e,o,vs,rfl,Le,he,hc,hd',hsz,hargs,hctx,htb⟩:=id X3
  have hA':=hA.mark (fm (.ref e))
  refine xEA (X3.hide (w:=w) (l:=env::l)) λG2 hG2 bk=>?_
  have hD2:∀ a o,G2 a=fm o->uni F G a=fp:=λa o q=>(hG2 a o q).2.1
  refine wpAny_handleBy_cons (codeAny_handlers_test ?_) (by intro q;injection q)
  refine mPf (fV (k:=k.any) (ρ:=ρ1) hk hx hd (A.mark (fm (.ref e))) (env::l) _ I1 s3 hA' (H3.addG hG2) (L.sub (AG.trans (Sub.uni_left hD2))) trivial) (λc s4 I4 a4 H4 r4 q4=>?_)
  show let Q':=_;let E':=_;Gf _ _ _ Q' E' _;intro Q' E'
  have E0:=fJ r4;clear r4;subst E0
  have X4:ExcTr (uni F G) I4 ρ1.own s4.heap (.ref e) xd:=bk I4 ρ1.own s4.heap a4 H4
  replace H4:=H4.less (λen hen=>(H3.stk en hen).2) hD2
  refine xu (H4.toml) λnm q N bs hdct sn sub ab col dd k0 k1 k2 k3 k5 mN hC Z=>?_
  obtain⟨e',o4,vs4,qe,Le4,he4,hc4,-⟩:=id X4
  (injection qe with E1;subst E1)
  obtain⟨hp4,g4,d4,tk4,os4⟩:=s4
  refine wpAny_excMatches_sub_self hC he4 (hc4.trans hX) (by decide +kernel) ?_
  refine codeAny_handlers_suite_as (z8 H4 X4 λs5 H5 X5 q5=>?_)
  show let Q':=_;let E':=_;Gf _ _ _ Q' E' _;intro Q' E'
  obtain⟨e',o5,vs5,qe,Le5,he5,hc5,hd5,hsz5,hargs5,hctx5,htb5⟩:=X5
  (injection qe with E1;subst E1)
  have H6:=H5.take (mo:=.exc (.ref 158) xd.args) Le5 he5 ⟨hc5.trans hX,(by rintro q;injection q),vs5,hd5,hsz5,hargs5,hctx5⟩
  refine Rep.storeL (ρ:=⟨ρ1.loc,upd ρ1.own e (.exc (.ref 158) xd.args)⟩) (d:=.ref e) ⟨G,H6,L.mono a4,D⟩ hn (.ref e) λs6 R6 q6=>?_
  show let Q':=_;let E':=_;Gf _ _ _ Q' E' _;intro Q' E'
  refine Gm (hsuite e Le5.2.2.1 (A.mark (fm (.ref e))) l F I4 s6 (hA.han e) R6) (λf s7 E9=>E9.casesOn λI7 ρ7 p a7 R7 r7 q7 c7=>?_) λev s7 E9=>E9.casesOn λI7 ρ7 x7 a7 R7 q7 c7=>c7.elim
  refine Ga (wpAny_bindName (R7.storeL (d:=.none) hn .none λs8 R8 q8=>?_))
  delta unbindBehindTheSuite
  refine wpAny_onRaise (R8.unbindL hn ze λs9 R9 q9=>?_)
  obtain⟨G9,H9,L9,D9⟩:=R9
  have eg:goes n ((n,PV.none)::ρ7.loc)=goes n ρ7.loc:=by delta goes;rw[O8 (by simp)]
  refine⟨I7,⟨goes n ρ7.loc,del ρ7.own e⟩,p,a1.trans (a4.trans a7),⟨G9,H9.del e,?_,D9⟩,r7,q1.trans (q2.trans (q3.trans (q4.trans (q5.trans (q6.trans (q7.trans (q8.trans q9))))))),c7⟩
  rw[←eg];exact L9
end
theorem vQ:mroOf (.type "frozenset")=pure [.type "frozenset",.type "object"]:=by rw[mroOf_type];kernel_rfl
theorem vJ:K0 (.type "frozenset") "__new__" = pure (fm (.builtin "frozenset.__new__")):=by rw[HM,Hf];kernel_rfl
theorem xa:Slot "frozenset" "__init__" "object.__init__" :=
 .of (owner := "object") (n := "__init__") (by rw[HM,Hf];kernel_rfl) (by decide +kernel) (by decide +kernel) (by decide +kernel)
  (by first | exact .inl (by decide +kernel) | exact .inr (by decide +kernel)) (by rw[G8];kernel_rfl)
theorem jd:TypeCalled "frozenset" "frozenset.__new__" "object.__init__" :=
 ⟨by decide +kernel,by decide +kernel,⟨_,_,vQ⟩,madeBy_type vQ vJ (by decide +kernel),by decide +kernel,by rw[G8];kernel_rfl,xa⟩
theorem vM:checkTypeCall "frozenset" ⟨[],[]⟩=pure ():=by kernel_rfl
theorem v5:WM "frozenset.__new__" ⟨[.type "frozenset"],[]⟩=pure ():=by kernel_rfl
theorem vX:N8 table "frozenset.__new__" = fm Hm.«frozenset.__new__»:=KM (by kernel_rfl)
theorem vq:K0 (.type "frozenset") "__init__" = pure (fm (.builtin "object.__init__")):=xa.lookup
theorem uh:Tz (.type "frozenset") (.type "frozenset")=pure Gh:=by rw[G8];kernel_rfl
theorem Jj:typeNameCut 200 (.type "frozenset")=pure "frozenset" := by kernel_rfl
noncomputable def fsO (led:Bool):Obj:={ cls:=.type "frozenset",data:=.set #[] 0 (.fresh 0 0 led) }
theorem vW:YB (Hm.«frozenset.__new__» ⟨[.type "frozenset"],[]⟩) (λZ R s=>∀ led,R (.ok (.ret (.ref s.heap.objs.size))) { s with heap:=s.heap.push (fsO led) }) :=
 .of_wp λprog w A R s h=>by
  show let Q':=_;let E':=_;Gf _ _ _ Q' E' _;intro Q' E'
  have hsub:=uh
  have hinit:=vq
  have hnm:=Jj
  obtain⟨hp,g,d,tk,os⟩:=s
  delta Hm.«frozenset.__new__» Builtin.Frozenset.newClass
  dsimp only
  wp_walk
  refine hZ (Gb ?_)
  dsimp only
  rw[newObj]
  refine Ga (gi (Gb ?_))
  exact Gb (iEA _ rfl (h _))
section
variable {b:Bool} {cs:List Nat}
theorem fG {x:Str} {np pos:Pos} {es:List Expr} {ds:List PV} {d:PV} {T:String}
  (hl:env.kindOf x=fm .globalImplicit) (hx:bltTab.lookup x=fm (.type T)) (ha:Args w k env ρ es ds)
  (hc:∀ vs,PR w k ρ.own (λI=>VRs I vs ds) (call (.type T) vs) (λI v=>VR I v d)) (hd:(x==("__debug__" : Str))=Gk:=by exact Hv Gk):EVd w k env ρ (.Call (.Name x np) es [] pos) d:=by
 intro A l F I s hA H L _
 show let Q':=_;let E':=_;Gf _ _ _ Q' E' _;intro Q' E'
 refine LL (mP (fZ hl hx hd A l F I s hA H L trivial) (λfv s1 I1 a1 H1 r1 q1=>?_))
 cases r1 using AX with
 | raw =>
  refine XR (ha.noStar pos) (mP (ha.evalArgs pos (.type T) A l F I1 s1 hA H1 (L.mono a1) trivial) (λar s2 I2 a2 H2 E9 q2=>E9.elim λhkw r2=>?_))
  rw[hkw]
  exact mP (hc ar.pos A l F I2 s2 hA H2 r2) (λv s3 I3 a3 H3 r3 q3=>⟨I3,a1.trans (a2.trans a3),H3,r3,q1.trans (q2.trans q3)⟩)
theorem qk {vs:List Gd}:PR w k own (λI=>VRs I vs []) (call (.type "frozenset") vs) (λI v=>VR I v .fs):=by
 intro A l F I s hA H hP
 have E0:=VRs.nl hP;clear hP;subst E0
 refine callType_new jd (Hv Gh) vM v5 (λobj=>PySem.F.args_object_init_1 obj) vX vW (λled=>?_)
 refine⟨⟨_,GA _ rfl,rfl⟩,_,fA H.new.2.1,H.push_frozen (fsO led),.fs (zd ..),⟨rfl,rfl⟩⟩
noncomputable def chL (b:Bool) (cs:List Nat):List PV:=cs.map (tbI b)
theorem A3 (hb:k.b=Gh) (hs:Sm cs):Itb w k (λZ=>True) (tb b cs) (chL b cs):=by
 intro A l F I own s v hA H _ r
 show let Q':=_;let E':=_;Gf _ _ _ Q' E' _;intro Q' E'
 have get:∀ {i:Nat} {d:PV},(chL b cs)[i]? = fm d->∃ c,cs[i]? = fm c/\d=tbI b c:=λ{i d} e=>by
  delta chL at e
  replace e:=(Gx) ▸ e;rewrite [Gz] at e
  refine xEA e λc h1 h2=>?_;try clear e
  exact iEA c h1 h2.symm
 have hlen:(chL b cs).length=cs.length:=Ge ..
 cases b with
 | false =>
  cases r with
  | str _ t =>
   have ha:(⟨cs.toArray⟩:Str).cps.all (· < 128)=Gh:=by
    rw[Array.all_eq_true'];intro c hc;exact decide_eq_true (hs c (by simpa using hc))
   refine wpAny_pyIter_ascii ha ⟨s.heap.objs.size,_,I,λZ=>True,λi o=>o.cls=.type "str_ascii_iterator" /\ o.data=.fields #[.str ⟨cs.toArray⟩ t,.int i 0],rfl,.refl I,H.push _,H.new,GA _ rfl,⟨rfl,rfl⟩,di,trivial,?_,⟨rfl,rfl⟩⟩
   exact {
    nf:=λi o h=>by rw[h.1];exact dc rfl
    nd:=λi o h=>⟨λZ Z q=>(nomatch h.2.symm.trans q),λZ q=>(nomatch h.2.symm.trans q)⟩
    item:=λA l F I own s i d o hA H hc Li e hat hd=>by
     refine xEA (get hd) λc hc E5=>?_;subst E5
     refine wpAny_pyNext_ascii_item (iEA o e hat) (c:=c) (by simpa using hc) λh' hit hs=>?_
     refine xEA hit λo' e' hat'=>?_;try clear hit
     exact⟨_,o',I,rfl,.refl I,H.at_loose Li hs.extBut,Li,.str _ _,e',hat',⟨rfl,rfl⟩⟩
    done:=λA l F I own s o hA H hc Li e hat=>wpAny_pyNext_ascii_end (hA.hd hb) (iEA o e hat) (by simp[hlen]) λh' hs=>⟨rfl,H.at_loose Li hs,⟨rfl,rfl⟩⟩
    self:=λA l F I own s o hA H Li e hat=>wpAny_pyIter_striter_ascii (i:=0) (iEA o e hat) ⟨rfl,rfl⟩
    tup:=λA s i o v tgt e hat Q E h=>yM e hat.1 (Hv Gk) h }
 | true =>
  cases r with
  | bytes _ t =>
   refine W.KBw.pyIter_bytes ⟨s.heap.objs.size,_,I,λZ=>True,λi o=>o.cls=.type "bytes_iterator" /\ o.data=.fields #[.bytes (cs.map GP).toArray t,.int i 0],rfl,.refl I,H.push _,H.new,GA _ rfl,⟨rfl,rfl⟩,di,trivial,?_,⟨rfl,rfl⟩⟩
   exact {
    nf:=λi o h=>by rw[h.1];exact dc rfl
    nd:=λi o h=>⟨λZ Z q=>(nomatch h.2.symm.trans q),λZ q=>(nomatch h.2.symm.trans q)⟩
    item:=λA l F I own s i d o hA H hc Li e hat hd=>by
     refine xEA (get hd) λc hc E5=>?_;subst E5
     have hc':c<128:=hs c (GS hc)
     refine W.KBw.next_item (iEA o e hat) (c:=GP c) (by simp[hc]) λh' hit hs=>?_
     refine xEA hit λo' e' hat'=>?_;try clear hit
     have ec:((GP c).toNat:Int)=(c:Int):=by simp;lia
     rw[ec]
     exact⟨_,o',I,rfl,.refl I,H.at_loose Li hs.extBut,Li,.int _ _,e',hat',⟨rfl,rfl⟩⟩
    done:=λA l F I own s o hA H hc Li e hat=>W.KBw.next_end (hA.hd hb) (iEA o e hat) (by simp[hlen]) λh' hs=>⟨rfl,H.at_loose Li hs,⟨rfl,rfl⟩⟩
    self:=λA l F I own s o hA H Li e hat=>W.KBw.pyIter_self (i:=0) (iEA o e hat) ⟨rfl,rfl⟩
    tup:=λA s i o v tgt e hat Q E h=>yM e hat.1 (Hv Gk) h }
theorem yu:Slot "frozenset" "isdisjoint" "frozenset.isdisjoint" :=
 .of (owner := "frozenset") (n := "isdisjoint") (by rw[HM,Hf];kernel_rfl) (by decide +kernel) (by decide +kernel) (by decide +kernel)
  (by first | exact .inl (by decide +kernel) | exact .inr (by decide +kernel)) (by rw[G8];kernel_rfl)
theorem v6:N8 table "frozenset.isdisjoint" = fm Hm.«frozenset.isdisjoint»:=KM (by kernel_rfl)
theorem yq:N8 table "frozenset.isdisjoint.loop" = fm Hm.«frozenset.isdisjoint.loop»:=KM (by kernel_rfl)
theorem ui (a b:Gd):OC "frozenset.isdisjoint" ⟨[a,b],[]⟩:=by delta OC;kernel_rfl
theorem ug:Xq (.builtin "frozenset.isdisjoint")=pure (.type "method_descriptor"):=by show WZ _=_;kernel_rfl
theorem JP:XA "frozenset" :=
 ⟨(iEA ("object.__getattribute__") (by rw[HM,Hf];kernel_rfl) (by decide +kernel)),by rw[HM,Hf];kernel_rfl⟩
theorem Qu {A:GZ} {E:Gd->Gg->Prop} {l:List Env} {F I:PH} {s:Gg} {a:Gn} {v:Gd} {c:Nat} {Q:Bool->Gg->Prop} (H:HP w l F I own s.heap) (r:VR I (.ref a) .fs) (hv:VR I v (tbI b c))
  (h:∀ tk,Q Gk { s with toks:=tk }):Gf (mdl w) A (gk a v) Q E s:=by
 cases r using Az with
 | @fs _ led e =>
  have ho:=H.fz _ _ e
  delta gk
  refine GD ?_
  cases b with
  | false =>
   cases hv with
   | str x t =>
    refine Ga (wpAny_pyHash_str (Ga ?_))
    refine W.setFind_any (knd:=PySem.strKind prg w) (k:=⟨#[c]⟩) (S:=λZ=>Gk) (by exact strKind_is prg w { cps := #[c] } t) rfl ho rfl (λx hx=>by simp at hx) (λk=>by simp) (lb rfl) (by cases led<;>rfl) λr hr=>Gb ?_
    rw[hr];exact h _
  | true =>
   cases hv with
   | int x t =>
    refine Ga (wpAny_pyHash_int (Ga ?_))
    refine W.setFind_any (knd:=OO prg w) (k:=(c:Int)) (S:=λZ=>Gk) (by exact intKind_is prg w (↑c) t) rfl ho rfl (λx hx=>by simp at hx) (λk=>by simp) (lb rfl) (by cases led<;>rfl) λr hr=>Gb ?_
    rw[hr];exact h _
theorem ZB {A:GZ} {E:Gd->Gg->Prop} {l:List Env} {F:PH} {a it:Gn} {At:Nat->Obj->Prop} {CI:PH->Prop} {Q:Gd->Gg->Prop} {s0:Gg} {I0:PH} (hA:OkA k.up A l) (mCI:Mono CI) (IT:Itr w k (λI own=>CI I/\True) it (chL b cs) At)
  (hQ:∀ s' I',Sub I0 I'->HP w l F I' own s'.heap->Same s0 s'->Q (.bool Gh) s'):∀ (n i:Nat) (I:PH) (o:Obj) (s:Gg),cs.length-i=n->i<=cs.length->Sub I0 I->CI I->HP w l F I own s.heap->Loose F I own it->VR I (.ref a) .fs->s.heap.get? it=fm o->At i o->Same s0 s ->
   Th (mdl w) A (.builtin "frozenset.isdisjoint.loop" ⟨[.ref a,.ref it],[]⟩) (wants Q E) s:=by
 intro n
 induction n with
 | zero =>
  intro i I o s hn hi a0 hC H Li r e hat q
  refine Nn yq ?_
  show let Q':=_;let E':=_;Gf _ _ _ Q' E' _;intro Q' E'
  rw[Nk (by decide +kernel)]
  show Gf _ _ (NZ (.ref it)>>=_) _ _ s
  have hii:i=(chL b cs).length:=by simp[chL];exact AQ ‹_› ‹_›
  subst hii
  refine Ga (Gm (IT.done A.in1 l F I own s o hA.in1 H ⟨hC,trivial⟩ Li e hat) (λr' s1 E9=>xAA E9 λer H1 q1=>?_) λZ Z x=>x.elim)
  subst er
  exact Gb (hQ s1 I a0 H1 (q.trans q1))
 | succ n ih =>
  intro i I o s hn hi a0 hC H Li r e hat q
  refine Nn yq ?_
  rw[Nk (by decide +kernel)]
  show Gf _ _ (NZ (.ref it)>>=_) _ _ s
  have hlt:i<cs.length:=by exact HC hn
  have hd:(chL b cs)[i]? = fm (tbI b (cs[i]'hlt)):=by simp[chL,hlt]
  refine Ga (Gm (IT.item A.in1 l F I own s i _ o hA.in1 H ⟨hC,trivial⟩ Li e hat hd) (λr' s1 E9=>E9.casesOn λv o1 I1 er a1 H1 Li1 rv e1 at1 q1=>?_) λZ Z x=>x.elim)
  subst er
  have r1:=r.mono a1
  refine Ga (GD (Qu H1 r1 rv λtk=>?_))
  rw[if_neg Gv]
  refine Gb ⟨VN (by decide +kernel) _,ih (i+1) I1 o1 { s1 with toks:=tk } (by exact AL ‹_›) (by exact Hi ‹_›) (a0.trans a1) (mCI _ _ a1 hC) H1 Li1 r1 e1 at1 (q.trans ⟨q1.1,q1.2⟩)⟩
set_option tactic.hygienic true in
theorem qb {v:Gd} {vs:List Gd} (hb:k.b=Gh) (hs:Sm cs):PR w k.up own (λI=>VR I v .fs/\VRs I vs [tb b cs]) (call (.builtin "frozenset.isdisjoint") (v::vs)) (λI v=>VR I v (.bool Gh)):=by
 intro A l F I s hA H E9
 show let Q':=_;let E':=_;Gf _ _ _ Q' E' _;intro Q' E'
 refine xA E9 λr1 r2=>?_;clear E9
 cases r2 using ft with
 | cons r2 r3 =>
 (have E0:=VRs.nl r3;clear r3;subst E0)
 rename_i u
 obtain⟨a,rfl⟩:∃ a,v=.ref a:=by cases r1;exact⟨_,rfl⟩
 have hT:s.TypeIs (.ref a) "frozenset" := by cases r1 using Az with | fs e=>exact iEA _ (H.fz _ _ e) rfl
 refine NY (Vv yu.plain v6 (yu.check _ _ _ _ _ _ _ _ hT (ui _ _) ?_))
 show let Q':=_;let E':=_;Gf _ _ _ Q' E' _;intro Q' E'
 have hne:(u==Hg a)=Gk:=by cases b<;>((first | (refine fW r2 λZ E0=>?_;clear r2;subst E0) | (refine fY r2 λZ E0=>?_;clear r2;subst E0));rfl)
 have hT2:=uJ (w:=w) (own:=own) l F I s u H r2
 show Gf _ _ (pure (a,u)>>=_) _ _ s
 refine Ga (Gb ?_)
 dsimp only
 rw[hne,if_neg Gv]
 refine Ga (TM hT2 ?_)
 rw[if_neg (by cases b<;>decide)]
 refine Ga (Gm (A3 (w:=w) (k:=k) hb hs A.in1 l F I own s u hA.in1 H trivial r2) (λr s1 E9=>E9.casesOn λit o I1 CI At er a1 H1 Li e hat mCI hCI IT q1=>?_) λZ Z x=>x.elim)
 subst er
 exact Gb ⟨VN (by decide +kernel) _,ZB (k:=k) hA mCI IT (λs' I' a' H' q'=>⟨I',a',H',.bool _,q'⟩) cs.length 0 I1 o s1 rfl (GU _) a1 hCI H1 Li (r1.mono a1) e hat q1⟩
theorem TDb.not {e:Expr} {pos:Pos} {c:Bool} (h:TDb w k env ρ e c):TDb w k env ρ (.UnaryOp .Not e pos) (!c):=λA l F I s hA H L p =>
 wpAny_isTrue_Not (mP (h A l F I s hA H L p) (λb s1 I1 a1 H1 r1 q1=>⟨I1,a1,H1,by rw[r1],q1⟩))
theorem tyd_fs:yY w own .fs "frozenset" := λl F I s v H r=>by
 cases r using Az with | fs e=>exact⟨(iEA _ (H.fz _ _ e) rfl),λa q=>by (injection q with E1;subst E1);exact(iEA _ (H.fz _ _ e) rfl)⟩
theorem dz {o:Expr} {name:Str} {apos pos:Pos} {es:List Expr} {T id:String} {d0 d:PV} {ds:List PV} (ho:EVd w k env ρ o d0) (hT:yY w ρ.own d0 T) (ha:Args w k env ρ es ds)
  (pa:XA T) (slot:Slot T name id) (hty:Xq (.builtin id)=pure (.type "method_descriptor"))
  (hc:∀ v vs,PR w k ρ.own (λI=>VR I v d0/\VRs I vs ds) (call (.builtin id) (v::vs)) (λI v=>VR I v d))
  (hlen:es.length<30:=by exact lb rfl) (hline:(apos.endLine==pos.line)=Gh:=by rfl) (hbase:Ht o name env (eval o env)=eval o env:=by rfl):EVd w k env ρ (.Call (.Attribute o name apos) es [] pos) d :=
 Aw (EVO.mono (dA (Θ:=λd' own'=>d'=d/\own'=ρ.own) (Ψo:=noO) ho hT ha pa slot hty (λv vs=>λA l F I s hA H hp =>
  mPf (hc v vs A l F I s hA H hp) (λv s' I' a H' r q=>⟨I',ρ.own,a,H',⟨d,r,rfl,rfl⟩,q⟩)) hlen hline hbase)
  (λd' o E9=>xA E9 λh1 h2=>⟨h1,h2 ▸ OLe.refl _⟩) λZ Z h=>h)
end
section
variable {b:Bool} {cs:List Nat}
theorem VR.fnAt {I:PH} {a:Gn} {st:HF} {q:Str} (h:VR I (.ref a) (.fn st q)):∃ c,FnAt I a st q .none c:=by
 cases h with
 | @fn _ c o oc fd vs t _ _ e1 e2 e3 e4 =>
  refine qS e2 λh1 h2 h3 h4 h5 h6 h7 h8 h9 h10 h11 h12=>?_;try clear e2
  exact⟨c,⟨o,fd,e1,h1,h2,h3,h4,h5,h6,h7,h8,h9,h10,h11,h12⟩,⟨c,oc,vs,t,rfl,e3,e4.1,e4.2⟩⟩
theorem Ag {x:Str} {np pos:Pos} {es:List Expr} {ds:List PV} {d:PV} {st:HF} {q:Str}
  (hl:env.kindOf x=fm .local) (hx:ρ.loc.lookup x=fm (.fn st q)) (ha:Args w k env ρ es ds)
  (hc:∀ f vs,PR w k ρ.own (λI=>(∃ c,FnAt I f st q .none c)/\VRs I vs ds) (call (.ref f) vs) (λI v=>VR I v d)) (hd:(x==("__debug__" : Str))=Gk:=by exact Hv Gk):EVd w k env ρ (.Call (.Name x np) es [] pos) d:=by
 intro A l F I s hA H L _
 show let Q':=_;let E':=_;Gf _ _ _ Q' E' _;intro Q' E'
 refine LL (mP (fq hl hx hd A l F I s hA H L trivial) (λfv s1 I1 a1 H1 r1 q1=>?_))
 obtain⟨f,rfl⟩:∃ a,fv=.ref a:=by cases r1;exact⟨_,rfl⟩
 refine xE (r1.fnAt) λc hf=>?_
 refine zF (hf.ex) λo fd e hcls hdat Z=>?_
 refine O3 (o:=o) (fd:=fd) (mP (ha.evalArgs pos (.ref f) A l F I1 s1 hA H1 (L.mono a1) trivial) (λar s2 I2 a2 H2 E9 q2=>E9.elim λhkw r2=>⟨⟨H2.fz _ _ (a2 _ _ e),hdat⟩,?_⟩))
 rw[hkw]
 exact mP (hc f ar.pos A l F I2 s2 hA H2 ⟨⟨c,hf.mono a2⟩,r2⟩) (λv s3 I3 a3 H3 r3 q3=>⟨I3,a1.trans (a2.trans a3),H3,r3,q1.trans (q2.trans q3)⟩)
theorem pr_coord {f:Gn} {vs:List Gd} (hl:cs.length<=1000):PR w k.up own (λI=>(∃ c,FnAt I f zk yg .none c)/\VRs I vs [tb b cs,.int cs.length]) (call (.ref f) vs) (λI v=>VR I v (.str (oS "end of document"))):=by
 intro A l F I s hA H E9
 show let Q':=_;let E':=_;Gf _ _ _ Q' E' _;intro Q' E'
 refine E9.casesOn λE20 hP=>?_;clear E9;obtain⟨c,hf⟩:=E20
 refine VRs.k hP λv vs E0 r1 r2=>?_;clear hP;subst E0
 cases r2 using ft with
 | cons r2 r3 =>
 (have E0:=VRs.nl r3;clear r3;subst E0)
 refine Gm (jp (w:=w) (k:=k) (own:=own) (P:=λI=>FnAt I f zk yg .none c/\VRs I _ [tb b cs,.int cs.length]) (ds:=[(oS "src",tb b cs),(oS "pos",.int cs.length)]) (Ψo:=noO) (Θ:=λd own'=>d=.str (oS "end of document")/\OLe own own')
  (λI Z h=>h.1) (pW (λZ Z s h=>h.mono s) fP) ⟨rfl,rfl,rfl⟩ (λfd h1 h2 h3=>?_) ?_ (λenv eok=>?_) A l F I s hA H ⟨hf,.cons r1 (.cons r2 .nil)⟩) (λv s' E9=>E9.casesOn λI' own' a H' E9 q=>xEAA E9 λd' r e1 e2=>⟨I',a,H'.drop e2,e1 ▸ r,q⟩) λ_ _ ⟨_,_,_,_,_,_,_,x⟩=>x
 .refine zO h1 h2 h3 (bs:=[(oS "src",_),(oS "pos",_)]) (λfd h1 h2 h3=>?_) λI h=>by
   cases h.2 with | cons a h=>cases h using ft with | cons b h=>exact .cons a (.cons b .nil)
  obtain⟨⟩:=fd
  simp only at h1 h2 h3
  subst h1 h2 h3
  rfl
 .intro x hx
  simp only[Gi,Gl,or_false] at hx
  rcases hx with rfl | rfl<;>exact .inl rfl
 .have hsrc:=eok.kL "src"
  have hpos:=eok.kL "pos"
  have hlen:=eok.kG "len"
  refine EX.cons (Φ₁:=λp ρ'=>p=.ret (.str (oS "end of document"))/\OLe own ρ'.own) (fI (b:=true) (fE (fq hpos rfl) (fB hlen rfl (.cons (fq hsrc rfl) (nst rfl) .nil) (λvs=>xt (by exact Gc ‹_› (lb rfl)))) (λv1 v2=>by
   have:=pr_ge (w:=w) (k:=k) (own:=own) (a:=(cs.length:Int)) (b:=(cs.length:Int)) (v1:=v1) (v2:=v2)
   replace this:=(show decide ((cs.length:Int)<=(cs.length:Int))=Gh by simp) ▸ this
   exact this)) (λZ=>fw (EX1.mono (EX1.ret EVd.str) ?_)) (λh=>nomatch h)) (λρ' h=>nomatch h.1) (λp ρ' Z h=>by rw[h.1];exact⟨rfl,h.2⟩)
  intro p ρ' E9;refine xA E9 λE5 E6=>?_;clear E9;subst E5;subst E6
  exact⟨rfl,OLe.refl _⟩
noncomputable def zS (msg:Str):Str:=msg++oS " (at " ++ oS "end of document" ++ oS ")"
theorem JS {msg:Str} {vs:List Gd} (hl:cs.length<=1000) (hm:msg.length<=1000) :
  CALL w k.up.up own (λI=>VRs I vs [tb b cs,.int cs.length,.str msg]) (call (.ref 182) vs) (λI v own'=>∃ e,v=.ref e/\own e=fp/\own'=upd own e (.xnew (.ref 158) [.str (zS msg)])) Ψo:=by
 intro A l F I s hA H hP
 show let Q':=_;let E':=_;Gf _ _ _ Q' E' _;intro Q' E'
 refine VRs.k hP λv vs E0 r1 r2=>?_;clear hP;subst E0
 cases r2 using ft with
 | cons r2 r3 =>
 cases r3 using ft with
 | cons r3 r4 =>
 (have E0:=VRs.nl r4;clear r4;subst E0)
 refine Gm (jp (w:=w) (k:=k.up) (own:=own) (P:=λI=>VRs I _ [tb b cs,.int cs.length,.str msg]) (ds:=[(oS "src",tb b cs),(oS "pos",.int cs.length),(oS "msg",.str msg)]) (Ψo:=noO)
  (Θ:=λd own'=>∃ e,d=.ref e/\own e=fp/\own'=upd own e (.xnew (.ref 158) [.str (zS msg)]))
  (qO (i:=12) rfl) fP ⟨rfl,rfl,rfl⟩ (λfd h1 h2 h3=>?_) ?_ (λenv eok=>?_) A l F I s hA H (.cons r1 (.cons r2 (.cons r3 .nil))))
  (λv s' E9=>E9.casesOn λI' own' a H' E9 q=>xEAEAA E9 λd' r e e1 e2 e3=>⟨I',own',a,H',⟨e,by subst e1;(have E0:=fJ r;clear r;subst E0);rfl,e2,e3⟩,q⟩) λ_ _ ⟨_,_,_,_,_,_,_,x⟩=>x.elim
 .refine zO h1 h2 h3 (bs:=[(oS "src",_),(oS "pos",_),(oS "msg",_)]) (λfd h1 h2 h3=>?_) λI h=>by
   cases h using ft with | cons a h=>cases h using ft with | cons b h=>cases h using ft with | cons c h=>exact .cons a (.cons b (.cons c .nil))
  obtain⟨⟩:=fd
  simp only at h1 h2 h3
  subst h1 h2 h3
  rfl
 .intro x hx
  simp only[Gi,Gl,or_false] at hx
  rcases hx with rfl | rfl | rfl<;>exact .inl rfl
 .show let Φ':=_;let Ψ':=_;EX _ _ _ _ _ Φ' Ψ';intro Φ' Ψ'
  have hsrc:=eok.kL "src"
  have hpos:=eok.kL "pos"
  have hmsg:=eok.kL "msg"
  have hcr:=eok.kL "coord_repr"
  have htde:=eok.kG "TOMLDecodeError"
  refine EX.step (pP rfl hcr (by rw[eok.scope];rfl) eok.code eok.glo eok.qual) ?_
  have hlm:∀ x:Str,(glue NC [msg,oS " (at ",oS "end of document",oS ")"]).length<=10000:=λZ=>by
   have h1:(oS " (at ").length=5:=by exact dc rfl
   have h2:(oS "end of document").length=15:=by exact dc rfl
   have h3:(oS ")").length=1:=by exact dc rfl
   have h0:Str.empty.length=0:=by exact dc rfl
   simp only[glue,Ll,h0,h1,h2,h3];lia
  refine fw (EX1.mono (Ao (EVO.toml (Ψo:=noO) (ds:=[.str (zS msg)]) htde rfl (.cons ?_ (nst rfl) .nil) (by simp)) (λZ Z h=>h.elim)) ?_)
  .have hg:zS msg=glue NC [msg,oS " (at ",oS "end of document",oS ")"]:=by
    unfold zS glue glue glue glue glue
    rw[show NC++msg=msg from by show NS _ _=_;simp[NS,NC]]
   rw[hg]
   refine dO (.cons (pI (fq hmsg rfl) (by exact Gc ‹_› (lb rfl))) (.cons EVd.str (.cons (pI (Ag hcr rfl (.cons (fq hsrc rfl) (nst rfl) (.cons (fq hpos rfl) (nst rfl) .nil)) (λf vs=>pr_coord hl)) (lb rfl)) (.cons EVd.str .nil)))) (hlm msg)
  .intro p ρ' E9;refine zy E9 λd own' E37 E38 E39=>?_;clear E9;(refine xEAA E37 λe E5 h1 E6=>?_;clear E37;subst E5;subst E6);subst E38;subst E39
   exact iEAA e rfl h1 rfl
end
section
variable {b:Bool} {cs ds:List Nat}
theorem Ah {x:Str} {np pos:Pos} {es:List Expr} {ds:List PV} {i:Nat} {f c:Gn} {st:HF} {q:String} {dfl:Gd}
  (hl:env.kindOf x=fm .globalImplicit) (hx:globTab.lookup x=fm (.ref f)) (hi:fnTab[i]? = fm (f,st,q,dfl,c)) (ha:Args w k env ρ es ds)
  (hc:∀ vs,CALL w k ρ.own (λI=>VRs I vs ds) (call (.ref f) vs) (λI v own'=>∃ d,VR I v d/\Θ d own') Ψo) (hd:(x==("__debug__" : Str))=Gk:=by exact Hv Gk):EVO w k env ρ (.Call (.Name x np) es [] pos) Θ Ψo:=by
 intro A l F I s hA H L
 show let Q':=_;let E':=_;Gf _ _ _ Q' E' _;intro Q' E'
 refine LL (mPf (fV hl hx hd A l F I s hA H L trivial) (λfv s1 I1 a1 H1 r1 q1=>?_))
 cases r1 using dG with
 | ref =>
  obtain⟨⟨o,fd,e,hcls,hdat,_⟩,_⟩:=H1.base.fns i f st q dfl c hi
  refine O3 (o:=o) (fd:=fd) (mPf (ha.evalArgs pos (.ref f) A l F I1 s1 hA H1 (L.mono a1) trivial) (λar s2 I2 a2 H2 E9 q2=>E9.elim λhkw r2=>⟨⟨H2.fz _ _ (a2 _ _ e),hdat⟩,?_⟩))
  rw[hkw]
  exact Gm (hc ar.pos A l F I2 s2 hA H2 r2) (λv s3 ⟨I3,o3,a3,H3,⟨d,r3,c3⟩,q3⟩=>⟨I3,o3,d,a1.trans (a2.trans a3),H3,r3,q1.trans (q2.trans q3),c3⟩)
   λev s3 E9=>E9.casesOn λI3 o3 x a3 H3 X3 q3 c3=>⟨I3,o3,x,a1.trans (a2.trans a3),H3,X3,q1.trans (q2.trans q3),c3⟩
inductive KArgs (w:K6) (k:Lv) (env:Env) (ρ:PSt):List Ou->List (Str×PV)->Prop
 | nil:KArgs w k env ρ [] []
 | cons {n:Str} {e:Expr} {p:Pos} {ks:List Ou} {d:PV} {ds:List (Str×PV)}:EVd w k env ρ e d->KArgs w k env ρ ks ds->KArgs w k env ρ (⟨fm n,e,p⟩::ks) ((n,d)::ds)
theorem KArgs.td {ks:List Ou} {ds:List (Str×PV)} (h:KArgs w k env ρ ks ds) (pos:Pos):TD w k env ρ (λZ=>True) (evalAll ((Ow pos (Nc ks env)).map (·.2))) (λI vs=>VRs I vs (ds.map (·.2))):=by
 induction h with
 | nil=>exact λA l F I s hA H L Z=>kwAll_nil ⟨I,.refl I,H,.nil,.refl s⟩
 | @cons n e p ks d ds h1 _ ih =>
  intro A l F I s hA H L _
  show let Q':=_;let E':=_;Gf _ _ _ Q' E' _;intro Q' E'
  exact kwAll_cons (mP (h1 A l F I s hA H L trivial) (λv s1 I1 a1 H1 r1 q1=>mP (ih A l F I1 s1 hA H1 (L.mono a1) trivial) (λvs s2 I2 a2 H2 r2 q2 =>
   ⟨I2,a1.trans a2,H2,.cons (r1.mono a2) r2,q1.trans q2⟩)))
theorem KArgs.all {ks:List Ou} {ds:List (Str×PV)} (h:KArgs w k env ρ ks ds) (pos:Pos):(Ow pos (Nc ks env)).all (·.1.isSome)=Gh:=by
 induction h with
 | nil=>rfl
 | @cons n e p ks d ds h1 _ ih =>
  show (Gh&&(Ow pos (Nc ks env)).all (·.1.isSome))=Gh
  rw[ih];rfl
theorem KArgs.names {ks:List Ou} {ds:List (Str×PV)} (h:KArgs w k env ρ ks ds) (pos:Pos):(Ow pos (Nc ks env)).filterMap (·.1)=ds.map (·.1):=by
 induction h with
 | nil=>rfl
 | @cons n e p ks d ds h1 _ ih =>
  show n::(Ow pos (Nc ks env)).filterMap (·.1)=_
  rw[ih];rfl
theorem BRs.zip {I:PH} {vs:List Gd} {ds:List (Str×PV)} (h:VRs I vs (ds.map (·.2))):BRs I ((ds.map (·.1)).zip vs) ds :=
 pc (P:=λvs (ds:List (Str×PV))=>BRs I ((ds.map Prod.fst).zip vs) ds) .nil (λZ Z d Z r Z i=>.cons (x:=d.1) (d:=d.2) r i) h
theorem pX {x:Str} {np pos:Pos} {e1:Expr} {es:List Expr} {kws:List Ou} {ds:List PV} {kds:List (Str×PV)} {i:Nat} {f c:Gn} {st:HF} {q:String} {dfl:Gd}
  (hl:env.kindOf x=fm .globalImplicit) (hx:globTab.lookup x=fm (.ref f)) (hi:fnTab[i]? = fm (f,st,q,dfl,c)) (ha:Args w k env ρ (e1::es) ds) (hk:KArgs w k env ρ kws kds)
  (hc:∀ vs ks,CALL w k ρ.own (λI=>VRs I vs ds/\BRs I ks kds) (call (.ref f) vs ks) (λI v own'=>∃ d,VR I v d/\Θ d own') Ψo) (hd:(x==("__debug__" : Str))=Gk:=by exact Hv Gk):EVO w k env ρ (.Call (.Name x np) (e1::es) kws pos) Θ Ψo:=by
 intro A l F I s hA H L
 show let Q':=_;let E':=_;Gf _ _ _ Q' E' _;intro Q' E'
 refine wpAny_Call_Name_kw (mPf (fV hl hx hd A l F I s hA H L trivial) (λfv s1 I1 a1 H1 r1 q1=>?_))
 cases r1 using dG with
 | ref =>
  obtain⟨⟨o,fd,e,hcls,hdat,_⟩,_⟩:=H1.base.fns i f st q dfl c hi
  refine callWith_function_kw (o:=o) (fd:=fd) (evalArgs_kw2 (hk.all pos) (mPf (ha.td pos A l F I1 s1 hA H1 (L.mono a1) trivial) (λvs s2 I2 a2 H2 r2 q2=>mPf (hk.td pos A l F I2 s2 hA H2 (L.mono (a1.trans a2)) trivial) (λks s3 I3 a3 H3 r3 q3 =>
   ⟨⟨H3.fz _ _ (a3 _ _ (a2 _ _ e)),hdat⟩,?_⟩))) (by cases ha with | cons _ h _=>exact zU h env))
  rw[hk.names]
  exact Gm (hc vs _ A l F I3 s3 hA H3 ⟨r2.mono a3,BRs.zip r3⟩) (λv s4 ⟨I4,o4,a4,H4,⟨d,r4,c4⟩,q4⟩=>⟨I4,o4,d,a1.trans (a2.trans (a3.trans a4)),H4,r4,q1.trans (q2.trans (q3.trans q4)),c4⟩)
   λev s4 E9=>E9.casesOn λI4 o4 x a4 H4 X4 q4 c4=>⟨I4,o4,x,a1.trans (a2.trans (a3.trans a4)),H4,X4,q1.trans (q2.trans (q3.trans q4)),c4⟩
theorem Loose.le {F I:PH} {own own':Own} {a:Gn} (h:Loose F I own' a) (e:OLe own own'):Loose F I own a:=by
 refine⟨h.1,h.2.1,?_,h.2.2.2⟩
 cases q:own a with
 | none=>rfl
 | some mo=>have:=h.2.2.1;replace this:=e a mo q ▸ this;injection this
theorem zar:XA "str" := WP
theorem EVO.index {o e1 e2:Expr} {apos pos:Pos} {p:Nat} (ho:EVd w k env ρ o (tb b cs)) (h1:EVd w k env ρ e1 (tb b ds)) (h2:EVd w k env ρ e2 (.int p)) (hb:k.b=Gh) (h:cs.length<=1000) (hc:Sm cs) (hd:Sm ds) (hn:ds≠[])
  (n1:∀ x p,e1≠.Starred x p) (n2:∀ x p,e2≠.Starred x p) (hline:(apos.endLine==pos.line)=Gh:=by rfl) (hbase:Ht o "index" env (eval o env)=eval o env:=by rfl) :
  EVO w k env ρ (.Call (.Attribute o "index" apos) [e1,e2] [] pos) (λd own'=>own'=ρ.own/\∃ i,fnd cs ds p=fm i/\d=.int i) (λx own'=>x=⟨.type "ValueError",fp⟩/\own'=ρ.own/\fnd cs ds p=fp):=by
 have ha:Args w k env ρ [e1,e2] [tb b ds,.int p]:=.cons h1 n1 (.cons h2 n2 .nil)
 cases b with
 | false =>
  refine dA ho tyd_str ha WP OZ (by show WZ _=_;kernel_rfl) (λv vs=>?_) (by exact HC rfl) hline hbase
  intro A l F I s hA H E9
  refine xA E9 λr0 rs=>?_;clear E9
  cases rs using ft with
  | cons r1 rs =>
  cases rs using ft with
  | cons r2 rs =>
  (have E0:=VRs.nl rs;clear rs;subst E0)
  cases hf:fnd cs ds p with
  | some i=>exact mPf (qE (by exact Gc ‹_› (lb rfl)) hf A l F I s hA H ⟨r0,r1,r2⟩) (λv s' I' a H' r q=>⟨I',ρ.own,a,H',⟨_,r,rfl,i,rfl,rfl⟩,q⟩)
  | none=>exact Gm (qf hb (by exact Gc ‹_› (lb rfl)) hf A l F I s hA H ⟨r0,r1,r2⟩) (λv s' x=>x.elim) λev s' E9=>E9.casesOn λI' a H' X q=>⟨I',ρ.own,_,a,H',X,q,rfl,rfl,rfl⟩
 | true =>
  refine dA ho ZI ha W.FB.plainAttrs_bytes yN jc (λv vs=>?_) (by exact HC rfl) hline hbase
  intro A l F I s hA H E9
  refine xA E9 λr0 rs=>?_;clear E9
  cases rs using ft with
  | cons r1 rs =>
  cases rs using ft with
  | cons r2 rs =>
  (have E0:=VRs.nl rs;clear rs;subst E0)
  cases hf:fnd cs ds p with
  | some i=>exact mPf (Jd (by exact Gc ‹_› (lb rfl)) hc hd hn hf A l F I s hA H ⟨r0,r1,r2⟩) (λv s' I' a H' r q=>⟨I',ρ.own,a,H',⟨_,r,rfl,i,rfl,rfl⟩,q⟩)
  | none=>exact Gm (jE hb (by exact Gc ‹_› (lb rfl)) hc hd hn hf A l F I s hA H ⟨r0,r1,r2⟩) (λv s' x=>x.elim) λev s' E9=>E9.casesOn λI' a H' X q=>⟨I',ρ.own,_,a,H',X,q,rfl,rfl,rfl⟩
noncomputable def zY (b:Bool) (ds:List Nat):Str:=oS "Expected " ++ rpOf b ds
noncomputable def kwU:List (Str×PV):=[(oS "error_on",.fs),(oS "error_on_eof",.bool Gh)]
theorem sm_pySl (hs:Sm cs) (lo hi:Option Int):Sm (pySl cs lo hi):=λc hc=>hs c (by delta pySl at hc;exact Nq (XX hc))
theorem js {p:Nat} {vs:List Gd} {ks:List (Str×Gd)} (hb:k.b=Gh) (hl:cs.length<=1000) (hs:Sm cs) (hd:Sm ds) (hn:ds≠[]) (hr:(rpOf b ds).length<=900) (hdl:ds.length<=1000) :
  CALL w k.up.up.up own (λI=>VRs I vs [tb b cs,.int p,tb b ds]/\BRs I ks kwU) (call (.ref 175) vs ks) (λI v own'=>∃ d,VR I v d/\own'=own/\∃ i,fnd cs ds p=fm i/\d=.int i)
   (λx own'=>own'=own/\fnd cs ds p=fp/\x=⟨.ref 158,fm [.str (zS (zY b ds))]⟩):=by
 intro A l F I s hA H E9
 show let Q':=_;let E':=_;Gf _ _ _ Q' E' _;intro Q' E'
 refine xA E9 λhP hK=>?_;clear E9
 refine VRs.k hP λv vs E0 r1 r2=>?_;clear hP;subst E0
 cases r2 using ft with
 | cons r2 r3 =>
 cases r3 using ft with
 | cons r3 r4 =>
 (have E0:=VRs.nl r4;clear r4;subst E0)
 cases hK with
 | cons k1 k2 =>
 cases k2 with
 | cons k2 k3 =>
 cases k3
 refine Gm (jp (w:=w) (k:=k.up.up) (own:=own) (P:=λI=>VRs I _ [tb b cs,.int p,tb b ds]/\BRs I _ kwU) (ds:=[(oS "src",tb b cs),(oS "pos",.int p),(oS "expect",tb b ds),(oS "error_on",.fs),(oS "error_on_eof",.bool Gh)])
  (Ψo:=λx own'=>OLe own own'/\fnd cs ds p=fp/\x=⟨.ref 158,fm [.str (zS (zY b ds))]⟩)
  (Θ:=λd own'=>OLe own own'/\∃ i,fnd cs ds p=fm i/\d=.int i)
  (qO (i:=11) rfl) (pW fP λZ Z s h=>h.mono s) ⟨rfl,rfl,rfl⟩ (λfd h1 h2 h3=>?_) ?_ (λenv eok=>?_) A l F I s hA H ⟨.cons r1 (.cons r2 (.cons r3 .nil)),.cons k1 (.cons k2 .nil)⟩)
  (λv s' E9=>E9.casesOn λI' own' a H' E9 q=>xEAA E9 λd' r e e1=>⟨I',own,a,H'.drop e,⟨d',r,rfl,e1⟩,q⟩) λev s' ⟨I',own',x,a,H',X',q,e,e1⟩=>⟨I',own,x,a,H'.drop e,X'.loose λa ha=>ha.le e,q,rfl,e1⟩
 .refine zO h1 h2 h3 (bs:=[(oS "src",_),(oS "pos",_),(oS "expect",_),(oS "error_on",_),(oS "error_on_eof",_)]) (λfd h1 h2 h3=>?_) λI E9=>E9.elim λh hk=>by
   cases h using ft with | cons a h=>cases h using ft with | cons b h=>cases h using ft with | cons c h=>cases hk with | cons d hk=>cases hk with | cons e hk=>exact .cons a (.cons b (.cons c (.cons d (.cons e .nil))))
  obtain⟨⟩:=fd
  simp only at h1 h2 h3
  subst h1 h2 h3
  rfl
 .intro x hx
  simp only[Gi,Gl,or_false] at hx
  rcases hx with rfl | rfl | rfl | rfl | rfl<;>exact .inl rfl
 .show let Φ':=_;let Ψ':=_;EX _ _ _ _ _ Φ' Ψ';intro Φ' Ψ'
  have hsrc:=eok.kL "src"
  have hpos:=eok.kL "pos"
  have hexp:=eok.kL "expect"
  have heo:=eok.kL "error_on"
  have heoe:=eok.kL "error_on_eof"
  have hnp:=eok.kL "new_pos"
  have hve:=eok.kG "ValueError"
  have hlen:=eok.kG "len"
  have hse:=eok.kG "suffixed_err"
  obtain⟨idg,hlk⟩:=uO (b:=b)
  refine Mine.gn (([(oS "src",tb b cs),(oS "pos",PV.int p),(oS "expect",tb b ds),(oS "error_on",.fs),(oS "error_on_eof",.bool Gh)].reverse:List (Str×PV))) λloc0 hloc0=>?_
  have l1:loc0.lookup (oS "src")=fm (tb b cs):=by subst hloc0;rfl
  have l2:loc0.lookup (oS "pos")=fm (.int p):=by subst hloc0;rfl
  have l3:loc0.lookup (oS "expect")=fm (tb b ds):=by subst hloc0;rfl
  have l4:loc0.lookup (oS "error_on")=fm .fs:=by subst hloc0;rfl
  have l5:loc0.lookup (oS "error_on_eof")=fm (.bool Gh):=by subst hloc0;rfl
  refine fy (D:=λρ'=>∃ i,fnd cs ds p=fm i/\ρ'=⟨(oS "new_pos",.int i)::loc0,own⟩) (As (k:=k.up.up) (Φ₁:=λpf ρ'=>pf=.next/\∃ i,fnd cs ds p=fm i/\ρ'=⟨(oS "new_pos",.int i)::loc0,own⟩) (Ψ₁:=λx ρ'=>x=⟨.type "ValueError",fp⟩/\ρ'=⟨loc0,own⟩/\fnd cs ds p=fp) ?_ (λZ Z h=>h) hve rfl (by rw[G8];kernel_rfl) (by rw[G8];kernel_rfl) ?_) ?_
  .refine fw (pZ (fD (EVO.index (fq hsrc l1) (fq hexp l3) (fq hpos l2) hb hl hs hd hn (nst rfl) (nst rfl)) hnp (λxd o E9=>xAA E9 λe1 e2 e3=>⟨e1,by rw[e2],e3⟩) rfl) ?_)
   intro d own' E41;(refine xAEA E41 λE5 i hi E6=>?_;clear E41;subst E5;subst E6)
   exact iAEA rfl i hi rfl
  .intro xd ρ1 E9;refine xAA E9 λE5 E6 hf=>?_;clear E9;subst E5;subst E6
   ac_rfl
   refine yB ("ValueError") rfl (by rw[G8];kernel_rfl) (dc rfl) (λe he=>?_)
   have he':own e=fp:=he
   refine EX.step (fH (d:=.int cs.length) (fB hlen rfl (.cons (fq hsrc l1) (nst rfl) .nil) (λvs=>xt (by exact Gc ‹_› (lb rfl)))) hnp rfl) ?_
   refine fw (fI (b:=true) (TDb.val (fq heoe (l5))) (λZ=>?_) (λh=>nomatch h))
   refine fw (pq (h:=e) (Θ:=λd own'=>∃ e',d=.ref e'/\upd own e (.exc (.type "ValueError") fp) e'=fp/\own'=upd (upd own e (.exc (.type "ValueError") fp)) e' (.xnew (.ref 158) [.str (zS (zY b ds))])) (Ψo:=noO) rfl
    (Ah hse rfl (i:=12) rfl (.cons (fq hsrc (l1)) (nst rfl) (.cons (fq hnp rfl) (nst rfl) (.cons (d:=.str (zY b ds)) ?_ (nst rfl) .nil)))
     (λvs=>?_)) (λd own' h=>?_) (λZ Z h=>h.elim))
   .have hg:zY b ds=glue NC [oS "Expected ",rpOf b ds]:=by
     unfold zY glue glue glue
     rw[show NC++oS "Expected " = oS "Expected " from by decide]
    rw[hg]
    refine dO (.cons EVd.str (.cons (pM (fq hexp (l3)) (by exact Gc ‹_› (lb rfl)) hdl) .nil)) ?_
    rw[←hg]
    delta zY
    rw[Ll,show (oS "Expected ").length=9 from by decide];lia
   .intro A l F I s hA H hP
    refine mC (JS (w:=w) (k:=k.han e) (Ψo:=noO) hl ?_ A l F I s hA H hP) (λv s' I' own' a H' E9 q=>xEAA E9 λe' hv h1 h2=>⟨I',own',a,H',⟨.ref e',hv ▸ .ref _,e',rfl,h1,h2⟩,q⟩)
    delta zY
    rw[Ll,show (oS "Expected ").length=9 from by decide];lia
   .refine xEAA h λe' E5 h1 E6=>?_;try clear h;subst E5;subst E6
    have hne:e≠e':=by rintro rfl;rewrite [zd] at h1;injection h1
    refine vn e' _ rfl (zd ..) ⟨.type "ValueError",by rw[zc _ _ hne];exact zd ..⟩ ?_
    refine⟨?_,hf,rfl⟩
    replace h1:=Gj (Gq (zc _ _ (Hk hne))) h1
    intro a mo ha
    have q1:a≠e:=by rintro rfl;replace ha:=Gj (Gq (he')) ha;injection ha
    have q2:a≠e':=by rintro rfl;replace ha:=Gj (Gq (h1)) ha;injection ha
    show (if a=e then fp else (if a=e' then fp else upd (upd own e _) e' _ a))=fm mo
    rw[if_neg q1,if_neg q2,zc _ _ q2,zc _ _ q1];exact ha
  .intro ρ1 E9;refine xEA E9 λi hi E5=>?_;clear E9;subst E5
   ac_rfl
   show let Φ':=_;let Ψ':=_;EX _ _ _ _ _ Φ' Ψ';intro Φ' Ψ'
   refine EX.step (ρ₁:=⟨(oS "new_pos",.int i)::loc0,own⟩) (fI (b:=false) (TDb.not (c:=true) (TDb.val (dz (fq heo (l4)) tyd_fs (.cons (fN (fq hsrc (l1)) (.some (fq hpos (l2))) (.some (fq hnp rfl)) .none uJ hlk
    (λv1 sl vl vu vs pl pu ps=>by cases ps;exact va (by exact Gc ‹_› (lb rfl)) pl pu)) (nst rfl) .nil) JP yu ug (λv vs=>qb (k:=k.up) hb (sm_pySl hs _ _))))) (λh=>nomatch h) (λZ=>EX.nil ⟨rfl,rfl⟩)) ?_
   refine fw (fS (EX1.ret (fq hnp rfl)) ?_)
   exact iAEA (OLe.refl _) i hi rfl
end
theorem yy {α:Type} (f:Gn->Option α) (a:Gn) (x y:α):upd (upd f a x) a y=upd f a y:=by
 funext b
 by_cases q:b=a
 .subst q;rw[zd,zd]
 .rw[zc _ _ q,zc _ _ q,zc _ _ q]
theorem Ae {own own':Own} {a:Gn} {mo:MO} (h:OLe own own') (ha:own a=fp):OLe own (upd own' a mo):=λb m e=>by
 have q:b≠a:=by rintro rfl;replace e:=Gj (Gq (ha)) e;injection e
 rw[zc _ _ q];exact h b m e
theorem pQ {own own':Own} {a:Gn} (h:OLe own own') (ha:own a=fp):OLe own (Mine.del own' a):=λb m e=>by
 have q:b≠a:=by rintro rfl;replace e:=Gj (Gq (ha)) e;injection e
 show (if b=a then fp else own' b)=fm m
 rw[if_neg q];exact h b m e
section
variable {b:Bool} {cs ds:List Nat}
theorem dZ {e:Expr} {pos:Pos} {n:Int} (h:EVd w k env ρ e (.int n)):EVd w k env ρ (.UnaryOp .USub e pos) (.int (-n)):=λA l F I s hA H L p =>
 wpAny_UnaryOp (mP (h A l F I s hA H L p) (λv s1 I1 a1 H1 r1 q1=>by (refine fM r1 λZ E0=>?_;clear r1;subst E0);exact neg_int ⟨I1,a1,H1,.int _ _,⟨q1.1,q1.2⟩⟩))
theorem dY {e1 e2:Expr} {pos:Pos} {b1 b2:Bool} (h1:TDb w k env ρ e1 b1) (h2:b1=Gh->TDb w k env ρ e2 b2):TDb w k env ρ (.BoolOp .And [e1,e2] pos) (b1&&b2):=λA l F I s hA H L p =>
 isTrue_and (mP (h1 A l F I s hA H L p) (λv s1 I1 a1 H1 r1 q1=>by
  subst r1
  cases v with
  | false=>exact⟨I1,a1,H1,rfl,q1⟩
  | true=>exact isTrue_and (mP (h2 rfl A l F I1 s1 hA H1 (L.mono a1) p) (λv s2 I2 a2 H2 r2 q2=>by
    subst r2
    cases v with
    | false=>exact⟨I2,a1.trans a2,H2,rfl,q1.trans q2⟩
    | true=>exact isTrue_and_nil ⟨I2,a1.trans a2,H2,rfl,q1.trans q2⟩))))
theorem pi {o e:Expr} {apos pos spos:Pos} {a:Gn} {ds:List PV} {d:PV} (ho:EVd w k env ρ o (.ref a)) (h0:ρ.own a=fm (.lst ds)) (hl:ds.length<=100000) (he:EVO w k env ρ e (λd' own'=>d'=d/\own'=ρ.own) Ψo) (hst:∀ x p,e≠.Starred x p)
  (hx:∀ xd o,Ψo xd o->Ψ xd ⟨ρ.loc,o⟩) (hline:(apos.endLine==pos.line)=Gh:=by rfl) (hbase:Ht o "append" env (eval o env)=eval o env:=by rfl) (hs:Lq (.Call (.Attribute o "append" apos) [e] [] pos) fp spos.line env=pure Gk:=by rfl) :
  EX1 w k env ρ (.Expr (.Call (.Attribute o "append" apos) [e] [] pos) spos) (λp ρ'=>p=.next/\ρ'=⟨ρ.loc,upd ρ.own a (.lst (ds++[d]))⟩) Ψ :=
 EX1.mono (fU (EVO.append ho h0 he hst (λd own1 h=>(iEA ds (by rw[h.2];exact h0) hl)) hline hbase) hx hs) (by
  (intro p ρ' E9;refine zJ E9 λE43 d0 own' E44 E45=>?_;clear E9;subst E43;(refine zs E44 λd1 own1 ds1 E33 h1 E35 E36=>?_;clear E44;obtain⟨rfl,rfl⟩:=E33;subst E35;subst E36);subst E45)
  replace h1:=Gj (Gq (h0)) h1;(injection h1 with E1;injection E1 with E1;subst E1)
  exact⟨rfl,rfl⟩)
theorem EX1.app {o e:Expr} {apos pos spos:Pos} {a:Gn} {ds:List PV} {d:PV} (ho:EVd w k env ρ o (.ref a)) (h0:ρ.own a=fm (.lst ds)) (hl:ds.length<=100000) (he:EVd w k env ρ e d) (hst:∀ x p,e≠.Starred x p)
  (hline:(apos.endLine==pos.line)=Gh:=by rfl) (hbase:Ht o "append" env (eval o env)=eval o env:=by rfl) (hs:Lq (.Call (.Attribute o "append" apos) [e] [] pos) fp spos.line env=pure Gk:=by rfl) :
  EX1 w k env ρ (.Expr (.Call (.Attribute o "append" apos) [e] [] pos) spos) (λp ρ'=>p=.next/\ρ'=⟨ρ.loc,upd ρ.own a (.lst (ds++[d]))⟩) Ψ :=
 pi (Ψo:=noO) ho h0 hl (EVd.o he) hst (λZ Z h=>h.elim) hline hbase hs
theorem tb_len {b:Bool} {cs ds:List Nat}:True:=trivial
theorem dJ {e1 e2 e3:Expr} {np pos p1 p2 p3 p4 p5:Pos} {c:Nat} {p:Nat} (h1:EVd w k.up.up.up env ρ e1 (tb b cs)) (h2:EVd w k.up.up.up env ρ e2 (.int p)) (h3:EVd w k.up.up.up env ρ e3 (tb b ds)) (n1:∀ x p,e1≠.Starred x p) (n2:∀ x p,e2≠.Starred x p) (n3:∀ x p,e3≠.Starred x p)
  (hf1:env.kindOf (oS "skip_until")=fm .globalImplicit) (hf2:env.kindOf (oS "frozenset")=fm .globalImplicit) (hb:k.b=Gh) (hl:cs.length<=1000) (hs:Sm cs) (hd:Sm ds) (hn:ds≠[]) (hr:(rpOf b ds).length<=900) (hdl:ds.length<=1000) :
  EVO w k.up.up.up env ρ (.Call (.Name (oS "skip_until") np) [e1,e2,e3] [⟨fm (oS "error_on"),.Call (.Name (oS "frozenset") p1) [] [] p2,p3⟩,⟨fm (oS "error_on_eof"),.Constant (.bool Gh) c p4,p5⟩] pos)
   (λd own'=>own'=ρ.own/\∃ i,fnd cs ds p=fm i/\d=.int i) (λx own'=>own'=ρ.own/\fnd cs ds p=fp/\x=⟨.ref 158,fm [.str (zS (zY b ds))]⟩) :=
 pX hf1 rfl (i:=11) rfl (.cons h1 n1 (.cons h2 n2 (.cons h3 n3 .nil))) (.cons (fG hf2 rfl .nil (λvs=>qk)) (.cons EVd.bool .nil)) (λvs ks=>js hb hl hs hd hn hr hdl)
noncomputable def lrGo (cs:List Nat):Nat->List Nat->List (List Nat)->Nat->Option (List Nat×List (List Nat))
 | 0,ps,ns,_=>fm (ps,ns)
 | n+1,ps,ns,bg=>if bg<cs.length then match fnd cs [47] bg with
   | some i=>lrGo cs n (ps++[i]) (ns++[pySl cs (fm (bg:Int)) (fm (i:Int))]) (zB cs i)
   | none=>fp
  else fm (ps,ns)
theorem sm_sep:Sm [47]:=λc hc=>by simp at hc;lia
set_option tactic.hygienic true in
theorem Qf {cs:List Nat} {p:Nat} (h:p<=cs.length):zB cs p<=cs.length:=by
 have aux:∀ xs:List Nat,skc xs<=xs.length:=by
  intro xs
  induction xs with
  | nil=>exact GI _
  | cons x r ih =>
   unfold skc
   split
   .rename_i q;(injection q with E1 E2;subst E2;subst E1);simp;exact ih
   .exact GU _
 delta zB
 have:=aux (cs.drop p)
 replace this:=Hc ▸ this
 exact(XF h).mp this
theorem rp_sep (b:Bool):(rpOf b [47]).length<=900:=by cases b<;>decide +kernel
theorem Qr {vs:List Gd} {ps:List Nat} {ns:List (List Nat)} (hb:k.b=Gh) (hl:cs.length<=1000) (hs:Sm cs) (hr:lrGo cs 9 [0] [] (zB cs 0)=fm (ps,ns)) :
  PR w k.up.up.up.up own (λI=>VRs I vs [tb b cs]) (call (.ref 196) vs) (λI v=>VR I v (.tup [.lst (natL ps),.lst (ns.map (tb b))])):=by
 intro A l F I s hA H hP
 refine VRs.k hP λv vs E0 r1 r2=>?_;clear hP;subst E0
 have E0:=VRs.nl r2;clear r2;subst E0
 refine mP (yo (w:=w) (i:=14) (own:=own) (P:=λI=>VRs I _ [tb b cs]) (ds:=[(oS "path",tb b cs)]) (D:=λd'=>d'=.tup [.lst (natL ps),.lst (ns.map (tb b))]) rfl fP ⟨rfl,rfl,rfl⟩
  (λfd h1 h2 h3=>?_) ?_ (λenv eok=>?_) A l F I s hA H (.cons r1 .nil)) (λv s' I' a H' E9 q=>xEA E9 λd' r e=>⟨I',a,H',e ▸ r,q⟩)
 .refine zO h1 h2 h3 (bs:=[(oS "path",_)]) (λfd h1 h2 h3=>?_) λI h=>by
   cases h using ft with | cons a h=>exact .cons a .nil
  obtain⟨⟩:=fd
  simp only at h1 h2 h3
  subst h1 h2 h3
  rfl
 .intro x hx
  simp only[Gi,Gl,or_false] at hx
  subst hx;exact .inl rfl
 .have hpath:=eok.kL "path"
  have hplaces:=eok.kL "places"
  have hnames:=eok.kL "names"
  have hbegin:=eok.kL "begin"
  have hsc:=eok.kG "skip_chars"
  have hgs:=eok.kG "_get_sep"
  have hlen:=eok.kG "len"
  have hsu:=eok.kG "skip_until"
  have hfs:=eok.kG "frozenset"
  refine xE (uO (b:=b)) λidg hlk=>?_
  refine df (fD (EVO.list (.cons EVd.int (nst rfl) .nil) (lb rfl)) hplaces (λZ Z h=>h) rfl) λa ha=>?_
  refine df (fD (EVO.list .nil (lb rfl)) hnames (λZ Z h=>h) rfl) λa2 ha2=>?_
  have ha:own a=fp:=ha
  have ha2:upd own a (.lst [.int 0]) a2=fp:=ha2
  have hne:a2≠a:=by rintro rfl;rewrite [zd] at ha2;injection ha2
  have ha2':own a2=fp:=by replace ha2:=Gj (Gq (zc _ _ hne)) ha2;exact ha2
  have gsep:∀ {ρ:PSt} {np pos:Pos} {np2:Pos},ρ.loc.lookup (oS "path")=fm (tb b cs)->EVd w k.up.up.up env ρ (.Call (.Name (oS "_get_sep") np) [.Name (oS "path") np2] [] pos) (tb b [47]):=λh =>
   fR hgs rfl (i:=9) rfl (.cons (fq hpath h) (nst rfl) .nil) (λvs=>(ux b cs) ▸ yW (jX b cs))
  have skip:∀ {ρ:PSt} {np pos:Pos} {np2 p3 p4 p5:Pos} {e:Expr} {p:Nat},p<=cs.length->ρ.loc.lookup (oS "path")=fm (tb b cs)->EVd w k.up.up.up env ρ e (.int p)->(∀ x p,e≠.Starred x p)->EVd w k.up.up.up env ρ (.Call (.Name (oS "skip_chars") np) [.Name (oS "path") np2,e,.Call (.Name (oS "_get_sep") p3) [.Name (oS "path") p4] [] p5] [] pos) (.int (zB cs p)):=λhp h he hst =>
   fR hsc rfl (i:=10) rfl (.cons (fq hpath h) (nst rfl) (.cons he hst (.cons (gsep h) (nst rfl) .nil))) (λvs=>JR (k:=k.up.up) hb hs hl hp)
  refine EX.step (fH (skip (p:=0) (GU _) rfl EVd.int (nst rfl)) hbegin rfl) ?_
  let St:PSt->List Nat->List (List Nat)->Nat->Prop:=λρ ps ns bg=>ρ.own=upd (upd own a (.lst (natL ps))) a2 (.lst (ns.map (tb b)))/\ρ.loc.lookup (oS "path")=fm (tb b cs)/\ρ.loc.lookup (oS "places")=fm (.ref a)/\ρ.loc.lookup (oS "names")=fm (.ref a2)/\ρ.loc.lookup (oS "begin")=fm (.int bg)
  refine fy (D:=λρ=>∃ bg,St ρ ps ns bg) (dC (λn ρ=>∃ ps' ns' bg,ns'.length+n=9/\ps'.length=ns'.length+1/\bg<=cs.length/\St ρ ps' ns' bg/\lrGo cs n ps' ns' bg=fm (ps,ns))
   (λn t ρ=>∃ ps' ns' bg,ns'.length+n=9/\ps'.length=ns'.length+1/\bg<=cs.length/\St ρ ps' ns' bg/\lrGo cs n ps' ns' bg=fm (ps,ns)/\t=(decide ((bg:Int)<cs.length)&&decide ((ns'.length:Int)<9))) ?_ ?_ ?_ 9 ?_) ?_
  .intro n ρ1 E9;refine yO E9 λps' ns' bg e1 e2 e3 E45 e4=>?_;clear E9;(refine xAAAA E45 λo l1 l2 l3 l4=>?_;clear E45)
   ac_rfl
   intro A l F I s hA R
   show let Q':=_;let E':=_;Gf _ _ _ Q' E' _;intro Q' E'
   refine Gm (pn (Ψ:=noX) (dY (fE (fq hbegin l4) (fB hlen rfl (.cons (fq hpath l1) (nst rfl) .nil) (λvs=>xt (by exact Gc ‹_› (lb rfl)))) (λv1 v2=>pr_lt))
    (λZ=>fE (fB hlen rfl (.cons (fq hnames l3) (nst rfl) .nil) (λvs=>vK (ds:=ns'.map (tb b)) (by rw[o];exact zd ..) (by rw[Ge];lia))) EVd.int (λv1 v2=>pr_lt))) A l F I s hA R) (λt s' ⟨I',ρ',a,R',q',h1,h2⟩=>⟨I',ρ',a,R',q',ps',ns',bg,e1,e2,e3,h2 ▸ ⟨o,l1,l2,l3,l4⟩,e4,by rw[h1,Ge]⟩) λZ Z x=>x
  .intro n ρ1 E9;refine uv E9 λps' ns' bg e1 e2 e3 E46 e4 e5=>?_;clear E9;(refine xAAAA E46 λo l1 l2 l3 l4=>?_;clear E46)
   ac_rfl
   have e5':=e5.symm
   rewrite [GE,decide_eq_true_eq,decide_eq_true_eq] at e5'
   refine xA (e5') λh5 h6=>?_;try clear e5'
   obtain⟨m,rfl⟩:∃ m,n=m+1:=⟨n-1,by lia⟩
   unfold lrGo at e4
   replace e4:=Gj (Gq (if_pos (by exact Int.ofNat_lt.mp h5))) e4
   cases hf:fnd cs [47] bg with
   | none=>replace e4:=hf ▸ e4;injection e4
   | some i =>
    replace e4:=hf ▸ e4
    have hi:i<=cs.length:=by have:=(xO hf).2.1.1;simp at this;exact KA ‹_›
    have hoa:ρ1.own a=fm (.lst (natL ps')):=by rw[o,zc _ _ (Hk hne)];exact zd ..
    refine EX.step (pi (d:=.int i) (Ψo:=noO) (fq hplaces l2) hoa (by delta natL;rw[Ge];lia) (EVO.mono (dJ (fq hpath l1) (fq hbegin l4) (gsep l1) (nst rfl) (nst rfl) (nst rfl) hsu hfs hb hl hs sm_sep (dc rfl) (rp_sep b) (lb rfl))
     (λd o E9=>xAEA E9 λh1 j h2 h3=>⟨by replace h2:=Gj (Gq (hf)) h2;(injection h2 with E1;subst E1);exact h3,h1⟩) (λx o E9=>xAA E9 λZ h Z=>by replace h:=Gj (Gq (hf)) h;injection h)) (nst rfl) (λZ Z h=>h.elim)) ?_
    have eo1:upd ρ1.own a (.lst (natL ps'++[.int i]))=upd (upd own a (.lst (natL (ps'++[i])))) a2 (.lst (ns'.map (tb b))):=by
     rw[o,yn hne,yy];delta natL;rw[GG];rfl
    rw[eo1]
    have last:∀ {ρ:PSt} {p1 p2 p3 p4:Pos} {c:Nat},ρ.own a=fm (.lst (natL (ps'++[i])))->ρ.loc.lookup (oS "places")=fm (.ref a)->EVd w k.up.up.up env ρ (.Subscript (.Name (oS "places") p1) (.UnaryOp .USub (.Constant (.int 1) c p2) p3) p4) (.int i):=λho h =>
     EVd.sub (fq hplaces h) (dZ EVd.int) (jt ho) zh (λv1 v2=>x5 ho (by delta natL;simp) (by delta natL;simp;lia))
    have hob:(upd (upd own a (.lst (natL (ps'++[i])))) a2 (.lst (ns'.map (tb b)))) a=fm (.lst (natL (ps'++[i]))):=by rw[zc _ _ (Hk hne)];exact zd ..
    refine EX.step (EX1.app (d:=tb b (pySl cs (fm (bg:Int)) (fm (i:Int)))) (fq hnames l3) (ds:=ns'.map (tb b)) (zd ..) (by rw[Ge];lia) (fN (fq hpath l1) (.some (fq hbegin l4)) (.some (last hob l2)) .none uJ hlk
     (λv1 sl vl vu vs pl pu ps=>by cases ps;exact va (by exact Gc ‹_› (lb rfl)) pl pu)) (nst rfl)) ?_
    rw[yy]
    refine fw (fS (fH (skip (p:=i) hi l1 (last ((zc _ _ (Hk hne)).trans (zd ..)) l2) (nst rfl)) hbegin rfl) ?_)
    refine⟨m,by exact Oa _,ps'++[i],ns'++[pySl cs (fm (bg:Int)) (fm (i:Int))],zB cs i,by simp;lia,by simp;assumption,Qf hi,⟨?_,?_,?_,?_,?_⟩,e4⟩
    .rw[GG];rfl
    .exact l1
    .exact l2
    .exact l3
    .exact rfl
  .intro n ρ1 E9;refine uv E9 λps' ns' bg e1 e2 e3 hst e4 e5=>?_;clear E9
   ac_rfl
   have e5':=e5.symm
   rewrite [XM,decide_eq_false_iff_not,decide_eq_false_iff_not] at e5'
   have:ps'=ps/\ns'=ns:=by
    cases n with
    | zero=>delta lrGo at e4;(injection e4 with E1;injection E1 with E1 E2;subst E2;subst E1);exact⟨rfl,rfl⟩
    | succ n =>
     unfold lrGo at e4
     replace e4:=Gj (Gq (if_neg (by lia))) e4
     (injection e4 with E1;injection E1 with E1 E2;subst E2;subst E1);exact⟨rfl,rfl⟩
   refine xA this λE5 E6=>?_;try clear this;subst E5;subst E6
   exact EX.nil (iAE rfl bg hst)
  .exact qP [0] [] (zB cs 0) rfl rfl (Qf (GU _)) ⟨by rfl,rfl,rfl,rfl,rfl⟩ hr
  .intro ρ1 E9;refine xm E9 λbg o l1 l2 l3 l4=>?_;clear E9
   ac_rfl
   refine EX.freeze (a:=a) (ds:=natL ps) (loc':=(oS "places",.lst (natL ps))::ρ1.loc) (by rw[o,zc _ _ (Hk hne)];exact zd ..) (λy d hy=>?_) ?_
   .by_cases q:y=oS "places"
    .subst q;replace hy:=Gj (Gq (rfl)) hy;(injection hy with E1;subst E1);exact .inr ⟨l2,rfl⟩
    .replace hy:=Gj (Gq (zb q)) hy;exact .inl hy
   have hd2:del ρ1.own a a2=fm (.lst (ns.map (tb b))):=by
    show (if a2=a then fp else ρ1.own a2)=_
    rw[if_neg hne,o];exact zd ..
   refine EX.freeze (a:=a2) (ds:=ns.map (tb b)) (loc':=(oS "names",.lst (ns.map (tb b)))::(oS "places",.lst (natL ps))::ρ1.loc) hd2 (λy d hy=>?_) ?_
   .by_cases q:y=oS "names"
    .subst q;replace hy:=Gj (Gq (rfl)) hy;(injection hy with E1;subst E1);exact .inr ⟨l3,rfl⟩
    .replace hy:=Gj (Gq (zb q)) hy;exact .inl hy
   refine fw (fS (EX1.ret (f7 (.cons (fq hplaces (rfl)) (nst rfl) (.cons (fq hnames rfl) (nst rfl) .nil)) (by exact G0.mp rfl))) ?_)
   refine⟨rfl,?_⟩
   show OLe own (del (del ρ1.own a) a2)
   rw[o]
   exact pQ (pQ (Ae (Ae (OLe.refl _) ha) ha2') ha) ha2'
end
theorem x8:Slot "ValueError" "__str__" "BaseException.__str__" :=
 .of (owner := "BaseException") (n := "__str__") (by rw[HM,Hf];kernel_rfl) (by decide +kernel) (by decide +kernel) (by decide +kernel)
  (by first | exact .inl (by decide +kernel) | exact .inr (by decide +kernel)) (by rw[G8];kernel_rfl)
section
variable {prog:LH} {h:Kf} {g:Array GenState} {d:Drawn} {t:Nat} {os:OsState} {a:Gn} {o:Obj} {vs:Array Gd} {t0:Gn}
 {nm q:Str} {C N:Gn} {bs bm bmB:List Gd} {hdct:Bool} {sn:List Str} {sub:List Gd} {ab:Bool} {col:Option Bool} {dd:Option Gn} {k0 k1 k2 k3 k5:Option Gd} {B newId:String} {mN:Str->Option Gd}
theorem Jb {M:YA} {Q:Unit->Gg->Prop} (hC:h.get? C=fm (Lu nm q C N bs bm hdct sn sub ab col dd k0 k1 k2 k3 k5 newId)) (hbm:bm.contains (.type "BaseException")=Gh)
  (hx:h.get? a=fm o) (hc:o.cls=.ref C) (hq:Q () ⟨h,g,d,t,os⟩):Gf M A (WM "BaseException.__str__" ⟨[.ref a],[]⟩) Q E ⟨h,g,d,t,os⟩:=by
 have hk:builtinKind "BaseException.__str__" = fm .slot:=by decide +kernel
 have hsplit:splitId "BaseException.__str__" = fm ("BaseException","__str__"):=by decide +kernel
 have hcB:(Hg C::bm).contains (.type "BaseException")=Gh:=by rw[OA,hbm];rfl
 have ha:=PySem.F.args_bexc_str (.ref a)
 rw[WM,hk,hsplit]
 refine Ga ?_
 .show let Q':=_;let E':=_;Gf _ _ _ Q' E' _;intro Q' E'
  delta gO
  repeat (first | (with_reducible refine wpAny_loadPart_at hx ?_;rw[hc]) | (with_reducible refine gz hC ?_;rw[hcB]) | wp_step)
  exact hq
theorem zae {m:Str} {tk:Tok} {Q:Gd->Gg->Prop} (hu:A.units<NM) (hC:h.get? C=fm (Lu nm q C N bs [.type "ValueError",.type "Exception",.type "BaseException",.type "object"] hdct sn sub ab col dd k0 k1 k2 k3 k5 newId)) (hN:h.Ns N mN) (hmN:mN "__str__" = fp)
  (hx:h.get? a=fm o) (hc:o.cls=.ref C) (hd:o.data=.fields vs) (h0:vs[0]? = fm (.ref t0)) (ht:h.TupAt t0 [.str m tk]) (hq:Q (.str m tk) ⟨h,g,d,t,os⟩) :
  Gf (model prog w) A (Xf (.ref a)) Q E ⟨h,g,d,t,os⟩:=by
 delta Xf
 show Gf _ _ (cRoomFor "str" [.ref a]>>=λZ=>_) _ _ _
 refine Ga (wpAny_cRoomFor hu ?_)
 refine Ga ?_
 show let Q':=_;let E':=_;Gf _ _ _ Q' E' _;intro Q' E'
 unfold callSpecial? fb
 refine Ga (Ga (Ts hx ?_))
 rw[hc]
 refine wpAny_typeLookup_exc hC hN V0.mroIs x8.lookup ?_
 rw[show mN (oS "__str__")=fp from hmN]
 refine GD (Ga (Hh (x8.bind _) ?_))
 refine Ga (NY (Vv x8.plain PySem.F.entry_bexc_str (Jb hC (by decide +kernel) hx hc ?_)))
 show let Q':=_;let E':=_;Gf _ _ _ Q' E' _;intro Q' E'
 delta Hm.«BaseException.__str__»
 refine zy ht λot kk hto Z htd=>?_;try clear ht
 have hargs:∀ {Q:Gd×List Gd->Gg->Prop} {E:Gd->Gg->Prop},Q (.ref t0,[.str m tk]) ⟨h,g,d,t,os⟩->Gf (model prog w) A.in1 (OQ (.ref a)) Q E ⟨h,g,d,t,os⟩:=λhq=>by
  delta OQ
  exact Ga (HD hx hd h0 (Ga (OW hto htd (Gb hq))))
 repeat (first | with_reducible refine hargs ?_ | wp_step)
 exact hq
theorem str_own {m:Str} {tk:Tok} {Q:Gd->Gg->Prop} (hu:A.units+2<NM) (hC:h.get? C=fm (Lu nm q C N bs [.type "ValueError",.type "Exception",.type "BaseException",.type "object"] hdct sn sub ab col dd k0 k1 k2 k3 k5 newId)) (hN:h.Ns N mN) (hmN:mN "__str__" = fp)
  (hx:h.get? a=fm o) (hc:o.cls=.ref C) (hd:o.data=.fields vs) (h0:vs[0]? = fm (.ref t0)) (ht:h.TupAt t0 [.str m tk]) (hq:Q (.str m tk) ⟨h,g,d,t,os⟩) :
  Gf (model prog w) A (call (.type "str") [.ref a]) Q E ⟨h,g,d,t,os⟩ :=
 callType_new PySem.F.called_str (Hv Gh) (PySem.F.typeCall_str_1 _) (PySem.F.newCall_str_1 _) (λobj=>PySem.F.args_object_init_2 obj _) PySem.F.entry_str_new
  (meets_str_new (S:=λA' R s'=>A'.units+1<NM/\s'=⟨h,g,d,t,os⟩/\R (.ok (.ret (.str m tk))) ⟨h,g,d,t,os⟩) λprog w A' R s' E9=>xAA E9 λhu' es hr=>by
   subst es
   exact zae (A:=A'.in1) hu' hC hN hmN hx hc hd h0 ht hr) ⟨hu,rfl,Xr _ _ _,hq⟩
end
section
variable {b:Bool} {cs ds:List Nat} {Θ Θ':PV->Own->Prop}
theorem Za {e:Gn} {m:Str} {vs:List Gd} (ho:own e=fm (.exc (.ref 158) (fm [.str m]))):PR w k own (λI=>VRs I vs [.ref e]) (call (.type "str") vs) (λI v=>VR I v (.str m)):=by
 intro A l F I s hA H hP
 show let Q':=_;let E':=_;Gf _ _ _ Q' E' _;intro Q' E'
 refine VRs.k hP λv vs E0 r1 r2=>?_;clear hP;subst E0
 have E0:=VRs.nl r2;clear r2;subst E0
 have E0:=fJ r1;clear r1;subst E0
 refine Jw (H.ow e _ ho) λo he hc Z fs hd hsz hargs Z=>?_
 obtain⟨t,tvs,n,h0,ht,hv⟩:=hargs _ rfl
 refine yd (H.toml) λnm q N bs hdct sn sub ab col dd k0 k1 k2 k3 k5 mN h1 h2 h3 h4=>?_
 obtain⟨tl⟩:=tvs
 cases hv using ft with
 | cons rv rr =>
 (have E0:=VRs.nl rr;clear rr;subst E0)
 refine fW rv λZ E0=>?_;clear rv;subst E0
 obtain⟨hp,g,d,tk,os⟩:=s
 exact str_own (by have:=hA.un;lia) h1 h2 h4 he hc hd h0 (xk _ n (H.fz _ _ ht) rfl rfl) ⟨I,.refl I,H,.str _ _,.refl _⟩
theorem pj {e1 e2:Expr} {op:XB} {pos:Pos} {d2:PV} (h1:EVO w k env ρ e1 Θ Ψo) (h2:∀ d1 own',Θ d1 own'->EVd w k env ⟨ρ.loc,own'⟩ e2 d2)
  (h:∀ d1 own',Θ d1 own'->∃ d,(∀ v1 v2,PR w k own' (λI=>VR I v1 d1/\VR I v2 d2) (N9 op v1 v2) (λI v=>VR I v d))/\Θ' d own'):EVO w k env ρ (.BinOp e1 op e2 pos) Θ' Ψo :=
 λA l F I s hA H L=>wpAny_BinOp (Gm (h1 A l F I s hA H L) (λv1 s1 E9=>E9.casesOn λI1 o1 d1 a1 H1 r1 q1 c1=>by
  show let Q':=_;let E':=_;Gf _ _ _ Q' E' _;intro Q' E'
  refine xEA (h d1 o1 c1) λd hp hd=>?_
  exact mPf (h2 d1 o1 c1 A l F I1 s1 hA H1 (L.mono a1) trivial) (λv2 s2 I2 a2 H2 r2 q2 =>
   mPf (hp v1 v2 A l F I2 s2 hA H2 ⟨r1.mono a2,r2⟩) (λv s3 I3 a3 H3 r3 q3=>⟨I3,o1,d,a1.trans (a2.trans a3),H3,r3,q1.trans (q2.trans q3),hd⟩)))
   λev s1 E9=>E9.casesOn λI1 o1 x a1 H1 X1 q1 c1=>⟨I1,o1,x,a1,H1,X1,q1,c1⟩)
noncomputable def zl (b:Bool) (cs so:List Nat) (p:Nat):PV:=match fnd cs so p with
 | some i=>.int ((i:Int)+so.length-1)
 | none=>.str (zS (zY b so))
noncomputable def soOf (nm:List Nat):List Nat:=[47]++nm++[47]
theorem qr {vs:List Gd} {ps nm:List Nat} (hb:k.b=Gh) (hl:cs.length<=1000) (hs:Sm cs) (hnm:Sm nm) (hnl:nm.length<=10) (hr:(rpOf b (soOf nm)).length<=900) (hpl:ps.length<=1000) :
  PR w k.up.up.up.up own (λI=>VRs I vs [tb b cs,.lst (natL ps),tb b nm]) (call (.ref 203) vs) (λI v=>VR I v (.lst (ps.map (zl b cs (soOf nm))))):=by
 intro A l F I s hA H hP
 show let Q':=_;let E':=_;Gf _ _ _ Q' E' _;intro Q' E'
 refine VRs.k hP λv vs E0 r1 r2=>?_;clear hP;subst E0
 cases r2 using ft with
 | cons r2 r3 =>
 cases r3 using ft with
 | cons r3 r4 =>
 (have E0:=VRs.nl r4;clear r4;subst E0)
 refine mP (yo (w:=w) (i:=15) (own:=own) (P:=λI=>VRs I _ [tb b cs,.lst (natL ps),tb b nm]) (ds:=[(oS "path",tb b cs),(oS "places",.lst (natL ps)),(oS "name",tb b nm)]) (D:=λd'=>d'=.lst (ps.map (zl b cs (soOf nm)))) rfl fP ⟨rfl,rfl,rfl⟩
  (λfd h1 h2 h3=>?_) ?_ (λenv eok=>?_) A l F I s hA H (.cons r1 (.cons r2 (.cons r3 .nil)))) (λv s' I' a H' E9 q=>xEA E9 λd' r e=>⟨I',a,H',e ▸ r,q⟩)
 .refine zO h1 h2 h3 (bs:=[(oS "path",_),(oS "places",_),(oS "name",_)]) (λfd h1 h2 h3=>?_) λI h=>by
   cases h using ft with | cons a h=>cases h using ft with | cons b h=>cases h using ft with | cons c h=>exact .cons a (.cons b (.cons c .nil))
  obtain⟨⟩:=fd
  simp only at h1 h2 h3
  subst h1 h2 h3
  rfl
 .intro x hx
  simp only[Gi,Gl,or_false] at hx
  rcases hx with rfl | rfl | rfl<;>exact .inl rfl
 .have hpath:=eok.kL "path"
  have hplaces:=eok.kL "places"
  have hname:=eok.kL "name"
  have hsought:=eok.kL "sought"
  have hleaps:=eok.kL "leaps"
  have hplace:=eok.kL "place"
  have herror:=eok.kL "error"
  have hgs:=eok.kG "_get_sep"
  have hsu:=eok.kG "skip_until"
  have hfs:=eok.kG "frozenset"
  have hlen:=eok.kG "len"
  have htde:=eok.kG "TOMLDecodeError"
  have hstr:=eok.kG "str"
  generalize hloc0:([(oS "path",tb b cs),(oS "places",.lst (natL ps)),(oS "name",tb b nm)].reverse:List (Str×PV))=loc0
  have m1:loc0.lookup (oS "path")=fm (tb b cs):=by subst hloc0;rfl
  have m2:loc0.lookup (oS "places")=fm (.lst (natL ps)):=by subst hloc0;rfl
  have m3:loc0.lookup (oS "name")=fm (tb b nm):=by subst hloc0;rfl
  refine EX.step (fH (d:=tb b (soOf nm)) (fC (fC (fR hgs rfl (i:=9) rfl (.cons (fq hpath m1) (nst rfl) .nil) (λvs=>(ux b cs) ▸ yW (k:=k.up.up) (jX b cs))) (fq hname m3) (λv1 v2=>xr (by simp;lia)))
   (fR hgs rfl (i:=9) rfl (.cons (fq hname m3) (nst rfl) .nil) (λvs=>(ux b nm) ▸ yW (k:=k.up.up) (jX b nm))) (λv1 v2=>xr (by simp;exact Gc ‹_› (lb rfl)))) hsought rfl) ?_
  have hsol:(soOf nm).length<=12:=by delta soOf;simp;assumption
  have hsm:Sm (soOf nm):=λc hc=>by
   delta soOf at hc
   simp only[KR,LI] at hc
   rcases hc with (rfl | hc) | rfl
   .exact lb rfl
   .exact hnm c hc
   .exact lb rfl
  have hne:soOf nm≠[]:=by delta soOf;(intro h;injection h;done)
  generalize soOf nm=so at *
  refine df (fD (EVO.list .nil (lb rfl)) hleaps (λZ Z h=>h) rfl) λa ha=>?_
  have ha:own a=fp:=ha
  let St:PSt->Nat->Prop:=λρ i=>ρ.own=upd own a (.lst ((ps.take i).map (zl b cs so)))/\ρ.loc.lookup (oS "path")=fm (tb b cs)/\ρ.loc.lookup (oS "sought")=fm (tb b so)/\ρ.loc.lookup (oS "leaps")=fm (.ref a)
  refine fy (D:=λρ=>St ρ ps.length) (de (k:=k.up.up.up) (CO:=λZ=>True) (ds:=natL ps) hb (fq hplaces ((m2))) (Itb.lst hb) hplace (λi ρ=>St ρ i) ?_ (λZ Z Z=>trivial) ?_ ?_) ?_
  .exact⟨rfl,(m1),rfl,rfl⟩
  .intro i d ρ2 hd E9;refine xAAA E9 λo2 l1 l2 l3=>?_;clear E9
   ac_rfl
   obtain⟨p,hp,rfl⟩:∃ p,ps[i]? = fm p/\d=.int p:=by
    delta natL at hd
    replace hd:=(Gx) ▸ hd
    cases q:ps[i]? with
    | none=>replace hd:=q ▸ hd;injection hd
    | some c=>replace hd:=q ▸ hd;(injection hd with E1;subst E1);exact iEA c rfl rfl
   have htake:ps.take (i+1)=ps.take i++[p]:=by rw[Hx,hp];rfl
   have hoa:ρ2.own a=fm (.lst ((ps.take i).map (zl b cs so))):=by rw[o2];exact zd ..
   have hll:((ps.take i).map (zl b cs so)).length<=100000:=by rw[Ge];have:=Lh i ps;lia
   have lp:(ρ2.set (oS "place") (.int p)).loc.lookup (oS "place")=fm (.int p):=rfl
   have lpath:(ρ2.set (oS "place") (.int p)).loc.lookup (oS "path")=fm (tb b cs):=l1
   have lso:(ρ2.set (oS "place") (.int p)).loc.lookup (oS "sought")=fm (tb b so):=l2
   have lle:(ρ2.set (oS "place") (.int p)).loc.lookup (oS "leaps")=fm (.ref a):=l3
   have eo:upd ρ2.own a (.lst ((ps.take i).map (zl b cs so)++[zl b cs so p]))=upd own a (.lst ((ps.take (i+1)).map (zl b cs so))):=by rw[o2,yy,htake,GG];rfl
   have hoa':(ρ2.set (oS "place") (.int p)).own a=fm (.lst ((ps.take i).map (zl b cs so))):=hoa
   have ho2':(ρ2.set (oS "place") (.int p)).own=ρ2.own:=rfl
   generalize ρ2.set (oS "place") (.int p)=ρ3 at *
   rw[←ho2'] at eo hoa o2
   refine fw (Af (k:=k.up.up.up) (Φ₁:=λpf ρ'=>pf=.next/\St ρ' (i+1)) (Ψ₁:=λx ρ'=>x=⟨.ref 158,fm [.str (zS (zY b so))]⟩/\ρ'=ρ3/\fnd cs so p=fp) ?_ (λpf ρ' h=>by obtain⟨rfl,h⟩:=h;exact h) htde rfl herror ?_)
   .refine fw (fS (pi (d:=zl b cs so p) (fq hleaps lle) hoa hll (pj (Θ:=λd own'=>own'=ρ3.own/\∃ i,fnd cs so p=fm i/\d=.int (i+so.length)) (pj (dJ (fq hpath lpath) (fq hplace lp) (fq hsought lso) (nst rfl) (nst rfl) (nst rfl) hsu hfs hb hl hs hsm hne hr (by exact Gc ‹_› (lb rfl)))
     (λd1 own' Z=>fB hlen rfl (.cons (fq hsought lso) (nst rfl) .nil) (λvs=>xt (by exact Gc ‹_› (lb rfl)))) (λd1 own' E9=>xAEA E9 λh1 j h2 h3=>(iEAAEA _ (λv1 v2=>by subst h3;exact ur) h1 j h2 rfl)))
     (λd1 own' Z=>EVd.int) (λd1 own' E9=>xAEA E9 λh1 j h2 h3=>(iEAA (.int ((j:Int)+so.length-1)) (λv1 v2=>by subst h3;exact qu) (by delta zl;rw[h2]) h1))) (nst rfl) (λxd o E9=>xAA E9 λh1 h2 h3=>⟨h3,by rw[h1],h2⟩)) ?_)
    exact⟨rfl,eo,lpath,lso,lle⟩
   .intro xd ρ4 E9;refine xAA E9 λE5 E6 hf=>?_;clear E9;subst E5;subst E6
    ac_rfl
    refine⟨rfl,λe he=>?_⟩
    have hea:a≠e:=by rintro rfl;replace he:=hoa ▸ he;injection he
    refine fw (EX1.mono (EX1.app (d:=zl b cs so p) (ds:=(ps.take i).map (zl b cs so)) (fq hleaps (lle)) ((zc _ _ hea).trans hoa) hll ?_ (nst rfl)) ?_)
    .rw[show zl b cs so p=.str (zS (zY b so)) by delta zl;rw[hf]]
     exact fG hstr rfl (.cons (fq herror rfl) (nst rfl) .nil) (λvs=>Za (zd ..))
    .intro pf ρ5 E9;refine xA E9 λE5 E6=>?_;clear E9;subst E5;subst E6
     ac_rfl
     refine⟨?_,?_,?_,?_⟩
     .show del (upd (upd ρ4.own e _) a _) e=_
      rw[yn (Hk hea),eo.symm]
      funext x
      by_cases q:x=e
      .subst q
       show (if x=x then fp else _)=_
       rw[if_pos rfl,zc _ _ (Hk hea)];exact he.symm
      .show (if x=e then fp else upd _ e _ x)=_
       rw[if_neg q,zc _ _ q]
     .show (goes (oS "error") ((oS "error",PV.ref e)::ρ4.loc)).lookup (oS "path")=_;rw[vi _ (dc rfl),zb (dc rfl)];exact lpath
     .show (goes (oS "error") ((oS "error",PV.ref e)::ρ4.loc)).lookup (oS "sought")=_;rw[vi _ (dc rfl),zb (dc rfl)];exact lso
     .show (goes (oS "error") ((oS "error",PV.ref e)::ρ4.loc)).lookup (oS "leaps")=_;rw[vi _ (dc rfl),zb (dc rfl)];exact lle
  .rintro ρ2 h
   ac_rfl
   refine EX.nil ⟨rfl,?_⟩
   replace h:=(show (natL ps).length=ps.length from Ge ..) ▸ h
   exact h
  .intro ρ2 E9;refine xAAA E9 λo2 l1 l2 l3=>?_;clear E9
   ac_rfl
   replace o2:=Kq ▸ o2
   refine EX.freeze (a:=a) (ds:=ps.map (zl b cs so)) (loc':=(oS "leaps",.lst (ps.map (zl b cs so)))::ρ2.loc) (by rw[o2];exact zd ..) (λy d hy=>?_) ?_
   .by_cases q:y=oS "leaps"
    .subst q;replace hy:=ze ▸ hy;(injection hy with E1;subst E1);exact .inr ⟨l3,rfl⟩
    .replace hy:=zb q ▸ hy;exact .inl hy
   refine fw (fS (EX1.ret (fq hleaps rfl)) ?_)
   refine⟨rfl,?_⟩
   show OLe own (del ρ2.own a)
   rw[o2];exact OLe.del ha
end
theorem db {I:PH} {ns:List Int} {vs:List Gd} (q:VRs I vs (intL ns)):Ni vs ns :=
 pc (P:=λvs (ns:List Int)=>Ni vs ns) .nil (λZ Z Z Z r Z i=>fM r λZ E0=>E0 ▸ .cons _ _ i) q
theorem Z0 (ps:List Nat):natL ps=intL (ps.map λ(n:Nat)=>(n:Int)):=by unfold natL intL;rw[GL];rfl
theorem zaa {ns:List Int} (hs:∀ n∈ns,n.natAbs<=3) (hl:ns.length<=1000):YQ (.list (ns.map .int))=Gh:=by
 have h1:KN (ns.map .int)=Gh:=by
  clear hs hl
  induction ns with
  | nil=>rfl
  | cons n r ih=>simp[KN,Ot];exact ih
 have h2:Lb (ns.map .int)<=1:=by
  clear hs hl h1
  induction ns with
  | nil=>decide
  | cons n r ih=>simp only[GF,Lb,Oo];exact Om.mp ih
 have h3:Yx (ns.map .int)<=3*ns.length:=by
  clear hl h1 h2
  induction ns with
  | nil=>decide
  | cons n r ih =>
   have i1:=ih λm hm=>hs m (Go _ hm)
   have hn:=hs n Gp
   have:WC (.int n)<=2:=by
    unfold WC
    split
    .exact GU _
    .revert hn;refine Mine.gm (n.natAbs) λm hn=>?_
     have:m=0\/m=1\/m=2\/m=3:=by lia
     rcases this with rfl | rfl | rfl | rfl<;>decide
   simp only[GF,Yx,GC]
   lia
 delta YQ
 simp only[Ot,Oo,WC,h1,Bool.true_and,GE]
 exact⟨decide_eq_true (by lia),decide_eq_true (by lia)⟩
section
variable {b:Bool} {cs ds:List Nat} {Θ Θ':PV->Own->Prop}
theorem zK {vs:List Gd} {n:Nat}:PR w k own (λI=>VRs I vs [.int n]) (call (.type "range") vs) (λI v=>VR I v (.rng n)):=by
 intro A l F I s hA H hP
 show let Q':=_;let E':=_;Gf _ _ _ Q' E' _;intro Q' E'
 refine VRs.k hP λv vs E0 r1 r2=>?_;clear hP;subst E0
 have E0:=VRs.nl r2;clear r2;subst E0
 refine fM r1 λZ E0=>?_;clear r1;subst E0
 exact call_range_1 ⟨_,fA H.new.2.1,H.push_frozen _,.rng (zd ..),⟨rfl,rfl⟩⟩
theorem jO {c:Int} {ns:List Int} {v1 v2:Gd}:PR w k own (λI=>VR I v1 (.int c)/\VR I v2 (.lst (intL ns))) (Ke .In v1 v2) (λI v=>VR I v (.bool (ns.contains c))):=by
 intro A l F I s hA H E9
 show let Q':=_;let E':=_;Gf _ _ _ Q' E' _;intro Q' E'
 refine xA E9 λr1 r2=>?_;clear E9
 refine fM r1 λZ E0=>?_;clear r1;subst E0
 cases r2 using VR.cl with
 | lst e r =>
  refine in_list_ints (zj _ (H.fz _ _ e) rfl _ rfl) (db r) ?_
  rw[List.any_beq']
  exact⟨I,.refl I,H,.bool _,.refl s⟩
theorem JW {c:Int} {ns:List Int} {v:Gd} {vs:List Gd} (hc:c∈ns) (hs:∀ n∈ns,n.natAbs<=3) (hl:ns.length<=1000):PR w k own (λI=>VR I v (.lst (intL ns))/\VRs I vs [.int c]) (call (.builtin "list.index") (v::vs)) (λI v=>VR I v (.int (ns.idxOf c:Nat))):=by
 intro A l F I s hA H E9
 show let Q':=_;let E':=_;Gf _ _ _ Q' E' _;intro Q' E'
 refine xA E9 λr1 r2=>?_;clear E9
 cases r2 using ft with
 | cons r2 r3 =>
 (have E0:=VRs.nl r3;clear r3;subst E0)
 refine fM r2 λZ E0=>?_;clear r2;subst E0
 cases r1 using VR.cl with
 | lst e r =>
  exact index_list_ints (zj _ (H.fz _ _ e) rfl _ rfl) (db r) (zaa hs hl) hc ⟨I,.refl I,H,.int _ _,⟨rfl,rfl⟩⟩
noncomputable def yK (b:Bool) (row:List Int) (ps so:List Nat) (nm:Int) (j:Nat):PV :=
 if nm∈row.drop j then .int ((ps.getD (j+1+(row.drop j).idxOf nm) 0:Nat):Int) else .str (zS (zY b so))
theorem zad (a b c:Str):a++b++c=a++(b++c):=by
 show NS (NS a b) c=NS a (NS b c)
 simp[NS]
theorem glue_due (r:Str):glue NC [oS "Expected ",r,oS " (at end of document)"]=zS (oS "Expected " ++ r):=by
 delta zS
 simp only[glue]
 rw[show NC++oS "Expected " = oS "Expected " from by decide]
 rw[show oS " (at end of document)" = oS " (at " ++ oS "end of document" ++ oS ")" from by decide]
 simp only[zad]
theorem Q9 {vs:List Gd} {row:List Int} {ps so:List Nat} {nm:Int} (hb:k.b=Gh) (hrow:∀ n∈row,n.natAbs<=3) (hlr:row.length<=100) (hpl:ps.length=row.length+1) (hsl:so.length<=1000) (hr:(rpOf b so).length<=900) :
  PR w k.up own (λI=>VRs I vs [.lst (intL row),.lst (natL ps),.int nm,tb b so]) (call (.ref 210) vs) (λI v=>VR I v (.lst ((GH ps.length).map (yK b row ps so nm)))):=by
 intro A l F I s hA H hP
 show let Q':=_;let E':=_;Gf _ _ _ Q' E' _;intro Q' E'
 refine VRs.k hP λv vs E0 r1 r2=>?_;clear hP;subst E0
 cases r2 using ft with
 | cons r2 r3 =>
 cases r3 using ft with
 | cons r3 r4 =>
 cases r4 using ft with
 | cons r4 r5 =>
 (have E0:=VRs.nl r5;clear r5;subst E0)
 refine mP (yo (w:=w) (i:=16) (own:=own) (P:=λI=>VRs I _ [.lst (intL row),.lst (natL ps),.int nm,tb b so]) (ds:=[(oS "row",.lst (intL row)),(oS "places",.lst (natL ps)),(oS "name",.int nm),(oS "sought",tb b so)]) (D:=λd'=>d'=.lst ((GH ps.length).map (yK b row ps so nm))) rfl fP ⟨rfl,rfl,rfl⟩
  (λfd h1 h2 h3=>?_) ?_ (λenv eok=>?_) A l F I s hA H (.cons r1 (.cons r2 (.cons r3 (.cons r4 .nil))))) (λv s' I' a H' E9 q=>xEA E9 λd' r e=>⟨I',a,H',e ▸ r,q⟩)
 .refine zO h1 h2 h3 (bs:=[(oS "row",_),(oS "places",_),(oS "name",_),(oS "sought",_)]) (λfd h1 h2 h3=>?_) λI h=>by
   cases h using ft with | cons a h=>cases h using ft with | cons b h=>cases h using ft with | cons c h=>cases h using ft with | cons d h=>exact .cons a (.cons b (.cons c (.cons d .nil)))
  obtain⟨⟩:=fd
  simp only at h1 h2 h3
  subst h1 h2 h3
  rfl
 .intro x hx
  simp only[Gi,Gl,or_false] at hx
  rcases hx with rfl | rfl | rfl | rfl<;>exact .inl rfl
 .show let Φ':=_;let Ψ':=_;EX _ _ _ _ _ Φ' Ψ';intro Φ' Ψ'
  have hrowK:=eok.kL "row"
  have hplaces:=eok.kL "places"
  have hname:=eok.kL "name"
  have hsought:=eok.kL "sought"
  have hdue:=eok.kL "due"
  have hk:=eok.kL "k"
  have hrange:=eok.kG "range"
  have hlen:=eok.kG "len"
  generalize hloc0:([(oS "row",.lst (intL row)),(oS "places",.lst (natL ps)),(oS "name",.int nm),(oS "sought",tb b so)].reverse:List (Str×PV))=loc0
  have m1:loc0.lookup (oS "row")=fm (.lst (intL row)):=by subst hloc0;rfl
  have m2:loc0.lookup (oS "places")=fm (.lst (natL ps)):=by subst hloc0;rfl
  have m3:loc0.lookup (oS "name")=fm (.int nm):=by subst hloc0;rfl
  have m4:loc0.lookup (oS "sought")=fm (tb b so):=by subst hloc0;rfl
  refine df (fD (EVO.list .nil (lb rfl)) hdue (λZ Z h=>h) rfl) λa ha=>?_
  have ha:own a=fp:=ha
  let f:=yK b row ps so nm
  let St:PSt->Nat->Prop:=λρ i=>ρ.own=upd own a (.lst ((GH i).map f))/\ρ.loc.lookup (oS "row")=fm (.lst (intL row))/\ρ.loc.lookup (oS "places")=fm (.lst (natL ps))/\ρ.loc.lookup (oS "name")=fm (.int nm)/\ρ.loc.lookup (oS "sought")=fm (tb b so)/\ρ.loc.lookup (oS "due")=fm (.ref a)
  have hnl:(natL ps).length=ps.length:=Ge ..
  refine fy (D:=λρ=>St ρ ps.length) (de (k:=k) (CO:=λZ=>True) (ds:=rngL ps.length) hb (fG hrange rfl (.cons (fB hlen rfl (.cons (fq hplaces ((zb (dc rfl)).trans m2)) (nst rfl) .nil) (λvs=>hnl ▸ yX (by lia))) (nst rfl) .nil) (λvs=>zK)) (Itb.rng hb (by lia)) hk (λi ρ=>St ρ i) ?_ (λZ Z Z=>trivial) ?_ ?_) ?_
  .exact⟨rfl,(zb (dc rfl)).trans m1,(zb (dc rfl)).trans m2,(zb (dc rfl)).trans m3,(zb (dc rfl)).trans m4,ze⟩
  .intro i d ρ2 hd E9;refine jT E9 λo2 l1 l2 l3 l4 l5=>?_;clear E9
   ac_rfl
   ((refine rPR (zL hd) λhi=>?_))
   have q1:(ρ2.set (oS "k") (.int i)).loc.lookup (oS "row")=fm (.lst (intL row)):=(zb (dc rfl)).trans l1
   have q2:(ρ2.set (oS "k") (.int i)).loc.lookup (oS "places")=fm (.lst (natL ps)):=(zb (dc rfl)).trans l2
   have q3:(ρ2.set (oS "k") (.int i)).loc.lookup (oS "name")=fm (.int nm):=(zb (dc rfl)).trans l3
   have q4:(ρ2.set (oS "k") (.int i)).loc.lookup (oS "sought")=fm (tb b so):=(zb (dc rfl)).trans l4
   have q5:(ρ2.set (oS "k") (.int i)).loc.lookup (oS "due")=fm (.ref a):=(zb (dc rfl)).trans l5
   have q6:(ρ2.set (oS "k") (.int i)).loc.lookup (oS "k")=fm (.int i):=ze
   have o3:(ρ2.set (oS "k") (.int i)).own=upd own a (.lst ((GH i).map f)):=o2
   generalize ρ2.set (oS "k") (.int i)=ρ3 at *
   have hoa:ρ3.own a=fm (.lst ((GH i).map f)):=by rw[o3];exact zd ..
   have hil:(intL row).length=row.length:=Ge ..
   have slc:∀ {p1 p2 p3 p4:Pos},EVd w k env ρ3 (.Subscript (.Name (oS "row") p1) (.Slice (fm (.Name (oS "k") p2)) fp fp p3) p4) (.lst (intL (row.drop i))):=λ{p1 p2 p3 p4}=>by
    have e:pick (intL row) (fm (i:Int)) fp fp=intL (row.drop i):=by rw[vy];delta intL;rw[LZ]
    rw[←e]
    exact fN (fq hrowK q1) (.some (fq hk q6)) .none .none zo zh (λv1 sl vl vu vs pl pu ps=>yr (by lia) pl pu ps (by intro h;injection h))
   have fin:∀ ρ',ρ'=⟨ρ3.loc,upd ρ3.own a (.lst ((GH i).map f++[f i]))⟩->St ρ' (i+1):=by
    rintro ρ' rfl
    refine⟨?_,q1,q2,q3,q4,q5⟩
    show upd ρ3.own a _=_
    rw[o3,yy,LW,GG];rfl
   refine fw (fI (b:=(row.drop i).contains nm) (fE (fq hname q3) slc (λv1 v2=>jO)) (λhin=>?_) (λhnin=>?_))
   .have hin':nm∈row.drop i:=by simpa using hin
    have hidx:(row.drop i).idxOf nm<(row.drop i).length:=List.idxOf_lt_length_iff.mpr hin'
    replace hidx:=Hc ▸ hidx
    have hlt:i+1+(row.drop i).idxOf nm<ps.length:=by exact Nz.sd ‹_› ‹_›
    have hf:f i=.int ((ps.getD (i+1+(row.drop i).idxOf nm) 0:Nat):Int):=by show yK .. = _;delta yK;rw[if_pos hin']
    have hg:(natL ps)[i+1+(row.drop i).idxOf nm]? = fm (f i):=by
     rw[hf];delta natL;rw[Gx,Gu hlt,Gt,Gu hlt];rfl
    refine fw (EX1.mono (EX1.app (d:=f i) (fq hdue q5) hoa (by simp;lia) (EVd.sub (d2:=.int ((i+1+(row.drop i).idxOf nm:Nat):Int)) (fq hplaces q2) ?_ zo zh (λv1 v2=>zn hg (by lia))) (nst rfl)) (λp ρ' h=>?_))
    .have e:(((i+1+(row.drop i).idxOf nm:Nat):Int))=(i:Int)+1+(((row.drop i).idxOf nm:Nat):Int):=by rfl
     rw[e]
     exact fC (fC (fq hk q6) EVd.int (λv1 v2=>ur)) (dz slc tyd_lst (.cons (fq hname q3) (nst rfl) .nil) NI PySem.F.slot_list_index PySem.F.type_list_index (λv vs=>JW hin' (λn hn=>hrow n (Nq hn)) (by rw[Hc];lia))) (λv1 v2=>ur)
    .refine xA h λE5 E6=>?_;try clear h;subst E5;subst E6
     exact fin _ rfl
   .have hnin':¬ nm∈row.drop i:=by simpa using hnin
    have hf:f i=.str (zS (zY b so)):=by show yK .. = _;delta yK;rw[if_neg hnin']
    refine fw (EX1.mono (EX1.app (d:=f i) (fq hdue q5) hoa (by simp;lia) ?_ (nst rfl)) (λp ρ' h=>?_))
    .rw[hf,show zS (zY b so)=glue NC [oS "Expected ",rpOf b so,oS " (at end of document)"] from (glue_due _).symm]
     refine dO (.cons EVd.str (.cons (pM (fq hsought q4) (by exact Gc ‹_› (lb rfl)) hsl) (.cons EVd.str .nil))) ?_
     have h1:(oS "Expected ").length=9:=by exact dc rfl
     have h2:(oS " (at end of document)").length=21:=by exact dc rfl
     have h0:Str.empty.length=0:=by exact dc rfl
     simp only[glue,Ll,h0,h1,h2];lia
    .refine xA h λE5 E6=>?_;try clear h;subst E5;subst E6
     exact fin _ rfl
  .rintro ρ2 h
   ac_rfl
   rewrite [zx] at h
   exact EX.nil ⟨rfl,h⟩
  .intro ρ2 E9;refine jT E9 λo2 l1 l2 l3 l4 l5=>?_;clear E9
   ac_rfl
   refine EX.freeze (a:=a) (ds:=(GH ps.length).map f) (loc':=(oS "due",.lst ((GH ps.length).map f))::ρ2.loc) (by rw[o2];exact zd ..) (λy d hy=>?_) ?_
   .by_cases q:y=oS "due"
    .subst q;replace hy:=ze ▸ hy;(injection hy with E1;subst E1);exact .inr ⟨l5,rfl⟩
    .replace hy:=zb q ▸ hy;exact .inl hy
   refine fw (fS (EX1.ret (fq hdue ze)) ?_)
   refine⟨rfl,?_⟩
   show OLe own (del ρ2.own a)
   rw[o2];exact OLe.del ha
end
section
variable {F G I:PH} {h:Kf} {it:Gn} {o:Obj}
theorem fx {x:Str} {pos:Pos} {d:PV} (hl:Nm env x) (hx:ρ.loc.lookup x=fm d) (hd:(x==("__debug__" : Str))=Gk:=by exact Hv Gk):EVd w k env ρ (.Name x pos) d:=by
 rcases hl with hl | hl
 .exact fq hl hx hd
 .exact Ai hl hx hd
theorem fT {x:Str} {p1 pos:Pos} {e:Expr} {d:PV} (he:EVd w k env ρ e d) (hl:Nm env x) (hs:Lq e (fm (.Name x p1)) pos.line env=pure Gk) :
  EX1 w k env ρ (.Assign [.Name x p1] e pos) (λp ρ'=>p=.next/\ρ'=ρ.set x d) Ψ:=λA l F I s hA R =>
 Tg (mA (he.at hA R trivial) (λv s1 I1 a1 R1 r1 q1=>R1.store hl r1 λs2 R2 q2=>⟨I1,_,.next,a1,R2,trivial,q1.trans q2,rfl,rfl⟩)) hs
theorem fO {x:Str} {p1 pos:Pos} {e:Expr} (he:EVO w k env ρ e Θ Ψo) (hl:Nm env x) (hx:∀ xd o,Ψo xd o->Ψ xd ⟨ρ.loc,o⟩) (hs:Lq e (fm (.Name x p1)) pos.line env=pure Gk) :
  EX1 w k env ρ (.Assign [.Name x p1] e pos) (λp ρ'=>p=.next/\∃ d own',Θ d own'/\ρ'=⟨(x,d)::ρ.loc,own'⟩) Ψ:=λA l F I s hA R =>
 Tg (Gm (he.at hA R) (λv s1 E9=>E9.casesOn λI1 o1 d a1 R1 r1 q1 c1=>R1.store hl r1 λs2 R2 q2=>⟨I1,_,.next,a1,R2,trivial,q1.trans q2,rfl,d,o1,c1,rfl⟩)
  λev s1 E9=>E9.casesOn λI1 o1 x a1 R1 q1 c1=>⟨I1,_,x,a1,R1,q1,hx _ _ c1⟩) hs
set_option tactic.hygienic true in
theorem xD {xs ys:List PV} {v1 v2:Gd} (h:xs.length+ys.length<=100000):PR w k own (λI=>VR I v1 (.lst xs)/\VR I v2 (.lst ys)) (N9 .Add v1 v2) (λI v=>VR I v (.lst (xs++ys))):=by
 intro A l F I s hA H E9
 show let Q':=_;let E':=_;Gf _ _ _ Q' E' _;intro Q' E'
 refine xA E9 λr1 r2=>?_;clear E9
 cases r1 using VR.cl with
 | lst e1 r1 =>
 cases r2 using VR.cl with
 | lst e2 r2 =>
  rename_i us1 n1 a2 us2 n2
  refine P.add_list (H.fz _ _ e1) (H.fz _ _ e2) ?_ (by rw[Gw,Gw,r1.length,r2.length];exact Gc h (lb rfl))
  have e:us1.toArray++us2.toArray=(us1++us2).toArray:=by exact List.append_toArray us1 us2
  rw[e]
  exact⟨_,fA H.new.2.1,H.push_frozen (lstO (us1++us2) 0),.lst (zd ..) ((r1.append r2).mono (fA H.new.2.1)),⟨rfl,rfl⟩⟩
noncomputable def llD (cs:List (List Int)):List PV:=cs.map λc=>.lst (intL c)
noncomputable def pyI (c:List Int):PyData:=.list (c.map .int)
theorem IntsAre.rd {h:Kf} {vs:List Gd} {ns:List Int} (q:Ni vs ns):gp h vs (ns.map .int) [] :=
 IntsAre.rec (motive:=λvs ns _=>gp h vs (ns.map .int) []) .nil (λn t _ _ _ ih=>ReadsAll.cons (as:=[]) (Reads.int (h:=h) n t) ih) q
theorem HP.rdI {v:Gd} {c:List Int} (H:HP w l F I own h) (r:VR I v (.lst (intL c))):∃ as,Reads h v (pyI c) as:=by
 cases r using VR.cl with
 | lst e r=>exact⟨_,VM (H.fz _ _ e) rfl rfl (IntsAre.rd (db r))⟩
theorem HP.rdLs (H:HP w l F I own h) {cs:List (List Int)} {vs:List Gd} (q:VRs I vs (llD cs)):∃ as,gp h vs (cs.map pyI) as :=
 pc (P:=λvs (cs:List (List Int))=>∃ as,gp h vs (cs.map pyI) as) ⟨_,.nil⟩ (λZ Z Z Z r Z i=>(H.rdI r).elim λas h1=>i.elim λbs h2=>⟨_,.cons h1 h2⟩) q
theorem uS (c:List Int):(pyI c).canLay0=Gh/\(pyI c).depth<=2:=by
 have h1:KN (c.map .int)=Gh:=by
  induction c with
  | nil=>rfl
  | cons n r ih=>simp[KN,Ot];exact ih
 have h2:Lb (c.map .int)<=1:=by
  clear h1
  induction c with
  | nil=>decide
  | cons n r ih=>simp only[GF,Lb,Oo];exact Om.mp ih
 delta pyI
 simp only[Ot,Oo,h1,true_and];exact HY ‹_›
theorem qn (cs:List (List Int)):KN (cs.map pyI)=Gh:=by
 induction cs with
 | nil=>rfl
 | cons c r ih=>simp only[GF,KN,(uS c).1,ih,Vg]
theorem QI (cs:List (List Int)) (c:List Int):((cs.map pyI).any λy=>XS y (pyI c))=cs.contains c:=by
 induction cs with
 | nil=>rfl
 | cons d r ih =>
  rw[GF,List.any_cons,ih,OA]
  congr 1
  delta pyI
  rw[XS,W.ked_eqvAll]
  by_cases q:d=c
  .subst q;exact Gq (Bool.beq_eq_decide_eq d d)
  .have:¬ c=d:=λe=>q e.symm
   simp[q,this]
theorem QP {A:GZ} (hA:OkA k A l) (cs:List (List Int)) (c:List Int):A.units+1+min (Lb (cs.map pyI)) (pyI c).depth<NM:=by
 have h1:=hA.un
 have h2:=(uS c).2
 have h3:min (Lb (cs.map pyI)) (pyI c).depth<=(pyI c).depth:=V2 _ _
 lia
theorem pr_in_ll {c:List Int} {cs:List (List Int)} {v1 v2:Gd}:PR w k own (λI=>VR I v1 (.lst (intL c))/\VR I v2 (.lst (llD cs))) (Ke .In v1 v2) (λI v=>VR I v (.bool (cs.contains c))):=by
 intro A l F I s hA H ⟨r1,r2⟩
 obtain⟨as,h1⟩:=H.rdI r1
 cases r2 using VR.cl with
 | lst e r =>
  obtain⟨bs,h2⟩:=H.rdLs r
  refine XO (VM (H.fz _ _ e) rfl rfl h2) h1 (qn cs) (uS c).1 (QP hA cs c) ?_
  rw[QI]
  exact⟨I,.refl I,H,.bool _,.refl s⟩
theorem Qz {c:List Int} {cs:List (List Int)} {v1 v2:Gd}:PR w k own (λI=>VR I v1 (.lst (intL c))/\VR I v2 (.lst (llD cs))) (Ke .NotIn v1 v2) (λI v=>VR I v (.bool (!cs.contains c))):=by
 intro A l F I s hA H ⟨r1,r2⟩
 obtain⟨as,h1⟩:=H.rdI r1
 cases r2 using VR.cl with
 | lst e r =>
  obtain⟨bs,h2⟩:=H.rdLs r
  refine SeqAt.notIn_list_reads (VM (H.fz _ _ e) rfl rfl h2) h1 (qn cs) (uS c).1 (QP hA cs c) ?_
  rw[QI]
  exact⟨I,.refl I,H,.bool _,.refl s⟩
end
section
variable {env cenv:Env} {F G I:PH} {h:Kf} {it:Gn} {o:Obj}
theorem z6:TD w k cenv ρ (λZ=>True) (Xw ([]:List Expr) Gh λc r=>if r=Gh then do let ok ← isTrue c cenv (eval c cenv);pure (Kg ok) else pure (Kg r)) (λZ ok=>ok=Gh):=TD.pure λZ Z=>rfl
theorem xI {c:Expr} {b:Bool} (h:TDb w k cenv ρ c b):TD w k cenv ρ (λZ=>True) (Xw [c] Gh λc r=>if r=Gh then do let ok ← isTrue c cenv (eval c cenv);pure (Kg ok) else pure (Kg r)) (λZ ok=>ok=b):=by
 intro A l F I s hA H L hp
 show let Q':=_;let E':=_;Gf _ _ _ Q' E' _;intro Q' E'
 rw[To]
 show Gf _ _ ((isTrue c cenv (eval c cenv)>>=λok=>pure (Kg ok))>>=_) _ _ _
 refine Ga (Ga (mP (h A l F I s hA H L hp) (λv s1 I1 a1 H1 r1 q1=>Gb ?_)))
 show Gf _ _ (Xw [] v _) _ _ _
 rw[List.forIn_nil]
 exact Gb ⟨I1,a1,H1,r1,q1⟩
theorem CompEnv.kindIs {names:List (Str×O0)} (h:CompEnv cenv names) {y:Str} {kd:O0} (e:names.lookup y=fm kd):cenv.kindOf y=fm (if kd=.free then .cell else kd):=by rw[h.kind,e];rfl
noncomputable def yG (cs:List (List Int)) (n:Int):List (List Int):=cs++cs.map λc=>c++[n]
noncomputable def zM (row:List Int):List (List Int):=row.foldl yG [[]]
noncomputable def zZ (row:List Int):List (List Int):=((GH (zM row).length).filter λj=>!((zM row).take j).contains ((zM row).getD j [])).map λj=>(zM row).getD j []
theorem v8 (row:List Int):(zM row).length=2 ^ row.length:=by
 delta zM
 have aux:∀ (row:List Int) (cs:List (List Int)),(row.foldl yG cs).length=cs.length*2 ^ row.length:=by
  intro row
  induction row with
  | nil=>intro cs;simp
  | cons n r ih=>intro cs;rw[Km,ih];delta yG;rw[Gs,Ge,GC,XE,←Nat.mul_two,Nat.mul_assoc,Nat.mul_comm 2]
 rw[aux];simp
theorem Zi (row:List Int):∀ x∈zM row,x.length<=row.length:=by
 delta zM
 have aux:∀ (row:List Int) (cs:List (List Int)) (n:Nat),(∀ x∈cs,x.length<=n)->∀ x∈row.foldl yG cs,x.length<=n+row.length:=by
  intro row
  induction row with
  | nil=>intro cs n h x hx;exact Gc (h x hx) (HK _ _)
  | cons c r ih =>
   intro cs n h x hx
   replace hx:=Km ▸ hx
   have:=ih (yG cs c) (n+1) (λy hy=>by
    delta yG at hy
    rcases KR.mp hy with hy | hy
    .exact N2 (h y hy)
    .refine xEA (Gr.mp hy) λz hz E5=>?_;subst E5
     have:=h z hz
     simp;exact this) x hx
   rw[GC];lia
 intro x hx
 have:=aux row [[]] 0 (by intro x hx;simp at hx;subst hx;exact GI _) x hx
 lia
theorem zA (cs:List (List Int)):(llD cs).length=cs.length:=Ge ..
theorem j7 {vs:List Gd} {row:List Int} (hb:k.b=Gh) (hlr:row.length<=8) :
  PR w k.up own (λI=>VRs I vs [.lst (intL row)]) (call (.ref 215) vs) (λI v=>VR I v (.lst (llD (zZ row)))):=by
 intro A l F I s hA H hP
 refine VRs.k hP λv vs E0 r1 r2=>?_;clear hP;subst E0
 have E0:=VRs.nl r2;clear r2;subst E0
 refine mP (yo (w:=w) (i:=17) (own:=own) (P:=λI=>VRs I _ [.lst (intL row)]) (ds:=[(oS "row",.lst (intL row))]) (D:=λd'=>d'=.lst (llD (zZ row))) rfl fP ⟨rfl,rfl,rfl⟩
  (λfd h1 h2 h3=>?_) ?_ (λenv eok=>?_) A l F I s hA H (.cons r1 .nil)) (λv s' I' a H' E9 q=>xEA E9 λd' r e=>⟨I',a,H',e ▸ r,q⟩)
 .refine zO h1 h2 h3 (bs:=[(oS "row",_)]) (λfd h1 h2 h3=>?_) λI h=>by
   cases h using ft with | cons a h=>exact .cons a .nil
  obtain⟨⟩:=fd
  simp only at h1 h2 h3
  subst h1 h2 h3
  rfl
 .intro x hx
  simp only[Gi,Gl,or_false] at hx
  subst hx;exact .inl rfl
 .show let Φ':=_;let Ψ':=_;EX _ _ _ _ _ Φ' Ψ';intro Φ' Ψ'
  have hrow:=eok.kL "row"
  have hch:=eok.kC "choices"
  have hname:=eok.kC "name"
  have hrange:=eok.kG "range"
  have hlen:=eok.kG "len"
  refine EX.step (fT (d:=.lst (llD [[]])) (EVd.list (ds:=[.lst []]) (.cons (EVd.list (ds:=[]) .nil (lb rfl)) (nst rfl) .nil) (lb rfl)) (.inr hch) rfl) ?_
  let St:PSt->List (List Int)->Prop:=λρ cs=>ρ.own=own/\ρ.loc.lookup (oS "choices")=fm (.lst (llD cs))
  refine fy (D:=λρ=>St ρ (zM row)) (f8 (k:=k) (CO:=λZ=>True) (ds:=intL row) hb (fq hrow rfl) (Itb.lst hb) (.inr hname) (λi ρ=>St ρ (zM (row.take i))) ⟨rfl,rfl⟩ (λZ Z Z=>trivial) ?_ ?_) ?_
  .intro i d ρ2 hd E9;refine xA E9 λo2 l1=>?_;clear E9
   obtain⟨c,hc,rfl⟩:∃ c,row[i]? = fm c/\d=.int c:=by
    delta intL at hd
    replace hd:=(Gx) ▸ hd
    cases q:row[i]? with
    | none=>replace hd:=q ▸ hd;injection hd
    | some c=>replace hd:=q ▸ hd;(injection hd with E1;subst E1);exact iEA c rfl rfl
   have hi:i<row.length:=(GK.mp hc).1
   have htake:row.take (i+1)=row.take i++[c]:=by rw[Hx,hc];rfl
   have hrun:zM (row.take (i+1))=yG (zM (row.take i)) c:=by rw[htake];delta zM;rw[Lk];rfl
   have hrl:(zM (row.take i)).length<=128:=by
    rw[v8,O7]
    exact Gc (Oh (lb rfl) (show min i row.length<=7 by lia)) (lb rfl)
   have hre:=Zi (row.take i)
   replace hre:=O7 ▸ hre
   generalize zM (row.take i)=cs at l1 hrun hrl hre
   have q1:(ρ2.set (oS "name") (.int c)).loc.lookup (oS "choices")=fm (.lst (llD cs)):=l1
   have q2:(ρ2.set (oS "name") (.int c)).loc.lookup (oS "name")=fm (.int c):=rfl
   have o3:(ρ2.set (oS "name") (.int c)).own=own:=o2
   generalize ρ2.set (oS "name") (.int c)=ρ3 at *
   let f:PV->PV:=λd=>d.onL d λxs=>.lst (xs++[.int c])
   have hf:((llD cs).filter (λZ=>Gh)).map f=llD (cs.map λc'=>c'++[c]):=by
    rw[zT]
    delta llD
    rw[GL,GL]
    refine GT λx Z=>?_
    show PV.lst (intL x++[.int c])=.lst (intL (x++[c]))
    delta intL;rw[GG];rfl
   refine fw (EX1.mono (fT (d:=.lst (llD (yG cs c))) (fC (fx (.inr hch) q1) (d2:=.lst (llD (cs.map λc'=>c'++[c]))) ?_ (λv1 v2=>?_)) (.inr hch) rfl) ?_)
   .rw[←hf]
    refine fK (CO:=λZ=>True) [(oS "name",.int c)] (fx (.inr hch) q1) (Itb.lst hb) trivial rfl (dc rfl) (λy hy hfr=>?_) (λy d hy=>?_) (fF (λZ=>Gh) f (.inl rfl) trivial rfl (by rw[zA];exact Gc ‹_› (lb rfl)) (λcenv hce d hd=>z6) (λcenv hce d hd Z=>?_))
    .simp only[Gi,Gl,or_false] at hy
     rcases hy with rfl | rfl | rfl
     .injection hfr
     .injection hfr
     .exact hname
    .by_cases q:y=oS "name"
     .subst q;replace hy:=ze ▸ hy;(injection hy with E1;subst E1);exact⟨q2,rfl⟩
     .replace hy:=zb q ▸ hy;injection hy
    .refine xEA (Gr.mp hd) λx hx E5=>?_;subst E5
     exact fC (fx (.inl (hce.kindIs (kd:=.local) rfl)) rfl) (EVd.list (ds:=[.int c]) (.cons (fx (.inr (hce.kindIs (kd:=.free) rfl)) rfl) (nst rfl) .nil) (by exact G0.mp rfl)) (λv1 v2=>xD (by
      have:=hre x hx
      have e1:(intL x).length=x.length:=Ge ..
      rw[e1,HL];lia))
   .have e:llD (yG cs c)=llD cs++llD (cs.map λc'=>c'++[c]):=by unfold yG llD;rw[GG]
    rw[e]
    exact xD (by rw[zA,zA,Ge];lia)
   .intro p ρ4 E9;refine xA E9 λE5 E6=>?_;clear E9;subst E5;subst E6
    rw[hrun]
    exact⟨o3,rfl⟩
  .rintro ρ2 h
   refine EX.nil ⟨rfl,?_⟩
   replace h:=(show (intL row).length=row.length from Ge ..) ▸ h;replace h:=Kq ▸ h
   exact h
  .intro ρ2 E9;refine xA E9 λo2 l1=>?_;clear E9
   have hcl:(zM row).length<=256:=by
    rw[v8]
    exact Gc (Oh (lb rfl) hlr) (lb rfl)
   have e:zZ row=((GH (zM row).length).filter λj=>!((zM row).take j).contains ((zM row).getD j [])).map λj=>(zM row).getD j []:=rfl
   generalize zM row=cs at *
   let p:PV->Bool:=λd=>d.onI Gk λi=>!(cs.take i.toNat).contains (cs.getD i.toNat [])
   let f:PV->PV:=λd=>d.onI d λi=>.lst (intL (cs.getD i.toNat []))
   have hres:((rngL cs.length).filter p).map f=llD (zZ row):=by
    rw[e]
    unfold rngL llD
    rw[Wc,GL,GL]
    rfl
   have hget:∀ j,j<cs.length->(llD cs)[j]? = fm (.lst (intL (cs.getD j []))):=λj hj=>by
    delta llD
    rw[Gx,Gt,Gu hj];rfl
   have hgetE:∀ {cenv:Env} {caps:List (Str×PV)} {j:Nat} {p1 p2 p3:Pos},j<cs.length->Nm cenv (oS "choices")->cenv.kindOf (oS "k")=fm .local->caps.lookup (oS "choices")=fm (.lst (llD cs))->caps.lookup (oS "k")=fm (.int j) ->
     EVd w k cenv ⟨caps,own⟩ (.Subscript (.Name (oS "choices") p1) (.Name (oS "k") p2) p3) (.lst (intL (cs.getD j []))):=λhj h1 h2 h3 h4 =>
    EVd.sub (fx h1 h3) (fq h2 h4) zo zh (λv1 v2=>zn (hget _ hj) (by rw[zA];exact Gc ‹_› (lb rfl)))
   obtain⟨loc2,own2⟩:=ρ2
   obtain rfl:own2=own:=o2
   refine fw (EX1.mono (EX1.ret (d:=.lst (llD (zZ row))) ?_) ?_)
   .rw[←hres]
    refine fK (CO:=λZ=>True) [(oS "choices",.lst (llD cs))] (fG hrange rfl (.cons (fB hlen rfl (.cons (fx (.inr hch) l1) (nst rfl) .nil) (λvs=>(zA cs) ▸ yX (by rw[zA];exact Gc ‹_› (lb rfl)))) (nst rfl) .nil) (λvs=>zK)) (Itb.rng hb (by exact Gc ‹_› (lb rfl))) trivial rfl (dc rfl) (λy hy hfr=>?_) (λy d hy=>?_)
     (fF p f (.inl rfl) trivial rfl (by rw[zx];exact Gc ‹_› (lb rfl)) (λcenv hce d hd=>?_) (λcenv hce d hd Z=>?_))
    .simp only[Gi,Gl,or_false] at hy
     rcases hy with rfl | rfl | rfl
     .injection hfr
     .injection hfr
     .exact hch
    .by_cases q:y=oS "choices"
     .subst q;replace hy:=ze ▸ hy;(injection hy with E1;subst E1);exact⟨l1,rfl⟩
     .replace hy:=zb q ▸ hy;injection hy
    .obtain⟨j,hj⟩:=GV.mp hd
     ((refine rPR (zL hj) λhjl=>?_))
     have hck:Nm cenv (oS "choices"):=.inr (hce.kindIs (kd:=.free) rfl)
     have hkk:cenv.kindOf (oS "k")=fm .local:=hce.kindIs (kd:=.local) rfl
     refine xI (fE (d2:=.lst (llD (cs.take j))) (hgetE hjl hck hkk rfl rfl) ?_ (λv1 v2=>Qz))
     have e:pick (llD cs) fp (fm (j:Int)) fp=llD (cs.take j):=by rw[JK];delta llD;rw[NK]
     rw[←e]
     exact fN (fx hck rfl) .none (.some (fq hkk rfl)) .none zo zh (λv1 sl vl vu vs pl pu ps=>yr (by rw[zA];exact Gc ‹_› (lb rfl)) pl pu ps (by intro h;injection h))
    .obtain⟨j,hj⟩:=GV.mp hd
     ((refine rPR (zL hj) λhjl=>?_))
     exact hgetE hjl (.inr (hce.kindIs (kd:=.free) rfl)) (hce.kindIs (kd:=.local) rfl) rfl rfl
   .intro p ρ3 E9;refine xA E9 λE5 E6=>?_;clear E9;subst E5;subst E6
    exact⟨rfl,OLe.refl _⟩
end
noncomputable abbrev DE:=List (List Int×PV)
noncomputable def putT (es:DE) (ks:List Int) (d:PV):DE:=if (es.lookup ks).isSome then es.map λp=>if p.1=ks then (p.1,d) else p else es++[(ks,d)]
section
variable {h:Kf}
theorem z4 {k:List Int} {d:PV} {es:DE}:Hd k ((k,d)::es)=fm d:=by rw[Lz];simp
theorem yl {k k':List Int} {d:PV} {es:DE} (h:k≠k'):Hd k ((k',d)::es)=es.lookup k:=by
 rw[Lz]
 have:(k==k')=Gk:=by simpa using h
 rw[this]
theorem Ents.at {xs:List (List Int×Gn×Gd)} {es:DE} (E:Ents I xs es) (ks:List Int):match es.lookup ks with
  | some d=>∃ p,Yw xs ks=fm p/\VR I p.2 d
  | none=>Yw xs ks=fp:=by
 induction E with
 | nil=>rfl
 | @cons k a v d xs es h1 h3 _ ih =>
  by_cases q:ks=k
  .subst q
   rw[z4]
   exact iEA (a,v) (by simp[Yw]) h3
  .rw[yl q]
   have e:Yw ((k,a,v)::xs) ks=Yw xs ks:=by
    have:¬ k=ks:=λe=>q e.symm
    simp[Yw,this]
   rw[e];exact ih
theorem Ents.keys {xs:List (List Int×Gn×Gd)} {es:DE} (E:Ents I xs es):xs.map (·.1)=es.map (·.1):=by
 induction E with
 | nil=>rfl
 | cons _ _ _ ih=>rw[GF,GF,ih]
theorem Ents.length {xs:List (List Int×Gn×Gd)} {es:DE} (E:Ents I xs es):xs.length=es.length:=by
 have:=congrArg List.length E.keys
 simpa using this
theorem dS {ks:List Int} {vs:List Gd} (q:VRs I vs (intL ks)):ItemsAre (OO prg w) ks vs :=
 pc (P:=λvs (ks:List Int)=>ItemsAre (OO prg w) ks vs) .nil (λZ Z Z Z r Z i=>fM r λZ E0=>E0 ▸ .cons (decide_eq_true rfl) i) q
theorem VR.key {v:Gd} {ks:List Int} (r:VR I v (.tup (intL ks))):∃ a ok,v=.ref a/\I a=fm ok/\TupKeyObj (OO prg w) ks ok:=by
 cases r using dv with
 | tup e rr=>exact⟨_,_,rfl,e,rfl,_,_,rfl,by simpa using dS rr⟩
theorem Ents.isKey {xs:List (List Int×Gn×Gd)} {es:DE} (E:Ents I xs es) (hs:Sub I h.get?):∀ x∈xs,(tk w).is h x.1 x.2.1:=by
 induction E with
 | nil=>intro x hx;cases hx
 | cons h1 h3 _ ih =>
  intro x hx
  rcases Gi.mp hx with rfl | hx
  .refine zy (VR.key (w:=w) h1) λa ok e g1 g2=>?_
   (injection e with E1;subst E1)
   exact Kb g2 (hs _ _ g1)
  .exact ih x hx
theorem Ents.get {xs:List (List Int×Gn×Gd)} {es:DE} (E:Ents I xs es):∀ {i:Nat} {ks:List Int} {d:PV},es[i]? = fm (ks,d)->∃ a v,xs[i]? = fm (ks,a,v)/\VR I (.ref a) (.tup (intL ks))/\VR I v d:=by
 induction E with
 | nil=>intro i ks d h;simp at h
 | @cons k a v d' xs es h1 h3 _ ih =>
  intro i ks d h
  cases i with
  | zero=>simp at h;(refine xA h λE30 E31=>?_;try clear h;subst E30;subst E31);exact xk a v rfl h1 h3
  | succ i=>simp at h;(refine xEEA (ih h) λa' v' e r=>?_);exact iEEA a' v' (by simpa using e) r
theorem xy {es:DE} {ks:List Int}:(es.lookup ks).isSome=Gh↔ks∈es.map (·.1):=by
 induction es with
 | nil=>simp
 | cons p r ih =>
  obtain⟨k',d⟩:=p
  by_cases q:ks=k'
  .subst q;rw[z4];simp
  .rw[yl q,ih];simp[q]
theorem Ents.put {xs:List (List Int×Gn×Gd)} {es:DE} (E:Ents I xs es) {ks:List Int} {a:Gn} {v:Gd} {d:PV} (h1:VR I (.ref a) (.tup (intL ks))) (h3:VR I v d):Ents I (storedH xs ks a v) (putT es ks d):=by
 have hat:=E.at ks
 delta putT
 cases q:es.lookup ks with
 | none =>
  replace hat:=q ▸ hat
  rw[storedH_new hat,if_neg (by simp)]
  clear hat q
  induction E with
  | nil=>exact .cons h1 h3 .nil
  | cons g1 g3 _ ih=>exact .cons g1 g3 ih
 | some d0 =>
  replace hat:=q ▸ hat
  refine xEA hat λp hp Z=>?_;try clear hat
  rw[storedH_old hp,if_pos (show (fm d0).isSome=Gh from rfl)]
  clear hp q
  induction E with
  | nil=>exact .nil
  | @cons k a v d' xs es g1 g3 _ ih =>
   rw[GF,GF]
   by_cases z:k=ks
   .subst z
    delta putAt
    rw[if_pos rfl,if_pos rfl]
    exact .cons g1 h3 ih
   .delta putAt
    rw[if_neg z,if_neg z]
    exact .cons g1 g3 ih
theorem HP.notMods {D:Gn} {mo:MO} (H:HP w l F I own h) (e:own D=fm mo):(D==VX)=Gk:=by
 refine xE (H.base.sysm) λo ho=>?_
 have:D≠VX:=by
  rintro rfl
  have:=(H.oa _ _ e).2.1
  replace this:=ho ▸ this;injection this
 simpa using this
noncomputable def Dct (own:Own) (D:Gn) (es:DE):Prop:=own D=fm (.dct es)\/∃ ep,own D=fm (.dcx es ep)
theorem Dct.mo {D:Gn} {es:DE} (h:Dct own D es):∃ mo,own D=fm mo:=by
 rcases h with h | ⟨ep,h⟩<;>exact⟨_,h⟩
theorem HP.dct {D:Gn} {es:DE} (H:HP w l F I own h) (e:Dct own D es):∃ o el ep xs,h.get? D=fm o/\o.ExactDict/\o.data=.dict el ep/\el.toList=xs.map (N0 (tk w))/\(xs.map (·.1)).Nodup/\Ents I xs es/\h.DictOfH (tk w) D xs:=by
 rcases e with e | ⟨ep,e⟩
 .refine vF (H.ow D _ e) λo ho hx el ep xs h1 h2 h3 h4=>?_
  exact⟨o,el,ep,xs,ho,hx,h1,h2,h3,h4,o,el,ep,ho,hx,h1,h2,h4.isKey H.fz,h3⟩
 .refine uB (H.ow D _ e) λo ho hx el xs h1 h2 h3 h4=>?_
  exact⟨o,el,ep,xs,ho,hx,h1,h2,h3,h4,o,el,ep,ho,hx,h1,h2,h4.isKey H.fz,h3⟩
theorem yQ {A:GZ} (hA:OkA k A l):(tk w).room A.in1:=by
 show A.units+1<NM
 have:=hA.un;lia
theorem zab {D:Gn} {es:DE} {ks:List Int} {v1 v2:Gd} (ho:Dct own D es):PR w k own (λI=>VR I v1 (.tup (intL ks))/\VR I v2 (.ref D)) (Ke .In v1 v2) (λI v=>VR I v (.bool (es.lookup ks).isSome)):=by
 intro A l F I s hA H E9
 refine xA E9 λr1 r2=>?_;clear E9
 refine zy (VR.key (w:=w) r1) λa ok E5 hok htk=>?_;subst E5
 have E0:=fJ r2;clear r2;subst E0
 refine yk (H.dct ho) λo el ep xs Z Z Z Z Z E hd=>?_
 refine wpAny_in_heap (yQ hA) (Kb htk (H.fz _ _ hok)) (H.notMods ho.mo.choose_spec) hd ?_
 have e:(Yw xs ks).isSome=(es.lookup ks).isSome:=by
  have:=E.at ks
  cases q:es.lookup ks with
  | none=>replace this:=q ▸ this;rw[this];rfl
  | some d=>replace this:=q ▸ this;(refine xEA this λp hp Z=>?_;try clear this);rw[hp];rfl
 rw[e]
 exact⟨I,.refl I,H,.bool _,⟨rfl,rfl⟩⟩
theorem qv {D:Gn} {es:DE} {ks:List Int} {v1 v2:Gd} (ho:Dct own D es):PR w k own (λI=>VR I v1 (.tup (intL ks))/\VR I v2 (.ref D)) (Ke .NotIn v1 v2) (λI v=>VR I v (.bool (!(es.lookup ks).isSome))):=by
 intro A l F I s hA H E9
 refine xA E9 λr1 r2=>?_;clear E9
 refine zy (VR.key (w:=w) r1) λa ok E5 hok htk=>?_;subst E5
 have E0:=fJ r2;clear r2;subst E0
 refine yk (H.dct ho) λo el ep xs Z Z Z Z Z E hd=>?_
 refine wpAny_notIn_heap (yQ hA) (Kb htk (H.fz _ _ hok)) (H.notMods ho.mo.choose_spec) hd ?_
 have e:(Yw xs ks).isSome=(es.lookup ks).isSome:=by
  have:=E.at ks
  cases q:es.lookup ks with
  | none=>replace this:=q ▸ this;rw[this];rfl
  | some d=>replace this:=q ▸ this;(refine xEA this λp hp Z=>?_;try clear this);rw[hp];rfl
 rw[e]
 exact⟨I,.refl I,H,.bool _,⟨rfl,rfl⟩⟩
theorem Ql {D:Gn} {es:DE} {ks:List Int} {d:PV} {v1 v2:Gd} (ho:Dct own D es) (hd:es.lookup ks=fm d):PR w k own (λI=>VR I v1 (.ref D)/\VR I v2 (.tup (intL ks))) (K7 v1 v2) (λI v=>VR I v d):=by
 intro A l F I s hA H E9
 show let Q':=_;let E':=_;Gf _ _ _ Q' E' _;intro Q' E'
 refine xA E9 λr1 r2=>?_;clear E9
 refine zy (VR.key (w:=w) r2) λa ok E5 hok htk=>?_;subst E5
 have E0:=fJ r1;clear r1;subst E0
 refine yk (H.dct ho) λo el ep xs Z Z Z Z Z E hdd=>?_
 have:=E.at ks
 replace this:=hd ▸ this
 refine xEA this λp hp hv=>?_;try clear this
 exact wpAny_getItem_heap (yQ hA) (Kb htk (H.fz _ _ hok)) hdd hp ⟨I,.refl I,H,hv,⟨rfl,rfl⟩⟩
theorem ZE:K0 (.type "dict") "__getitem__" = pure (fm (.builtin "dict.__getitem__")):=slot_dict_getitem.lookup
theorem tyD_dct {a:Gn} {es:DE} (h:Dct own a es):xl w own (.ref a) "dict" := λl F I s v H r=>by
 cases r using dG with
 | ref=>(refine yR (H.dct h) λo el ep xs e hx Z=>?_);exact iEA _ e hx.1
theorem uK {a:Gn} {es:DE} (h:Dct own a es):yY w own (.ref a) "dict" := λl F I s v H r=>by
 cases r using dG with
 | ref=>(refine yR (H.dct h) λo el ep xs e hx Z=>?_);exact⟨(iEA _ e hx.1),λb q=>by (injection q with E1;subst E1);exact(iEA _ e hx.2.1)⟩
theorem Qp {D:Gn} {es:DE} {ks:List Int} {v:Gd} {vs:List Gd} (ho:Dct own D es):PR w k own (λI=>VR I v (.ref D)/\VRs I vs [.tup (intL ks)]) (call (.builtin "dict.get") (v::vs)) (λI v=>VR I v ((es.lookup ks).getD .none)):=by
 intro A l F I s hA H E9
 refine xA E9 λr1 rs=>?_;clear E9
 cases rs using ft with
 | cons r2 rs =>
 (have E0:=VRs.nl rs;clear rs;subst E0)
 refine zy (VR.key (w:=w) r2) λa ok E5 hok htk=>?_;subst E5
 have E0:=fJ r1;clear r1;subst E0
 refine yk (H.dct ho) λo el ep xs Z Z Z Z Z E hdd=>?_
 refine call_meetsIn NV hdd.typeIs WQ (PySem.F.args_dict_get_2 _ _) (meetsH_dict_get (tk w) D a (H.notMods ho.mo.choose_spec)) ⟨yQ hA,ks,xs,Kb htk (H.fz _ _ hok),hdd,?_⟩
 have:=E.at ks
 cases q:es.lookup ks with
 | none=>replace this:=q ▸ this;rw[this];exact⟨I,.refl I,H,.none,⟨rfl,rfl⟩⟩
 | some d=>replace this:=q ▸ this;(refine xEA this λp hp hv=>?_;try clear this);rw[hp];exact⟨I,.refl I,H,hv,⟨rfl,rfl⟩⟩
theorem Qq {D:Gn} {es:DE} {ks:List Int} {d0:PV} {v:Gd} {vs:List Gd} (ho:Dct own D es):PR w k own (λI=>VR I v (.ref D)/\VRs I vs [.tup (intL ks),d0]) (call (.builtin "dict.get") (v::vs)) (λI v=>VR I v ((es.lookup ks).getD d0)):=by
 intro A l F I s hA H E9
 refine xA E9 λr1 rs=>?_;clear E9
 cases rs using ft with
 | cons r2 rs =>
 cases rs using ft with
 | cons r3 rs =>
 (have E0:=VRs.nl rs;clear rs;subst E0)
 refine zy (VR.key (w:=w) r2) λa ok E5 hok htk=>?_;subst E5
 have E0:=fJ r1;clear r1;subst E0
 refine yk (H.dct ho) λo el ep xs Z Z Z Z Z E hdd=>?_
 refine call_meetsIn NV hdd.typeIs WQ (PySem.F.args_dict_get_3 _ _ _) (meetsH_dict_get_default (tk w) D a (H.notMods ho.mo.choose_spec) _) ⟨yQ hA,ks,xs,Kb htk (H.fz _ _ hok),hdd,?_⟩
 have:=E.at ks
 cases q:es.lookup ks with
 | none=>replace this:=q ▸ this;rw[this];exact⟨I,.refl I,H,r3,⟨rfl,rfl⟩⟩
 | some d=>replace this:=q ▸ this;(refine xEA this λp hp hv=>?_;try clear this);rw[hp];exact⟨I,.refl I,H,hv,⟨rfl,rfl⟩⟩
theorem uG {D:Gn} {es:DE} {ks:List Int} {d:PV} {v1 v2 v3:Gd} (ho:own D=fm (.dct es)) (hl:es.length<=1000):CALL w k own (λI=>VR I v1 (.ref D)/\VR I v2 (.tup (intL ks))/\VR I v3 d) (setItem v1 v2 v3) (λI Z own'=>own'=upd own D (.dct (putT es ks d))) Ψo:=by
 intro A l F I s hA H E9
 show let Q':=_;let E':=_;Gf _ _ _ Q' E' _;intro Q' E'
 refine xAA E9 λr1 r2 r3=>?_;clear E9
 refine zy (VR.key (w:=w) r2) λa ok E5 hok htk=>?_;subst E5
 have E0:=fJ r1;clear r1;subst E0
 refine yk (H.dct (.inl ho)) λo el ep xs Z Z Z Z Z E hdd=>?_
 have r2':=r2
 refine wpAny_setItem_heap (yQ hA) (Kb htk (H.fz _ _ hok)) hdd (λh' hm hs=>?_) (by rw[E.length];exact Gc hl (lb rfl))
 refine uv hm λo' el' ep' g1 g2 g3 g4 g5 g6=>?_;try clear hm
 exact⟨I,_,.refl I,H.set ho hs.extBut g1 (mo':=.dct (putT es ks d)) ⟨g2,el',ep',_,g3,g4,g6,E.put r2' r3⟩,rfl,⟨rfl,rfl⟩⟩
theorem dD {o i e:Expr} {pos' pos:Pos} {D:Gn} {es:DE} {ks:List Int} {d:PV} (he:EVd w k env ρ e d) (h1:EVd w k env ρ o (.ref D)) (h2:EVd w k env ρ i (.tup (intL ks))) (ho:ρ.own D=fm (.dct es)) (hl:es.length<=1000)
  (hs:Lq e (fm (.Subscript o i pos')) pos.line env=pure Gk:=by rfl):EX1 w k env ρ (.Assign [.Subscript o i pos'] e pos) (λp ρ'=>p=.next/\ρ'=⟨ρ.loc,upd ρ.own D (.dct (putT es ks d))⟩) Ψ:=by
 show let Φ':=_;let Ψ':=_;EX1 _ _ _ _ _ Φ' Ψ';intro Φ' Ψ'
 intro A l F I s hA R
 show let Q':=_;let E':=_;Gf _ _ _ Q' E' _;intro Q' E'
 refine wpAny_Assign_Subscript (mA (he.at hA R trivial) (λv s1 I1 a1 R1 r1 q1=>mA (h1.at hA R1 trivial) (λv1 s2 I2 a2 R2 r2 q2=>mA (h2.at hA R2 trivial) (λv2 s3 I3 a3 R3 r3 q3=>?_)))) hs
 obtain⟨G,H,L,D'⟩:=R3
 refine Gm (uG (Ψo:=noO) ho hl A (env::l) _ I3 s3 hA H ⟨r2.mono a3,r3,r1.mono (a2.trans a3)⟩) (λZ s4 E9=>E9.casesOn λI4 own' a4 H4 e4 q4=>?_) λZ Z E9=>E9.casesOn λZ Z Z Z Z Z Z x=>x.elim
 subst e4
 exact⟨I4,⟨ρ.loc,upd ρ.own D (.dct (putT es ks d))⟩,.next,a1.trans (a2.trans (a3.trans a4)),⟨G,H4,L.mono a4,D'⟩,trivial,q1.trans (q2.trans (q3.trans q4)),rfl,rfl⟩
theorem ph {ss:List HF} {D:Gn} {es:DE} (ho:ρ.own D=fm (.dct es)) (h:∀ ep,EX w k env ⟨ρ.loc,upd ρ.own D (.dcx es ep)⟩ ss Φ Ψ):EX w k env ρ ss Φ Ψ:=λA l F I s hA R=>by
 obtain⟨G,H,L,D'⟩:=R
 refine vF (H.ow D _ ho) λo e hx el ep xs h1 h2 h3 h4=>?_
 have H2:=H.set (h':=s.heap) (mo':=.dcx es ep) ho (λb o' Z e'=>e') e ⟨hx,el,xs,h1,h2,h3,h4⟩
 exact h ep A l F I s hA ⟨G,H2,L,D'⟩
theorem pd {ss:List HF} {D:Gn} {es:DE} {ep:Nat} (ho:ρ.own D=fm (.dcx es ep)) (h:EX w k env ⟨ρ.loc,upd ρ.own D (.dct es)⟩ ss Φ Ψ):EX w k env ρ ss Φ Ψ:=λA l F I s hA R=>by
 obtain⟨G,H,L,D'⟩:=R
 refine uB (H.ow D _ ho) λo e hx el xs h1 h2 h3 h4=>?_
 have H2:=H.set (h':=s.heap) (mo':=.dct es) ho (λb o' Z e'=>e') e ⟨hx,el,ep,xs,h1,h2,h3,h4⟩
 exact h A l F I s hA ⟨G,H2,L,D'⟩
theorem EVO.dict {pos:Pos}:EVO w k env ρ (.Dict [] [] pos) (λd own'=>∃ a,d=.ref a/\ρ.own a=fp/\own'=upd ρ.own a (.dct [])) Ψo:=by
 show let Θ':=_;let Ψ':=_;EVO _ _ _ _ _ Θ' Ψ';intro Θ' Ψ'
 intro A l F I s hA H L
 refine wpAny_Dict_empty ?_
 exact⟨I,_,.ref s.heap.objs.size,.refl I,(H.push { cls:=.type "dict",data:=.dict #[] }).take (mo:=.dct []) H.new (GA _ rfl) ⟨⟨rfl,rfl,rfl⟩,#[],0,[],rfl,rfl,WD,.nil⟩,.ref _,⟨rfl,rfl⟩,_,rfl,H.new.2.2.1,rfl⟩
end
section
open PySem.SetTable
section
variable {s:Gg}
noncomputable abbrev ik (w:K6):PySem.KeyKind prg w Int:=OO prg w
noncomputable def ElAt (w:K6) (h:Kf) (e:ST.Ent) (k:List Int):Prop:=∃ a,e.2.2=.ref a/\NH (ik w) h k a/\e.2.1=GO (ik w) k
theorem qW {t:Lw} {es:Array (Int×Gd)} {L:List ST.Ent} {hashAt:Nat->Int} (hl:ST.Laid t es L) (hh:∀ i,hashAt i=(es[i]?.map (·.1)).getD 0) {h:Int} {N:Nat} (hN:ST.at' t.mask h N∉ST.slots L) (hb:∀ m<N,ST.at' t.mask h m∈ST.slots L) :
  ∀ (f n:Nat),n<=N->N-n<f ->
   (∃ m i e,n<=m/\m<N/\L[i]? = fm e/\e.1=ST.at' t.mask h m/\e.2.1=h/\(∀ m',n<=m'->m'<m->∀ e'∈L,e'.1=ST.at' t.mask h m'->e'.2.1≠h)/\probe.go t hashAt h f (ST.sq t.mask h n)=fm (.candidate e.1 i (ST.sq t.mask h (m+1)))) \/
   ((∀ m',n<=m'->m'<N->∀ e'∈L,e'.1=ST.at' t.mask h m'->e'.2.1≠h)/\probe.go t hashAt h f (ST.sq t.mask h n)=fm (.empty (ST.at' t.mask h N) fp))
 | 0,n,h1,h2=>absurd h2 (NN _)
 | f+1,n,h1,h2=>by
  by_cases q:n=N
  .subst q
   refine .inr ⟨λm' a b=>absurd b (by exact Tc ‹_›),?_⟩
   unfold probe.go
   rw[show (ST.sq t.mask h n).j=ST.at' t.mask h n from rfl,hl.slot_empty hN]
   dsimp only
   rw[ST.sq_dummy]
  .have hn:n<N:=by exact OE ‹_› ‹_›
   refine xEA (Gr.mp (hb n hn)) λe he hes=>?_
   refine xE (GV.mp he) λi hi=>?_
   have hha:hashAt i=e.2.1:=by rw[hh,hl.entAt,hi];rfl
   have hslot:t.slot (ST.sq t.mask h n).j=.live i:=by
    rw[show (ST.sq t.mask h n).j=ST.at' t.mask h n from rfl,←hes];exact hl.slot_live hi
   have uniq:∀ e'∈L,e'.1=ST.at' t.mask h n->e'=e:=λe' he' hq=>by
    have hs:=hl.srt
    refine xE (GV.mp he') λi' hi'=>?_
    have a1:=hl.slot_live hi'
    have a2:=hl.slot_live hi
    ((replace a1:=hq ▸ a1;replace a1:=(Gq hes) ▸ a1);replace a1:=Gj (Gq (a2)) a1)
    (injection a1 with E1;subst E1)
    replace hi':=Gj (Gq (hi)) hi';exact(K5 hi').symm
   unfold probe.go
   rw[hslot]
   dsimp only
   rw[hha]
   by_cases z:(e.2.1==h)=Gh
   .rw[if_pos z]
    refine .inl ⟨n,i,e,GI _,hn,hi,hes,by simpa using z,λm' a b=>absurd b (by exact Tc ‹_›),?_⟩
    rw[show (ST.sq t.mask h n).j=e.1 from hes.symm];rfl
   .rw[if_neg z]
    have z':e.2.1≠h:=by simpa using z
    have base:∀ e'∈L,e'.1=ST.at' t.mask h n->e'.2.1≠h:=λe' he' hq=>by rw[uniq e' he' hq];exact z'
    rcases qW hl hh hN hb f (n+1) (by exact Hi ‹_›) (by exact A2 ‹_› ‹_›) with E85 | E86
    .refine jB E85 λm i' e' g1 g2 g3 g4 g5 g6 g7=>?_;clear E85
     refine .inl ⟨m,i',e',by exact KA ‹_›,g2,g3,g4,g5,λm' a b=>?_,g7⟩
     rcases LQ a with y | y
     .exact g6 m' (by exact Hi ‹_›) b
     .subst y;exact base
    .refine xA E86 λg1 g2=>?_;clear E86
     refine .inr ⟨λm' a b=>?_,g2⟩
     rcases LQ a with y | y
     .exact g1 m' (by exact Hi ‹_›) b
     .subst y;exact base
theorem dL {k:List Int} {vs:List Gd} (h:ItemsAre (ik w) k vs):∀ v∈vs,∃ (i:Int) (t:Tok),v=.int i t:=by
 induction h with
 | nil=>intro v hv;cases hv
 | cons h1 _ ih =>
  intro v hv
  rcases Gi.mp hv with rfl | hv
  ·(refine xE (Value.isInt_shape h1) λt ht=>?_);exact iEE _ t ht
  .exact ih v hv
theorem uw {k:List Int} {a:Gn} {Q:Bool->Gg->Prop} (hk:NH (ik w) s.heap k a) (h:Q Gk s):Gf (mdl w) A (ofAClassStatement 8 (.ref a)) Q E s:=by
 have hT:=hk.typeIs
 refine zs hk λo items n ho Z hd hi=>?_;try clear hk
 set_option smartUnfolding false in
  refine Ga (TM hT ?_)
 dsimp only
 rw[if_pos (show ("tuple" == "tuple")=Gh from rfl)]
 refine Ga (Gb ?_)
 rw[Od,if_neg Gv]
 refine Ga (OW ho hd ?_)
 refine Ga ?_
 rw[←Yq]
 refine Tu _ (λrest r s'=>r.1=fp/\s'=s/\∀ v∈rest,∃ (i:Int) (t:Tok),v=.int i t) _ ?_ ?_ _ _ ⟨rfl,rfl,dL hi⟩
 .intro v rest r s' E9;refine xAA E9 λhr E5 hall=>?_;clear E9;subst E5
  refine xEE (hall v Gp) λi t E5=>?_;subst E5
  refine Ga (Hh (a:=false) rfl ?_)
  rw[if_neg Gv]
  exact Gb ⟨rfl,rfl,λu hu'=>hall u (Go _ hu')⟩
 .rintro⟨r1,r2⟩ s' ⟨hr,rfl,_⟩
  simp only at hr
  subst hr
  exact Gb h
theorem Jm {k:List Int} {a:Gn} {Q:Bool->Gg->Prop} (hk:NH (ik w) s.heap k a) (h:Q Gh s):Gf (mdl w) A (hashByValue 8 (.ref a)) Q E s:=by
 have hT:=hk.typeIs
 refine zs hk λo items n ho Z hd hi=>?_;try clear hk
 refine Ga (Nl hT PySem.F.slot_tuple_hash.lookup ?_)
 dsimp only
 refine Ga (OW ho hd ?_)
 refine Ga ?_
 show Gf _ _ (Xw items _ _) _ _ s
 rw[←Yq]
 refine Tu _ (λrest r s'=>r.1=fp/\s'=s/\∀ v∈rest,∃ (i:Int) (t:Tok),v=.int i t) _ ?_ ?_ _ _ ⟨rfl,rfl,dL hi⟩
 .intro v rest r s' E9;refine xAA E9 λhr E5 hall=>?_;clear E9;subst E5
  refine xEE (hall v Gp) λi t E5=>?_;subst E5
  refine Ga (Hh (a:=true) rfl ?_)
  rw[Od,if_neg Gv]
  exact Gb ⟨rfl,rfl,λu hu'=>hall u (Go _ hu')⟩
 .rintro⟨r1,r2⟩ s' ⟨hr,rfl,_⟩
  simp only at hr
  subst hr
  exact Gb h
theorem seen_ok {k:List Int} {a:Gn} {stored:List Gd} {Q:Bool->Gg->Prop} (hk:NH (ik w) s.heap k a) (hst:∀ v∈stored,∃ k' b,v=.ref b/\NH (ik w) s.heap k' b) (h:Q Gk s):Gf (mdl w) A (hU (.ref a) stored) Q E s:=by
 delta hU
 refine Ga ?_
 refine Tu _ (λrest r s'=>r.1=fp/\s'=s/\∀ v∈rest,∃ k' b,v=.ref b/\NH (ik w) s.heap k' b) _ ?_ ?_ _ _ ⟨rfl,rfl,hst⟩
 .intro v rest r s' E9;refine xAA E9 λhr E5 hall=>?_;clear E9;subst E5
  refine xEEA (hall v Gp) λk' b E5 hk'=>?_;subst E5
  have fin:=λu hu'=>hall u (Go _ hu')
  dsimp only
  show let Q':=_;let E':=_;Gf _ _ _ Q' E' _;intro Q' E'
  by_cases z:(a==b)=Gh
  .rw[z,Bool.true_or,if_pos rfl]
   exact Gb ⟨rfl,rfl,fin⟩
  .have z':(a==b)=Gk:=by simpa using z
   simp only[z',carriedByValue,Bool.false_or,Vg,GQ,if_false]
   refine Ga (YX hk ?_)
   simp only[Od,GQ,if_false]
   refine Ga (YX hk' ?_)
   simp only[Od,GQ,if_false]
   refine Ga (uw hk ?_)
   simp only[GQ,if_false]
   refine Ga (uw hk' ?_)
   simp only[GQ,if_false]
   exact Gb ⟨rfl,rfl,fin⟩
 .rintro⟨r1,r2⟩ s' E9
  refine xAA E9 λhr E21 Z=>?_;clear E9;subst E21
  simp only at hr
  subst hr
  exact Gb h
theorem xZ {b:Gn} {Q:Bool->Gg->Prop} (h:Q Gh s):Gf (mdl w) A (isSame (.ref b) (.ref b)) Q E s:=by
 delta isSame
 dsimp only
 rw[if_pos (by exact ReflBEq.rfl)]
 exact Gb h
theorem xv {a ax:Gn} {o:Obj} {es:Array (Int×Gd)} {ep:Nat} {t:Lw} {L:List ST.Ent} {k:List Int} {adding:Bool} {Q:SetFound->Gg->Prop} (ho:s.heap.get? a=fm o) (hd:o.data=.set es ep t)
  (hf:t.fits es.size=Gh) (hl:ST.Laid t es L) (g:ST.Good t.mask) (hx:NH (ik w) s.heap k ax) (hel:∀ e∈L,∃ k',ElAt w s.heap e k') (hu:A.units<NM)
  {N:Nat} (hN:ST.at' t.mask (GO (ik w) k) N∉ST.slots L) (hb:∀ m<N,ST.at' t.mask (GO (ik w) k) m∈ST.slots L) (hNf:N<10*turns t.mask)
  (hthere:∀ i e,L[i]? = fm e->ElAt w s.heap e k->Q (.there (if adding then fp else fm i)) s)
  (hfree:(∀ m<N,∀ e∈L,e.1=ST.at' t.mask (GO (ik w) k) m->¬ ElAt w s.heap e k)->Q (.free (ST.at' t.mask (GO (ik w) k) N) Gk) s) :
  ∀ (fuel n:Nat) (stand:Option Probe),n<=N->N-n<fuel->(stand.getD (t.probeStart (GO (ik w) k))=ST.sq t.mask (GO (ik w) k) n) ->
   (∀ m<n,∀ e∈L,e.1=ST.at' t.mask (GO (ik w) k) m->¬ ElAt w s.heap e k) ->
   Gf (mdl w) A (setSearchFrom a (.ref ax) (GO (ik w) k) adding fuel stand) Q E s
 | 0,n,stand,h1,h2,h3,h4=>absurd h2 (NN _)
 | fuel+1,n,stand,h1,h2,h3,h4=>by
  have hodd:t.gaveWay=Gk:=by
   delta SetTable.gaveWay
   rcases g with e | e | e<;>rw[e]<;>rfl
  refine Ga (Lr ho hd hf ?_)
  dsimp only
  rw[hodd,h3]
  rw[if_neg Gv]
  have hp:=qW (h:=GO (ik w) k) (hashAt:=λi=>(es[i]?.map (·.1)).getD 0) hl (λi=>rfl) hN hb (10*turns t.mask) n h1 (by exact Nat.sub_lt_of_lt hNf)
  rcases hp with E87 | E88
  .refine jB E87 λm i e g1 g2 g3 g4 g5 g6 g7=>?_;clear E87
   have g7':t.probe (λi=>(es[i]?.map (·.1)).getD 0) (GO (ik w) k) (ST.sq t.mask (GO (ik w) k) n)=fm (.candidate e.1 i (ST.sq t.mask (GO (ik w) k) (m+1))):=g7
   erw [g7']
   obtain⟨j,h',v⟩:=e
   refine zy (hel _ (GS g3)) λk' b e1 e2 e3=>?_
   simp only at e1 e3 g4 g5
   subst e1
   have hes:es[i]? = fm (h',Hg b):=by rw[hl.entAt,g3];rfl
   have hslot:t.slot j=.live i:=hl.slot_live g3
   have hsm:t.sameMemory t.moves t.mask=fm Gh:=by unfold SetTable.sameMemory;rw[if_pos (by exact ReflBEq.rfl)]
   have hstored:∀ v∈O6 (λx=>x.snd) (Array.filter (λx=>x.fst==GO (ik w) k) es).toList,∃ k' b,v=.ref b/\NH (ik w) s.heap k' b:=by
    intro v hv
    refine xEA (Gr.mp hv) λx hx1 E5=>?_;subst E5
    replace hx1:=Array.toList_filter ▸ hx1
    have hx2:=(LY.mp hx1).1
    replace hx2:=hl.ents ▸ hx2
    refine xEA (Gr.mp hx2) λy hy E5=>?_;subst E5
    refine zy (hel y hy) λk2 b2 f1 f2 f3=>?_
    exact iEEA k2 b2 f1 f2
   dsimp only
   have uniq:∀ e'∈L,e'.1=ST.at' t.mask (GO (ik w) k) m->e'=(j,h',.ref b):=λe' he' hq=>by
    refine xE (GV.mp he') λi' hi'=>?_
    have a1:=hl.slot_live hi'
    ((replace a1:=hq ▸ a1;replace a1:=(Gq g4) ▸ a1);replace a1:=Gj (Gq (hslot)) a1)
    (injection a1 with E1;subst E1)
    replace hi':=Gj (Gq (g3)) hi';exact(K5 hi').symm
   have el_unique:∀ k2,ElAt w s.heap (j,h',.ref b) k2->k2=k':=by
    (intro k2 E9;refine xEAA E9 λb2 f1 f2 f3=>?_;clear E9)
    (injection f1 with E1;subst E1)
    exact f2.inj e2
   have next:k'≠k->Gf (mdl w) A (setSearchFrom a (.ref ax) (GO (ik w) k) adding fuel (fm (ST.sq t.mask (GO (ik w) k) (m+1)))) Q E s:=λhne=>by
    refine xv ho hd hf hl g hx hel hu hN hb hNf hthere hfree fuel (m+1) _ (by exact Hi ‹_›) (by exact Nz.s2 ‹_› ‹_› ‹_›) rfl λm' hm' e' he' hq=>?_
    rcases ND m' n with y | y
    .exact h4 m' y e' he' hq
    .rcases ND m' m with z | z
     .intro E9;refine xEAA E9 λb2 f1 f2 f3=>?_;clear E9
      exact g6 m' y z e' he' hq f3
     .have:m'=m:=by exact Nat.eq_of_le_of_lt_succ z hm'
      subst this
      rw[uniq e' he' hq]
      intro z2
      exact hne (el_unique k z2).symm
   cases hled:t.led<;>simp only[Od,WI,GQ,if_false,if_true]
   .refine Ga (seen_ok hx hstored ?_)
    rw[if_neg Gv]
    rw[hes]
    dsimp only
    refine Ga (GD (gL hu e2 hx ?_))
    refine Ga (Lr ho hd hf ?_)
    dsimp only
    by_cases q:k'=k
    .subst q
     simp only[decide_true,Bool.and_true]
     have hel':ElAt w s.heap (j,h',.ref b) k':=(iEAA b rfl e2 e3)
     have hq:=hthere i _ g3 hel'
     cases adding with
     | true=>exact Gb hq
     | false =>
      simp only[GQ,if_false,hsm,if_true,hslot,hes]
      refine Ga (xZ ?_)
      refine Ga (Gb ?_)
      exact Gb hq
    .have hdec:decide (k'=k)=Gk:=by simpa using q
     rw[hdec]
     simp only[Nr,GQ,if_false,hsm,if_true,hslot,hes]
     refine Ga (xZ ?_)
     refine Ga (Gb ?_)
     exact next q
   .rw[hes]
    dsimp only
    refine Ga (GD (gL hu e2 hx ?_))
    refine Ga (Lr ho hd hf ?_)
    dsimp only
    by_cases q:k'=k
    .subst q
     simp only[decide_true,Bool.and_true]
     have hel':ElAt w s.heap (j,h',.ref b) k':=(iEAA b rfl e2 e3)
     have hq:=hthere i _ g3 hel'
     cases adding with
     | true=>exact Gb hq
     | false =>
      simp only[GQ,if_false,hsm,if_true,hslot,hes]
      refine Ga (xZ ?_)
      refine Ga (Gb ?_)
      exact Gb hq
    .have hdec:decide (k'=k)=Gk:=by simpa using q
     rw[hdec]
     simp only[Nr,GQ,if_false,hsm,if_true,hslot,hes]
     refine Ga (xZ ?_)
     refine Ga (Gb ?_)
     exact next q
  .refine xA E88 λg1 g2=>?_;clear E88
   have g2':t.probe (λi=>(es[i]?.map (·.1)).getD 0) (GO (ik w) k) (ST.sq t.mask (GO (ik w) k) n)=fm (.empty (ST.at' t.mask (GO (ik w) k) N) fp):=g2
   erw [g2']
   refine Gb (hfree λm' hm' e' he' hq=>?_)
   rcases ND m' n with y | y
   .exact h4 m' y e' he' hq
   .intro E9;refine xEAA E9 λb2 f1 f2 f3=>?_;clear E9
    exact g1 m' y hm' e' he' hq f3
theorem SetEl.at {I:PH} {h:Kf} (hs:Sub I h.get?) {L:List ST.Ent} {ks:List (List Int)} (E:SetEl w I L ks):(∀ e∈L,∃ k∈ks,ElAt w h e k)/\(∀ k∈ks,∃ e∈L,ElAt w h e k)/\ks.length=L.length:=by
 induction E with
 | nil=>exact⟨λe h=>(nomatch h),λk h=>(nomatch h),rfl⟩
 | @cons j hh v k L ks h1 h2 _ ih =>
  refine xAA ih λi1 i2 i3=>?_;try clear ih
  refine zy (VR.key (w:=w) h1) λa ok e g1 g2=>?_
  subst e
  have hel:ElAt w h (j,hh,.ref a) k:=(iEAA a rfl (Kb g2 (hs _ _ g1)) h2)
  refine⟨λe he=>?_,λk' hk'=>?_,by rw[GC,GC,i3]⟩
  .rcases Gi.mp he with rfl | he
   .exact iEA k Gp hel
   ·(refine xEA (i1 e he) λk' h3 h4=>?_);exact iEA k' (Go _ h3) h4
  .rcases Gi.mp hk' with rfl | hk'
   .exact iEA _ Gp hel
   ·(refine xEA (i2 k' hk') λe h3 h4=>?_);exact iEA e (Go _ h3) h4
theorem ST.Laid.fits {t:Lw} {es:Array (Int×Gd)} {L:List ST.Ent} (h:ST.Laid t es L) (hl:L.length<=t.mask):t.fits es.size=Gh:=by
 delta SetTable.fits
 have h1:=h.size
 have:t.fill=L.length:=by delta SetTable.fill;rw[h.nod,h1.1];rfl
 rw[this,h1.1,h1.2]
 simp[hl]
theorem ST.Good.le {m:Nat} (g:ST.Good m):m<=127:=by rcases g with h | h | h<;>lia
theorem QZ {mask:Nat} {h:Int} {N:Nat} (hN:N<=ST.st mask h (13+mask)):N<10*turns mask:=by
 have:=ST.st_le mask h (13+mask)
 delta turns;exact Nz.f5 ‹_› ‹_›
theorem HP.set_ {D:Gn} {ks:List (List Int)} {h:Kf} (H:HP w l F I own h) (e:own D=fm (.set ks)):∃ o es ep t L ks',h.get? D=fm o/\o.cls=.type "set" /\ o.dict=fp/\o.slots = #[]/\o.data=.set es ep t/\ST.Good t.mask/\L.length*5<t.mask*3/\ST.Laid t es L/\ST.Snd t.mask L/\SetEl w I L ks'/\ks'.Nodup/\∀ k,k∈ks'↔k∈ks:=by
 refine qw (H.ow D _ e) λo ho h1 h2 h3 es ep t L ks' h4 r=>?_
 exact Qe o es ep t L ks' ho h1 h2 h3 h4 r
theorem find_ok {A:GZ} {D:Gn} {ks:List (List Int)} {kk:List Int} {ax:Gn} {Q:Option Nat->Gg->Prop} (H:HP w l F I own s.heap) (e:own D=fm (.set ks)) (hx:NH (ik w) s.heap kk ax) (hu:A.units<NM)
  (h:∀ r:Option Nat,r.isSome=decide (kk∈ks)->Q r s):Gf (mdl w) A (setFind D (.ref ax) (GO (ik w) kk)) Q E s:=by
 refine xo (H.set_ e) λo es ep t L ks' ho Z Z Z hd g hsz hl hsd hE hnd hmem=>?_
 refine xAA (hE.at H.fz) λi1 i2 i3=>?_
 have hlen:L.length<=t.mask:=by lia
 have hf:=hl.fits hlen
 refine xEAA (ST.first_free g (GO (ik w) kk) hsd.nodup (by show (L.map _).length<=_;rw[Ge];exact hlen)) λN hNle hN hb=>?_
 unfold setFind setFindIn
 refine Ga (Lr ho hd hf ?_)
 dsimp only
 rw[if_neg (show ¬ (byScan (.ref ax) es=Gh) from Gv)]
 refine Ga ?_
 have hNt:=QZ hNle
 refine xv ho hd hf hl g hx (λe he=>xEA (i1 e he) λk' Z r=>⟨k',r⟩) hu hN hb hNt (λi e hi he=>?_) (λhno=>?_) 100000 0 fp (GU _) (by have:=ST.Good.le g;delta turns at hNt;exact AK ‹_› ‹_›) rfl λm hm=>absurd hm (NN _)
 .refine xEA (i1 e (GS hi)) λk' hk' h3=>?_
  have:k'=kk:=by
   refine xEAA h3 λa1 f1 f2 Z=>?_;try clear h3
   refine xEAA he λa2 g1 g2 Z=>?_;try clear he
   replace g1:=Gj (Gq (f1)) g1;(injection g1 with E1;subst E1)
   exact f2.inj g2
  subst this
  refine Gb (h _ ?_)
  rw[if_neg (by exact Gv)]
  simp[(hmem k').mp hk']
 .refine Gb (h _ ?_)
  have:kk∉ks:=λhk=>by
   refine xEA (i2 kk ((hmem kk).mpr hk)) λe he hel=>?_
   refine xEA (hsd.way e he) λn hn1 hn2=>?_
   have hh:e.2.1=GO (ik w) kk:=hel.choose_spec.2.2
   rw[hh] at hn1 hn2
   have hnN:n<N:=by
    rcases KQ n N with q | q | q
    .exact q
    .subst q
     exact absurd (Gr.mpr (iEA e he hn1.symm)) hN
    .exact absurd (hn2 N q) hN
   exact hno n hnN e he hn1.symm hel
  simp[this]
end
end
section
open PySem.SetTable
section
variable {s:Gg}
theorem uC:∀ {xs ys:List (List Int)},xs.Nodup->(∀ x∈xs,x∈ys)->xs.length<=ys.length
 | [],ys,_,_=>GU _
 | x::xs,ys,hn,hs=>by
  rewrite [LX] at hn
  have hx:=hs x Gp
  have:=uC (xs:=xs) (ys:=ys.erase x) hn.2 λy hy=>(XY (by rintro rfl;exact hn.1 hy)).mpr (hs y (Go _ hy))
  replace this:=Xb hx ▸ this
  have hpos:0<ys.length:=Tj hx
  rw[GC];exact Yk hpos this
theorem SetEl.any {L:List ST.Ent} {ks:List (List Int)} (h:SetEl w I L ks):∀ {L':List ST.Ent},(∀ e∈L',∃ j,(j,e.2)∈L)->∃ ks',SetEl w I L' ks'/\∀ k∈ks',k∈ks:=by
 have one:∀ {L:List ST.Ent} {ks:List (List Int)},SetEl w I L ks->∀ {j:Nat} {hv:Int×Gd},(j,hv)∈L->∃ k∈ks,VR I hv.2 (.tup (k.map PV.int))/\hv.1=GO (ik w) k:=by
  intro L ks h
  induction h with
  | nil=>intro j hv hm;cases hm
  | @cons j0 h0 v0 k0 L ks h1 h2 _ ih =>
   intro j hv hm
   rcases Gi.mp hm with q | q
   ·(injection q with E1 E2;subst E2;subst E1);exact iEAA k0 Gp h1 h2
   ·(refine xEA (ih q) λk a b=>?_);exact iEA k (Go _ a) b
 intro L'
 induction L' with
 | nil=>intro _;exact iEA [] (.nil) (λk hk=>(nomatch hk))
 | cons e r ih =>
  intro hm
  refine xEA (ih λx hx=>hm x (Go _ hx)) λks' h1 h2=>?_
  refine xE (hm e Gp) λj hj=>?_
  refine xEAA (one h hj) λk hk h3 h4=>?_
  obtain⟨j0,h0,v0⟩:=e
  exact⟨k::ks',.cons h3 h4 h1,λx hx=>by
   rcases Gi.mp hx with rfl | hx
   .exact hk
   .exact h2 x hx⟩
theorem SetEl.again {L L':List ST.Ent} {ks ks':List (List Int)} (h:SetEl w I L ks) (h':SetEl w I L' ks') (hsub:∀ k∈ks',k∈ks) (hnd:ks.Nodup) (hlen:L'.length=L.length) (hinj:(L'.map (·.2.2)).Nodup\/True) (hback:∀ e∈L,∃ j,(j,e.2)∈L') (hs:Sub I s.heap.get?):ks'.Nodup/\∀ k,k∈ks'↔k∈ks:=by
 refine xAA (h.at hs) λa1 a2 a3=>?_
 refine xAA (h'.at hs) λb1 b2 b3=>?_
 have hmem:∀ k,k∈ks'↔k∈ks:=λk=>⟨hsub k,λhk=>by
  refine xEA (a2 k hk) λe he hel=>?_
  refine xE (hback e he) λj hj=>?_
  refine xEA (b1 _ hj) λk2 hk2 hel2=>?_
  refine xEAA hel λx f1 f2 Z=>?_;try clear hel
  refine xEAA hel2 λy g1 g2 Z=>?_;try clear hel2
  simp only at g1
  replace g1:=f1 ▸ g1;(injection g1 with E1;subst E1)
  rw[f2.inj g2];exact hk2⟩
 refine⟨?_,hmem⟩
 have hle:ks'.length=ks.length:=by lia
 apply HR
 intro hd
 have:∃ x r,ks'=x/\r=():=(iEEA ks' () rfl rfl)
 have key:∀ {xs:List (List Int)},¬ xs.Nodup->∃ ys:List (List Int),ys.length<xs.length/\∀ z,z∈xs->z∈ys:=by
  intro xs
  induction xs with
  | nil=>intro h;exact absurd WD h
  | cons x r ih =>
   intro h
   by_cases q:x∈r
   .exact⟨r,by exact Nat.lt_add_one r.length,λz hz=>by
     rcases Gi.mp hz with rfl | hz
     .exact q
     .exact hz⟩
   .have:¬ r.Nodup:=λhr=>h (LX.mpr ⟨q,hr⟩)
    refine xEA (ih this) λys h1 h2=>?_
    exact⟨x::ys,by simp;exact h1,λz hz=>by
     rcases Gi.mp hz with rfl | hz
     .exact Gp
     .exact Go _ (h2 z hz)⟩
 refine xEA (key hd) λys h1 h2=>?_
 have:=uC hnd (ys:=ys) λz hz=>h2 z ((hmem z).mpr hz)
 lia
theorem relay_ok {A:GZ} {a:Gn} {o:Obj} {es:Array (Int×Gd)} {ep wanted:Nat} {t:Lw} {L:List ST.Ent} {Q:Unit->Gg->Prop} (ho:s.heap.get? a=fm o) (hd:o.data=.set es ep t) (hl:ST.Laid t es L) (hlen:L.length<=t.mask)
  (g:ST.Good (sizeAbove wanted-1)) (hsz:L.length<=sizeAbove wanted-1) (hw:sizeAbove wanted<=128)
  (h:∀ es' t' L',t'.mask=sizeAbove wanted-1->ST.Laid t' es' L'->ST.Snd t'.mask L'->L'.length=L.length->(∀ e:Int×Gd,(∃ j,(j,e)∈L')↔∃ j,(j,e)∈L)->Q () { s with heap:=s.heap.update a (Tn es' t') }):Gf (mdl w) A (setRelay a wanted) Q E s:=by
 have hf:=hl.fits hlen
 have hM:es=es.toList.toArray:=by with_reducible rfl
 have hMl:es.toList.length=L.length:=by rw[hl.ents,Ge]
 refine qy (ST.laid_ok (finger:=t.finger) (moves:=t.movedTo (sizeAbove wanted-1)) (led:=t.led) (plain:=t.plain) g (M:=es.toList) (by exact le_of_eq_of_le hMl hsz)) λt' order L' h1 h2 h3 h4 h5 h6 h7 h8 h9=>?_
 have hrel:t.relaid (es.map (·.1)) wanted=fm (t',order):=by
  delta SetTable.relaid
  rw[←h1]
  congr 1
  rw[←Array.toList_map,Array.toArray_toList]
 replace h6:=(Gq hM) ▸ h6
 delta setRelay
 refine Ga (Lr ho hd hf ?_)
 dsimp only
 rw[if_neg (by rw[HJ];lia)]
 rw[hrel]
 have hes:(order.filterMap (es[·]?)).size=es.size:=by rw[h6.size.2,h8,hMl,hl.size.2]
 refine Ga ?_
 show Gf _ _ (do
  if (order.filterMap (es[·]?)).size != es.size then unsupported "internal:set-table-lost-an-element"
  pure (order.filterMap (es[·]?),t')) _ _ _
 rw[hes]
 rw[bne_self_eq_false,if_neg Gv]
 refine Gb ?_
 dsimp only
 refine gW ho hd (h _ t' L' h2 h6 (h2 ▸ h7) (by rw[h8,hMl]) λe=>?_) (by rw[h6.size.2,h8,hMl,HJ];lia)
 rw[h9,hl.ents,Gr]
 constructor
 ·(intro E9;refine xEA E9 λE54 hx E55=>?_;clear E9;obtain⟨j,x⟩:=E54;subst E55);exact⟨j,hx⟩
 ·(intro E9;refine xE E9 λj hj=>?_;clear E9);exact iEA _ hj rfl
theorem ins_mem {L:List ST.Ent} {e x:ST.Ent} (h:e.1∉ST.slots L):x∈ST.ins L e↔x=e\/x∈L:=ST.mem_ins h
theorem SetEl.ins {L:List ST.Ent} {ks:List (List Int)} (h:SetEl w I L ks) {j:Nat} {v:Gd} {kk:List Int} (hf:j∉ST.slots L) (hv:VR I v (.tup (kk.map PV.int))):∃ ks',SetEl w I (ST.ins L (j,GO (ik w) kk,v)) ks'/\∀ k∈ks',k∈kk::ks:=by
 have h1:SetEl w I ((j,GO (ik w) kk,v)::L) (kk::ks):=.cons hv rfl h
 exact h1.any λe he=>⟨e.1,by
  rcases(ST.mem_ins hf).mp he with rfl | he
  .exact Gp
  .exact Go _ he⟩
theorem add_ok {D:Gn} {ks:List (List Int)} {kk:List Int} {ax:Gn} {Q:Bool->Gg->Prop} (H:HP w l F I own s.heap) (e:own D=fm (.set ks)) (hv:VR I (.ref ax) (.tup (intL kk))) (hu:A.units<NM) (hnew:kk∉ks) (hl60:ks.length<=60)
  (h:∀ h',HP w l F I (upd own D (.set (kk::ks))) h'->Q Gh { s with heap:=h' }):Gf (mdl w) A (setAddHashed D (.ref ax) (GO (ik w) kk)) Q E s:=by
 refine xo (H.set_ e) λo es ep t L ks' ho hc hdd hsl hd g hsz hl hsd hE hnd hmem=>?_
 refine xAA (hE.at H.fz) λi1 i2 i3=>?_
 have hlen:L.length<=t.mask:=by lia
 have hf:=hl.fits hlen
 have hksl:ks'.length<=60:=Gc (uC hnd λx hx=>(hmem x).mp hx) hl60
 refine zy (VR.key (w:=w) hv) λaxo aok ae ag1 ag2=>?_
 (injection ae with E1;subst E1)
 have hx:NH (ik w) s.heap kk ax:=Kb ag2 (H.fz _ _ ag1)
 refine xEAA (ST.first_free g (GO (ik w) kk) hsd.nodup (by show (L.map _).length<=_;rw[Ge];exact hlen)) λN hNle hN hb=>?_
 have hNt:=QZ hNle
 unfold setAddHashed setAddHashedIn
 refine GD (Ga (Lr ho hd hf ?_))
 dsimp only
 rw[if_neg (show ¬ (byScan (.ref ax) es=Gh) from Gv)]
 refine Ga ?_
 refine xv ho hd hf hl g hx (λe he=>xEA (i1 e he) λk' Z r=>⟨k',r⟩) hu hN hb hNt (λi e' hi he'=>?_) (λhno=>?_) 100000 0 fp (GU _) (by have:=ST.Good.le g;delta turns at hNt;exact AK ‹_› ‹_›) rfl λm hm=>absurd hm (NN _)
 .refine xEA (i1 e' (GS hi)) λk' hk' h3=>?_
  have:k'=kk:=by
   refine xEAA h3 λa1 f1 f2 Z=>?_;try clear h3
   refine xEAA (he') λa2 g1 g2 Z=>?_;try clear he'
   replace g1:=f1 ▸ g1;(injection g1 with E1;subst E1)
   exact f2.inj g2
  subst this
  exact absurd ((hmem k').mp hk') hnew
 dsimp only
 refine Ga (Lr ho hd hf ?_)
 generalize hj:ST.at' t.mask (GO (ik w) kk) N=j at hN
 let ent:ST.Ent:=(j,GO (ik w) kk,.ref ax)
 have hjL:j∉ST.slots L:=hN
 have hsnd1:ST.Snd t.mask (ST.ins L ent):=ST.snd_ins hsd hj hjL hb
 have hlaid1:ST.Laid (t.put j).1 (insertAt es (t.put j).2 (GO (ik w) kk,.ref ax)) (ST.ins L ent):=hl.put hjL hsnd1.srt
 have hlen1:(ST.ins L ent).length=L.length+1:=ST.ins_len hsd.srt hjL
 dsimp only
 have main:Gf (mdl w) A (do
   storeSet D (insertAt es (t.put j).2 (GO (ik w) kk,Hg ax)) (t.put j).1
   if (!false&&(t.put j).1.tooFull)=Gh then do
    setRelay D (On (es.size+1))
    pure Gh
   else pure Gh) Q E s:=by
  revert hlaid1;refine Mine.gn ((t.put j).1) λt1 ht1 hlaid1=>?_
  have hm1:t1.mask=t.mask:=by rw[←ht1];rfl
  revert hlaid1;refine Mine.gn (insertAt es (t.put j).2 (GO (ik w) kk,Hg ax)) λes1 hes1 hlaid1=>?_
  have hfill1:t1.fill=L.length+1:=by delta SetTable.fill;rw[hlaid1.nod,hlaid1.size.1,hlen1];rfl
  refine xEA (hE.ins hjL hv) λks1 hE1 hsub1=>?_
  refine Ga (gW ho hd ?_ (by rw[hlaid1.size.2,hlen1,HJ];have:=ST.Good.le g;lia))
  have hg1:(s.heap.update D (Tn es1 t1)).get? D=fm { o with data:=.set es1 (ep+1) t1 }:=by
   have:=GM (Tn es1 t1) ho (by rw[Yt es1 t1 hd];rfl)
   replace this:=Yt es1 t1 hd ▸ this;exact this
  have hE0:SetEl w I (ent::L) (kk::ks'):=.cons hv rfl hE
  have hnd0:(kk::ks').Nodup:=LX.mpr ⟨λq=>hnew ((hmem kk).mp q),hnd⟩
  have fin:∀ (h':Kf) (es2:Array (Int×Gd)) (ep2:Nat) (t2:Lw) (L2:List ST.Ent),Og D s.heap h'->h'.get? D=fm { o with data:=.set es2 ep2 t2 }->ST.Good t2.mask->L2.length*5<t2.mask*3->ST.Laid t2 es2 L2->ST.Snd t2.mask L2->L2.length=L.length+1 ->
    (∀ e:Int×Gd,(∃ j,(j,e)∈L2)↔∃ j,(j,e)∈ent::L)->Q Gh { s with heap:=h' }:=by
   intro h' es2 ep2 t2 L2 hk hget g2 hsz2 hl2 hsd2 hlen2 hmem2
   refine xEA (hE0.any (L':=L2) λe he=>(hmem2 e.2).mp ⟨e.1,he⟩) λks2 hE2 hsub2=>?_
   refine xA (hE0.again hE2 hsub2 hnd0 (by rw[hlen2,GC]) (.inr trivial) (λe he=>(hmem2 e.2).mpr ⟨e.1,he⟩) H.fz) λhnd2 hmm2=>?_
   refine h h' (H.set e hk hget (mo':=.set (kk::ks)) ⟨hc,hdd,hsl,es2,ep2,t2,L2,ks2,rfl,g2,hsz2,hl2,hsd2,hE2,hnd2,λk=>?_⟩)
   rw[hmm2,Gi,Gi,hmem]
  have hmem1:∀ e:Int×Gd,(∃ j,(j,e)∈ST.ins L ent)↔∃ j,(j,e)∈ent::L:=λe=>by
   constructor
   ·(intro E9;refine xE E9 λj' hj'=>?_;clear E9);exact⟨j',by rw[Gi];exact(ST.mem_ins hjL).mp hj'⟩
   ·(intro E9;refine xE E9 λj' hj'=>?_;clear E9);exact⟨j',(ST.mem_ins hjL).mpr (by rewrite [Gi] at hj';exact hj')⟩
  have hsame:HI D s.heap (s.heap.update D (Tn es1 t1)):=GB ..
  have htf:t1.tooFull=decide ((L.length+1)*5>=t.mask*3):=by delta SetTable.tooFull;rw[hfill1,hm1]
  rw[htf]
  by_cases q:(L.length+1)*5>=t.mask*3
  .simp only[q,decide_true,WI,Vg,if_true]
   have hcase:(t.mask=7/\L.length=4)\/(t.mask=31/\L.length=18):=by
    rcases g with h7 | h31 | h127
    .left;lia
    .right;lia
    .exfalso;lia
   have hess:es.size=L.length:=hl.size.2
   have hw:ST.Good (sizeAbove (On (es.size+1))-1)/\L.length+1<=sizeAbove (On (es.size+1))-1/\sizeAbove (On (es.size+1))<=128/\(L.length+1)*5<(sizeAbove (On (es.size+1))-1)*3:=by
    rw[hess]
    rcases hcase with ⟨_,q⟩ | ⟨_,q⟩<;>rw[q]<;>unfold ST.Good<;>decide
   refine xAAA hw λw1 w2 w3 w4=>?_;try clear hw
   refine Ga (relay_ok (s:={ s with heap:=s.heap.update D (Tn es1 t1) }) hg1 rfl hlaid1 (by rw[hlen1,hm1];have:=ST.Good.le g;lia) w1 (by rw[hlen1];exact w2) w3 λes2 t2 L2 m2 hl2 hsd2 hlen2 hmem2=>?_)
   refine Gb (fin _ es2 (ep+1+1) t2 L2 (hsame.trans (GB ..)).extBut ?_ (by rw[m2];exact w1) (by rw[hlen2,hlen1,m2];exact w4) hl2 hsd2 (by rw[hlen2,hlen1]) λe=>(hmem2 e).trans (hmem1 e))
   have:=GM (Tn es2 t2) hg1 (by rw[Yt (o:={ o with data:=.set es1 (ep+1) t1 }) es2 t2 rfl];rfl)
   replace this:=(Yt (o:={ o with data:=.set es1 (ep+1) t1 }) es2 t2 rfl) ▸ this;exact this
  .simp only[q,decide_false,WI,Nr,GQ,if_false]
   refine Gb (fin _ es1 (ep+1) t1 _ hsame.extBut hg1 (by rw[hm1];exact g) (by rw[hlen1,hm1];exact Td ‹_›) hlaid1 (by rw[hm1];exact hsnd1) hlen1 hmem1)
 split
 .exact Ga (Jm hx main)
 .exact Ga (Gb main)
theorem call_add {D:Gn} {ks:List (List Int)} {kk:List Int} {v1 v2:Gd} (ho:own D=fm (.set ks)) (hnew:kk∉ks) (hl60:ks.length<=60) :
  CALL w k own (λI=>VR I v1 (.ref D)/\VRs I [v2] [.tup (intL kk)]) (call (.builtin "set.add") [v1,v2]) (λI v own'=>∃ d,VR I v d/\d=.none/\own'=upd own D (.set (kk::ks))) Ψo:=by
 intro A l F I s hA H E9
 show let Q':=_;let E':=_;Gf _ _ _ Q' E' _;intro Q' E'
 refine xA E9 λr1 rs=>?_;clear E9
 cases rs using ft with
 | cons r2 rs =>
 (have E0:=fJ r1;clear r1;subst E0)
 refine zy (VR.key (w:=w) r2) λa ok E5 hok htk=>?_;subst E5
 refine Jv (H.set_ ho) λo es ep t L ks' hg hc Z=>?_
 have hT:s.TypeIs (.ref D) "set" := (iEA _ hg hc)
 refine GX Xi hT PySem.F.entry_set_add ?_ (PySem.F.args_set_add_2 _ _)
 show let Q':=_;let E':=_;Gf _ _ _ Q' E' _;intro Q' E'
 delta Hm.«set.add» TH
 simp only[Y6,bind_assoc]
 unfold TV setAdd
 refine Ga (Gb ?_)
 try dsimp only
 refine Ga (Gb ?_)
 try dsimp only
 refine Ga ?_
 refine GD ?_
 have hu:A.in1.units<NM:=by have:=hA.un;show A.units+1<NM;lia
 refine Ga (gH hu (Kb htk (H.fz _ _ hok)) ?_)
 refine add_ok (s:={ s with toks:=s.toks+(kk.length+1) }) H ho r2 hu hnew hl60 λh' H'=>?_
 show Gf _ _ (ret Value.none) _ _ _
 exact Gb ⟨_,rfl,I,_,.refl I,H',⟨.none,.none,rfl,rfl⟩,⟨rfl,rfl⟩⟩
theorem JH {D:Gn} {ks:List (List Int)} {kk:List Int} {v1 v2:Gd} (ho:own D=fm (.set ks)):PR w k own (λI=>VR I v1 (.tup (intL kk))/\VR I v2 (.ref D)) (Ke .In v1 v2) (λI v=>VR I v (.bool (decide (kk∈ks)))):=by
 intro A l F I s hA H E9
 show let Q':=_;let E':=_;Gf _ _ _ Q' E' _;intro Q' E'
 refine xA E9 λr1 r2=>?_;clear E9
 have E0:=fJ r2;clear r2;subst E0
 refine zy (VR.key (w:=w) r1) λa ok E5 hok htk=>?_;subst E5
 refine Jv (H.set_ ho) λo es ep t L ks' hg hc Z=>?_
 have hT:s.TypeIs (.ref D) "set" := (iEA _ hg hc)
 show Gf _ _ (do return Tb (← contains (.ref D) (.ref a))) _ _ s
 refine Ga ?_
 show let Q':=_;let E':=_;Gf _ _ _ Q' E' _;intro Q' E'
 delta contains
 try with_reducible refine GD ?_
 refine Ga (Nl hT Ox.lookup ?_)
 show Gf _ _ (if (fm (Value.builtin "set.__contains__")==fm Value.none)=Gh then _ else _) _ _ s
 rw[if_neg (by rw[beq_builtin_none];exact Gv)]
 have hu:A.in1.units<NM:=by have:=hA.un;show A.units+1<NM;lia
 refine Ga (wpAny_callSpecialUnlessNone?_slot (name:=oS "__contains__") hT Ox
  (GX Ox hT entry_set_contains ?_ (PySem.F.args_set_contains_2 _ _)))
 delta Hm.«frozenset.__contains__» TH
 simp only[Y6,bind_assoc]
 show let Q':=_;let E':=_;Gf _ _ _ Q' E' _;intro Q' E'
 unfold TV Builtin.Frozenset.withSetAsKey gk
 refine Ga (Gb ?_)
 try dsimp only
 refine Ga (Gb ?_)
 try dsimp only
 refine Ga (wpAny_tryCatch ?_)
 show let Q':=_;let E':=_;Gf _ _ _ Q' E' _;intro Q' E'
 refine GD ?_
 refine Ga (gH hu (Kb htk (H.fz _ _ hok)) ?_)
 refine Ga (find_ok (s:={ s with toks:=s.toks+(kk.length+1) }) H ho (Kb htk (H.fz _ _ hok)) hu λr hr=>?_)
 refine Gb ?_
 show Gf _ _ (ret (Tb r.isSome)) _ _ _
 rw[hr]
 exact Gb (iEA _ rfl (Kj (Gb ⟨I,.refl I,H,.bool _,⟨rfl,rfl⟩⟩)))
theorem p8 {x:Str} {np pos:Pos} (hl:env.kindOf x=fm .globalImplicit) (hx:bltTab.lookup x=fm (.type "set")) (hd:(x==("__debug__" : Str))=Gk:=by exact Hv Gk):EVO w k env ρ (.Call (.Name x np) [] [] pos) (λd own'=>∃ a,d=.ref a/\ρ.own a=fp/\own'=upd ρ.own a (.set [])) Ψo:=by
 show let Θ':=_;let Ψ':=_;EVO _ _ _ _ _ Θ' Ψ';intro Θ' Ψ'
 intro A l F I s hA H L
 show let Q':=_;let E':=_;Gf _ _ _ Q' E' _;intro Q' E'
 refine LL (mPf (fZ hl hx hd A l F I s hA H L trivial) (λfv s1 I1 a1 H1 r1 q1=>?_))
 have E0:=pS r1;clear r1;subst E0
 refine XR ((Args.nil (w:=w) (k:=k) (env:=env) (ρ:=ρ)).noStar pos) (mPf ((Args.nil (w:=w) (k:=k) (env:=env) (ρ:=ρ)).evalArgs pos (.type "set") A l F I1 s1 hA H1 (L.mono a1) trivial) (λar s2 I2 a2 H2 E9 q2=>E9.elim λhkw r2=>?_))
 obtain⟨apos,akw⟩:=ar
 simp only at hkw r2
 subst hkw
 have E0:=VRs.nl r2;clear r2;subst E0
 refine call_set_0 λled=>?_
 exact⟨I2,_,.ref s2.heap.objs.size,a1.trans a2,(H2.push { cls:=.type "set",dict:=fp,data:=.set #[] 0 (.fresh 0 0 led) }).take (mo:=.set []) H2.new (GA _ rfl)
  ⟨rfl,rfl,rfl,#[],0,.fresh 0 0 led,[],[],rfl,.inl rfl,(by show 0*5<7*3;exact lb rfl),⟨rfl,rfl,rfl,List.Pairwise.nil⟩,⟨List.Pairwise.nil,λe h=>(nomatch h),λe h=>(nomatch h)⟩,.nil,WD,λk=>Iff.rfl⟩,.ref _,q1.trans ⟨q2.1,q2.2⟩,_,rfl,H2.new.2.2.1,rfl⟩
end
end
section
variable {h:Kf}
theorem HP.kin (H:HP w l F I own h):∃ K:ON,K.In h/\KOk K:=by
 refine xEA (H.base.frag) λK h1 h2=>?_
 exact iEA K (λa o e=>H.fz a o (h1 a o e)) h2
noncomputable def sltO (C dx:Gn) (vs:List Gd):Obj:={ cls:=.ref C,dict:=fm dx,data:=.plain,slots:=(vs.map fm).toArray }
noncomputable def dctO (el:Array KY) (ep:Nat):Obj:={ cls:=.type "dict",data:=.dict el ep }
theorem HP.inst {S dx C:Gn} {ds:List PV} {es:List (Str×PV)} (H:HP w l F I own h) (e1:own S=fm (.slt C dx ds)) (e2:own dx=fm (.ns es)) :
  ∃ vs el ep,YN h S (sltO C dx vs) C (fm (dctO el ep))/\VRs I vs ds/\Nv el/\el.size<=es.length/\∀ x,match es.lookup x with | some d=>∃ v,Kn el x=fm v/\VR I v d | none=>Kn el x=fp:=by
 refine xEAEA (H.ow S _ e1) λo ho vs E5 r=>?_;subst E5
 refine xEAEEAAA (H.ow dx _ e2) λo2 ho2 el ep E34 hk hz hx=>?_;subst E34
 exact qP vs el ep ⟨ho,rfl,rfl,ho2⟩ r hk hz hx
theorem HP.nod {N:Gn} {ds:List PV} (H:HP w l F I own h) (e1:own N=fm (.nod ds)) :
  ∃ dx vs,YN h N (sltO 40 dx vs) 40 (fm (dctO #[] 0))/\I dx=fm (dctO #[] 0)/\VRs I vs ds:=by
 refine xEAEEAA (H.ow N _ e1) λo ho dx vs E34 hd r=>?_;subst E34
 exact xk dx vs ⟨ho,rfl,rfl,H.fz _ _ hd⟩ hd r
theorem Ju {el:Array KY} {ep:Nat} {name:Str} (hk:Nv el):W.lookIn name (dctO el ep)=fm (Kn el name):=by
 unfold W.lookIn dctO
 dsimp only
 have hany:el.toList.any (·.refKey)=Gk:=by
  rw[YT];intro e he;(refine xEE (hk e (by simpa using he)) λn t q=>?_);simp[OG,q]
 have e:Kn el name=(el.toList.find? (·.key.isStr name)).map (·.val):=by
  unfold Kn findBy;rw[Array.find?_toList]
 rw[e]
 cases q:el.toList.find? (·.key.isStr name) with
 | some en=>rfl
 | none=>rw[hany];rfl
theorem VR.handed {v:Gd} {d:PV} (r:VR I v d) (hd:∀ x,d≠.raw x):W.handedIn v=Gh:=by
 cases r<;>first | rfl | exact absurd rfl (hd _)
theorem own_ns {cd:YH} {el:Array KY} {ep:Nat} {name:Str} (c:cd.hasDict=Gh) (hk:Nv el):Yh cd (fm (dctO el ep)) name=fm (Kn el name) :=
 (if_pos c).trans (Ju hk)
theorem find_own {K:ON} {C:Gn} {od:Option Obj} {name:Str} {cd:YH} {v:Gd} (h1:Vk K C=fm cd) (h2:NB K (.ref C) name=fm fp) (h3:Yh cd od name=fm (fm v)):Vj K C od name=fm (.value v):=by
 delta Vj
 rw[h1,HT,h2,HT]
 show (Yh cd od name).bind _=_
 rw[h3];rfl
theorem ZL {K:ON} {C:Gn} {od:Option Obj} {name:Str} {cd:YH} {a g:Gd} (h1:Vk K C=fm cd) (h2:NB K (.ref C) name=fm (fm a)) (h3:NA K a "__get__" = fm (fm g)) (h4:Vh K a=fm Gh):Vj K C od name=fm (.bind g a):=by
 delta Vj
 rw[h1,HT,h2,HT]
 show (NA K a "__get__").bind _=_
 rw[h3,HT]
 show (Vh K a).bind _=_
 rw[h4];rfl
theorem Z5 {K:ON} {C:Gn} {od:Option Obj} {name:Str} {cd:YH} {a g:Gd} (h1:Vk K C=fm cd) (h2:NB K (.ref C) name=fm (fm a)) (h3:NA K a "__get__" = fm (fm g)) (h4:Vh K a=fm Gk) (h5:Yh cd od name=fm fp) (h6:W.copiedNames.contains name=Gk):Vj K C od name=fm (.bind g a):=by
 delta Vj
 rw[h1,HT,h2,HT]
 show (NA K a "__get__").bind _=_
 rw[h3,HT]
 show (Vh K a).bind _=_
 rw[h4,HT]
 show (Yh cd od name).bind _=_
 rw[h5,HT]
 exact if_neg (by rw[h6];exact Gv)
theorem ZH (K:ON):NB K (HH "member_descriptor") "__get__" = fm (fm (.builtin "member_descriptor.__get__")):=by kernel_rfl
theorem ZX (K:ON):NB K (HH "member_descriptor") "__set__" = fm (fm (.builtin "member_descriptor.__set__")):=by kernel_rfl
theorem fi_fnget (K:ON):NB K (HH "function") "__get__" = fm (fm (.builtin "function.__get__")):=by kernel_rfl
theorem fi_fnset (K:ON):NB K (HH "function") "__set__" = fm fp:=by kernel_rfl
theorem fi_fndel (K:ON):NB K (HH "function") "__delete__" = fm fp:=by kernel_rfl
theorem xe {S dx:Gn} {ds:List PV} {es:List (Str×PV)} {name:Str} {d:PV} {v:Gd} {b:Bool} (e1:own S=fm (.slt 137 dx ds)) (e2:own dx=fm (.ns es)) (hx:es.lookup name=fm d)
  (hf:findTab.lookup (137,name)=fm fp) (hd:∀ x,d≠.raw x):PR w k own (λI=>VR I v (.ref S)) (Wk v name b) (λI r=>VR I r d):=by
 intro A l F I s hA H r
 show let Q':=_;let E':=_;Gf _ _ _ Q' E' _;intro Q' E'
 have E0:=fJ r;clear r;subst E0
 refine xEA (H.kin) λK X ko=>?_
 refine yO (H.inst e1 e2) λvs el ep IA rv hk hz hl=>?_
 have:=hl name
 replace this:=hx ▸ this
 refine xEA this λv hv rd=>?_;try clear this
 refine zF (ko.cls) λcd cd' c1 c2 Z Z=>?_
 exact W.get_value X IA (ko.find 137 _ _ rfl) (v:=v) (find_own c1 (ko.find 137 _ _ hf) ((own_ns c2 hk).trans (congrArg fm hv))) (rd.handed hd) ⟨I,.refl I,H,rd,rfl,rfl⟩
theorem vm {N p:Gn} {ds:List PV} {i:Nat} {name:Str} {d:PV} {v:Gd} {b:Bool} (e1:own N=fm (.nod ds)) (hi:ds[i]? = fm d) (hd:∀ x,d≠.raw x)
  (hf:findTab.lookup (40,name)=fm (fm (.ref p))) (hp:∀ K,KOk K->NQ K p 40=fm i/\Ny K (.ref p)=fm (.type "member_descriptor")):PR w k own (λI=>VR I v (.ref N)) (Wk v name b) (λI r=>VR I r d):=by
 intro A l F I s hA H r
 show let Q':=_;let E':=_;Gf _ _ _ Q' E' _;intro Q' E'
 have E0:=fJ r;clear r;subst E0
 refine xEA (H.kin) λK X ko=>?_
 refine zy (H.nod e1) λdx vs IA Z rv=>?_
 refine xEA (rv.get hi) λv hv rd=>?_
 refine zF (ko.cls) λcd cd' Z Z c1 c2=>?_
 refine xA (hp K ko) λp1 p2=>?_
 have sp:∀ n,NA K (.ref p) n=NB K (.type "member_descriptor") n:=λn=>by delta NA;rw[p2];rfl
 refine W.get_bind X IA (g:=.builtin "member_descriptor.__get__") (a:=.ref p) (ko.find 40 _ _ rfl) (ZL c1 (ko.find 40 _ _ hf) ((sp _).trans (ZH K)) (by delta Vh;rw[sp,ZX])) (ko.find 40 _ _ rfl) ?_
 .refine NY (W.slot_get (s:={ s with toks:=s.toks+1 }) X IA p1 (v:=v) ?_ ?_)
  .show ((vs.map fm).toArray[i]?).join=fm v
   simp[hv]
  .show Gf _ _ (handedOut v) _ _ _
   rw[W.handedOut_of (rd.handed hd)]
   exact Gb ⟨I,.refl I,H,rd,rfl,rfl⟩
theorem zai {M:YA} {A:GZ} {E:Gd->Gg->Prop} {s:Gg} {a:Gn} {el:Array KY} {ep:Nat} {name:Str} {v:Gd} {Q:Unit->Gg->Prop}
  (ho:s.heap.get? a=fm (dctO el ep)) (hk:Nv el)
  (h:∀ h' es' ep',h'.get? a=fm (dctO es' ep')->Nv es'->(∀ x,Kn es' x=if x=name then fm v else Kn el x)->HI a s.heap h'->(Kn el name≠fp->es'.size=el.size)->es'.size<=el.size+1 ->
   Q () { s with heap:=h',toks:=s.toks+1 }):Gf M A (nsSet a name v) Q E s:=by
 have hany:el.any (·.refKey)=Gk:=by
  rw[TX];intro e he;(refine xEE (hk e he) λn t q=>?_);simp[OG,q]
 intro Γ p _
 simp only[nsSet,strHash,Sem.wp_bind',Sem.wp_cmd_ask,Sem.wp_pure',Y0]
 rw[YO M Γ _ p { s with toks:=s.toks+1 } (o:=dctO el ep) _ ho]
 simp only[dctO,YM,Xx,hany,Nr,GQ,if_false,XQ]
 refine⟨by rw[ho];rfl,?_⟩
 have hf:Kn el name=match el.findIdx? λe=>e.key.isStr name with | some i=>el[i]?.map (·.val) | none=>fp:=findBy_of_findIdx? (λn v=>v.isStr n) el name
 cases hi:el.findIdx? (·.key.isStr name) with
 | some i =>
  exact h _ (el.modify i λe=>{ e with val:=v }) ep (by rw[GM _ ho (by simp only[dctO,LB,KI,hi];rfl)];simp only[dctO,LB,KI,hi]) (hk.modify _ _)
   (λx=>findBy_modify (λn v=>v.isStr n) YZ el name x v i hi) (GB ..) (λZ=>by exact Array.size_modify) (by simp)
 | none =>
  replace hf:=hi ▸ hf
  exact h _ (el.push _) (ep+1) (by rw[GM _ ho (by simp only[dctO,LB,KI,hi];rfl)];simp only[dctO,LB,KI,hi];rfl) (hk.push _ _ _ _)
   (λx=>findBy_push (λn v=>v.isStr n) el name x _ _ v (λy=>by
    show (name==y)=decide (y=name)
    by_cases q:y=name
    .subst q;rfl
    .have:¬ name=y:=λe=>q e.symm
     simp[q,this]) hi) (GB ..) (λq=>absurd hf q) (by simp)
theorem ZW {A:GZ} {s:Gg} {K:ON} {x C dx:Gn} {vs:List Gd} {el:Array KY} {ep:Nat} {name:Str} {tk:Tok} {v:Gd} {R:Result->Gg->Prop} (X:K.In s.heap) (IA:YN s.heap x (sltO C dx vs) C (fm (dctO el ep)))
  (hp:Vc K C=Gh) (ht:XN K C name=fm fp) (hh:∃ cd,Vk K C=fm cd/\cd.hasDict=Gh) (hk:Nv el) (hz:el.size<=1000)
  (h:∀ h' el' ep',h'.get? dx=fm (dctO el' ep')->Nv el'->(∀ x,Kn el' x=if x=name then fm v else Kn el x)->HI dx s.heap h'->(Kn el name≠fp->el'.size=el.size)->el'.size<=el.size+1->R (.ok (.ret .none)) { s with heap:=h',toks:=s.toks+1 }) :
  Th (mdl w) A (.call (.builtin "object.__setattr__") ⟨[.ref x,.str name tk,v],[]⟩) R s:=by
 refine W.osa_open X IA hp ht λb=>?_
 show let Q':=_;let E':=_;Gf _ _ _ Q' E' _;intro Q' E'
 refine xEA hh λcd hc hd'=>?_;try clear hh
 obtain⟨hx,hcl,hn,D⟩:=IA
 refine Ga (Gb (Ga (Ga (OX hx (Ga ((W.looks_clsIn X hc).here ?_))))))
 rw[hd']
 refine Gb (a:=fm dx) (Ga (Gb (Ga ?_)))
 refine zai D hk λh' es' ep' g1 g2 g3 g4 g5 g6=>?_
 refine Ga (wpAny_lookBehind g1 (pastItsLine_dict (Gc g6 (HY (Gc hz (lb rfl))))) ?_)
 exact Gb (h h' es' ep' g1 g2 g3 g4 g5 g6)
noncomputable def setN {α:Type} (ds:List α) (i:Nat) (d:α):List α:=ds.take i++d::ds.drop (i+1)
theorem VRs.setN {vs:List Gd} {ds:List PV} {i:Nat} {v:Gd} {d:PV} (r:VRs I vs ds) (rv:VR I v d):VRs I (setN vs i v) (setN ds i d):=(r.take i).append (.cons rv (r.drop (i+1)))
theorem Zy (vs:List Gd) (i:Nat) (v:Gd) (hi:i<=vs.length):((vs.map fm).toArray++gb (i+1-(vs.map fm).toArray.size) fp).setIfInBounds i (fm v)=((setN vs i v).map fm).toArray:=by
 apply Yr
 rw[Array.toList_setIfInBounds,Yc,Array.toList_replicate,Gw,Ge]
 rcases LQ hi with q | rfl
 .rw[show i+1-vs.length=0 by exact Nz.i0 ‹_›]
  simp only[List.replicate_zero,Hl,setN]
  rw[List.set_eq_take_append_cons_drop,if_pos (by simpa using q)]
  simp[NK,LZ]
 .rw[show vs.length+1-vs.length=1 by exact TC vs.length 1]
  simp[setN,List.set_append]
theorem Zz {A:GZ} {s:Gg} {K:ON} {x dx C p i:Nat} {vs:List Gd} {od:Option Obj} {v:Gd} {R:Result->Gg->Prop} (X:K.In s.heap) (IA:YN s.heap x (sltO C dx vs) C od)
  (hp:NQ K p C=fm i) (hi:i<=vs.length) (hi2:i<1000) (h:∀ h',h'.get? x=fm (sltO C dx (setN vs i v))->HI x s.heap h'->R (.ok (.ret .none)) { s with heap:=h' }) :
  Th (mdl w) A (.call (.builtin "member_descriptor.__set__") ⟨[.ref p,.ref x,v],[]⟩) R s:=by
 refine J9 (W.slot_of X hp) λn tn owner behind tb d sl cd ho hc hm hb E5=>?_;subst E5
 obtain⟨hh,g,dr,t,os⟩:=s
 have L0:=IA.type (M:=model prg w)
 have L1:=W.looks_mroIn (M:=model prg w) X hm
 have L2:W.Looks (model prg w) hh (Builtin.Slots.slotNamesOf (.ref C)) cd.slotNames:=(W.looks_clsIn X hc).andThen .now
 have hx:=IA.at_
 dsimp only at ho hx L0 L1
 have f0:=VD (M:=model prg w) ho 0 (v:=.str n tn) rfl
 have f1:=VD (M:=model prg w) ho 1 (v:=owner) rfl
 have f3:=VD (M:=model prg w) ho 3 (v:=.builtin "proto.slot#set") rfl
 have f4:=VD (M:=model prg w) ho 4 (v:=.int behind tb) rfl
 refine Vv Wy.plain W.KF.entry_mset (Wy.check _ _ _ _ _ _ _ _ (iEA _ ho rfl) (W.KF.args_mset _ _ _) ?_)
 unfold Hm.«member_descriptor.__set__» Builtin.Getset_descriptor.descrSet Builtin.Getset_descriptor.descrStoreThrough Builtin.Getset_descriptor.descrCheckInstance Builtin.Getset_descriptor.descrNameAndClass gO
 have f5:W.Looks (model prg w) hh (Builtin.Getset_descriptor.descrItself (.ref p)) [.ref p]:=((OY (part:=fp) ho).andThen .now).andThen (W.Looks.of_pure (by kernel_rfl))
 repeat lk
 refine⟨YG _ (by decide +kernel),Nn W.KF.entry_slotset ?_⟩
 unfold Hm.«proto.slot#set» Builtin.Slots.target
 repeat lk
 rw[if_neg hb]
 refine Gb (Ga ?_)
 delta setSlotAt
 dsimp only
 rw[if_neg (by rw[HJ];lia)]
 refine hY hx (Gb (h _ ?_ (GB ..)))
 rw[GM _ hx (by rfl)]
 congr 1
 show ({ cls:=.ref C,dict:=fm dx,data:=.plain,slots:=_ }:Obj)={ cls:=.ref C,dict:=fm dx,data:=.plain,slots:=_ }
 congr 1
 exact Zy vs _ v hi
noncomputable def xW (es:List (Str×PV)) (x:Str) (d:PV):List (Str×PV):=if (es.lookup x).isSome then es.map (λp=>if p.1=x then (x,d) else p) else es++[(x,d)]
theorem qQ (es:List (Str×PV)) (x y:Str) (d:PV):(xW es x d).lookup y=if y=x then fm d else es.lookup y:=by
 delta xW
 cases q:es.lookup x with
 | none =>
  rw[if_neg (dc rfl)]
  induction es with
  | nil =>
   by_cases e:y=x
   .subst e;rw[if_pos rfl];exact ze
   .rw[if_neg e];exact zb e
  | cons p r ih =>
   obtain⟨n,d'⟩:=p
   by_cases e1:x=n
   .subst e1;replace q:=ze ▸ q;injection q
   .replace q:=zb e1 ▸ q
    rw[Nx]
    by_cases e2:y=n
    .subst e2;rw[ze,ze,if_neg (λe=>e1 e.symm)]
    .rw[zb e2,zb e2];exact ih q
 | some d0 =>
  rw[if_pos (show (fm d0).isSome=Gh from rfl)]
  induction es with
  | nil=>injection q
  | cons p r ih =>
   obtain⟨n,d'⟩:=p
   rw[GF]
   by_cases e1:n=x
   .subst e1
    rw[if_pos rfl]
    by_cases e2:y=n
    .subst e2;rw[ze,if_pos rfl]
    .rw[zb e2,zb e2,if_neg e2]
     by_cases q2:∃ d1,r.lookup n=fm d1
     .refine xE q2 λd1 q2=>?_;try clear q2
      have hh:∀ (r:List (Str×PV)),Hd y (r.map λp=>if p.1=n then (n,d) else p)=r.lookup y:=by
       intro r
       induction r with
       | nil=>rfl
       | cons p r ih =>
        obtain⟨m,dm⟩:=p
        rw[GF]
        by_cases e3:m=n
        .subst e3;rw[if_pos rfl,zb e2,zb e2,ih]
        .rw[if_neg e3]
         by_cases e4:y=m
         .subst e4;rw[ze,ze]
         .rw[zb e4,zb e4,ih]
      exact hh r
     .have hh:∀ (r:List (Str×PV)),Hd y (r.map λp=>if p.1=n then (n,d) else p)=r.lookup y:=by
       intro r
       induction r with
       | nil=>rfl
       | cons p r ih =>
        obtain⟨m,dm⟩:=p
        rw[GF]
        by_cases e3:m=n
        .subst e3;rw[if_pos rfl,zb e2,zb e2,ih]
        .rw[if_neg e3]
         by_cases e4:y=m
         .subst e4;rw[ze,ze]
         .rw[zb e4,zb e4,ih]
      exact hh r
   .rw[if_neg e1]
    replace q:=(zb (λe=>e1 e.symm)) ▸ q
    by_cases e2:y=n
    .subst e2;rw[ze,ze,if_neg e1]
    .rw[zb e2,zb e2];exact ih q
theorem xq {S dx:Gn} {ds:List PV} {es:List (Str×PV)} {name:Str} {d:PV} {v:Gd} (e1:own S=fm (.slt 137 dx ds)) (e2:own dx=fm (.ns es)) (hf:takeTab.lookup (137,name)=fm fp) (hlen:es.length<=1000) :
  CALL w k own (λI=>VR I v d) (hH (.ref S) name v) (λI Z own'=>own'=upd own dx (.ns (xW es name d))) Ψo:=by
 intro A l F I s hA H r
 show let Q':=_;let E':=_;Gf _ _ _ Q' E' _;intro Q' E'
 refine xEA (H.kin) λK X ko=>?_
 refine yO (H.inst e1 e2) λvs el ep IA rv hk hz hl=>?_
 refine zF (ko.cls) λcd cd' c1 c2 Z Z=>?_
 refine W.set_plain X IA (ko.find 137 _ _ rfl) (ZW (s:={ s with toks:=s.toks+1 }) X IA ko.made.2.2.1 (ko.take _ _ _ hf) (iEA cd c1 c2) hk (Gc hz hlen) λh' el' ep' g1 g2 g3 g4 g5 g6=>?_)
 refine⟨I,_,.refl I,H.set e2 g4.extBut g1 (mo':=.ns (xW es name d)) ⟨el',ep',rfl,g2,?_,λx=>?_⟩,rfl,rfl,rfl⟩
 .delta xW
  have:=hl name
  cases q:es.lookup name with
  | some d0 =>
   replace this:=q ▸ this;(refine xEA this λv0 hv0 Z=>?_;try clear this)
   rw[if_pos (show (fm d0).isSome=Gh from rfl),Ge,g5 (by rw[hv0];exact Lo v0)];exact hz
  | none=>rw[if_neg (dc rfl),Gs];exact Gc g6 (HY hz)
 rw[qQ,g3]
 by_cases q:x=name
 .rw[if_pos q,if_pos q];exact iEA v rfl r
 .rw[if_neg q,if_neg q];exact hl x
theorem yt {N p:Gn} {ds:List PV} {i:Nat} {name:Str} {d:PV} {v:Gd} (e1:own N=fm (.nod ds)) (hi:i<=ds.length) (hi2:i<1000)
  (hf:takeTab.lookup (40,name)=fm (fm (.ref p))) (hp:∀ K,KOk K->NQ K p 40=fm i/\Ny K (.ref p)=fm (.type "member_descriptor")) :
  CALL w k own (λI=>VR I v d) (hH (.ref N) name v) (λI Z own'=>own'=upd own N (.nod (setN ds i d))) Ψo:=by
 intro A l F I s hA H r
 show let Q':=_;let E':=_;Gf _ _ _ Q' E' _;intro Q' E'
 refine xEA (H.kin) λK X ko=>?_
 refine zy (H.nod e1) λdx vs IA hdx rv=>?_
 refine xA (hp K ko) λp1 p2=>?_
 refine W.set_plain X IA (ko.find 40 _ _ rfl) (W.osa_descr (s:={ s with toks:=s.toks+1 }) (i := "member_descriptor.__set__") Wy X IA ko.made.2.2.2 (ko.take _ _ _ hf) p2 (Zz (s:={ s with toks:=s.toks+1 }) X IA p1 (by rw[rv.length];exact hi) hi2 λh' g1 g2=>?_))
 exact⟨I,_,.refl I,H.set e1 g2.extBut g1 (mo':=.nod (setN ds i d)) ⟨dx,_,rfl,hdx,rv.setN r⟩,rfl,rfl,rfl⟩
end
section
variable {h:Kf} {Ω:Own->Prop}
theorem f9 {o:Expr} {name:Str} {pos:Pos} {d0 d:PV} (ho:EVd w k env ρ o d0) (hp:∀ v,PR w k ρ.own (λI=>VR I v d0) (Wk v name Gh) (λI r=>VR I r d))
  (hbase:Ht o name env (eval o env)=eval o env:=by rfl):EVd w k env ρ (.Attribute o name pos) d:=λA l F I s hA H L Z =>
 Attribute_any_ (mP (ho A l F I s hA H L trivial) (λv s1 I1 a1 H1 r1 q1=>mP (hp v A l F I1 s1 hA H1 r1) (λr s2 I2 a2 H2 r2 q2=>⟨I2,a1.trans a2,H2,r2,q1.trans q2⟩)))
  (by rw[gQ,hbase])
inductive Rcy {α:Type} (w:K6) (l:List Env) (F I:PH) (env:Env) (loc:List (Str×PV)) (s:Gg) (R:PH->α->Own->Prop) (v:α) (s':Gg):Prop
 | mk (J:PH) (own':Own):Sub I J->Rep w l F J env ⟨loc,own'⟩ s'->R J v own'->Same s s'->Rcy w l F I env loc s R v s'
theorem mK {α:Type} {t:Sem α} {A:GZ} {R:PH->α->Own->Prop} {Q:α->Gg->Prop} {E:Gd->Gg->Prop} {loc:List (Str×PV)} {s s0:Gg} (h:Gf (mdl w) A t (Rcy w l F I env loc s R) E s0) (k:∀ v s' J own',Sub I J->Rep w l F J env ⟨loc,own'⟩ s'->R J v own'->Same s s'->Q v s'):Gf (mdl w) A t Q E s0:=Gm h (λv s' z=>by cases z with | mk J o a H r q=>exact k v s' J o a H r q) λZ Z x=>x
theorem CALL.rep {α:Type} {own:Own} {P:PH->Prop} {t:Sem α} {R:PH->α->Own->Prop} {loc:List (Str×PV)} (h:CALL w k own P t R noO) {A:GZ} {l:List Env} {F I:PH} {s:Gg} (hA:OkA k A l) (X:Rep w l F I env ⟨loc,own⟩ s) (hp:P I) {E:Gd->Gg->Prop} :
  Gf (mdl w) A t (Rcy w l F I env loc s R) E s:=by
 show let Q':=_;let E':=_;Gf _ _ _ Q' E' _;intro Q' E'
 obtain⟨G,H,L,D⟩:=X
 exact Gm (h A l _ I s hA H hp) (λv s' E9=>E9.casesOn λI' o' a H' r q=>⟨I',o',a,⟨G,H',L.mono a,D⟩,r,q⟩) λZ Z E9=>E9.casesOn λZ Z Z Z Z Z Z x=>x.elim
theorem fL {o e:Expr} {name:Str} {p' pos:Pos} (he:EVO w k env ρ e Θ Ψo)
  (hset:∀ d own',Θ d own'->∃ S,EVd w k env ⟨ρ.loc,own'⟩ o (.ref S)/\∀ v,CALL w k own' (λI=>VR I v d) (hH (.ref S) name v) (λZ Z o=>Ω o) noO) (hx:∀ xd o,Ψo xd o->Ψ xd ⟨ρ.loc,o⟩)
  (hs:Lq e (fm (.Attribute o name p')) pos.line env=pure Gk:=by rfl):EX1 w k env ρ (.Assign [.Attribute o name p'] e pos) (λp ρ'=>p=.next/\∃ own',Ω own'/\ρ'=⟨ρ.loc,own'⟩) Ψ:=λA l F I s hA R =>
 plainObj_wpAny_Assign_Attribute (Gm (he.at hA R) (λv s1 E9=>E9.casesOn λI1 o1 d a1 R1 r1 q1 c1=>by
   show let Q':=_;let E':=_;Gf _ _ _ Q' E' _;intro Q' E'
   refine xEA (hset d o1 c1) λS g1 g2=>?_
   refine mA (TD.at g1 hA R1 trivial) (λov s2 I2 a2 R2 r2 q2=>?_)
   have E0:=fJ r2;clear r2;subst E0
   exact mK ((g2 v).rep hA R2 (r1.mono a2)) (λZ s3 I3 o3 a3 R3 c3 q3=>⟨I3,_,.next,a1.trans (a2.trans a3),R3,trivial,q1.trans (q2.trans q3),rfl,o3,c3,rfl⟩))
  λev s1 E9=>E9.casesOn λI1 o1 x a1 R1 q1 c1=>⟨I1,_,x,a1,R1,q1,hx _ _ c1⟩) hs
theorem du {o e:Expr} {name:Str} {p' pos:Pos} {op:XB} {S:Gn} {d1 d2 d:PV} (ho:EVd w k env ρ o (.ref S)) (hg:∀ v,PR w k ρ.own (λI=>VR I v (.ref S)) (Wk v name Gh) (λI r=>VR I r d1)) (he:EVd w k env ρ e d2)
  (hop:∀ v1 v2,PR w k ρ.own (λI=>VR I v1 d1/\VR I v2 d2) (Yv op v1 v2) (λI v=>VR I v d)) (hset:∀ v,CALL w k ρ.own (λI=>VR I v d) (hH (.ref S) name v) (λZ Z o=>Ω o) noO) :
  EX1 w k env ρ (.AugAssign (.Attribute o name p') op e pos) (λp ρ'=>p=.next/\∃ own',Ω own'/\ρ'=⟨ρ.loc,own'⟩) Ψ:=λA l F I s hA R =>
 wpAny_AugAssign_AttributeAny (mA (TD.at ho hA R trivial) (λov s1 I1 a1 R1 r1 q1=>mA (TD.at (hg ov).td hA R1 r1) (λold s2 I2 a2 R2 r2 q2=>mA (TD.at he hA R2 trivial) (λv s3 I3 a3 R3 r3 q3 =>
  mA (TD.at (hop old v).td hA R3 ⟨r2.mono a3,r3⟩) (λnew s4 I4 a4 R4 r4 q4=>by
   (have E0:=fJ r1;clear r1;subst E0)
   exact mK ((hset new).rep hA R4 r4) (λZ s5 I5 o5 a5 R5 c5 q5=>⟨I5,_,.next,a1.trans (a2.trans (a3.trans (a4.trans a5))),R5,trivial,q1.trans (q2.trans (q3.trans (q4.trans q5))),rfl,o5,c5,rfl⟩))))))
theorem qT {A:GZ} {E:Gd->Gg->Prop} {s:Gg} {Q:Gd->Gg->Prop} {pos:Pos} {f:Gn} {o:Obj} {fd:LS} {first:List Gd} {args:List (Bool×Sem Gd)} (hpl:args.any (·.1)=Gk) (ho:o.data=.func fd)
  (h:Gf (mdl w) A (Wl (.ref f) Gh args []) (λa s1=>s1.heap.get? f=fm o/\Gf (mdl w) A (call (.ref f) (first++a.pos) a.kw) Q E s1) E s):Gf (mdl w) A (gl pos (.ref f) first args []) Q E s :=
 Xy (P:=λh=>h.get? f=fm o) (by rw[hpl];rfl) (λh X=>(iEA (.frame) (.inl rfl) ((OY (part:=fp) X).andThen (by rw[ho];exact Xh)))) h
theorem HP.fnO (H:HP w l F I own h) {i:Nat} {f c:Gn} {st:HF} {q:String} {dfl:Gd} (hi:fnTab[i]? = fm (f,st,q,dfl,c)):∃ o fd,I f=fm o/\o.data=.func fd:=by
 obtain⟨⟨o,fd,e,hcls,hdat,_⟩,_⟩:=H.base.fns i f st q dfl c hi
 exact iEEA o fd e hdat
theorem zal {el:Array KY} {ep:Nat} {name:Str} (hk:Nv el) (hn:Kn el name=fp):W.shadowIn (fm (dctO el ep)) name=fm Gk:=by
 delta W.shadowIn
 simp only[Ju hk,hn];rfl
theorem dj {o:Expr} {name:Str} {apos pos:Pos} {es:List Expr} {ds:List PV} {S dx f c:Gn} {sl:List PV} {ns:List (Str×PV)} {i:Nat} {st:HF} {q:String} {dfl:Gd}
  (ho:EVd w k env ρ o (.ref S)) (e1:ρ.own S=fm (.slt 137 dx sl)) (e2:ρ.own dx=fm (.ns ns)) (hn:ns.lookup name=fp) (hf:findTab.lookup (137,name)=fm (fm (.ref f))) (hfn:f∈[36,73,80,87,92,99,106,120,127])
  (hi:fnTab[i]? = fm (f,st,q,dfl,c)) (ha:Args w k env ρ es ds) (hc:∀ vs,CALL w k ρ.own (λI=>VRs I vs (.ref S::ds)) (call (.ref f) vs) (λI v own'=>∃ d,VR I v d/\Θ d own') Ψo)
  (hlen:es.length<30:=by exact lb rfl) (hline:(apos.endLine==pos.line)=Gh:=by rfl) (hbase:Ht o name env (eval o env)=eval o env:=by rfl):EVO w k env ρ (.Call (.Attribute o name apos) es [] pos) Θ Ψo:=by
 intro A l F I s hA H L
 show let Q':=_;let E':=_;Gf _ _ _ Q' E' _;intro Q' E'
 rw[arm_eval_Call,hbase]
 refine Ga (mPf (ho A l F I s hA H L trivial) (λov s1 I1 a1 H1 r1 q1=>?_))
 have E0:=fJ r1;clear r1;subst E0
 refine Ga (Ka ?_)
 have hform:methodCallForm (es.length+([]:List Ou).length) (NP pos (Kw es env)) (Ow pos (Nc [] env))=Gh:=by
  show ((NP pos (Kw es env)).all (λx=>!x.1)&&(Ow pos (Nc [] env)).all (λx=>x.1.isSome)&&decide (es.length+([]:List Ou).length+(if ([]:List Ou).isEmpty then 0 else 1)<30))=Gh
  rw[ha.noStar' pos];exact decide_eq_true hlen
 have hpos:VO Gh o env apos pos=pure pos:=by delta VO;exact if_pos hline
 delta methodCall
 rw[hform]
 refine xEA (H1.kin) λK X ko=>?_
 refine yO (H1.inst e1 e2) λvs el ep IA rv hk hz hl=>?_
 have hno:=hl name
 replace hno:=hn ▸ hno
 refine xEEA (H1.fnO hi) λof fd eo hfd=>?_
 refine Ga (GD (W.method_fn X IA (ko.find 137 _ _ rfl) (ko.find 137 _ _ rfl) (ko.find 137 _ _ hf) (ko.fns f hfn) (zal hk hno) ?_))
 refine Ga (Hh hpos ?_)
 refine qT (o:=of) (fd:=fd) (ha.noStar pos) hfd (mPf (ha.evalArgs pos (.ref f) A l F I1 s1 hA H1 (L.mono a1) trivial) (λar s2 I2 a2 H2 E9 q2=>E9.elim λhkw r2=>⟨H2.fz _ _ (a2 _ _ eo),?_⟩))
 rw[hkw]
 exact Gm (hc (.ref S::ar.pos) A l F I2 s2 hA H2 (.cons (.ref _) r2)) (λv s3 E9=>E9.casesOn λI3 o3 a3 H3 E9 q3=>xEA E9 λd r3 c3=>⟨I3,o3,d,a1.trans (a2.trans a3),H3,r3,q1.trans (q2.trans q3),c3⟩)
  λev s3 E9=>E9.casesOn λI3 o3 x a3 H3 X3 q3 c3=>⟨I3,o3,x,a1.trans (a2.trans a3),H3,X3,q1.trans (q2.trans q3),c3⟩
theorem pr_bound {S dx f:Gn} {sl:List PV} {ns:List (Str×PV)} {name:Str} {v:Gd} {b:Bool} (e1:own S=fm (.slt 137 dx sl)) (e2:own dx=fm (.ns ns)) (hn:ns.lookup name=fp) (hf:findTab.lookup (137,name)=fm (fm (.ref f)))
  (hfn:f∈[36,73,80,87,92,99,106,120,127]) (hcp:W.copiedNames.contains name=Gk):PR w k own (λI=>VR I v (.ref S)) (Wk v name b) (λI r=>VR I r (.ob (Wx (.ref f) (.ref S)))):=by
 intro A l F I s hA H r
 show let Q':=_;let E':=_;Gf _ _ _ Q' E' _;intro Q' E'
 have E0:=fJ r;clear r;subst E0
 refine xEA (H.kin) λK X ko=>?_
 refine yO (H.inst e1 e2) λvs el ep IA rv hk hz hl=>?_
 have hno:=hl name
 replace hno:=hn ▸ hno
 refine zF (ko.cls) λcd cd' c1 c2 Z Z=>?_
 have hty:=ko.fns f hfn
 have sp:∀ n,NA K (.ref f) n=NB K (.type "function") n:=λn=>by delta NA;rw[hty];rfl
 refine W.get_bind X IA (g:=.builtin "function.__get__") (a:=.ref f) (ko.find 137 _ _ rfl) (Z5 c1 (ko.find 137 _ _ hf) ((sp _).trans (fi_fnget K)) (by delta Vh;rw[sp,fi_fnset];show (NA K (.ref f) "__delete__").map _=_;rw[sp,fi_fndel];rfl) ((own_ns c2 hk).trans (congrArg fm hno)) hcp) (ko.find 137 _ _ rfl) ?_
 .refine NY (W.fn_get (s:={ s with toks:=s.toks+1 }) X hty ?_)
  show Gf _ _ (handedOut (.ref s.heap.objs.size)) _ _ _
  exact Gb ⟨_,fA H.new.2.1,H.push_frozen (Wx (.ref f) (.ref S)),.ob (zd ..),rfl,rfl⟩
theorem QD {A:GZ} {E:Gd->Gg->Prop} {s:Gg} {Q:List Gd->Gg->Prop} {v:Gd} {ds:List PV} (H:HP w l F I own s.heap) (r:VR I v (.lst ds)\/VR I v (.tup ds)) (hl:ds.length<=1000)
  (h:∀ vs h',VRs I vs ds->HP w l F I own h'->Q vs { s with heap:=h' }):W.StarOf (mdl w) A E v Q s:=by
 have main:∀ (T:String) (a:Gn) (vs:List Gd) (n:Nat),(T = "list" \/ T = "tuple")->I a=fm { cls:=.type T,data:=.seq vs.toArray n }->VRs I vs ds->W.StarOf (mdl w) A E (.ref a) Q s:=by
  intro T a vs n hT e rr
  have D:=H.fz _ _ e
  have hT':s.TypeIs (.ref a) T:=(iEA _ D rfl)
  have z:Gf (mdl w) A (collect (.ref a)) Q E s:=by
   refine wpAny_collect_seq a hT D rfl rfl (λh' hk=>by simpa using h vs h' rr (H.all hk)) (by rw[Gw,rr.length,HJ];exact Gc ‹_› (lb rfl))
  unfold W.StarOf notIterableAtAll
  show let Q':=_;let E':=_;Gf _ _ _ Q' E' _;intro Q' E'
  rcases hT with rfl | rfl
  .exact Ga (Nl hT' PySem.F.slot_list_iter.lookup (Gb ⟨rfl,z⟩))
  .exact Ga (Nl hT' PySem.F.slot_tuple_iter.lookup (Gb ⟨rfl,z⟩))
 rcases r with r | r
 .cases r using VR.cl with | lst e rr=>exact main "list" _ _ _ (.inl rfl) e rr
 .cases r using dv with | tup e rr=>exact main "tuple" _ _ _ (.inr rfl) e rr
end
noncomputable def DEnt (h:Kf) (d:Gn) (es:Array KY) (ep:Nat):Prop:=∃ o,h.get? d=fm o/\o.ExactDict/\o.data=.dict es ep
theorem DEnt.typ {s:Gg} {d ep:Nat} {es:Array KY} (x:DEnt s.heap d es ep):s.TypeIs (.ref d) "dict" := xEAA x λo h hx Z=>(iEA o h hx.1)
section
variable {s:Gg} {d it i n ep:Nat} {es:Array KY} {e:KY}
theorem Z3 {Q:Gd->Gg->Prop} (hs:(d==VX)=Gk) (hd:DEnt s.heap d es ep)
  (hQ:Q (.ref s.heap.objs.size) { s with heap:=s.heap.push { cls:=.type "dict_keyiterator",data:=.fields #[.ref d,.int 0 0,.int es.size 0,.int ep 0] } }):Gf (mdl w) A (Xs (.ref d)) Q E s:=by
 refine xEAA (id hd) λo ho hx hdat=>?_
 refine Wh hd.typ gU (GX gU hd.typ F.entry_dict_iter ?_ (F.args_dict_iter_1 _))
 show let Q':=_;let E':=_;Gf _ _ _ Q' E' _;intro Q' E'
 delta Hm.«dict.__iter__» Builtin.Dict.dictSlotNone
 refine Ga (Ga (Ol hd.typ (Gb ?_)))
 show Gf _ _ (KS d>>=_) _ _ s
 delta KS
 rw[if_neg (by rw[hs];exact Gv)]
 refine Ga (Gb (Ga (Kk ho hdat (Ga (KZ ho hdat (Ga (GR (Gb ⟨_,rfl,"dict_keyiterator",_,⟨_,GA _ rfl,rfl⟩,KV.lookup,?_⟩))))))))
 exact hQ
theorem Zx {Q:Option Gd->Gg->Prop} (hit:s.heap.IsKeyIter it d i n ep) (hd:DEnt s.heap d es ep) (hn:es.size=n) (he:es[i]? = fm e)
  (hQ:∀ h',h'.IsKeyIter it d (i+1) n ep->HI it s.heap h'->Q (fm e.key) { s with heap:=h' }):Gf (mdl w) A (NZ (.ref it)) Q E s:=by
 refine xEAA (id hit) λo ho hc hf=>?_
 refine xEAA (id hd) λod hod hx hdd=>?_
 obtain⟨hlt,he'⟩:=No.mp he
 delta NZ
 refine Ga (Np (HS (name:=oS "__next__") hit.typeIs KV
  (GX KV hit.typeIs WG ?_ (Wt _))))
 refine Ga (Gb (Ga (Ga (Ga (Nb hit.typeIs (Gb (Ga (N6 ho hf ?_))))))))
 rw[if_neg (show ¬ (Hq "dict_keyiterator" = Gh) by exact dc rfl)]
 show Gf _ _ (if (Hg d==Value.none)=Gh then _ else _) _ _ s
 rw[if_neg (show ¬ ((Hg d==Value.none)=Gh) from Gv)]
 refine Ga (Gb (Ga (Kk hod hdd ?_)))
 rw[if_neg (by rw[hn];simp)]
 refine Ga (Gb (Ga (KZ hod hdd ?_)))
 rw[if_neg (by simp)]
 refine Gb ?_
 (dsimp only;rw[show (if (i:Int)<0 then fp else es[(i:Int).toNat]?)=_ from (if_neg (HQ i)).trans (he)];dsimp only)
 refine Ga (Ga (Nb hit.typeIs (Gb (Ga (YW hit.typeIs ?_)))))
 show Gf _ _ (Tv (.ref it) 1 (LM ((i:Int)+1))>>=_) _ _ s
 refine Ga (HV ho hf (by exact TT [LV (↑n) 0,LV (↑ep) 0].length) ?_)
 have hit':(s.heap.update it (Hp (·.setIfInBounds 1 (LM ((i:Int)+1))))).IsKeyIter it d (i+1) n ep :=
  ⟨_,GM _ ho (TA (K8 hf _)),(VH ..).trans hc,by rw[K8 hf];rfl⟩
 refine Ga (GD (Ga (YW (s:={ s with heap:=s.heap.update it (Hp (·.setIfInBounds 1 (LM ((i:Int)+1)))) }) hit'.typeIs ?_)))
 show Gf _ _ (pure e.key) _ _ _
 exact Gb (Gb (iEA _ rfl (Gb (hQ _ hit' (GB ..)))))
theorem end_keys {Q:Option Gd->Gg->Prop} (hh:A.handled=fp) (hit:s.heap.IsKeyIter it d i n ep) (hd:DEnt s.heap d es ep) (hn:es.size=n) (he:n<=i)
  (hQ:∀ h',Og it s.heap h'->Q fp { s with heap:=h' }):Gf (mdl w) A (NZ (.ref it)) Q E s:=by
 refine xEAA (id hit) λo ho hc hf=>?_
 refine xEAA (id hd) λod hod hx hdd=>?_
 delta NZ
 refine Ga (Np (HS (name:=oS "__next__") hit.typeIs KV
  (GX KV hit.typeIs WG ?_ (Wt _))))
 refine Ga (Gb (Ga (Ga (Ga (Nb hit.typeIs (Gb (Ga (N6 ho hf ?_))))))))
 rw[if_neg (show ¬ (Hq "dict_keyiterator" = Gh) by exact dc rfl)]
 show Gf _ _ (if (Hg d==Value.none)=Gh then _ else _) _ _ s
 rw[if_neg (show ¬ ((Hg d==Value.none)=Gh) from Gv)]
 refine Ga (Gb (Ga (Kk hod hdd ?_)))
 rw[if_neg (by rw[hn];simp)]
 refine Ga (Gb (Ga (KZ hod hdd ?_)))
 rw[if_neg (by simp)]
 refine Gb ?_
 (dsimp only;rw[show (if (i:Int)<0 then fp else es[(i:Int).toNat]?)=_ from (if_neg (HQ i)).trans (Tf (show es.size<=i by exact le_of_eq_of_le hn he))];dsimp only)
 refine Ga (Ga (Nb hit.typeIs (Gb ?_)))
 show Gf _ _ (Tv (.ref it) 0 .none>>=_) _ _ s
 refine Ga (HV ho hf (by exact Va rfl) ?_)
 show Gf _ _ (Xu (.type "StopIteration") []>>=_) _ _ _
 refine Ga ?_
 simp only[Xu,Vt]
 refine Ga (GR ?_ (by size_fits))
 refine Ga (m:=LN _ _) (Hh (a:=Value.none) (by first | rfl | (delta LN;rfl)) ?_)
 refine GR ?_ (by size_fits)
 delta Vs;dsimp only
 refine Ga (Tl ?_)
 rw[show A.in1.handled=fp from hh]
 refine Ga (Gb (Vq ?_))
 refine Ga (Tt (T := "StopIteration") (b:=true) ⟨_,GA _ rfl,rfl⟩ Xv ?_)
 exact Gb (hQ _ (((GB ..).extBut.push _).push _))
theorem Z2 {v:Gn} {Q:Gd->Gg->Prop} (hv:s.heap.IsValuesView v d) (hd:DEnt s.heap d es ep)
  (hQ:Q (.ref s.heap.objs.size) { s with heap:=s.heap.push { cls:=.type "dict_valueiterator",data:=.fields #[.ref d,.int 0 0,.int es.size 0,.int ep 0] } }):Gf (mdl w) A (Xs (.ref v)) Q E s:=by
 refine xEAA (id hv) λov hov hcv hdv=>?_
 refine xEAA (id hd) λo ho hx hdat=>?_
 refine Wh hv.typeIs X9 (GX X9 hv.typeIs F.entry_dict_values_iter ?_ (F.args_dict_values_iter_1 _))
 delta Hm.«dict_values.__iter__» TI Ta
 refine Ga (Gb (Ga (Ga (HD hov hdv (x:=.ref d) rfl (Gb (Ga (Ga (Kk ho hdat (Ga (KZ ho hdat ?_))))))))))
 simp only[show Hq "dict_valueiterator" = Gk by exact Hv Gk,GQ,if_false]
 refine GR (Gb ⟨_,rfl,"dict_valueiterator",_,⟨_,GA _ rfl,rfl⟩,KL.lookup,?_⟩)
 exact hQ
theorem ZF {Q:Option Gd->Gg->Prop} (hit:s.heap.IsValIter it d i n ep) (hd:DEnt s.heap d es ep) (hn:es.size=n) (he:es[i]? = fm e)
  (hQ:∀ h',h'.IsValIter it d (i+1) n ep->HI it s.heap h'->Q (fm e.val) { s with heap:=h' }):Gf (mdl w) A (NZ (.ref it)) Q E s:=by
 refine xEAA (id hit) λo ho hc hf=>?_
 refine xEAA (id hd) λod hod hx hdd=>?_
 obtain⟨hlt,he'⟩:=No.mp he
 delta NZ
 refine Ga (Np (HS (name:=oS "__next__") hit.typeIs KL
  (GX KL hit.typeIs Wd ?_ (V3 _))))
 refine Ga (Gb (Ga (Ga (Ga (Na hit.typeIs (Gb (Ga (N6 ho hf ?_))))))))
 rw[if_neg (show ¬ (Hq "dict_valueiterator" = Gh) by exact dc rfl)]
 show Gf _ _ (if (Hg d==Value.none)=Gh then _ else _) _ _ s
 rw[if_neg (show ¬ ((Hg d==Value.none)=Gh) from Gv)]
 refine Ga (Gb (Ga (Kk hod hdd ?_)))
 rw[if_neg (by rw[hn];simp)]
 refine Ga (Gb (Ga (KZ hod hdd ?_)))
 rw[if_neg (by simp)]
 refine Gb ?_
 (dsimp only;rw[show (if (i:Int)<0 then fp else es[(i:Int).toNat]?)=_ from (if_neg (HQ i)).trans (he)];dsimp only)
 refine Ga (Ga (Na hit.typeIs (Gb (Ga (T8 hit.typeIs ?_)))))
 show Gf _ _ (Tv (.ref it) 1 (LM ((i:Int)+1))>>=_) _ _ s
 refine Ga (HV ho hf (by exact TT [LV (↑n) 0,LV (↑ep) 0].length) ?_)
 have hit':(s.heap.update it (Hp (·.setIfInBounds 1 (LM ((i:Int)+1))))).IsValIter it d (i+1) n ep :=
  ⟨_,GM _ ho (TA (K8 hf _)),(VH ..).trans hc,by rw[K8 hf];rfl⟩
 refine Ga (GD (Ga (T8 (s:={ s with heap:=s.heap.update it (Hp (·.setIfInBounds 1 (LM ((i:Int)+1)))) }) hit'.typeIs ?_)))
 refine Ga (T8 (s:={ s with heap:=s.heap.update it (Hp (·.setIfInBounds 1 (LM ((i:Int)+1)))) }) hit'.typeIs ?_)
 show Gf _ _ (pure e.val) _ _ _
 exact Gb (Gb (iEA _ rfl (Gb (hQ _ hit' (GB ..)))))
theorem end_vals {Q:Option Gd->Gg->Prop} (hh:A.handled=fp) (hit:s.heap.IsValIter it d i n ep) (hd:DEnt s.heap d es ep) (hn:es.size=n) (he:n<=i)
  (hQ:∀ h',Og it s.heap h'->Q fp { s with heap:=h' }):Gf (mdl w) A (NZ (.ref it)) Q E s:=by
 refine xEAA (id hit) λo ho hc hf=>?_
 refine xEAA (id hd) λod hod hx hdd=>?_
 delta NZ
 refine Ga (Np (HS (name:=oS "__next__") hit.typeIs KL
  (GX KL hit.typeIs Wd ?_ (V3 _))))
 refine Ga (Gb (Ga (Ga (Ga (Na hit.typeIs (Gb (Ga (N6 ho hf ?_))))))))
 rw[if_neg (show ¬ (Hq "dict_valueiterator" = Gh) by exact dc rfl)]
 show Gf _ _ (if (Hg d==Value.none)=Gh then _ else _) _ _ s
 rw[if_neg (show ¬ ((Hg d==Value.none)=Gh) from Gv)]
 refine Ga (Gb (Ga (Kk hod hdd ?_)))
 rw[if_neg (by rw[hn];simp)]
 refine Ga (Gb (Ga (KZ hod hdd ?_)))
 rw[if_neg (by simp)]
 refine Gb ?_
 (dsimp only;rw[show (if (i:Int)<0 then fp else es[(i:Int).toNat]?)=_ from (if_neg (HQ i)).trans (Tf (show es.size<=i by exact le_of_eq_of_le hn he))];dsimp only)
 refine Ga (Ga (Na hit.typeIs (Gb ?_)))
 show Gf _ _ (Tv (.ref it) 0 .none>>=_) _ _ s
 refine Ga (HV ho hf (by exact Va rfl) ?_)
 show Gf _ _ (Xu (.type "StopIteration") []>>=_) _ _ _
 refine Ga ?_
 simp only[Xu,Vt]
 refine Ga (GR ?_ (by size_fits))
 refine Ga (m:=LN _ _) (Hh (a:=Value.none) (by first | rfl | (delta LN;rfl)) ?_)
 refine GR ?_ (by size_fits)
 delta Vs;dsimp only
 refine Ga (Tl ?_)
 rw[show A.in1.handled=fp from hh]
 refine Ga (Gb (Vq ?_))
 refine Ga (Tt (T := "StopIteration") (b:=true) ⟨_,GA _ rfl,rfl⟩ Xv ?_)
 exact Gb (hQ _ (((GB ..).extBut.push _).push _))
theorem Zg {v:Gn} {Q:Gd->Gg->Prop} (hv:s.heap.IsItemsView v d) (hd:DEnt s.heap d es ep)
  (hQ:Q (.ref s.heap.objs.size) { s with heap:=s.heap.push { cls:=.type "dict_itemiterator",data:=.fields #[.none,.bool Gk,.ref d,.int 0 0,.int es.size 0,.int ep 0,.none,.none] } }):Gf (mdl w) A (Xs (.ref v)) Q E s:=by
 refine xEAA (id hv) λov hov hcv hdv=>?_
 refine xEAA (id hd) λo ho hx hdat=>?_
 refine Wh hv.typeIs Yp (GX Yp hv.typeIs F.entry_dict_items_iter ?_ (F.args_dict_items_iter_1 _))
 delta Hm.«dict_items.__iter__» TI Ta
 refine Ga (Gb (Ga (Ga (HD hov hdv (x:=.ref d) rfl (Gb (Ga (Ga (Kk ho hdat (Ga (KZ ho hdat ?_))))))))))
 simp only[show Hq "dict_itemiterator" = Gh by exact Hv Gh,if_true]
 refine GR (Gb ⟨_,rfl,"dict_itemiterator",_,⟨_,GA _ rfl,rfl⟩,KO.lookup,?_⟩)
  (by simp only[sizeOk,Builtin.Dict_items.ownedTupleFields,Gw,Gs,GC,V9,HJ];exact NO _ _)
 exact hQ
theorem Zc {ok ov:Gd} {Q:Option Gd->Gg->Prop} (hit:O1 s.heap it d i n ep ok ov) (hd:DEnt s.heap d es ep) (hn:es.size=n) (he:es[i]? = fm e)
  (hQ:∀ h',Yo h' it d (i+1) n ep e.key e.val s.heap.objs.size->h'.get? s.heap.objs.size=fm { cls:=.type "tuple",data:=.seq #[e.key,e.val] }->(∀ b o,b≠it->s.heap.get? b=fm o->h'.get? b=fm o) ->
   Q (fm (.ref s.heap.objs.size)) { s with heap:=h' }):Gf (mdl w) A (NZ (.ref it)) Q E s:=by
 obtain⟨hp,g,dr,tk,os⟩:=s
 refine xEAA (id hd) λod hod hx hdd=>?_
 obtain⟨hlt,he'⟩:=No.mp he
 have hT:Shared.TypeIs ⟨hp,g,dr,tk,os⟩ (.ref it) "dict_itemiterator" := (iEA _ hit rfl)
 delta NZ
 refine Ga (Np (HS (name:=oS "__next__") hT KO
  (GX KO hT Ws ?_ (We _))))
 show let Q':=_;let E':=_;Gf _ _ _ Q' E' _;intro Q' E'
 refine Ga (Gb (Ga (Ga (Ga (LK hT (Gb (Ga (N6 hit rfl ?_))))))))
 rw[if_pos (show Hq "dict_itemiterator" = Gh by exact dc rfl)]
 show Gf _ _ (if (Hg d==Value.none)=Gh then _ else _) _ _ _
 rw[if_neg (show ¬ ((Hg d==Value.none)=Gh) from Gv)]
 refine Ga (Gb (Ga (Kk hod hdd ?_)))
 rw[if_neg (by rw[hn];simp)]
 refine Ga (Gb (Ga (KZ hod hdd ?_)))
 rw[if_neg (by simp)]
 refine Gb ?_
 (dsimp only;rw[show (if (i:Int)<0 then fp else es[(i:Int).toNat]?)=_ from (if_neg (HQ i)).trans (he)];dsimp only)
 show let Q':=_;let E':=_;Gf _ _ _ Q' E' _;intro Q' E'
 refine Ga (Ga (LK hT (Gb (Ga (TN hT ?_)))))
 show Gf _ _ (Tv (.ref it) 3 (LM ((i:Int)+1))>>=_) _ _ ⟨hp,g,dr,tk,os⟩
 refine Ga (NX hit (by exact HC rfl) λh₁ he₁ hs₁=>?_)
 replace hs₁:HI it hp h₁:=hs₁
 replace he₁:O1 h₁ it d (i+1) n ep ok ov:=by
  have q:((i+1:Nat):Int)=(i:Int)+1:=by rfl
  delta O1;rw[q];simpa [LM] using he₁
 have hT₁:Shared.TypeIs ⟨h₁,g,dr,tk,os⟩ (.ref it) "dict_itemiterator" := (iEA _ he₁ rfl)
 refine Ga (GD (Ga (TN hT₁ (Ga (TN hT₁ ?_)))))
 show let Q':=_;let E':=_;Gf _ _ _ Q' E' _;intro Q' E'
 show Gf _ _ (OV (.ref it) 6 e.key e.val) _ _ ⟨h₁,g,dr,tk,os⟩
 delta OV
 refine Ga (Vr ?_)
 have he₂:O1 (h₁.push { cls:=.type "tuple",data:=.seq #[e.key,e.val] }) it d (i+1) n ep ok ov:=GN _ he₁
 revert he₂;refine Mine.gn (h₁.push { cls:=.type "tuple",data:=.seq #[e.key,e.val] }) λh₂ hh₂ he₂=>?_
 have hz₁:h₁.objs.size=hp.objs.size:=hs₁.1
 have hil:it<hp.objs.size:=HU hit
 have ht₂:h₂.get? hp.objs.size=fm { cls:=.type "tuple",data:=.seq #[e.key,e.val] }:=by rw[←hh₂,←hz₁];exact GA _ rfl
 have hk₂:∀ b o,b≠it->hp.get? b=fm o->h₂.get? b=fm o:=λb o hb q=>by rw[←hh₂];exact GN _ (hs₁.extBut b o hb q)
 show Gf _ _ (OH (.ref it)>>=_) _ _ ⟨h₂,g,dr,tk,os⟩
 rw[hz₁]
 clear hh₂ he₁ hs₁ hT₁ hz₁ h₁
 refine Ga ?_
 show let Q':=_;let E':=_;Gf _ _ _ Q' E' _;intro Q' E'
 delta OH
 refine Ga (HD he₂ rfl (x:=.none) rfl (Gb ?_))
 show let Q':=_;let E':=_;Gf _ _ _ Q' E' _;intro Q' E'
 rw[if_pos rfl]
 refine Ga (HD he₂ rfl (x:=ok) rfl (Ga (HD he₂ rfl (x:=ov) rfl ?_)))
 refine Ga (NX he₂ (by exact HC rfl) λh₃ he₃ hs₃=>?_)
 replace hs₃:HI it h₂ h₃:=hs₃
 replace he₃:O1 h₃ it d (i+1) n ep e.key ov:=he₃
 refine Ga (NX he₃ (by exact Nat.lt_add_one (6+1)) λh₄ he₄ hs₄=>?_)
 replace hs₄:HI it h₃ h₄:=hs₄
 replace he₄:O1 h₄ it d (i+1) n ep e.key e.val:=he₄
 refine Ga (NX he₄ (by exact Va rfl) λh₅ he₅ hs₅=>?_)
 replace hs₅:HI it h₄ h₅:=hs₅
 replace he₅:Yo h₅ it d (i+1) n ep e.key e.val hp.objs.size:=he₅
 refine Ga (NX he₅ (by exact TT [Hg d,LV (↑(i+1)) 0,LV (↑n) 0,LV (↑ep) 0,e.key,e.val].length) λh₆ he₆ hs₆=>?_)
 replace hs₆:HI it h₅ h₆:=hs₆
 replace he₆:Yo h₆ it d (i+1) n ep e.key e.val hp.objs.size:=he₆
 have keep:∀ b o,b≠it->h₂.get? b=fm o->h₆.get? b=fm o:=λb o hb q=>hs₆.extBut b o hb (hs₅.extBut b o hb (hs₄.extBut b o hb (hs₃.extBut b o hb q)))
 exact Ga (wpAny_letGo (Gb (Gb ⟨_,rfl,Gb (hQ h₆ he₆ (keep _ _ (LP hil) ht₂) λb o hb q=>keep b o hb (hk₂ b o hb q))⟩)))
theorem ZC {ok ov:Gd} {Q:Option Gd->Gg->Prop} (hh:A.handled=fp) (hit:O1 s.heap it d i n ep ok ov) (hd:DEnt s.heap d es ep) (hn:es.size=n) (he:n<=i)
  (hQ:∀ h',Og it s.heap h'->Q fp { s with heap:=h' }):Gf (mdl w) A (NZ (.ref it)) Q E s:=by
 refine xEAA (id hd) λod hod hx hdd=>?_
 have hT:s.TypeIs (.ref it) "dict_itemiterator" := (iEA _ hit rfl)
 delta NZ
 refine Ga (Np (HS (name:=oS "__next__") hT KO
  (GX KO hT Ws ?_ (We _))))
 show let Q':=_;let E':=_;Gf _ _ _ Q' E' _;intro Q' E'
 refine Ga (Gb (Ga (Ga (Ga (LK hT (Gb (Ga (N6 hit rfl ?_))))))))
 rw[if_pos (show Hq "dict_itemiterator" = Gh by exact dc rfl)]
 show Gf _ _ (if (Hg d==Value.none)=Gh then _ else _) _ _ s
 rw[if_neg (show ¬ ((Hg d==Value.none)=Gh) from Gv)]
 refine Ga (Gb (Ga (Kk hod hdd ?_)))
 rw[if_neg (by rw[hn];simp)]
 refine Ga (Gb (Ga (KZ hod hdd ?_)))
 rw[if_neg (by simp)]
 refine Gb ?_
 (dsimp only;rw[show (if (i:Int)<0 then fp else es[(i:Int).toNat]?)=_ from (if_neg (HQ i)).trans (Tf (show es.size<=i by exact le_of_eq_of_le hn he))];dsimp only)
 refine Ga (Ga (LK hT (Gb ?_)))
 show Gf _ _ (Tv (.ref it) 2 .none>>=_) _ _ s
 refine Ga (HV hit rfl (by exact HC rfl) ?_)
 show Gf _ _ (Xu (.type "StopIteration") []>>=_) _ _ _
 refine Ga ?_
 simp only[Xu,Vt]
 refine Ga (GR ?_ (by size_fits))
 refine Ga (m:=LN _ _) (Hh (a:=Value.none) (by first | rfl | (delta LN;rfl)) ?_)
 refine GR ?_ (by size_fits)
 delta Vs;dsimp only
 refine Ga (Tl ?_)
 rw[show A.in1.handled=fp from hh]
 refine Ga (Gb (Vq ?_))
 refine Ga (Tt (T := "StopIteration") (b:=true) ⟨_,GA _ rfl,rfl⟩ Xv ?_)
 exact Gb (hQ _ (((GB ..).extBut.push _).push _))
end
section
variable {h:Kf} {scope:Xz} {caps:List (Str×PV)}
noncomputable def Qc (D:Gn):Obj:={ cls:=.type "dict_items",data:=.fields #[.ref D] }
noncomputable def Jf (D:Gn):Obj:={ cls:=.type "dict_values",data:=.fields #[.ref D] }
noncomputable abbrev itO (d:Gn) (i n ep:Nat) (ok ov:Gd):Obj:={ cls:=.type "dict_itemiterator",dict:=fp,data:=.fields #[.none,.bool Gk,.ref d,.int i 0,.int n 0,.int ep 0,ok,ov],slots := #[] }
theorem HP.dent {D:Gn} {es:DE} {ep:Nat} (H:HP w l F I own h) (e:own D=fm (.dcx es ep)):∃ el xs,DEnt h D el ep/\el.toList=xs.map (N0 (tk w))/\Ents I xs es/\(xs.map (·.1)).Nodup:=by
 refine uB (H.ow D _ e) λo ho hx el xs h1 h2 h3 h4=>?_
 exact vn el xs ⟨o,ho,hx,h1⟩ h2 h4 h3
theorem Itb.keys {D:Gn} {es:DE} {ep:Nat} (hb:k.b=Gh):Itb w k (λown=>own D=fm (.dcx es ep)) (.ref D) (es.map λp=>.tup (intL p.1)):=by
 intro A l F I own s v hA H hc r
 show let Q':=_;let E':=_;Gf _ _ _ Q' E' _;intro Q' E'
 have E0:=fJ r;clear r;subst E0
 refine zF (H.dent hc) λel xs hd hl hE hk=>?_
 have hn:el.size=es.length:=by rw[←GY,hl,Ge,hE.length]
 refine Z3 (H.notMods hc) hd ?_
 rw[hn]
 refine⟨s.heap.objs.size,_,I,λZ=>True,λi o=>o.cls=.type "dict_keyiterator" /\ o.data=.fields #[.ref D,.int i 0,.int es.length 0,.int ep 0],rfl,.refl I,H.push _,H.new,GA _ rfl,⟨rfl,rfl⟩,di,trivial,?_,⟨rfl,rfl⟩⟩
 refine Mine.gm (s.heap.objs.size) λit=>?_
 refine { nf:=?_,nd:=?_,item:=?_,done:=?_,self:=?_,tup:=?_ }
 ·(intro i o E9;refine xA E9 λh1 Z=>?_;clear E9);rw[h1];exact dc rfl
 ·(intro i o E9;refine xA E9 λZ h1=>?_;clear E9);exact⟨λZ Z q=>(nomatch h1.symm.trans q),λZ q=>(nomatch h1.symm.trans q)⟩
 .intro A l F I own s i d o hA H hc Li e hat hd
  refine zF (H.dent hc.2) λel xs hd2 hl hE hk=>?_
  have hn:el.size=es.length:=by rw[←GY,hl,Ge,hE.length]
  replace hd:=Gj (Gq (Gx)) hd;rewrite [Gz] at hd
  obtain⟨⟨ks,d0⟩,hd,rfl⟩:=hd
  refine zy (hE.get hd) λa v hxs rk rv=>?_
  have hel:el[i]? = fm (N0 (tk w) (ks,a,v)):=by
   rw[←Kh,hl,Gx,hxs];rfl
  refine Zx (iEAA o e hat.1 hat.2) hd2 hn hel λh' E9 hs=>xEAA E9 λo' e' h1 h2=>?_
  exact⟨.ref a,o',I,rfl,.refl I,H.at_loose Li hs.extBut,Li,rk,e',⟨h1,h2⟩,⟨rfl,rfl⟩⟩
 .intro A l F I own s o hA H hc Li e hat
  refine zF (H.dent hc.2) λel xs hd2 hl hE hk=>?_
  have hn:el.size=es.length:=by rw[←GY,hl,Ge,hE.length]
  rewrite [Ge] at hat
  exact end_keys (hA.hd hb) (iEAA o e hat.1 hat.2) hd2 hn (GI _) λh' hs=>⟨rfl,H.at_loose Li hs,⟨rfl,rfl⟩⟩
 .intro A l F I own s o hA H Li e hat
  exact wpAny_pyIter_keyiter (i:=0) (iEAA o e hat.1 hat.2) ⟨rfl,rfl⟩
 .intro A s i o v tgt e hat Q E hq
  exact yM e hat.1 (Hv Gk) hq
theorem Aq {D:Gn} {es:DE} {ep:Nat} (hb:k.b=Gh):Itb w k (λown=>own D=fm (.dcx es ep)) (.ob (Jf D)) (es.map (·.2)):=by
 intro A l F I own s v hA H hc r
 show let Q':=_;let E':=_;Gf _ _ _ Q' E' _;intro Q' E'
 cases r using Ab with
 | @ob av eav =>
 have hv:s.heap.IsValuesView av D:=(iEAA _ (H.fz _ _ eav) rfl rfl)
 refine zF (H.dent hc) λel xs hd hl hE hk=>?_
 have hn:el.size=es.length:=by rw[←GY,hl,Ge,hE.length]
 refine Z2 hv hd ?_
 rw[hn]
 refine⟨s.heap.objs.size,_,I,λZ=>True,λi o=>o.cls=.type "dict_valueiterator" /\ o.data=.fields #[.ref D,.int i 0,.int es.length 0,.int ep 0],rfl,.refl I,H.push _,H.new,GA _ rfl,⟨rfl,rfl⟩,di,trivial,?_,⟨rfl,rfl⟩⟩
 refine Mine.gm (s.heap.objs.size) λit=>?_
 refine { nf:=?_,nd:=?_,item:=?_,done:=?_,self:=?_,tup:=?_ }
 ·(intro i o E9;refine xA E9 λh1 Z=>?_;clear E9);rw[h1];exact dc rfl
 ·(intro i o E9;refine xA E9 λZ h1=>?_;clear E9);exact⟨λZ Z q=>(nomatch h1.symm.trans q),λZ q=>(nomatch h1.symm.trans q)⟩
 .intro A l F I own s i d o hA H hc Li e hat hd
  refine zF (H.dent hc.2) λel xs hd2 hl hE hk=>?_
  have hn:el.size=es.length:=by rw[←GY,hl,Ge,hE.length]
  replace hd:=Gj (Gq (Gx)) hd;rewrite [Gz] at hd
  obtain⟨⟨ks,d0⟩,hd,rfl⟩:=hd
  refine zy (hE.get hd) λa v hxs rk rv=>?_
  have hel:el[i]? = fm (N0 (tk w) (ks,a,v)):=by
   rw[←Kh,hl,Gx,hxs];rfl
  refine ZF (iEAA o e hat.1 hat.2) hd2 hn hel λh' E9 hs=>xEAA E9 λo' e' h1 h2=>?_
  exact⟨v,o',I,rfl,.refl I,H.at_loose Li hs.extBut,Li,rv,e',⟨h1,h2⟩,⟨rfl,rfl⟩⟩
 .intro A l F I own s o hA H hc Li e hat
  refine zF (H.dent hc.2) λel xs hd2 hl hE hk=>?_
  have hn:el.size=es.length:=by rw[←GY,hl,Ge,hE.length]
  rewrite [Ge] at hat
  exact end_vals (hA.hd hb) (iEAA o e hat.1 hat.2) hd2 hn (GI _) λh' hs=>⟨rfl,H.at_loose Li hs,⟨rfl,rfl⟩⟩
 .intro A l F I own s o hA H Li e hat
  exact wpAny_pyIter_valiter (i:=0) (iEAA o e hat.1 hat.2) ⟨rfl,rfl⟩
 .intro A s i o v tgt e hat Q E hq
  exact yM e hat.1 (Hv Gk) hq
theorem pE {x y:Str} {px py tp pos:Pos} {c:Nat} {iter:Expr} {body orelse:List HF} {D:Gn} {ds:DE} {ep:Nat} (hb:k.b=Gh) (hi:EVd w k env ρ iter (.ob (Qc D))) (hl:Nm env x) (hl2:Nm env y) (J:Nat->PSt->Prop) (hJ:J 0 ρ)
  (hCO:∀ i ρ',J i ρ'->ρ'.own D=fm (.dcx ds ep))
  (hbody:∀ i ks d ρ',ds[i]? = fm (ks,d)->J i ρ'->EX w k env ((ρ'.set x (.tup (intL ks))).set y d) body (λp ρ''=>match p with | .next | .cont=>J (i+1) ρ'' | .brk=>Φ .next ρ'' | .ret d=>Φ (.ret d) ρ'') Ψ)
  (hfin:∀ ρ',J ds.length ρ'->EX w k env ρ' orelse Φ Ψ) (hs:∀ x,Kl iter env x=pure x:=by intro _;rfl):EX1 w k env ρ (.For (.Tuple [.Name x px,.Name y py] c tp) iter body orelse pos) Φ Ψ:=by
 intro A l F I s hA R
 show let Q':=_;let E':=_;Gf _ _ _ Q' E' _;intro Q' E'
 refine wpAny_For (mA (hi.at hA R trivial) (λv s1 I1 a1 R1 r1 q1=>?_)) hs
 show let Q':=_;let E':=_;Gf _ _ _ Q' E' _;intro Q' E'
 obtain⟨G1,H1,L1,D1⟩:=R1
 cases r1 using Ab with
 | @ob av eav =>
 have hv:s1.heap.IsItemsView av D:=(iEAA _ (H1.fz _ _ eav) rfl rfl)
 refine zF (H1.dent (hCO 0 ρ hJ)) λel0 xs0 hd0 hl0 hE0 hk0=>?_
 have hn0:el0.size=ds.length:=by rw[←GY,hl0,Ge,hE0.length]
 refine Zg hv hd0 ?_
 have Li:=H1.new
 have H2:HP w (env::l) (uni F G1) I1 ρ.own (s1.heap.push (itO D 0 ds.length ep .none .none)):=H1.push _
 have eit:(s1.heap.push (itO D 0 ds.length ep .none .none)).get? s1.heap.objs.size=fm (itO D 0 ds.length ep .none .none):=GA _ rfl
 rw[hn0]
 show Th _ _ _ _ { s1 with heap:=s1.heap.push (itO D 0 ds.length ep .none .none) }
 revert Li eit;refine Mine.gm (s1.heap.objs.size) λit Li eit=>?_
 generalize s1.heap.push (itO D 0 ds.length ep .none .none)=hp2 at H2 eit ⊢
 have up:∀ {I1:PH} {s1 s2:Gg} {ev:Gd},Sub I I1->Same s s1->XP w l F I1 env s1 Ψ ev s2->XP w l F I env s Ψ ev s2:=λa q E9=>E9.casesOn λI' ρ' x b X q' c=>⟨I',ρ',x,a.trans b,X,q.trans q',c⟩
 have hFit:F it=fp:=by
  have:=Li.1
  unfold uni at this
  split at this
  .injection this
  .exact this
 refine gB (λn s3=>∃ i I3 ρ3 G3 ok ov,n=ds.length-i/\i<=ds.length/\Sub I I3/\HP w (env::l) (uni F G3) I3 ρ3.own s3.heap/\Loc I3 env ρ3.loc G3/\(∀ a o,G3 a=fm o->F a=fp)/\Loose (uni F G3) I3 ρ3.own it/\s3.heap.get? it=fm (itO D i ds.length ep ok ov)/\J i ρ3/\Same s s3) ?_ ds.length
  (jg 0 I1 ρ G1 (.none) (.none) rfl (GU _) a1 H2 L1 D1 Li eit hJ ⟨q1.1,q1.2⟩)
 intro n s3 E9;refine u8 E9 λi I3 ρ3 G3 ok ov hn hile a3 H3 L3 D3 Li3 e3 j3 q3=>?_;clear E9
 show let Q':=_;let E':=_;Gf _ _ _ Q' E' _;intro Q' E'
 refine zF (H3.dent (hCO _ _ j3)) λel xs hd3 hl3 hE3 hk3=>?_
 have hn3:el.size=ds.length:=by rw[←GY,hl3,Ge,hE3.length]
 cases hd:ds[i]? with
 | none =>
  have hil:i=ds.length:=by have:=G0.mp hd;exact Op hile this
  subst hil
  refine ZC (hA.hd hb) e3 hd3 hn3 (GI _) λh4 hs4=>?_
  have H4:=H3.at_loose Li3 hs4
  exact fQ (Ψ:=Ψ) hA.fr hA.fr (Gm (hfin ρ3 j3 A l F I3 { s3 with heap:=h4 } hA ⟨G3,H4,L3,D3⟩) (λf s5 E9=>E9.casesOn λI5 ρ5 p a5 R5 r5 q5 c5=>⟨I5,ρ5,p,a3.trans a5,R5,r5,q3.trans ⟨q5.1,q5.2⟩,c5⟩) λev s5 x=>up (s1:={ s3 with heap:=h4 }) a3 ⟨q3.1,q3.2⟩ x)
 | some d1 =>
  have hlt:i<ds.length:=(GK.mp hd).1
  obtain⟨ks,d⟩:=d1
  refine zy (hE3.get hd) λa v hxs rk rv=>?_
  have hel:el[i]? = fm (N0 (tk w) (ks,a,v)):=by
   rw[←Kh,hl3,Gx,hxs];rfl
  refine Zc e3 hd3 hn3 hel λh4 e4 t4 k4=>?_
  have H4':HP w (env::l) (uni F G3) I3 ρ3.own h4:=H3.keep λb o hb q=>k4 b o (Li3.not hb) q
  have Lt:Loose (uni F G3) I3 ρ3.own s3.heap.objs.size:=H3.new
  have hit4:it≠s3.heap.objs.size:=HZ (HU e3)
  refine wpAny_letOwnedTupleGo_items e4 λh4b e4b s4b=>?_
  show let Q':=_;let E':=_;Gf _ _ _ Q' E' _;intro Q' E'
  have H4b:HP w (env::l) (uni F G3) I3 ρ3.own h4b:=H4'.at_loose Li3 s4b.extBut
  have t4b:h4b.get? s3.heap.objs.size=fm { cls:=.type "tuple",data:=.seq #[.ref a,v] }:=s4b.extBut _ _ (Hk hit4) t4
  have ht:h4b.IsTuple s3.heap.objs.size #[.ref a,v]:=(zj _ t4b rfl 0 rfl)
  refine gM (s:={ s3 with heap:=h4b }) (hA.hd hb) ht rfl rfl λh5 hs5=>?_
  have H5:HP w (env::l) (uni F G3) I3 ρ3.own h5:=H4b.at_loose H4b.new hs5
  have e5:h5.get? it=fm (itO D (i+1) ds.length ep (.ref a) v):=hs5 _ _ (HZ (HU e4b)) e4b
  have R4:Rep w (env::l) (upd F it (itO D (i+1) ds.length ep (.ref a) v)) I3 env ρ3 { s3 with heap:=h5 }:=Rep.hide H5 L3 D3 Li3 e5
  show Gf _ _ (do holding [v] (assign (.Name x px) env (.ref a));(do holding [] (assign (.Name y py) env v);pure ())) _ _ _
  refine Ga (GD (KD (R4.store hl rk λs5 R5 q5=>?_)))
  refine Ga (GD (KD (Rep.store (ρ:=ρ3.set x (.tup (intL ks))) R5 hl2 rv λs6 R6 q6=>Gb ?_)))
  show let Q':=_;let E':=_;Gf _ _ _ Q' E' _;intro Q' E'
  generalize hoit:itO D (i+1) ds.length ep (.ref a) v=o4 at R6 e5
  have hnf:o4.cls≠.type "frame" := by rw[←hoit];show HH "dict_itemiterator" ≠ _;exact dc rfl
  have q56:Same s3 s6:=⟨q6.1.trans q5.1,q6.2.trans q5.2⟩
  have hX:∀ ev s7,XP w l (upd F it o4) I3 env s6 Ψ ev s7->XP w l F I env s Ψ ev s7:=by
   rintro ev s7 ⟨I',ρ',x,b,⟨G',H',L',D',X'⟩,q',c⟩
   have hG':G' it=fp:=by
    cases q:G' it with
    | none=>rfl
    | some y=>have:=D' _ _ q;rewrite [zd] at this;injection this
   rw[xH hG'] at H' X'
   have hu:uni F G' it=fp:=by unfold uni;rw[hG'];exact hFit
   refine xAA (H'.show hu hnf) λH'' Z Z=>?_
   refine⟨I',ρ',x,a3.trans b,⟨G',H'',L',λa oa ha=>?_,?_⟩,q3.trans (q56.trans q'),c⟩
   .have:=D' a oa ha
    rewrite [zc _ _ (by rintro rfl;rw[hG'] at ha;cases ha)] at this;exact this
   .obtain⟨e,oe,vs,h1,h2,h3,h4,h5,h6,h7,hctx,h8⟩:=X'
    have lo:∀ a,Loose (upd (uni F G') it o4) I' ρ'.own a->Loose (uni F G') I' ρ'.own a:=λa E9=>E9.elim λx1 x2=>⟨by
     have q:a≠it:=by rintro rfl;rewrite [zd] at x1;injection x1
     replace x1:=Gj (Gq (zc _ _ q)) x1;exact x1,x2⟩
    refine⟨e,oe,vs,h1,lo e h2,h3,h4,h5,h6,h7,hctx,?_⟩
    rcases h8 with h8 | ⟨T,oT,ts,y1,y2,y3,y4,y5,y6⟩
    .exact .inl h8
    .exact .inr ⟨T,oT,ts,y1,lo T y2,y3,y4,y5,y6⟩
  refine fQ (Ψ:=Ψ) hA.fr hA.fr (Gm (hbody i ks d ρ3 hd j3 A l (upd F it o4) I3 s6 hA R6) (λf s7 E9=>E9.casesOn λI6 ρ6 p a6 R6 r6 q6 c6=>?_) λev s7 x=>hX ev s7 x)
  refine xm (R6.show hFit hnf) λG6 H6 L6 D6 Li6 e6=>?_
  have a36:=a3.trans a6
  have q36:=q3.trans (q56.trans q6)
  cases f<;>cases p<;>first | exact r6.elim | skip
  .exact⟨ds.length-(i+1),by exact pB ‹_› ‹_›,i+1,I6,ρ6,G6,.ref a,v,rfl,by exact Hi ‹_›,a36,H6,L6,D6,Li6,by rw[hoit];exact e6,c6,q36⟩
  .exact⟨I6,ρ6,.next,a36,⟨G6,H6,L6,D6⟩,trivial,q36,c6⟩
  .exact⟨ds.length-(i+1),by exact pB ‹_› ‹_›,i+1,I6,ρ6,G6,.ref a,v,rfl,by exact Hi ‹_›,a36,H6,L6,D6,Li6,by rw[hoit];exact e6,c6,q36⟩
  .exact⟨I6,ρ6,_,a36,⟨G6,H6,L6,D6⟩,r6,q36,c6⟩
end
section
variable {loc caps:List (Str×PV)} {s:Gg} {scope:Xz}
theorem Ar {elt iter:Expr} {x:Str} {px:Pos} {ifs:List Expr} {rest:List Ov} {pos:Pos} {d0:PV} {ds res:List PV} {CO:Own->Prop} (caps:List (Str×PV))
  (hi:EVd w k env ρ iter d0) (hI:Itb w k CO d0 ds) (hCO:CO ρ.own) (hkind:scope.kind=.function) (hnd:(scope.names.map (·.1)).Nodup)
  (hfr:∀ y∈scope.names,y.2=.free->env.kindOf y.1=fm .cell) (hcap:∀ y d,caps.lookup y=fm d->ρ.loc.lookup y=fm d/\scope.names.lookup y=fm .free)
  (loop:CLoop w k (.ListComp elt (⟨.Name x px,iter,ifs,0⟩::rest) scope pos) scope caps ρ.own CO ds res) (hs:∀ x,Kl iter env x=pure x:=by intro _;rfl) :
  EVO w k env ρ (.ListComp elt (⟨.Name x px,iter,ifs,0⟩::rest) scope pos) (λd own'=>∃ a,d=.ref a/\ρ.own a=fp/\own'=upd ρ.own a (.lst res)) Ψo:=by
 show let Θ':=_;let Ψ':=_;EVO _ _ _ _ _ Θ' Ψ';intro Θ' Ψ'
 intro A l F I s hA H L
 show let Q':=_;let E':=_;Gf _ _ _ Q' E' _;intro Q' E'
 rw[eval_ListComp]
 refine jr hi hI hCO hkind hnd hfr hcap loop hs hA H L λs' I' D C oC vs n a H' LD eD hv hne LC gC Z hm q=>?_
 obtain⟨m,hm⟩:=hm
 have H2:=H'.take (mo:=.lst res) LD eD (iEEA vs n rfl hv)
 have LC2:Loose F I' (upd ρ.own D (.lst res)) C:=⟨LC.1,LC.2.1,by rw[zc _ _ hne];exact LC.2.2.1,LC.2.2.2⟩
 exact iEA m hm (λh' hsb=>⟨I',_,.ref D,a,H2.at_loose LC2 hsb.extBut,.ref D,⟨q.1,q.2⟩,D,rfl,LD.2.2.1,rfl⟩)
noncomputable def xG:PV->Option Bool
 | .none=>fm Gh
 | .raw _=>fp
 | _=>fm Gk
theorem VR.isNone {v:Gd} {d:PV} {b:Bool} (r:VR I v d) (h:xG d=fm b):(v==.none)=b:=by
 cases r<;>injection h<;>rfl
theorem pr_is {d:PV} {b:Bool} {v1 v2:Gd} (h:xG d=fm b):PR w k own (λI=>VR I v1 d/\VR I v2 .none) (Ke .Is v1 v2) (λI v=>VR I v (.bool b)):=by
 intro A l F I s hA H ⟨r1,r2⟩
 have E0:=pJ r2;clear r2;subst E0
 have:=r1.isNone h
 show Gf _ A (do return Tb (← isSame v1 Value.none)) _ _ s
 refine Ga (Hh (isSame_none v1) (Gb ?_))
 rw[this];exact⟨I,.refl I,H,.bool _,⟨rfl,rfl⟩⟩
theorem pr_isnot {d:PV} {b:Bool} {v1 v2:Gd} (h:xG d=fm b):PR w k own (λI=>VR I v1 d/\VR I v2 .none) (Ke .IsNot v1 v2) (λI v=>VR I v (.bool (!b))):=by
 intro A l F I s hA H ⟨r1,r2⟩
 have E0:=pJ r2;clear r2;subst E0
 have:=r1.isNone h
 show Gf _ A (do return Tb (!(← isSame v1 Value.none))) _ _ s
 refine Ga (Hh (isSame_none v1) (Gb ?_))
 rw[this];exact⟨I,.refl I,H,.bool _,⟨rfl,rfl⟩⟩
theorem TDb.is {e:Expr} {pos cp:Pos} {c:Nat} {d:PV} {b:Bool} (he:EVd w k env ρ e d) (h:xG d=fm b):TDb w k env ρ (.Compare e [.Is] [.Constant .none c cp] pos) b :=
 fE he EVd.none (λv1 v2=>pr_is h)
theorem dU {e:Expr} {pos cp:Pos} {c:Nat} {d:PV} {b:Bool} (he:EVd w k env ρ e d) (h:xG d=fm b):TDb w k env ρ (.Compare e [.IsNot] [.Constant .none c cp] pos) (!b) :=
 fE he EVd.none (λv1 v2=>pr_isnot h)
theorem pA {e:Expr} {x:Str} {px pos cp wp:Pos} {c:Nat} {d:PV} {b:Bool} (he:EVd w k env ρ e d) (h:xG d=fm b) (hl:Nm env x) :
  BX w k env ρ (.Compare (.NamedExpr (.Name x px) e wp) [.Is] [.Constant .none c cp] pos) (λb' ρ'=>b'=b/\ρ'=ρ.set x d) Ψ:=λA l F I s hA R =>
 T7 (wpAny_NamedExpr (mA (TD.at he hA R trivial) (λv1 s1 I1 a1 R1 r1 q1 =>
  KD (R1.store hl r1 λs2 R2 q2 =>
   mA (TD.at (EVd.none (ρ:=ρ.set x d)) hA R2 trivial) (λv2 s3 I3 a3 R3 r3 q3 =>
    mA (TD.at (pr_is (v1:=v1) (v2:=v2) h).td hA R3 ⟨r1.mono a3,r3⟩) (λv s4 I4 a4 R4 r4 q4=>by
     (have E0:=dX r4;clear r4;subst E0);exact Kj ⟨I4,_,a1.trans (a3.trans a4),R4,q1.trans (q2.trans (q3.trans q4)),rfl,rfl⟩)))))) (by with_unfolding_all rfl)
theorem pN {test:Expr} {body orelse:List HF} {pos:Pos} {Bt:Bool->PSt->Prop} (ht:BX w k env ρ test Bt Ψ) (h1:∀ ρ',Bt Gh ρ'->EX w k env ρ' body Φ Ψ) (h2:∀ ρ',Bt Gk ρ'->EX w k env ρ' orelse Φ Ψ):EX1 w k env ρ (.If test body orelse pos) Φ Ψ :=
 λA l F I s hA R=>wpAny_If (Gm (ht A l F I s hA R) (λv s1 E9=>E9.casesOn λI1 ρ1 a1 R1 q1 c1=>by
  cases v with
  | true=>exact Gm (h1 ρ1 c1 A l F I1 s1 hA R1) (λf s2 E9=>E9.casesOn λI2 ρ2 p a2 R2 r2 q2 c2=>⟨I2,ρ2,p,a1.trans a2,R2,r2,q1.trans q2,c2⟩) λf s2 E9=>E9.casesOn λI2 ρ2 x a2 R2 q2 c2=>⟨I2,ρ2,x,a1.trans a2,R2,q1.trans q2,c2⟩
  | false=>exact Gm (h2 ρ1 c1 A l F I1 s1 hA R1) (λf s2 E9=>E9.casesOn λI2 ρ2 p a2 R2 r2 q2 c2=>⟨I2,ρ2,p,a1.trans a2,R2,r2,q1.trans q2,c2⟩) λf s2 E9=>E9.casesOn λI2 ρ2 x a2 R2 q2 c2=>⟨I2,ρ2,x,a1.trans a2,R2,q1.trans q2,c2⟩) λZ Z x=>x)
section
variable (w:K6)
inductive Vy (l:List Env) (F I:PH) (s:Gg) (Θ:PV->Own->Prop) (v:Gd) (s':Gg):Prop
 | mk (J:PH) (own':Own) (d:PV):Sub I J->HP w l F J own' s'.heap->VR J v d->Θ d own'->Same s s'->Vy l F I s Θ v s'
noncomputable def CODE (k:Lv) (own:Own) (P:PH->Prop) (f:Gd) (vs:List Gd) (kws:List (Str×Gd)) (Θ:PV->Own->Prop):Prop :=
 ∀ (A:GZ) (l:List Env) (F I:PH) (s:Gg),OkA k A l->HP w l F I own s.heap->P I ->
  Th (mdl w) A (.call f ⟨vs,kws⟩) (λr s'=>match r with
   | .ok (.ret v)=>Vy w l F I s Θ v s'
   | .ok _=>False
   | .error _=>False) s
end
theorem CODE.call {P:PH->Prop} {f:Gd} {vs:List Gd} {kws:List (Str×Gd)} (h:CODE w k own P f vs kws Θ):CALL w k own P (call f vs kws) (λI v own'=>∃ d,VR I v d/\Θ d own') Ψo:=λA l F I s hA H hp =>
 NY (TQ (h A l F I s hA H hp) λr s' z=>by
  rcases r with e | fl
  .exact z.elim
  .cases fl with
   | ret v=>obtain⟨I',o',d,a,H',r,c,q⟩:=z;exact⟨I',o',a,H',⟨d,r,c⟩,q⟩
   | _=>exact z.elim)
theorem yz {i:Nat} {f c:Gn} {st:HF} {q:String} {dfl:Gd} {own:Own} {P:PH->Prop} {vs:List Gd} {kws:List (Str×Gd)} {ds:List (Str×PV)} {Θ:PV->Own->Prop}
  (hi:fnTab[i]? = fm (f,st,q,dfl,c)) (hsc:(zf st).kind=.function/\(zf st).isCoroutine=Gk/\(zf st).isGenerator=Gk)
  (hb:∀ fd:LS,fd.params=zE st->fd.defaults=dfl->fd.kwdefaults=.none->PR w k own P (NG fd ⟨vs,kws⟩) (λI bs=>BRs I bs ds))
  (hn:∀ x∈ds,(zf st).names.lookup x.1=fm .local\/(zf st).names.lookup x.1=fm .cell)
  (body:∀ env,EnvOk env st c (G7 q++oS ".<locals>.")->EX w k env ⟨ds.reverse,own⟩ (zt st) (λp ρ'=>Θ p.res ρ'.own) noX) :
  CODE w k.up own P (.ref f) vs kws Θ:=by
 intro A l F I s hA H hP
 obtain⟨⟨o,fd,e,hcls,hd,h1,h2,h3,h4,h5,h6,h7,h8,h9,h10⟩,hcd⟩:=H.base.fns i f st q dfl c hi
 refine Vb (by have:=hA.dp;simp only[Lv.up] at this;exact H0 this) (H.fz _ _ e) hd (by rw[h3];exact hsc.2.1) (by rw[h3];exact hsc.2.2) h2 (by rw[h7,h10];exact H.codeRec hcd) ?_
 refine mPf (hb fd h1 h8 h9 A.in1 l F I s hA.in1 H hP) (λbs s1 I1 a1 H1 B q1=>?_)
 rw[h4]
 refine vD H1 h3 hsc.1 h5 h6 h10 B hn λenv s2 eok R q2=>⟨?_,YK ?_⟩
 .obtain⟨G,H2,_,_⟩:=R;exact H2.noLimit
 .show let Q':=_;let E':=_;Gf _ _ _ Q' E' _;intro Q' E'
  have eok':EnvOk env st c (G7 q++oS ".<locals>."):=by rw[←h7];exact eok
  refine Gm (body env eok' (A.deeper env) l F I1 s2 (hA.deeper env) R) (λfl s3 E9=>E9.casesOn λI3 ρ3 p a3 R3 r3 q3 c3=>?_) λZ Z E9=>E9.casesOn λZ Z Z Z Z Z x=>x.elim
  obtain⟨G,H3,L3,D3⟩:=R3
  cases fl<;>exact⟨I3,ρ3.own,p.res,a1.trans a3,H3.dropG (λen hen=>(H.stk en hen).2) D3,r3.res,c3,q1.trans (q2.trans q3)⟩
end
inductive Role where
 | S | X | D | R
 | N (i:Nat)
 | L (i:Nat)
deriving DecidableEq
noncomputable def fu {α β:Type} [DecidableEq α] (f:α->β) (a:α) (b:β):α->β:=λx=>if x=a then b else f x
theorem zq {α β:Type} [DecidableEq α] (f:α->β) (a:α) (b:β):fu f a b a=b:=if_pos rfl
theorem zg {α β:Type} [DecidableEq α] (f:α->β) {a x:α} (b:β) (h:x≠a):fu f a b x=f x:=if_neg h
structure Inv {R:Type} (f own:Own) (ad:R->Gn) (c:R->Option MO):Prop where
 at_:∀ r m,c r=fm m->own (ad r)=fm m
 inj:∀ r r',c r≠fp->c r'≠fp->ad r=ad r'->r=r'
 fr:∀ b m,f b=fm m->own b=fm m/\∀ r,c r≠fp->ad r≠b
section
variable {R:Type} [DecidableEq R] {f own:Own} {ad:R->Gn} {c c':R->Option MO} {r:R} {m:MO} {a:Gn}
theorem Inv.set (h:Inv f own ad c) (hr:c r≠fp) (m:MO):Inv f (upd own (ad r) m) ad (fu c r (fm m)):=by
 have live:∀ r',fu c r (fm m) r'≠fp->c r'≠fp:=λr' h'=>by
  by_cases q:r'=r
  .subst q;exact hr
  .replace h':=zg _ _ q ▸ h';exact h'
 refine⟨λr' m' e=>?_,λr1 r2 h1 h2=>h.inj r1 r2 (live _ h1) (live _ h2),λb m' e=>?_⟩
 .by_cases q:r'=r
  .subst q;rewrite [zq] at e;(injection e with E1;subst E1);exact zd ..
  .replace e:=zg _ _ q ▸ e
   rw[zc _ _ (λe'=>q (h.inj _ _ (by rw[e];(intro h;injection h;done)) hr e'))]
   exact h.at_ _ _ e
 .refine xA (h.fr b m' e) λh1 h2=>?_
  exact⟨by rw[zc _ _ (λe'=>h2 r hr e'.symm)];exact h1,λr' h'=>h2 r' (live _ h')⟩
theorem Inv.new (h:Inv f own ad c) (hr:c r=fp) (ha:own a=fp) (m:MO):Inv f (upd own a m) (fu ad r a) (fu c r (fm m)):=by
 have ne:∀ r' m',c r'=fm m'->r'≠r/\ad r'≠a:=λr' m' e=>⟨(by rintro rfl;replace e:=hr ▸ e;injection e),(by intro q;have:=h.at_ _ _ e;(replace this:=q ▸ this;replace this:=ha ▸ this);injection this)⟩
 have live:∀ r',c r'≠fp->r'≠r/\ad r'≠a:=λr' h'=>by
  cases q:c r' with
  | none=>exact absurd q h'
  | some m'=>exact ne _ _ q
 refine⟨λr' m' e=>?_,λr1 r2 h1 h2 e=>?_,λb m' e=>?_⟩
 .by_cases q:r'=r
  .subst q;rewrite [zq] at e;(injection e with E1;subst E1);rw[zq];exact zd ..
  .replace e:=zg _ _ q ▸ e
   rw[zg _ _ q,zc _ _ (ne _ _ e).2];exact h.at_ _ _ e
 .by_cases q1:r1=r<;>by_cases q2:r2=r
  .rw[q1,q2]
  .replace h2:=zg _ _ q2 ▸ h2
   (replace e:=q1 ▸ e;rewrite [zq] at e;replace e:=zg _ _ q2 ▸ e);exact absurd e.symm (live _ h2).2
  .replace h1:=zg _ _ q1 ▸ h1
   (replace e:=q2 ▸ e;rewrite [zq] at e;replace e:=zg _ _ q1 ▸ e);exact absurd e (live _ h1).2
  .replace h1:=zg _ _ q1 ▸ h1;replace h2:=zg _ _ q2 ▸ h2
   (replace e:=zg _ _ q1 ▸ e;replace e:=zg _ _ q2 ▸ e);exact h.inj _ _ h1 h2 e
 .refine xA (h.fr b m' e) λh1 h2=>?_
  have hb:b≠a:=by rintro rfl;replace h1:=ha ▸ h1;injection h1
  refine⟨by rw[zc _ _ hb];exact h1,λr' h'=>?_⟩
  by_cases q:r'=r
  .subst q;rw[zq];exact λe'=>hb e'.symm
  .rw[zg _ _ q] at h' ⊢;exact h2 r' h'
theorem Inv.cong (h:Inv f own ad c) (e:∀ r,c' r=c r):Inv f own ad c':=by
 have:c'=c:=funext e
 rw[this];exact h
end
theorem Inv.del {R:Type} [DecidableEq R] {f own:Own} {ad:R->Gn} {c:R->Option MO} {r:R} (h:Inv f own ad c) (hr:c r≠fp):Inv f (del own (ad r)) ad (fu c r fp):=by
 have live:∀ r',fu c r fp r'≠fp->c r'≠fp/\r'≠r:=λr' h'=>by
  by_cases q:r'=r
  .subst q;rewrite [zq] at h';exact absurd rfl h'
  .replace h':=zg _ _ q ▸ h';exact⟨h',q⟩
 refine⟨λr' m' e=>?_,λr1 r2 h1 h2=>h.inj r1 r2 (live _ h1).1 (live _ h2).1,λb m' e=>?_⟩
 .refine xA (live r' (by rw[e];(intro h;injection h;done))) λh1 h2=>?_
  replace e:=zg _ _ h2 ▸ e
  show (if ad r'=ad r then fp else own (ad r'))=_
  rw[if_neg (λe'=>h2 (h.inj _ _ h1 hr e'))]
  exact h.at_ _ _ e
 .refine xA (h.fr b m' e) λh1 h2=>?_
  refine⟨?_,λr' h'=>h2 r' (live _ h').1⟩
  show (if b=ad r then fp else own b)=_
  rw[if_neg (λe'=>h2 r hr e'.symm)];exact h1
theorem pb {R R':Type} {f g own:Own} {ad:R->Gn} {c:R->Option MO} {ad':R'->Gn} {c':R'->Option MO} (h:Inv f g ad c) (h':Inv g own ad' c'):Inv f own ad c :=
 ⟨λr m e=>(h'.fr _ _ (h.at_ r m e)).1,h.inj,λb m e=>⟨(h'.fr _ _ (h.fr b m e).1).1,(h.fr b m e).2⟩⟩
structure SX where
 nd:List (Nat×Int×List Nat)
 rd:Option (List Nat)
 p:Int
 f:Int
section
variable (κ:Nat->List Int)
noncomputable def keyD (c:Nat):PV:=.tup (intL (κ c))
noncomputable def rdD (x:SX) (ad:Role->Gn):PV:=match x.rd with | none=>.none | some _=>.ref (ad .R)
noncomputable def nsOf (x:SX) (ad:Role->Gn):List (Str×PV) :=
 [(oS "_node2info",.ref (ad .D)),(oS "_ready_nodes",rdD x ad),(oS "_npassedout",.int x.p),(oS "_nfinished",.int x.f)]
noncomputable def dOf (x:SX) (ad:Role->Gn):DE:=x.nd.map λn=>(κ n.1,.ref (ad (.N n.1)))
noncomputable def cont (dm:DE->MO) (x:SX) (ad:Role->Gn):Role->Option MO
 | .S=>fm (.slt 137 (ad .X) [])
 | .X=>fm (.ns (nsOf x ad))
 | .D=>fm (dm (dOf κ x ad))
 | .R=>x.rd.map λl=>.lst (l.map (keyD κ))
 | .N c=>(x.nd.lookup c).map λn=>.nod [keyD κ c,.int n.1,.ref (ad (.L c))]
 | .L c=>(x.nd.lookup c).map λn=>.lst (n.2.map (keyD κ))
end
noncomputable abbrev dd:DE->MO:=λes=>.dct es
noncomputable abbrev dx (ep:Nat):DE->MO:=λes=>.dcx es ep
section
variable {h:Kf}
theorem y0:(∀ K,KOk K->NQ K 41 40=fm 0/\Ny K (.ref 41)=fm (.type "member_descriptor"))/\(∀ K,KOk K->NQ K 42 40=fm 1/\Ny K (.ref 42)=fm (.type "member_descriptor"))/\(∀ K,KOk K->NQ K 43 40=fm 2/\Ny K (.ref 43)=fm (.type "member_descriptor")) :=
 ⟨λK h=>⟨h.slot.1,h.slot.2.2.2.1⟩,λK h=>⟨h.slot.2.1,h.slot.2.2.2.2.1⟩,λK h=>⟨h.slot.2.2.1,h.slot.2.2.2.2.2⟩⟩
theorem Ja {N:Gn} {d:PV} {vs:List Gd} (hN:own N=fm (.nod [])):CODE w k.up own (λI=>VRs I vs [.ref N,d]) (.ref 36) vs [] (λr own'=>r=.none/\∃ L,L≠N/\own L=fp/\own'=upd (upd own L (.lst [])) N (.nod [d,.int 0,.ref L])):=by
 intro A l F I s hA H hP
 refine VRs.k hP λv vs E0 r1 r2=>?_;clear hP;subst E0
 cases r2 using ft with
 | cons r2 r3 =>
 (have E0:=VRs.nl r3;clear r3;subst E0)
 refine yz (w:=w) (i:=0) (own:=own) (P:=λI=>VRs I _ [.ref N,d]) (ds:=[(oS "self",.ref N),(oS "node",d)]) rfl ⟨rfl,rfl,rfl⟩
  (λfd h1 h2 h3=>?_) ?_ (λenv eok=>?_) A l F I s hA H (.cons r1 (.cons r2 .nil))
 .refine zO h1 h2 h3 (bs:=[(oS "self",_),(oS "node",_)]) (λfd h1 h2 h3=>?_) λI h=>by
   cases h using ft with | cons a h=>cases h using ft with | cons b h=>exact .cons a (.cons b .nil)
  obtain⟨⟩:=fd
  simp only at h1 h2 h3
  subst h1 h2 h3
  rfl
 .intro x hx
  simp only[Gi,Gl,or_false] at hx
  rcases hx with rfl | rfl<;>exact .inl rfl
 .have hself:=eok.kL "self"
  have hnode:=eok.kL "node"
  refine xAA y0 λs0 s1 s2=>?_;try clear y0
  refine fy (fL (Ω:=λo=>o=upd own N (.nod [d])) (Ψo:=noO) (fq hnode rfl).o (λd' own' E9=>E9.elim λe1 e2=>⟨N,fq hself rfl,λv=>?_⟩) (λZ Z h=>h.elim)) ?_
  .subst e1;subst e2
   exact yt (i:=0) hN (GU _) (lb rfl) rfl s0
  intro ρ1 E9;refine xEA E9 λown1 E5 E6=>?_;clear E9;subst E5;subst E6
  have h1:upd own N (.nod [d]) N=fm (.nod [d]):=zd ..
  refine fy (fL (Ω:=λo=>o=upd own N (.nod [d,.int 0])) (Ψo:=noO) EVd.int.o (λd' own' E9=>E9.elim λe1 e2=>⟨N,fq hself rfl,λv=>?_⟩) (λZ Z h=>h.elim)) ?_
  .subst e1;subst e2
   have:=yt (w:=w) (k:=k) (Ψo:=noO) (i:=1) (d:=.int 0) (v:=v) (name:=oS "npredecessors") h1 (GI _) (lb rfl) rfl s1
   rewrite [yy] at this
   exact this
  intro ρ1 E9;refine xEA E9 λown1 E5 E6=>?_;clear E9;subst E5;subst E6
  have h2:upd own N (.nod [d,.int 0]) N=fm (.nod [d,.int 0]):=zd ..
  refine fw (EX1.mono (fL (Ω:=λo=>∃ L,L≠N/\own L=fp/\o=upd (upd own L (.lst [])) N (.nod [d,.int 0,.ref L])) (Ψo:=noO) (EVO.list .nil (lb rfl)) (λd' own' E9=>xEAA E9 λL e1 e3 e2=>⟨N,fq hself rfl,λv=>?_⟩) (λZ Z h=>h.elim)) ?_)
  .subst e1;subst e2
   have e3:upd own N (.nod [d,.int 0]) L=fp:=e3
   have hne:L≠N:=by rintro rfl;rewrite [zd] at e3;injection e3
   replace e3:=zc _ _ hne ▸ e3
   have h3:upd (upd own N (.nod [d,.int 0])) L (.lst []) N=fm (.nod [d,.int 0]):=by rw[zc _ _ hne.symm];exact h2
   have:=yt (w:=w) (k:=k) (Ψo:=noO) (i:=2) (d:=.ref L) (v:=v) (name:=oS "successors") h3 (GI _) (lb rfl) rfl s2
   intro A l F I s hA H hp
   refine mC (this A l F I s hA H hp) (λv s' I' o' a H' c q=>⟨I',o',a,H',⟨L,hne,e3,by rw[c];show upd (upd (upd own N (.nod [d,.int 0])) L (.lst [])) N _=_;rw[yn hne.symm,yy];rfl⟩,q⟩)
  .intro p ρ' E9;refine xAEA E9 λE60 own1 E61 E62=>?_;clear E9;subst E60;(refine xEAA E61 λL g1 g2 E5=>?_;clear E61;subst E5);subst E62
   exact iAEAA rfl L g1 g2 rfl
end
section
variable {h:Kf}
theorem OkA.make {A:GZ} {C:Gn} {rest:List Gd} {kw:List (Str×Gd)} (h:OkA k.up A l):OkA k (A.under (.builtin "type.__call__" ⟨.ref C::rest,kw⟩)) l :=
 ⟨by show pushEnvs [] A.frames=fm l;rw[h.fr];rfl,h.hd,h.hh,by have:=h.dp;show A.depth+1+k.n<_;simp only[Lv.up] at this;lia,by have:=h.un;simp only[Lv.up] at this;show A.units+1+64*k.n+256<_;exact AV ‹_›⟩
theorem Jt {C f:Gn} {vs:List Gd} {P:PH->Prop} (hm:∀ K,KOk K->Vi K C=Gh) (hf:findTab.lookup (C,oS "__init__")=fm (fm (.ref f))) (hfn:f∈[36,73,80,87,92,99,106,120,127]) (mP:Mono P)
  (hc:∀ (A:GZ) (l:List Env) (F I:PH) (s:Gg) (x dx:Gn),OkA k A l->HP w l F I own s.heap->P I->x≠dx->Loose F I own x->Loose F I own dx->s.heap.get? x=fm (Tm C dx)->s.heap.get? dx=fm LU ->
   Th (mdl w) A (.call (.ref f) ⟨.ref x::vs,[]⟩) (λr s'=>match r with
    | .ok (.ret v)=>v=.none/\Vy w l F I s Θ (.ref x) s'
    | .ok _=>False
    | .error _=>False) s) :
  CODE w k.up own P (.ref C) vs [] Θ:=by
 intro A l F I s hA H hP
 refine xEA (H.kin) λK X ko=>?_
 obtain⟨hp,g,d,t,os⟩:=s
 have Y:=W.makes_of (M:=mdl w) X (hm K ko)
 refine W.make_core Y (W.looks_findIn X (ko.find _ _ _ hf)) (λself=>W.bind_fn X self (ko.fns f hfn)) (.inl rfl) ?_
 have H1:HP w l F I own (hp.push LU):=H.push _
 have H2:HP w l F I own ((hp.push LU).push (Tm C hp.objs.size)):=H1.push _
 have Ld:Loose F I own hp.objs.size:=H.new
 have Lx:Loose F I own (hp.objs.size+1):=by have:=H1.new;rewrite [LA] at this;exact this
 have ed:((hp.push LU).push (Tm C hp.objs.size)).get? hp.objs.size=fm LU:=GN _ (GA _ rfl)
 have ex:((hp.push LU).push (Tm C hp.objs.size)).get? (hp.objs.size+1)=fm (Tm C hp.objs.size):=by
  have:=GA (o:=Tm C hp.objs.size) (hp.push LU) rfl
  rewrite [LA] at this;exact this
 refine TQ (hc _ l F I ⟨(hp.push LU).push (Tm C hp.objs.size),g,d,t,os⟩ (hp.objs.size+1) hp.objs.size hA.make H2 hP (Nat.succ_ne_self _) Lx Ld ex ed) λr s' z=>?_
 rcases r with e | fl
 .exact z.elim
 .cases fl with
  | ret v=>obtain⟨z1,I',o',d,a,H',r,c,q⟩:=z;exact⟨z1,I',o',d,a,H',r,c,⟨q.1,q.2⟩⟩
  | _=>exact z.elim
theorem qm {d:PV} {vs:List Gd}:CODE w k.up.up own (λI=>VRs I vs [d]) (.ref 40) vs [] (λd' own'=>∃ N L,L≠N/\own N=fp/\own L=fp/\d'=.ref N/\own'=upd (upd own L (.lst [])) N (.nod [d,.int 0,.ref L])):=by
 refine Jt (f:=36) (λK ko=>ko.made.2.1) rfl (dc rfl) fP ?_
 intro A l F I s x dx hA H hP hne Lx Ld ex ed
 have H1:=H.freeze Ld ed
 have Lx1:Loose F (upd I dx LU) own x:=⟨Lx.1,by rw[zc _ _ hne];exact Lx.2.1,Lx.2.2⟩
 have H2:=H1.take (mo:=.nod []) Lx1 ex (xk dx [] rfl (zd ..) (.nil))
 have sI:=fA (o:=LU) Ld.2.1
 refine TQ (Ja (d:=d) (own:=upd own x (.nod [])) (N:=x) (zd ..) A l F _ s hA H2 (.cons (.ref x) (VRs.mono sI hP))) λr s' z=>?_
 rcases r with e | fl
 .exact z.elim
 .cases fl with
  | ret v =>
   obtain⟨I',o',d',a,H',r,⟨rfl,L,g1,g2,rfl⟩,q⟩:=z
   have E0:=pJ r;clear r;subst E0
   replace g2:=zc _ _ g1 ▸ g2
   have e:upd (upd (upd own x (.nod [])) L (.lst [])) x (.nod [d,.int 0,.ref L])=upd (upd own L (.lst [])) x (.nod [d,.int 0,.ref L]):=by rw[yn g1.symm,yy]
   replace H':=e ▸ H'
   exact⟨rfl,I',_,.ref x,sI.trans a,H',.ref x,⟨x,L,g1,Lx.2.2.1,g2,rfl,rfl⟩,q⟩
  | _=>exact z.elim
theorem pL {C:Gn} {x:Str} {np pos:Pos} {es:List Expr} {ds:List PV} (hl:env.kindOf x=fm .globalImplicit) (hx:globTab.lookup x=fm (.ref C)) (hm:∀ K,KOk K->Vi K C=Gh) (ha:Args w k env ρ es ds)
  (hc:∀ vs,CODE w k ρ.own (λI=>VRs I vs ds) (.ref C) vs [] Θ) (hd:(x==("__debug__" : Str))=Gk:=by exact Hv Gk):EVO w k env ρ (.Call (.Name x np) es [] pos) Θ Ψo:=by
 intro A l F I s hA H L
 show let Q':=_;let E':=_;Gf _ _ _ Q' E' _;intro Q' E'
 refine gZ (mPf (fV hl hx hd A l F I s hA H L trivial) (λfv s1 I1 a1 H1 r1 q1=>?_))
 cases r1 using dG with
 | ref =>
  refine Xy (P:=λh=>W.Makes (mdl w) h C) (by show ((NP pos (Kw es env)).any (·.1)||false)=Gk;rw[ha.noStar pos];rfl) (λh Y=>?_) ?_
  .obtain⟨⟨oc,od,cd,sl,hC,e1,e2,e4⟩,made,base,self,top,call,typ⟩:=Y
   exact iEA (.machine) (.inr (.inl rfl)) ((OY (part:=fp) hC).andThen (call.andThen .now))
  .show let Q':=_;let E':=_;Gf _ _ _ Q' E' _;intro Q' E'
   refine mPf (ha.evalArgs pos (.ref C) A l F I1 s1 hA H1 (L.mono a1) trivial) (λar s2 I2 a2 H2 E9 q2=>E9.elim λhkw r2=>?_)
   refine xEA (H2.kin) λK X ko=>?_
   refine⟨W.makes_of X (hm K ko),?_⟩
   rw[hkw]
   exact Gm ((hc ar.pos).call A l F I2 s2 hA H2 r2) (λv s3 E9=>E9.casesOn λI3 o3 a3 H3 E9 q3=>xEA E9 λd r3 c3=>⟨I3,o3,d,a1.trans (a2.trans a3),H3,r3,q1.trans (q2.trans q3),c3⟩)
    λev s3 E9=>E9.casesOn λI3 o3 x a3 H3 X3 q3 c3=>⟨I3,o3,x,a1.trans (a2.trans a3),H3,X3,q1.trans (q2.trans q3),c3⟩
end
section
variable {own f:Own} {h:Kf} {κ:Nat->List Int} {dm:DE->MO} {x:SX} {ad:Role->Gn}
theorem pR {o e:Expr} {apos pos:Pos} {D:Gn} {es:DE} {ks:List Int} (ho:EVd w k env ρ o (.ref D)) (hD:Dct ρ.own D es) (he:EVd w k env ρ e (.tup (intL ks))) (hst:∀ x p,e≠.Starred x p)
  (hline:(apos.endLine==pos.line)=Gh:=by rfl) (hbase:Ht o "get" env (eval o env)=eval o env:=by rfl):EVd w k env ρ (.Call (.Attribute o "get" apos) [e] [] pos) ((es.lookup ks).getD .none) :=
 dz ho (uK hD) (.cons he hst .nil) NJ NV W3 (λv vs=>Qp hD) (XU (by show 29≠0;exact dc rfl)) hline hbase
theorem dB {o e:Expr} {pos:Pos} {D:Gn} {es:DE} {ks:List Int} {d:PV} (ho:EVd w k env ρ o (.ref D)) (hD:Dct ρ.own D es) (he:EVd w k env ρ e (.tup (intL ks))) (hd:es.lookup ks=fm d):EVd w k env ρ (.Subscript o e pos) d :=
 EVd.sub ho he (tyD_dct hD) ZE (λv1 v2=>Ql hD hd)
theorem pK {o i e:Expr} {y:Str} {py pos' pos:Pos} {D:Gn} {es:DE} {ks:List Int} (he:EVO w k env ρ e Θ noO) (hl:Nm env y) (h1:∀ d own',Θ d own'->EVd w k env ⟨ρ.loc,own'⟩ o (.ref D)/\EVd w k env ⟨ρ.loc,own'⟩ i (.tup (intL ks))/\own' D=fm (.dct es)) (hlen:es.length<=1000)
  (hw:swappedStores [.Subscript o i pos',.Name y py] e env=pure fp:=by rfl) :
  EX1 w k env ρ (.Assign [.Subscript o i pos',.Name y py] e pos) (λp ρ'=>p=.next/\∃ d own',Θ d own'/\ρ'=⟨(y,d)::ρ.loc,upd own' D (.dct (putT es ks d))⟩) Ψ:=by
 show let Φ':=_;let Ψ':=_;EX1 _ _ _ _ _ Φ' Ψ';intro Φ' Ψ'
 intro A l F I s hA R
 show let Q':=_;let E':=_;Gf _ _ _ Q' E' _;intro Q' E'
 refine wpAny_Assign_two (Gm (he.at hA R) (λv s1 E9=>E9.casesOn λI1 o1 d a1 R1 r1 q1 c1=>?_) λev s1 E9=>E9.casesOn λZ Z Z Z Z Z c=>c.elim) rfl hw
 show let Q':=_;let E':=_;Gf _ _ _ Q' E' _;intro Q' E'
 refine xAA (h1 d o1 c1) λg1 g2 g3=>?_
 rw[assign_Subscript]
 refine Ga (GD (mA (TD.at g1 hA R1 trivial) (λv1 s2 I2 a2 R2 r2 q2=>Ga (GD (mA (TD.at g2 hA R2 trivial) (λv2 s3 I3 a3 R3 r3 q3=>?_))))))
 refine Ga (Ka (Ga (GD ?_)))
 show let Q':=_;let E':=_;Gf _ _ _ Q' E' _;intro Q' E'
 refine mK ((uG (w:=w) (k:=k) (Ψo:=noO) (ks:=ks) (d:=d) (v1:=v1) (v2:=v2) (v3:=v) g3 hlen).rep hA R3 ⟨r2.mono a3,r3,r1.mono (a2.trans a3)⟩) (λZ s4 I4 o4 a4 R4 e4 q4=>?_)
 subst e4
 refine wpAny_release (KD (R4.store hl (r1.mono (a2.trans (a3.trans a4))) λs5 R5 q5=>?_))
 exact⟨I4,_,.next,a1.trans (a2.trans (a3.trans a4)),R5,trivial,q1.trans (q2.trans (q3.trans (q4.trans q5))),rfl,d,o1,c1,rfl⟩
theorem Inv.S (J:Inv f own ad (cont κ dm x ad)):own (ad .S)=fm (.slt 137 (ad .X) []):=J.at_ .S _ rfl
theorem Inv.X (J:Inv f own ad (cont κ dm x ad)):own (ad .X)=fm (.ns (nsOf x ad)):=J.at_ .X _ rfl
theorem Inv.Dd (J:Inv f own ad (cont κ dd x ad)):own (ad .D)=fm (.dct (dOf κ x ad)):=J.at_ .D _ rfl
theorem Inv.R {rd:List Nat} (J:Inv f own ad (cont κ dm x ad)) (h:x.rd=fm rd):own (ad .R)=fm (.lst (rd.map (keyD κ))):=J.at_ .R _ (by show x.rd.map _=_;rw[h];rfl)
theorem Inv.N {c:Nat} {n:Int} {su:List Nat} (J:Inv f own ad (cont κ dm x ad)) (h:x.nd.lookup c=fm (n,su)):own (ad (.N c))=fm (.nod [keyD κ c,.int n,.ref (ad (.L c))]):=J.at_ (.N c) _ (by show (x.nd.lookup c).map _=_;rw[h];rfl)
theorem Inv.L {c:Nat} {n:Int} {su:List Nat} (J:Inv f own ad (cont κ dm x ad)) (h:x.nd.lookup c=fm (n,su)):own (ad (.L c))=fm (.lst (su.map (keyD κ))):=J.at_ (.L c) _ (by show (x.nd.lookup c).map _=_;rw[h];rfl)
theorem ns_n2i:(nsOf x ad).lookup (oS "_node2info")=fm (.ref (ad .D)):=rfl
theorem ns_rdy:(nsOf x ad).lookup (oS "_ready_nodes")=fm (rdD x ad):=rfl
theorem ns_out:(nsOf x ad).lookup (oS "_npassedout")=fm (.int x.p):=rfl
theorem ns_fin:(nsOf x ad).lookup (oS "_nfinished")=fm (.int x.f):=rfl
theorem EVd.n2i {o:Expr} {pos:Pos} (J:Inv f ρ.own ad (cont κ dm x ad)) (ho:EVd w k env ρ o (.ref (ad .S))) (hb:Ht o (oS "_node2info") env (eval o env)=eval o env:=by rfl):EVd w k env ρ (.Attribute o (oS "_node2info") pos) (.ref (ad .D)) :=
 f9 ho (λv=>xe J.S J.X ns_n2i rfl (by intro x h;injection h)) hb
theorem dh {o:Expr} {pos:Pos} (J:Inv f ρ.own ad (cont κ dm x ad)) (ho:EVd w k env ρ o (.ref (ad .S))) (hb:Ht o (oS "_ready_nodes") env (eval o env)=eval o env:=by rfl):EVd w k env ρ (.Attribute o (oS "_ready_nodes") pos) (rdD x ad) :=
 f9 ho (λv=>xe J.S J.X ns_rdy rfl (by delta rdD;cases x.rd<;>(intro x h;injection h))) hb
theorem AB {o:Expr} {pos:Pos} (J:Inv f ρ.own ad (cont κ dm x ad)) (ho:EVd w k env ρ o (.ref (ad .S))) (hb:Ht o (oS "_npassedout") env (eval o env)=eval o env:=by rfl):EVd w k env ρ (.Attribute o (oS "_npassedout") pos) (.int x.p) :=
 f9 ho (λv=>xe J.S J.X ns_out rfl (by intro x h;injection h)) hb
theorem Am {o:Expr} {pos:Pos} (J:Inv f ρ.own ad (cont κ dm x ad)) (ho:EVd w k env ρ o (.ref (ad .S))) (hb:Ht o (oS "_nfinished") env (eval o env)=eval o env:=by rfl):EVd w k env ρ (.Attribute o (oS "_nfinished") pos) (.int x.f) :=
 f9 ho (λv=>xe J.S J.X ns_fin rfl (by intro x h;injection h)) hb
theorem Ak {o:Expr} {pos:Pos} {c:Nat} {n:Int} {su:List Nat} (J:Inv f ρ.own ad (cont κ dm x ad)) (hc:x.nd.lookup c=fm (n,su)) (ho:EVd w k env ρ o (.ref (ad (.N c)))) (hb:Ht o (oS "node") env (eval o env)=eval o env:=by rfl):EVd w k env ρ (.Attribute o (oS "node") pos) (keyD κ c) :=
 f9 ho (λv=>vm (i:=0) (J.N hc) rfl (by intro x h;injection h) rfl y0.1) hb
theorem pC {o:Expr} {pos:Pos} {c:Nat} {n:Int} {su:List Nat} (J:Inv f ρ.own ad (cont κ dm x ad)) (hc:x.nd.lookup c=fm (n,su)) (ho:EVd w k env ρ o (.ref (ad (.N c)))) (hb:Ht o (oS "npredecessors") env (eval o env)=eval o env:=by rfl):EVd w k env ρ (.Attribute o (oS "npredecessors") pos) (.int n) :=
 f9 ho (λv=>vm (i:=1) (J.N hc) rfl (by intro x h;injection h) rfl y0.2.1) hb
theorem pk {o:Expr} {pos:Pos} {c:Nat} {n:Int} {su:List Nat} (J:Inv f ρ.own ad (cont κ dm x ad)) (hc:x.nd.lookup c=fm (n,su)) (ho:EVd w k env ρ o (.ref (ad (.N c)))) (hb:Ht o (oS "successors") env (eval o env)=eval o env:=by rfl):EVd w k env ρ (.Attribute o (oS "successors") pos) (.ref (ad (.L c))) :=
 f9 ho (λv=>vm (i:=2) (J.N hc) rfl (by intro x h;injection h) rfl y0.2.2) hb
end
section
variable {κ:Nat->List Int} (hκ:∀ a b,κ a=κ b->a=b)
include hκ
theorem vj {g:Nat×Int×List Nat->PV}:∀ (nd:List (Nat×Int×List Nat)) (c:Nat),(nd.map λn=>(κ n.1,g n)).lookup (κ c)=(nd.lookup c).map λv=>g (c,v)
 | [],c=>rfl
 | (i,v)::r,c=>by
  rw[GF]
  by_cases q:c=i
  .subst q;rw[z4,Lz];simp
  .rw[yl (λe=>q (hκ _ _ e)),vj r c,Lz]
   have:(c==i)=Gk:=by simpa using q
   rw[this]
theorem yv (x:SX) (ad:Role->Gn) (c:Nat):(dOf κ x ad).lookup (κ c)=(x.nd.lookup c).map λZ=>.ref (ad (.N c)):=vj hκ (g:=λn=>.ref (ad (.N n.1))) x.nd c
end
theorem zG {α:Type} (c i:Nat) (v:α) (r:List (Nat×α)):Hd c ((i,v)::r)=if c=i then fm v else r.lookup c:=by
 rw[Lz]
 by_cases q:c=i
 .subst q;simp
 .have:(c==i)=Gk:=by simpa using q
  rw[this,if_neg q]
set_option tactic.hygienic true in
theorem yA {α:Type} (nd:List (Nat×α)) (c i:Nat) (v:α) (h:nd.lookup c=fp):(nd++[(c,v)]).lookup i=if i=c then fm v else nd.lookup i:=by
 induction nd with
 | nil=>rw[KC,zG]
 | cons p r ih =>
  obtain⟨j,u⟩:=p
  rewrite [zG] at h
  split at h
  .injection h
  .rename_i q
   rw[Nx,zG,zG,ih h]
   by_cases e:i=j
   .subst e;rw[if_pos rfl,if_pos rfl,if_neg (λe=>q e.symm)]
   .rw[if_neg e,if_neg e]
set_option tactic.hygienic true in
theorem uY {α:Type} {nd:List (Nat×α)} {p:Nat×α} (h:p∈nd):nd.lookup p.1≠fp:=by
 induction nd with
 | nil=>cases h
 | cons q r ih =>
  obtain⟨j,u⟩:=q
  rw[zG]
  split
  .intro h;injection h;done
  .rcases Gi.mp h with h | h
   .subst h;rename_i q;exact absurd rfl q
   .exact ih h
noncomputable def SX.getN (x:SX) (c:Nat):SX:=match x.nd.lookup c with | some _=>x | none=>{ x with nd:=x.nd++[(c,0,[])] }
section
variable {f own:Own} {κ:Nat->List Int} {x:SX} {ad:Role->Gn}
theorem jb {es:DE} {ks:List Int} {d:PV} (h:es.lookup ks=fp):putT es ks d=es++[(ks,d)]:=by
 delta putT;rw[h,if_neg (dc rfl)]
theorem Inv.addN (J:Inv f own ad (cont κ dd x ad)) (hκ:∀ a b,κ a=κ b->a=b) {c:Nat} (hc:x.nd.lookup c=fp) {N L:Gn} (hne:L≠N) (hN:own N=fp) (hL:own L=fp) :
  ∃ ad',ad' .S=ad .S/\ad' (.N c)=N/\Inv f (upd (upd (upd own L (.lst [])) N (.nod [keyD κ c,.int 0,.ref L])) (ad .D) (.dct (putT (dOf κ x ad) (κ c) (.ref N)))) ad' (cont κ dd (x.getN c) ad'):=by
 have hx:x.getN c={ x with nd:=x.nd++[(c,0,[])] }:=by delta SX.getN;rw[hc]
 have c1:cont κ dd x ad (.L c)=fp:=by show (x.nd.lookup c).map _=_;rw[hc];rfl
 have c2:cont κ dd x ad (.N c)=fp:=by show (x.nd.lookup c).map _=_;rw[hc];rfl
 have J1:=J.new c1 hL (.lst [])
 have J2:=J1.new (r:=.N c) (a:=N) (by rw[zg _ _ (by intro h;injection h)];exact c2) (by rw[zc _ _ hne.symm];exact hN) (.nod [keyD κ c,.int 0,.ref L])
 have J3:=J2.set (r:=.D) (by rw[zg _ _ (by intro h;injection h),zg _ _ (by intro h;injection h)];(intro h;injection h;done)) (.dct (putT (dOf κ x ad) (κ c) (.ref N)))
 have aD:fu (fu ad (.L c) L) (.N c) N .D=ad .D:=by rw[zg _ _ (by intro h;injection h),zg _ _ (by intro h;injection h)]
 replace J3:=aD ▸ J3
 refine iEAA (fu (fu ad (.L c) L) (.N c) N) (by rw[zg _ _ (by intro h;injection h),zg _ _ (by intro h;injection h)]) (zq ..) (J3.cong λr=>?_)
 generalize had:fu (fu ad (.L c) L) (.N c) N=ad' at *
 have aS:ad' .S=ad .S/\ad' .X=ad .X/\ad' .R=ad .R:=by subst had;refine⟨?_,?_,?_⟩<;>rw[zg _ _ (by intro h;injection h),zg _ _ (by intro h;injection h)]
 have aN:ad' (.N c)=N:=by subst had;exact zq ..
 have aL:ad' (.L c)=L:=by subst had;rw[zg _ _ (by intro h;injection h)];exact zq ..
 have aN':∀ i,i≠c->ad' (.N i)=ad (.N i):=λi hi=>by subst had;rw[zg _ _ (by intro h;(injection h with E1;subst E1);exact hi rfl),zg _ _ (by intro h;injection h)]
 have aL':∀ i,i≠c->ad' (.L i)=ad (.L i):=λi hi=>by subst had;rw[zg _ _ (by intro h;injection h),zg _ _ (by intro h;(injection h with E1;subst E1);exact hi rfl)]
 rw[hx]
 cases r with
 | S=>rw[zg _ _ (by intro h;injection h),zg _ _ (by intro h;injection h),zg _ _ (by intro h;injection h)];show fm _=fm _;rw[aS.2.1]
 | X =>
  rw[zg _ _ (by intro h;injection h),zg _ _ (by intro h;injection h),zg _ _ (by intro h;injection h)];show fm _=fm _
  unfold nsOf rdD;rw[aD,aS.2.2]
 | R=>rw[zg _ _ (by intro h;injection h),zg _ _ (by intro h;injection h),zg _ _ (by intro h;injection h)];rfl
 | D =>
  rw[zq]
  show fm (MO.dct _)=_
  rw[jb (by rw[yv hκ,hc];rfl)]
  congr 2
  delta dOf
  rw[GG,GF,NW,aN]
  congr 1
  refine GT λn hn=>?_
  rw[aN' n.1 (λe=>by have:=uY hn;replace this:=e ▸ this;exact this hc)]
 | N i =>
  rw[zg _ _ (by intro h;injection h)]
  show (Hd i (x.nd++[(c,0,[])])).map _=_
  rw[yA _ _ _ _ hc]
  by_cases q:i=c
  .subst q;rw[if_pos rfl,zq,Oe,aL]
  .rw[if_neg q,zg _ _ (by intro h;(injection h with E1;subst E1);exact q rfl),zg _ _ (by intro h;injection h),aL' i q];rfl
 | L i =>
  rw[zg _ _ (by intro h;injection h),zg _ _ (by intro h;injection h)]
  show (Hd i (x.nd++[(c,0,[])])).map _=_
  rw[yA _ _ _ _ hc]
  by_cases q:i=c
  .subst q;rw[if_pos rfl,zq];rfl
  .rw[if_neg q,zg _ _ (by intro h;(injection h with E1;subst E1);exact q rfl)];rfl
end
section
variable {own f:Own} {h:Kf} {κ:Nat->List Int} {x:SX} {ad:Role->Gn}
theorem zaq {c:Nat} {vs:List Gd} (hκ:∀ a b,κ a=κ b->a=b) (J:Inv f own ad (cont κ dd x ad)) (hlen:x.nd.length<=1000) :
  CODE w k.up.up.up own (λI=>VRs I vs [.ref (ad .S),keyD κ c]) (.ref 80) vs [] (λd own'=>∃ ad',ad' .S=ad .S/\d=.ref (ad' (.N c))/\Inv f own' ad' (cont κ dd (x.getN c) ad')):=by
 intro A l F I s hA H hP
 refine VRs.k hP λv vs E0 r1 r2=>?_;clear hP;subst E0
 cases r2 using ft with
 | cons r2 r3 =>
 (have E0:=VRs.nl r3;clear r3;subst E0)
 refine yz (w:=w) (i:=2) (own:=own) (P:=λI=>VRs I _ [.ref (ad .S),keyD κ c]) (ds:=[(oS "self",.ref (ad .S)),(oS "node",keyD κ c)]) rfl ⟨rfl,rfl,rfl⟩
  (λfd h1 h2 h3=>?_) ?_ (λenv eok=>?_) A l F I s hA H (.cons r1 (.cons r2 .nil))
 .refine zO h1 h2 h3 (bs:=[(oS "self",_),(oS "node",_)]) (λfd h1 h2 h3=>?_) λI h=>by
   cases h using ft with | cons a h=>cases h using ft with | cons b h=>exact .cons a (.cons b .nil)
  obtain⟨⟩:=fd
  simp only at h1 h2 h3
  subst h1 h2 h3
  rfl
 .intro x hx
  simp only[Gi,Gl,or_false] at hx
  rcases hx with rfl | rfl<;>exact .inl rfl
 .have hself:=eok.kL "self"
  have hnode:=eok.kL "node"
  have hres:=eok.kL "result"
  have hcls:=eok.kG "_NodeInfo"
  have lk:=yv hκ x ad c
  refine fy (D:=λρ'=>∃ ad',ad' .S=ad .S/\ρ'.loc.lookup (oS "result")=fm (.ref (ad' (.N c)))/\Inv f ρ'.own ad' (cont κ dd (x.getN c) ad'))
   (pN (pA (b:=(x.nd.lookup c).isNone) (pR (ks:=κ c) (EVd.n2i J (fq hself rfl)) (.inl J.Dd) (fq hnode rfl) (nst rfl)) (by rw[lk];cases x.nd.lookup c<;>rfl) (.inl hres)) ?_ ?_) ?_
  .intro ρ' E9;(refine rPR E9 λhb=>?_;clear E9)
   ac_rfl
   have hc:x.nd.lookup c=fp:=by cases q:x.nd.lookup c with
    | none=>rfl
    | some v=>replace hb:=q ▸ hb;injection hb
   refine fw (EX1.mono (pK (D:=ad .D) (es:=dOf κ x ad) (ks:=κ c) (pL hcls rfl (λK ko=>ko.made.2.1) (.cons (fq hnode (rfl)) (nst rfl) .nil) (λvs=>qm)) (.inl hres) ?_ (by delta dOf;rw[Ge];exact hlen)) ?_)
   .intro d own' E9;refine xf E9 λN L h1 h2 h3 E5 E6=>?_;clear E9;subst E5;subst E6
    have c1:cont κ dd x ad (.L c)=fp:=by show (x.nd.lookup c).map _=_;rw[hc];rfl
    have c2:cont κ dd x ad (.N c)=fp:=by show (x.nd.lookup c).map _=_;rw[hc];rfl
    have h2:own N=fp:=h2
    have h3:own L=fp:=h3
    have J1:=J.new c1 h3 (.lst [])
    have J2:=J1.new (r:=.N c) (a:=N) (by exact c2) (by rw[zc _ _ h1.symm];exact h2) (.nod [keyD κ c,.int 0,.ref L])
    have nS:upd (upd own L (.lst [])) N (.nod [keyD κ c,.int 0,.ref L]) (ad .S)=fm (.slt 137 (ad .X) []):=by
     have e1:ad .S≠N:=by intro e;have:=J.S;(replace this:=e ▸ this;replace this:=Gj (Gq (h2)) this);injection this
     have e2:ad .S≠L:=by intro e;have:=J.S;(replace this:=e ▸ this;replace this:=Gj (Gq (h3)) this);injection this
     rw[zc _ _ e1,zc _ _ e2];exact J.S
    have nX:upd (upd own L (.lst [])) N (.nod [keyD κ c,.int 0,.ref L]) (ad .X)=fm (.ns (nsOf x ad)):=by
     have e1:ad .X≠N:=by intro e;have:=J.X;(replace this:=e ▸ this;replace this:=Gj (Gq (h2)) this);injection this
     have e2:ad .X≠L:=by intro e;have:=J.X;(replace this:=e ▸ this;replace this:=Gj (Gq (h3)) this);injection this
     rw[zc _ _ e1,zc _ _ e2];exact J.X
    have nD:upd (upd own L (.lst [])) N (.nod [keyD κ c,.int 0,.ref L]) (ad .D)=fm (.dct (dOf κ x ad)):=by
     have e1:ad .D≠N:=by intro e;have:=J.Dd;(replace this:=e ▸ this;replace this:=Gj (Gq (h2)) this);injection this
     have e2:ad .D≠L:=by intro e;have:=J.Dd;(replace this:=e ▸ this;replace this:=Gj (Gq (h3)) this);injection this
     rw[zc _ _ e1,zc _ _ e2];exact J.Dd
    exact⟨f9 (fq hself (rfl)) (λv=>xe nS nX ns_n2i rfl (by intro x h;injection h)),fq hnode (rfl),nD⟩
   .intro p ρ' E9;refine zJ E9 λE63 d own' E64 E65=>?_;clear E9;subst E63;(refine xf E64 λN L h1 h2 h3 E5 E6=>?_;clear E64;subst E5;subst E6);subst E65
    ac_rfl
    refine xEAA (J.addN hκ hc h1 h2 h3) λad' g1 g2 g3=>?_
    exact iAEAA rfl ad' g1 (by rw[g2];exact rfl) g3
  .intro ρ' E9;(refine rPR E9 λhb=>?_;clear E9)
   ac_rfl
   cases q:x.nd.lookup c with
   | none=>replace hb:=q ▸ hb;injection hb
   | some v =>
    refine EX.nil ⟨rfl,ad,rfl,?_,?_⟩
    .refine rfl.trans ?_
     rw[lk,q];rfl
    .have:x.getN c=x:=by delta SX.getN;rw[q]
     rw[this];exact J
  .intro ρ1 E9;refine xEAA E9 λad' g1 g2 g3=>?_;clear E9
   ac_rfl
   refine fw (fS (EX1.ret (fq hres g2)) ?_)
   exact iEAA ad' g1 rfl g3
end
theorem bind_add {fd:LS} (h1:fd.params=zE (zz (top 6) 2)) (h2:fd.defaults=.none) (h3:fd.kwdefaults=.none) (v1 v2:Gd) (vs:List Gd) :
  NG fd ⟨v1::v2::vs,[]⟩=(Vt vs>>=λt=>pure [(oS "self",v1),(oS "node",v2),(oS "predecessors",t)]):=by
 obtain⟨⟩:=fd
 simp only at h1 h2 h3
 subst h1 h2 h3
 delta NG
 dsimp only
 rw[show (zE (zz (top 6) 2)).vararg.isNone=Gk from rfl]
 simp only[Nr,GQ,if_false]
 rfl
theorem ZN {fd:LS} (h1:fd.params=zE (zz (top 6) 7)) (h2:fd.defaults=.none) (h3:fd.kwdefaults=.none) (v1:Gd) (vs:List Gd) :
  NG fd ⟨v1::vs,[]⟩=(Vt vs>>=λt=>pure [(oS "self",v1),(oS "nodes",t)]):=by
 obtain⟨⟩:=fd
 simp only at h1 h2 h3
 subst h1 h2 h3
 delta NG
 dsimp only
 rw[show (zE (zz (top 6) 7)).vararg.isNone=Gk from rfl]
 simp only[Nr,GQ,if_false]
 rfl
theorem zan {M:YA} {A:GZ} {E:Gd->Gg->Prop} {s:Gg} {Q:List (Str×Gd)->Gg->Prop} {fd:LS} {n:Nat} (h1:fd.params=zE (zz (top 6) 0)) (h2:fd.defaults=.ref 66) (h3:fd.kwdefaults=.none) (v1 v2:Gd)
  (h66:s.heap.get? 66=fm { cls:=.type "tuple",data:=.seq #[.none] n }) (hq:Q [(oS "self",v1),(oS "graph",v2)] s):Gf M A (NG fd ⟨[v1,v2],[]⟩) Q E s:=by
 obtain⟨⟩:=fd
 simp only at h1 h2 h3
 subst h1 h2 h3
 delta NG
 dsimp only
 refine Ga (m:=seqItems? (.ref 66)) ?_
 show let Q':=_;let E':=_;Gf _ _ _ Q' E' _;intro Q' E'
 refine Ga (gI h66 (Gb ?_))
 exact Gb hq
section
variable {own f:Own} {h:Kf} {κ:Nat->List Int} {x:SX} {ad:Role->Gn} {dm:DE->MO}
theorem u6 {vs:List Gd} {ds:List PV} (h:ds.length<=1000):PR w k own (λI=>VRs I vs ds) (Vt vs) (λI v=>VR I v (.tup ds)):=by
 intro A l F I s hA H r
 refine Vr ?_ (by rw[r.length,HJ];exact Gc ‹_› (lb rfl))
 exact⟨_,fA H.new.2.1,H.push_frozen { cls:=.type "tuple",data:=.seq vs.toArray },.tup (zd ..) (r.mono (fA H.new.2.1)),⟨rfl,rfl⟩⟩
theorem starCall {A:GZ} {E:Gd->Gg->Prop} {s:Gg} {Q:Gd->Gg->Prop} {pos:Pos} {q g:Gn} {S:Gd} {og:Obj} {fd:LS} {args:List (Bool×Sem Gd)} (hst:args.any (·.1)=Gh) (hd:og.data=.func fd)
  (h:Gf (mdl w) A (Wl (.ref q) Gh args []) (λa s1=>(s1.heap.get? q=fm (Wx (.ref g) S)/\s1.heap.get? g=fm og)/\Gf (mdl w) A (call (.ref q) ([]++a.pos) a.kw) Q E s1) E s):Gf (mdl w) A (gl pos (.ref q) [] args []) Q E s :=
 W.ks_call (P:=λh=>h.get? q=fm (Wx (.ref g) S)/\h.get? g=fm og) hst (λh X=>(iEA (.boundFrame) (.inr (.inr rfl)) ((OY (part:=fp) X.1).andThen ((OY (part:=fp) X.2).andThen (by rw[hd];exact Xh))))) h
theorem pv {o:Expr} {name:Str} {apos pos:Pos} {es:List Expr} {ds:List PV} {S dx g c:Gn} {sl:List PV} {ns:List (Str×PV)} {i:Nat} {st:HF} {q:String} {dfl:Gd}
  (ho:EVd w k env ρ o (.ref S)) (e1:ρ.own S=fm (.slt 137 dx sl)) (e2:ρ.own dx=fm (.ns ns)) (hn:ns.lookup name=fp) (hf:findTab.lookup (137,name)=fm (fm (.ref g))) (hfn:g∈[36,73,80,87,92,99,106,120,127]) (hcp:W.copiedNames.contains name=Gk)
  (hi:fnTab[i]? = fm (g,st,q,dfl,c)) (hc:∀ vs,CODE w k ρ.own (λI=>VRs I vs (.ref S::ds)) (.ref g) vs [] Θ) (hstar:(NP pos (Kw es env)).any (·.1)=Gh)
  (hev:∀ f,TD w k env ρ (λZ=>True) (Wl f Gh (NP pos (Kw es env)) []) (λI a=>a.kw=[]/\VRs I a.pos ds))
  (hline:(apos.endLine==pos.line)=Gh:=by rfl) (hbase:Ht o name env (eval o env)=eval o env:=by rfl):EVO w k env ρ (.Call (.Attribute o name apos) es [] pos) Θ Ψo:=by
 intro A l F I s hA H L
 show let Q':=_;let E':=_;Gf _ _ _ Q' E' _;intro Q' E'
 rw[arm_eval_Call,hbase]
 refine Ga (mPf (ho A l F I s hA H L trivial) (λov s1 I1 a1 H1 r1 q1=>?_))
 refine Ga (Ka ?_)
 have hform:methodCallForm (es.length+([]:List Ou).length) (NP pos (Kw es env)) (Ow pos (Nc [] env))=Gk:=by
  have:(NP pos (Kw es env)).all (λx=>!x.1)=Gk:=by
   rewrite [ga] at hstar
   refine xEA hstar λp hp hp2=>?_;try clear hstar
   rw[List.all_eq_false]
   exact iEA p hp (by rw[hp2];exact dc rfl)
  show ((NP pos (Kw es env)).all (λx=>!x.1)&&(Ow pos (Nc [] env)).all (λx=>x.1.isSome)&&decide (es.length+([]:List Ou).length+(if ([]:List Ou).isEmpty then 0 else 1)<30))=Gk
  rw[this];rfl
 delta methodCall
 rw[hform]
 refine Ga (GD ?_)
 show let Q':=_;let E':=_;Gf _ _ _ Q' E' _;intro Q' E'
 delta calleeOf
 rw[if_neg Gv]
 refine Ga (mPf (pr_bound (w:=w) (k:=k) (v:=ov) (b:=true) e1 e2 hn hf hfn hcp A l F I1 s1 hA H1 r1) (λm s2 I2 a2 H2 r2 q2=>Gb ?_))
 have hpos:VO Gk o env apos pos=pure pos:=by delta VO;rfl
 refine Ga (Hh hpos ?_)
 cases r2 using Ab with
 | @ob q eq =>
 refine xEEA (H2.fnO hi) λog fd eo hfd=>?_
 refine starCall (g:=g) (S:=.ref S) (og:=og) (fd:=fd) hstar hfd (mPf (hev (.ref q) A l F I2 s2 hA H2 (L.mono (a1.trans a2)) trivial) (λar s3 I3 a3 H3 E9 q3=>E9.elim λhkw r3=>⟨⟨H3.fz _ _ (a3 _ _ eq),H3.fz _ _ (a3 _ _ eo)⟩,?_⟩))
 rw[hkw,KC]
 refine NY (W.method_call (H3.fz _ _ (a3 _ _ eq)) (TQ (hc (.ref S::ar.pos) A l F I3 s3 hA H3 (.cons (.ref S) r3)) λr s' z=>?_))
 rcases r with e | fl
 .exact z.elim
 .cases fl with
  | ret v=>obtain⟨I',o',d,a,H',r,c,q⟩:=z;exact⟨I',o',d,a1.trans (a2.trans (a3.trans a)),H',r,q1.trans (q2.trans (q3.trans q)),c⟩
  | _=>exact z.elim
theorem star_two {e1 e2:Expr} {sp pos:Pos} {d1 d2:PV} {ds:List PV} (h1:EVd w k env ρ e1 d1) (n1:∀ x p,e1≠.Starred x p) (h2:EVd w k env ρ e2 d2) (hd:d2=.lst ds\/d2=.tup ds) (hl:ds.length<=1000) (f:Gd) :
  TD w k env ρ (λZ=>True) (Wl f Gh (NP pos (Kw [e1,.Starred e2 sp] env)) []) (λI a=>a.kw=[]/\VRs I a.pos (d1::ds)):=by
 intro A l F I s hA H L _
 show let Q':=_;let E':=_;Gf _ _ _ Q' E' _;intro Q' E'
 have e:Kw [e1,.Starred e2 sp] env=(Gk,eval e1 env)::Kw [.Starred e2 sp] env:=zU n1 env
 rw[e]
 refine TF (Ve (mPf (h1 A l F I s hA H L trivial) (λv s1 I1 a1 H1 r1 q1=>?_)))
 refine W.items_star (mPf (h2 A l F I1 s1 hA H1 (L.mono a1) trivial) (λv2 s2 I2 a2 H2 r2 q2=>?_))
 refine QD (ds:=ds) H2 (by rcases hd with rfl | rfl;exact .inl r2;exact .inr r2) hl λvs h' rv H3=>?_
 show Gf _ _ (spliced []) _ _ _
 refine YI ⟨I2,a1.trans a2,H3,⟨rfl,.cons (r1.mono a2) (by rw[Hl];exact rv)⟩,q1.trans ⟨q2.1,q2.2⟩⟩
theorem star_one {e2:Expr} {sp pos:Pos} {d2:PV} {ds:List PV} (h2:EVd w k env ρ e2 d2) (hd:d2=.lst ds\/d2=.tup ds) (hl:ds.length<=1000) (f:Gd) :
  TD w k env ρ (λZ=>True) (Wl f Gh (NP pos (Kw [.Starred e2 sp] env)) []) (λI a=>a.kw=[]/\VRs I a.pos ds):=by
 intro A l F I s hA H L _
 refine W.ks_lone (mPf (h2 A l F I s hA H L trivial) (λv2 s2 I2 a2 H2 r2 q2=>?_))
 refine QD (ds:=ds) H2 (by rcases hd with rfl | rfl;exact .inl r2;exact .inr r2) hl λvs h' rv H3=>?_
 exact⟨I2,a2,H3,⟨rfl,rv⟩,⟨q2.1,q2.2⟩⟩
end
noncomputable def yE (nd:List (Nat×Int×List Nat)) (c:Nat) (g:Int×List Nat->Int×List Nat):List (Nat×Int×List Nat):=nd.map λn=>if n.1=c then (n.1,g n.2) else n
noncomputable def SX.setNp (x:SX) (c:Nat) (v:Int):SX:={ x with nd:=yE x.nd c λp=>(v,p.2) }
noncomputable def SX.app (x:SX) (p c:Nat):SX:={ x with nd:=yE x.nd p λq=>(q.1,q.2++[c]) }
noncomputable def SX.addP (x:SX) (p c:Nat):SX:=(x.getN p).app p c
noncomputable def npOf (x:SX) (c:Nat):Int:=((x.nd.lookup c).map (·.1)).getD 0
noncomputable def SX.add (x:SX) (c:Nat) (ps:List Nat):SX:=ps.foldl (λx p=>x.addP p c) ((x.getN c).setNp c (npOf (x.getN c) c+ps.length))
theorem zV (nd:List (Nat×Int×List Nat)) (c i:Nat) (g:Int×List Nat->Int×List Nat):(yE nd c g).lookup i=if i=c then (nd.lookup i).map g else nd.lookup i:=by
 induction nd with
 | nil=>exact left_eq_ite_iff.mpr (congrFun rfl)
 | cons n r ih =>
  obtain⟨j,v⟩:=n
  show Hd i ((if j=c then (j,g v) else (j,v))::yE r c g)=_
  by_cases q:j=c
  .subst q
   rw[if_pos rfl,zG,zG,ih]
   by_cases e:i=j
   .subst e;rw[if_pos rfl,if_pos rfl,if_pos rfl];rfl
   .rw[if_neg e,if_neg e]
    rw[if_neg e,if_neg e]
  .rw[if_neg q,zG,zG,ih]
   by_cases e:i=j
   .subst e;rw[if_pos rfl,if_pos rfl,if_neg q]
   .rw[if_neg e,if_neg e]
theorem jA (nd:List (Nat×Int×List Nat)) (c:Nat) (g:Int×List Nat->Int×List Nat):(yE nd c g).map (·.1)=nd.map (·.1):=by
 delta yE
 rw[GL]
 refine GT λn Z=>?_
 show (if n.1=c then (n.1,g n.2) else n).1=n.1
 split<;>rfl
theorem uk (nd:List (Nat×Int×List Nat)) (c:Nat) (g:Int×List Nat->Int×List Nat):(yE nd c g).length=nd.length:=Ge ..
theorem dE (x:SX) (c:Nat) (v:Int):(x.setNp c v).nd.length=x.nd.length:=uk x.nd c (λp=>(v,p.2))
theorem pt (x:SX) (p c:Nat):(x.app p c).nd.length=x.nd.length:=uk x.nd p (λq=>(q.1,q.2++[c]))
theorem jf {κ:Nat->List Int} {x y:SX} {ad:Role->Gn} (h:y.nd.map (·.1)=x.nd.map (·.1)):dOf κ y ad=dOf κ x ad:=by
 have:∀ z:SX,dOf κ z ad=(z.nd.map (·.1)).map λc=>(κ c,PV.ref (ad (.N c))):=λz=>by delta dOf;rw[GL];rfl
 rw[this,this,h]
theorem SX.getN_lookup (x:SX) (c:Nat):(x.getN c).nd.lookup c≠fp:=by
 delta SX.getN
 cases q:x.nd.lookup c with
 | some v=>simp[q]
 | none=>simp only;rw[yA _ _ _ _ q,if_pos rfl];exact dc rfl
theorem SX.getN_length (x:SX) (c:Nat):(x.getN c).nd.length<=x.nd.length+1:=by
 delta SX.getN
 cases q:x.nd.lookup c with
 | some v=>exact Oi _
 | none=>simp
theorem SX.getN_rd (x:SX) (c:Nat):(x.getN c).rd=x.rd:=by
 delta SX.getN
 cases q:x.nd.lookup c<;>rfl
noncomputable def SX.sb (x:SX) (B:Nat):Prop:=∀ i n su,x.nd.lookup i=fm (n,su)->su.length<=B
theorem SX.sb.mono {x:SX} {B C:Nat} (h:x.sb B) (e:B<=C):x.sb C:=λi n su q=>Gc (h i n su q) e
theorem SX.sb.getN {x:SX} {B:Nat} (h:x.sb B) (c:Nat):(x.getN c).sb B:=by
 intro i n su e
 delta SX.getN at e
 cases q:x.nd.lookup c with
 | some v=>replace e:=q ▸ e;exact h i n su e
 | none =>
  replace e:=q ▸ e
  simp only at e
  replace e:=yA _ _ _ _ q ▸ e
  by_cases z:i=c
  .replace e:=if_pos z ▸ e;(injection e with E1;injection E1 with E1 E2;subst E2;subst E1);exact GU _
  .replace e:=if_neg z ▸ e;exact h i n su e
theorem SX.sb.setNp {x:SX} {B:Nat} (h:x.sb B) (c:Nat) (v:Int):(x.setNp c v).sb B:=by
 intro i n su e
 have e:(yE x.nd c λp=>(v,p.2)).lookup i=fm (n,su):=e
 rewrite [zV] at e
 by_cases z:i=c
 .replace e:=if_pos z ▸ e
  refine xEA (Gz.mp e) λp h1 h2=>?_
  (injection h2 with E1 E2;subst E2;subst E1);exact h i _ _ h1
 .replace e:=if_neg z ▸ e;exact h i n su e
theorem SX.sb.app {x:SX} {B:Nat} (h:x.sb B) (p c:Nat):(x.app p c).sb (B+1):=by
 intro i n su e
 have e:(yE x.nd p λq=>(q.1,q.2++[c])).lookup i=fm (n,su):=e
 rewrite [zV] at e
 by_cases z:i=p
 .replace e:=if_pos z ▸ e
  refine xEA (Gz.mp e) λp h1 h2=>?_
  (injection h2 with E1 E2;subst E2;subst E1);have:=h i _ _ h1;rw[Gs];exact HY this
 .replace e:=if_neg z ▸ e;exact N2 (h i n su e)
theorem dM {c:Nat}:∀ (qs:List Nat) {y:SX} {B:Nat},y.sb B->(qs.foldl (λx p=>x.addP p c) y).sb (B+qs.length)
 | [],y,B,h=>h
 | q::r,y,B,h=>by
  rw[Km,GC,show B+(r.length+1)=(B+1)+r.length by exact Gq (Lp B r.length)]
  exact dM r ((h.getN q).app q c)
theorem SX.sb.add {x:SX} {B:Nat} (h:x.sb B) (c:Nat) (ps:List Nat):(x.add c ps).sb (B+ps.length):=dM ps ((h.getN c).setNp c _)
theorem dk {c:Nat}:∀ (qs:List Nat) (y:SX),(qs.foldl (λx p=>x.addP p c) y).nd.length<=y.nd.length+qs.length
 | [],y=>GI _
 | q::r,y=>by
  rw[Km,GC]
  have h1:=dk (c:=c) r (y.addP q c)
  have h2:(y.addP q c).nd.length<=y.nd.length+1:=by
   delta SX.addP
   rw[pt];exact y.getN_length q
  lia
theorem SX.add_length (x:SX) (c:Nat) (ps:List Nat):(x.add c ps).nd.length<=x.nd.length+1+ps.length:=by
 have h1:=dk (c:=c) ps ((x.getN c).setNp c (npOf (x.getN c) c+ps.length))
 have h2:((x.getN c).setNp c (npOf (x.getN c) c+ps.length)).nd.length<=x.nd.length+1:=by
  rw[dE];exact x.getN_length c
 show ((ps.foldl _ _):SX).nd.length<=_
 lia
theorem pg {c:Nat}:∀ (qs:List Nat) (y:SX),(qs.foldl (λx p=>x.addP p c) y).rd=y.rd
 | [],y=>rfl
 | q::r,y=>by rw[Km,pg r];exact y.getN_rd q
theorem SX.add_rd (x:SX) (c:Nat) (ps:List Nat):(x.add c ps).rd=x.rd:=by
 show ((ps.foldl _ _):SX).rd=_
 rw[pg];exact x.getN_rd c
section
variable {f own:Own} {κ:Nat->List Int} {x:SX} {ad:Role->Gn} {dm:DE->MO}
theorem Inv.setNp (J:Inv f own ad (cont κ dm x ad)) {c:Nat} {n:Int} {su:List Nat} (hc:x.nd.lookup c=fm (n,su)) (v:Int):Inv f (upd own (ad (.N c)) (.nod [keyD κ c,.int v,.ref (ad (.L c))])) ad (cont κ dm (x.setNp c v) ad):=by
 have J1:=J.set (r:=.N c) (by show (x.nd.lookup c).map _≠_;rw[hc];(intro h;injection h;done)) (.nod [keyD κ c,.int v,.ref (ad (.L c))])
 refine J1.cong λr=>?_
 cases r with
 | S=>rfl
 | X=>rfl
 | R=>rfl
 | D=>show fm (dm _)=fm (dm _);rw[jf (x:=x) (y:=x.setNp c v) (jA x.nd c (λp=>(v,p.2)))]
 | N i =>
  show (Hd i (yE x.nd c λp=>(v,p.2))).map _=_
  rw[zV]
  by_cases q:i=c
  .subst q;rw[if_pos rfl,zq,hc];rfl
  .rw[if_neg q,zg _ _ (by intro h;(injection h with E1;subst E1);exact q rfl)];rfl
 | L i =>
  skip
  show (Hd i (yE x.nd c λp=>(v,p.2))).map _=(Hd i x.nd).map _
  rw[zV]
  by_cases q:i=c
  .subst q;rw[if_pos rfl,hc];rfl
  .rw[if_neg q]
theorem Inv.app (J:Inv f own ad (cont κ dm x ad)) {p c:Nat} {n:Int} {su:List Nat} (hp:x.nd.lookup p=fm (n,su)):Inv f (upd own (ad (.L p)) (.lst (su.map (keyD κ)++[keyD κ c]))) ad (cont κ dm (x.app p c) ad):=by
 have J1:=J.set (r:=.L p) (by show (x.nd.lookup p).map _≠_;rw[hp];(intro h;injection h;done)) (.lst (su.map (keyD κ)++[keyD κ c]))
 refine J1.cong λr=>?_
 cases r with
 | S=>rfl
 | X=>rfl
 | R=>rfl
 | D=>show fm (dm _)=fm (dm _);rw[jf (x:=x) (y:=x.app p c) (jA x.nd p (λq=>(q.1,q.2++[c])))]
 | L i =>
  show (Hd i (yE x.nd p λq=>(q.1,q.2++[c]))).map _=_
  rw[zV]
  by_cases q:i=p
  .subst q;rw[if_pos rfl,zq,hp,Oe,Oe,GG];rfl
  .rw[if_neg q,zg _ _ (by intro h;(injection h with E1;subst E1);exact q rfl)];rfl
 | N i =>
  skip
  show (Hd i (yE x.nd p λq=>(q.1,q.2++[c]))).map _=(Hd i x.nd).map _
  rw[zV]
  by_cases q:i=p
  .subst q;rw[if_pos rfl,hp];rfl
  .rw[if_neg q]
end
section
variable {own f:Own} {h:Kf} {κ:Nat->List Int} {x:SX} {ad:Role->Gn} {dm:DE->MO}
theorem EVO.getN {o e:Expr} {apos pos:Pos} {c:Nat} (hκ:∀ a b,κ a=κ b->a=b) (J:Inv f ρ.own ad (cont κ dd x ad)) (hlen:x.nd.length<=1000) (ho:EVd w k.up.up.up env ρ o (.ref (ad .S))) (he:EVd w k.up.up.up env ρ e (keyD κ c)) (hst:∀ x p,e≠.Starred x p)
  (hline:(apos.endLine==pos.line)=Gh:=by rfl) (hbase:Ht o (oS "_get_nodeinfo") env (eval o env)=eval o env:=by rfl) :
  EVO w k.up.up.up env ρ (.Call (.Attribute o (oS "_get_nodeinfo") apos) [e] [] pos) (λd own'=>∃ ad',ad' .S=ad .S/\d=.ref (ad' (.N c))/\Inv f own' ad' (cont κ dd (x.getN c) ad')) Ψo :=
 dj ho J.S J.X rfl rfl (dc rfl) (i:=2) rfl (.cons he hst .nil) (λvs=>(zaq hκ J hlen).call) (XU (by show 29≠0;exact dc rfl)) hline hbase
theorem code_add {c:Nat} {ps:List Nat} {vs:List Gd} (hb:k.b=Gh) (hκ:∀ a b,κ a=κ b->a=b) (J:Inv f own ad (cont κ dd x ad)) (hrd:x.rd=fp) (hlen:x.nd.length+ps.length+1<=1000) {B:Nat} (hsb:x.sb B) (hB:B+ps.length<=100000) :
  CODE w k.up.up.up.up own (λI=>VRs I vs (.ref (ad .S)::keyD κ c::ps.map (keyD κ))) (.ref 87) vs [] (λd own'=>d=.none/\∃ ad',ad' .S=ad .S/\Inv f own' ad' (cont κ dd (x.add c ps) ad')):=by
 intro A l F I s hA H hP
 cases hP using ft with
 | @cons v1 _ r1 r2 =>
 cases r2 using ft with
 | @cons v2 vs r2 r3 =>
 have hpl:(ps.map (keyD κ)).length=ps.length:=Ge ..
 refine yz (w:=w) (i:=3) (own:=own) (P:=λI=>VRs I (v1::v2::vs) (.ref (ad .S)::keyD κ c::ps.map (keyD κ))) (ds:=[(oS "self",.ref (ad .S)),(oS "node",keyD κ c),(oS "predecessors",.tup (ps.map (keyD κ)))]) rfl ⟨rfl,rfl,rfl⟩
  (λfd h1 h2 h3=>?_) ?_ (λenv eok=>?_) A l F I s hA H (.cons r1 (.cons r2 r3))
 .rw[bind_add h1 h2 h3]
  refine PR.bind fP (PR.weaken (u6 (ds:=ps.map (keyD κ)) (by lia)) (λI h=>by cases h using ft with | cons _ h=>cases h using ft with | cons _ h=>exact h) (λI v h=>h)) λt=>PR.pure λI E9=>E9.elim λh1 h2=>?_
  cases h1 using ft with | cons a h=>cases h using ft with | cons b h=>exact .cons a (.cons b (.cons h2 .nil))
 .intro x hx
  simp only[Gi,Gl,or_false] at hx
  rcases hx with rfl | rfl | rfl<;>exact .inl rfl
 .show let Φ':=_;let Ψ':=_;EX _ _ _ _ _ Φ' Ψ';intro Φ' Ψ'
  have hself:=eok.kL "self"
  have hnode:=eok.kL "node"
  have hpreds:=eok.kL "predecessors"
  have hinfo:=eok.kL "nodeinfo"
  have hpred:=eok.kL "pred"
  have hpinfo:=eok.kL "pred_info"
  have hlenK:=eok.kG "len"
  refine EX.step (fI (b:=false) (by
   have h0:xG (rdD x ad)=fm Gh:=by delta rdD;rw[hrd];rfl
   exact dU (dh J (fq hself rfl)) h0) (λh=>by injection h) (λZ=>EX.nil ⟨rfl,rfl⟩)) ?_
  refine dH (fD (EVO.getN hκ J (by lia) (fq hself rfl) (fq hnode rfl) (nst rfl)) hinfo (λZ Z h=>h) rfl) λd own1 E67=>?_
  (obtain⟨ad1,a1,rfl,J1⟩:=E67)
  obtain⟨⟨n1,su1⟩,hc1⟩:=Kv.mp (x.getN_lookup c)
  refine fy (du (S:=ad1 (.N c)) (Ω:=λo=>o=upd own1 (ad1 (.N c)) (.nod [keyD κ c,.int (n1+ps.length),.ref (ad1 (.L c))])) (fq hinfo rfl) (λv=>vm (i:=1) (J1.N hc1) rfl (by intro x h;injection h) rfl y0.2.1)
   (fB hlenK rfl (.cons (fq hpreds (rfl)) (nst rfl) .nil) (λvs=>hpl ▸ jU (by lia))) (λv1 v2=>uT) (λv=>?_)) ?_
  .exact yt (w:=w) (k:=k.up.up.up) (Ψo:=noO) (i:=1) (d:=.int (n1+ps.length)) (v:=v) (name:=oS "npredecessors") (J1.N hc1) (by show 1<=3;exact lb rfl) (lb rfl) rfl y0.2.1
  intro ρ2 E9;refine xEA E9 λown2 E5 E6=>?_;clear E9;subst E5;subst E6
  have J2:=J1.setNp hc1 (n1+ps.length)
  have hnp:npOf (x.getN c) c=n1:=by delta npOf;rw[hc1];rfl
  let x2:=(x.getN c).setNp c (n1+ps.length)
  let xi:Nat->SX:=λi=>(ps.take i).foldl (λx p=>x.addP p c) x2
  have J2:Inv f (upd own1 (ad1 (.N c)) (.nod [keyD κ c,.int (n1+ps.length),.ref (ad1 (.L c))])) ad1 (cont κ dd x2 ad1):=J2
  have hlen2:∀ i,(xi i).nd.length<=x.nd.length+1+i:=by
   intro i
   have h1:=dk (c:=c) (ps.take i) x2
   have h2:x2.nd.length<=x.nd.length+1:=by
    show ((x.getN c).setNp c _).nd.length<=_
    rw[dE];exact x.getN_length c
   have h3:=Oq i ps
   show ((ps.take i).foldl _ x2).nd.length<=_
   lia
  have hsb2:∀ i,(xi i).sb (B+ps.length):=λi=>by
   have h1:=dM (c:=c) (ps.take i) ((hsb.getN c).setNp c (n1+ps.length))
   have h3:=Lh i ps
   exact h1.mono (by exact Ho ‹_› _)
  refine fw (EX1.mono (de (Φ:=λp ρ'=>p=.next/\∃ ad',ad' .S=ad .S/\Inv f ρ'.own ad' (cont κ dd (x.add c ps) ad')) (k:=k.up.up.up) (CO:=λZ=>True) (ds:=ps.map (keyD κ)) hb (fq hpreds (rfl)) (Itb.tup hb) hpred
   (λi ρ=>ρ.loc.lookup (oS "self")=fm (.ref (ad .S))/\ρ.loc.lookup (oS "node")=fm (keyD κ c)/\∃ ad',ad' .S=ad .S/\Inv f ρ.own ad' (cont κ dd (xi i) ad')) ?_ (λZ Z Z=>trivial) ?_ ?_) ?_)
  .exact iAAEA rfl (rfl) ad1 a1 J2
  .intro i d ρ3 hd E9;refine xAAEA E9 λl1 l2 ad3 a3 J3=>?_;clear E9
   ac_rfl
   replace hd:=(Gx) ▸ hd;rewrite [Gz] at hd
   obtain⟨p,hd,rfl⟩:=hd
   have hi:i<ps.length:=(GK.mp hd).1
   have hli:=hlen2 i
   have s3:EVd w k.up.up.up env (ρ3.set (oS "pred") (keyD κ p)) (.Name (oS "self") ⟨38,24,38,28⟩) (.ref (ad3 .S)):=by rw[a3];exact fq hself (l1)
   refine dH (fD (EVO.getN hκ J3 (by lia) s3 (fq hpred rfl) (nst rfl)) hpinfo (λZ Z h=>h) rfl) λd own4 E69=>?_
   (obtain⟨ad4,a4,rfl,J4⟩:=E69)
   obtain⟨⟨n4,su4⟩,hc4⟩:=Kv.mp ((xi i).getN_lookup p)
   have hsul:su4.length<=100000:=Gc ((hsb2 i).getN p p n4 su4 hc4) hB
   refine fw (fS (EX1.app (a:=ad4 (.L p)) (ds:=su4.map (keyD κ)) (d:=keyD κ c) (pk J4 hc4 (fq hpinfo rfl)) (J4.L hc4) (by rw[Ge];exact hsul) (fq hnode ((l2))) (nst rfl)) ?_)
   refine iAAEA ((l1)) ((l2)) ad4 (a4.trans a3) ?_
   have hx:xi (i+1)=((xi i).getN p).app p c:=by
    show (ps.take (i+1)).foldl _ x2=_
    rw[Hx,hd,Lk];rfl
   rw[hx]
   exact J4.app hc4
  .intro ρ3 E9;refine xAAEA E9 λl1 l2 ad3 a3 J3=>?_;clear E9
   ac_rfl
   refine EX.nil ⟨rfl,ad3,a3,?_⟩
   have:xi (ps.map (keyD κ)).length=x.add c ps:=by
    show (ps.take _).foldl _ x2=_
    rw[hpl,Kq];delta SX.add;rw[hnp]
   replace J3:=this ▸ J3;exact J3
  .intro p ρ' E9;refine xAEA E9 λE5 ad' g1 g2=>?_;clear E9;subst E5
   exact iAEA rfl ad' g1 g2
end
section
variable {own f:Own} {h:Kf} {κ:Nat->List Int} {x:SX} {ad:Role->Gn} {dm:DE->MO}
theorem qZ {D:Gn} {es:DE} {v:Gd} {vs:List Gd} (ho:Dct own D es):PR w k own (λI=>VR I v (.ref D)/\VRs I vs []) (call (.builtin "dict.items") (v::vs)) (λI v=>VR I v (.ob (Qc D))):=by
 intro A l F I s hA H E9
 refine xA E9 λr1 rs=>?_;clear E9
 have E0:=VRs.nl rs;clear rs;subst E0
 have E0:=fJ r1;clear r1;subst E0
 refine yR (H.dct ho) λo el ep xs e hx Z=>?_
 have hT:s.TypeIs (.ref D) "dict" := (iEA _ e hx.1)
 have hS:=H.notMods ho.mo.choose_spec
 refine GX WA hT PySem.F.entry_dict_items ?_ (PySem.F.args_dict_items_1 _)
 delta Hm.«dict.items» Wv
 refine Ga (Ga (Ol hT (Gb ?_)))
 show Gf _ _ (KS D>>=_) _ _ s
 delta KS
 rw[if_neg (by rw[hS];exact Gv)]
 refine Ga (Gb (Ga (GR (Gb ⟨_,rfl,?_⟩))))
 exact⟨_,fA H.new.2.1,H.push_frozen (Qc D),.ob (zd ..),⟨rfl,rfl⟩⟩
theorem JN {D:Gn} {es:DE} {v:Gd} {vs:List Gd} (ho:Dct own D es):PR w k own (λI=>VR I v (.ref D)/\VRs I vs []) (call (.builtin "dict.values") (v::vs)) (λI v=>VR I v (.ob (Jf D))):=by
 intro A l F I s hA H E9
 refine xA E9 λr1 rs=>?_;clear E9
 have E0:=VRs.nl rs;clear rs;subst E0
 have E0:=fJ r1;clear r1;subst E0
 refine yR (H.dct ho) λo el ep xs e hx Z=>?_
 have hT:s.TypeIs (.ref D) "dict" := (iEA _ e hx.1)
 have hS:=H.notMods ho.mo.choose_spec
 refine GX Wn hT PySem.F.entry_dict_values ?_ (PySem.F.args_dict_values_1 _)
 refine Ga ?_
 delta Wv
 refine Ga (Ol hT (Gb ?_))
 show Gf _ _ (KS D>>=_) _ _ s
 delta KS
 rw[if_neg (by rw[hS];exact Gv)]
 refine Ga (Gb (Ga (GR (Gb ⟨_,rfl,?_⟩))))
 exact⟨_,fA H.new.2.1,H.push_frozen (Jf D),.ob (zd ..),⟨rfl,rfl⟩⟩
noncomputable def grD (κ:Nat->List Int) (G:List (Nat×List Nat)):DE:=G.map λg=>(κ g.1,.lst (g.2.map (keyD κ)))
noncomputable def SX.adds (x:SX) (G:List (Nat×List Nat)):SX:=G.foldl (λx g=>x.add g.1 g.2) x
noncomputable def sx0:SX:=⟨[],fp,0,0⟩
noncomputable def gsz (G:List (Nat×List Nat)):Nat:=(G.map λg=>g.2.length+1).sum
theorem dN:∀ (G:List (Nat×List Nat)) (x:SX),(x.adds G).rd=x.rd
 | [],x=>rfl
 | g::r,x=>by
  show (SX.adds (x.add g.1 g.2) r).rd=_
  rw[dN r];exact x.add_rd _ _
theorem dw:∀ (G:List (Nat×List Nat)) (x:SX) (B:Nat),x.sb B->x.nd.length<=B->(x.adds G).sb (B+gsz G)/\(x.adds G).nd.length<=B+gsz G
 | [],x,B,h1,h2=>⟨h1,h2⟩
 | g::r,x,B,h1,h2=>by
  have e:gsz (g::r)=g.2.length+1+gsz r:=by delta gsz;rw[GF,List.sum_cons]
  have:=dw r (x.add g.1 g.2) (B+(g.2.length+1)) ((h1.add g.1 g.2).mono (by exact Oi (B+g.snd.length))) (by have:=x.add_length g.1 g.2;lia)
  rw[e,←HE];exact this
theorem gsz_take (G:List (Nat×List Nat)) (i:Nat):gsz (G.take i)+gsz (G.drop i)=gsz G:=by
 have:gsz (G.take i++G.drop i)=gsz (G.take i)+gsz (G.drop i):=by delta gsz;rw[GG,gw]
 rw[←this,Tr]
theorem je {G:List (Nat×List Nat)} {S X Dg:Gn} {ep:Nat} {vs:List Gd} (hb:k.b=Gh) (hκ:∀ a b,κ a=κ b->a=b) (hne:S≠X) (hS:f S=fp) (hX:f X=fp) (hown:own=upd (upd f S (.slt 137 X [])) X (.ns []))
  (hg:f Dg=fm (.dcx (grD κ G) ep)) (hz:gsz G<=500) :
  CODE w k.up.up.up.up.up own (λI=>VRs I vs [.ref S,.ref Dg]) (.ref 73) vs [] (λd own'=>d=.none/\∃ ad,ad .S=S/\Inv f own' ad (cont κ dd (sx0.adds G) ad)):=by
 intro A l F I s hA H hP
 cases hP using ft with
 | @cons v1 _ r1 r2 =>
 cases r2 using ft with
 | @cons v2 _ r2 r3 =>
 (have E0:=VRs.nl r3;clear r3;subst E0)
 refine yz (w:=w) (i:=1) (own:=own) (P:=λI=>VRs I [v1,v2] [.ref S,.ref Dg]) (ds:=[(oS "self",.ref S),(oS "graph",.ref Dg)]) rfl ⟨rfl,rfl,rfl⟩
  (λfd h1 h2 h3=>?_) ?_ (λenv eok=>?_) A l F I s hA H (.cons r1 (.cons r2 .nil))
 .intro A l F I s hA H hp
  obtain⟨n,hn⟩:=H.base.dfl
  refine zan h1 h2 h3 v1 v2 (H.fz _ _ hn) ⟨I,.refl I,H,?_,.refl s⟩
  cases hp using ft with | cons a h=>cases h using ft with | cons b h=>exact .cons a (.cons b .nil)
 .intro x hx
  simp only[Gi,Gl,or_false] at hx
  rcases hx with rfl | rfl<;>exact .inl rfl
 .show let Φ':=_;let Ψ':=_;EX _ _ _ _ _ Φ' Ψ';intro Φ' Ψ'
  have hself:=eok.kL "self"
  have hgraph:=eok.kL "graph"
  have hnode:=eok.kL "node"
  have hpreds:=eok.kL "predecessors"
  subst hown
  refine fy (fL (Ψo:=noO) (Ω:=λo=>∃ D,f D=fp/\D≠S/\D≠X/\o=upd (upd (upd f S (.slt 137 X [])) D (.dct [])) X (.ns [(oS "_node2info",.ref D)])) EVO.dict (λd own' E9=>xEAA E9 λD e1 e3 e2=>⟨S,fq hself rfl,λv=>?_⟩) (λZ Z h=>h.elim)) ?_
  .subst e1;subst e2
   have e3:upd (upd f S (.slt 137 X [])) X (.ns []) D=fp:=e3
   have hDX:D≠X:=by rintro rfl;rewrite [zd] at e3;injection e3
   have hDS:D≠S:=by rintro rfl;(replace e3:=zc _ _ hDX ▸ e3;rewrite [zd] at e3);injection e3
   have hfD:f D=fp:=by (replace e3:=zc _ _ hDX ▸ e3;replace e3:=zc _ _ hDS ▸ e3);exact e3
   have hs:upd (upd (upd f S (.slt 137 X [])) X (.ns [])) D (.dct []) S=fm (.slt 137 X []):=by rw[zc _ _ hDS.symm,zc _ _ hne,zd]
   have hx:upd (upd (upd f S (.slt 137 X [])) X (.ns [])) D (.dct []) X=fm (.ns []):=by rw[zc _ _ hDX.symm,zd]
   intro A l F I s hA H hp
   refine mC (xq (w:=w) (k:=k.up.up.up.up) (Ψo:=noO) (d:=.ref D) (v:=v) (name:=oS "_node2info") hs hx rfl (lb rfl) A l F I s hA H hp) (λv s' I' o' a H' c q=>⟨I',o',a,H',⟨D,hfD,hDS,hDX,?_⟩,q⟩)
   rw[c,yn hDX.symm,yy];rfl
  intro ρ1 E9;refine xEA E9 λown1 E21 E22=>?_;clear E9;(refine yZ E21 λD hD hDS hDX E5=>?_;clear E21;subst E5);subst E22
  refine Mine.gn (upd (upd f S (.slt 137 X [])) D (.dct [])) λbase hb0=>?_
  have bS:base S=fm (.slt 137 X []):=by rw[←hb0,zc _ _ hDS.symm,zd]
  have setX:∀ (es:List (Str×PV)) (nm:Str) (d:PV) (v:Gd),takeTab.lookup (137,nm)=fm fp->es.length<=100->CALL w k.up.up.up.up (upd base X (.ns es)) (λI=>VR I v d) (PySem.setAttr (.ref S) nm v) (λZ Z o=>o=upd base X (.ns (xW es nm d))) noO:=by
   intro es nm d v ht hl A l F I s hA H hp
   refine mC (xq (w:=w) (k:=k.up.up.up.up) (Ψo:=noO) (d:=d) (v:=v) (name:=nm) (S:=S) (dx:=X) (ds:=[]) (by rw[zc _ _ hne];exact bS) (zd ..) ht (by exact Gc ‹_› (lb rfl)) A l F I s hA H hp) (λv s' I' o' a H' c q=>⟨I',o',a,H',?_,q⟩)
   rw[c,yy]
  refine fy (fL (Ψo:=noO) (Ω:=λo=>o=upd base X (.ns [(oS "_node2info",.ref D),(oS "_ready_nodes",.none)])) EVd.none.o (λd own' E9=>E9.elim λe1 e2=>⟨S,fq hself rfl,λv=>by subst e1;subst e2;exact setX _ _ _ v rfl (by exact G0.mp rfl)⟩) (λZ Z h=>h.elim)) ?_
  intro ρ1 E9;refine xEA E9 λown1 E5 E6=>?_;clear E9;subst E5;subst E6
  refine fy (fL (Ψo:=noO) (Ω:=λo=>o=upd base X (.ns [(oS "_node2info",.ref D),(oS "_ready_nodes",.none),(oS "_npassedout",.int 0)])) EVd.int.o (λd own' E9=>E9.elim λe1 e2=>⟨S,fq hself rfl,λv=>by subst e1;subst e2;exact setX _ _ _ v rfl (by exact G0.mp rfl)⟩) (λZ Z h=>h.elim)) ?_
  intro ρ1 E9;refine xEA E9 λown1 E5 E6=>?_;clear E9;subst E5;subst E6
  refine fy (fL (Ψo:=noO) (Ω:=λo=>o=upd base X (.ns [(oS "_node2info",.ref D),(oS "_ready_nodes",.none),(oS "_npassedout",.int 0),(oS "_nfinished",.int 0)])) EVd.int.o (λd own' E9=>E9.elim λe1 e2=>⟨S,fq hself rfl,λv=>by subst e1;subst e2;exact setX _ _ _ v rfl (by exact G0.mp rfl)⟩) (λZ Z h=>h.elim)) ?_
  intro ρ1 E9;refine xEA E9 λown1 E5 E6=>?_;clear E9;subst E5;subst E6
  let ad0:Role->Gn:=λ| .S=>S | .X=>X | .D=>D | _=>0
  have J0:Inv f (upd base X (.ns [(oS "_node2info",.ref D),(oS "_ready_nodes",.none),(oS "_npassedout",.int 0),(oS "_nfinished",.int 0)])) ad0 (cont κ dd sx0 ad0):=by
   have live:∀ r,cont κ dd sx0 ad0 r≠fp->r=.S\/r=.X\/r=.D:=λr hr=>by
    cases r with
    | S=>exact .inl rfl
    | X=>exact .inr (.inl rfl)
    | D=>exact .inr (.inr rfl)
    | _=>exact absurd rfl hr
   refine⟨λr m e=>?_,λr1 r2 h1 h2 e=>?_,λb m e=>?_⟩
   .rcases live r (by rw[e];(intro h;injection h;done)) with rfl | rfl | rfl
    ·(injection e with E1;subst E1);show upd base X _ S=_;rw[zc _ _ hne];exact bS
    ·(injection e with E1;subst E1);exact zd ..
    ·(injection e with E1;subst E1);show upd base X _ D=_;rw[zc _ _ hDX,←hb0];exact zd ..
   .rcases live r1 h1 with rfl | rfl | rfl<;>rcases live r2 h2 with rfl | rfl | rfl<;>first | rfl | exact absurd e hne | exact absurd e hne.symm | exact absurd e hDS | exact absurd e hDS.symm | exact absurd e hDX | exact absurd e hDX.symm
   .have b1:b≠S:=by rintro rfl;replace e:=hS ▸ e;injection e
    have b2:b≠X:=by rintro rfl;replace e:=hX ▸ e;injection e
    have b3:b≠D:=by rintro rfl;replace e:=hD ▸ e;injection e
    refine⟨by rw[zc _ _ b2,←hb0,zc _ _ b3,zc _ _ b1];exact e,λr hr=>?_⟩
    rcases live r hr with rfl | rfl | rfl
    .exact b1.symm
    .exact b2.symm
    .exact b3.symm
  refine fw (fI (b:=true) (dU (fq hgraph rfl) (d:=.ref Dg) (b:=false) rfl) (λZ=>?_) (λh=>by injection h))
  have hgl:(grD κ G).length=G.length:=Ge ..
  refine fw (EX1.mono (pE (k:=k.up.up.up.up) (D:=Dg) (ds:=grD κ G) (ep:=ep) (Φ:=λp ρ'=>p=.next/\∃ ad',ad' .S=S/\Inv f ρ'.own ad' (cont κ dd (sx0.adds G) ad')) hb
   (dz (fq hgraph rfl) (uK (.inr ⟨ep,(J0.fr _ _ hg).1⟩)) .nil NJ WA PySem.F.type_dict_items (λv vs=>qZ (.inr ⟨ep,(J0.fr _ _ hg).1⟩)))
   (.inl hnode) (.inl hpreds) (λi ρ=>ρ.loc.lookup (oS "self")=fm (.ref S)/\∃ ad',ad' .S=S/\Inv f ρ.own ad' (cont κ dd (sx0.adds (G.take i)) ad')) ?_ ?_ ?_ ?_) ?_)
  .exact iAEA rfl ad0 rfl J0
  ·(intro i ρ' E9;refine xAEA E9 λZ ad' Z J'=>?_;clear E9);exact(J'.fr _ _ hg).1
  .intro i ks d ρ2 hd E9;refine xAEA E9 λl1 ad2 a2 J2=>?_;clear E9
   ac_rfl
   delta grD at hd
   replace hd:=(Gx) ▸ hd;rewrite [Gz] at hd
   obtain⟨g,hd,e⟩:=hd
   (injection e with E1 E2;subst E2;subst E1)
   have ht:G.take (i+1)=G.take i++[g]:=by rw[Hx,hd];rfl
   have hz2:gsz (G.take i)+(g.2.length+1)<=gsz G:=by
    have:=gsz_take G (i+1)
    replace this:=ht ▸ this
    have e2:gsz (G.take i++[g])=gsz (G.take i)+(g.2.length+1):=by delta gsz;rw[GG,gw];rfl
    lia
   obtain⟨b1,b2⟩:=dw (G.take i) sx0 0 (λi n su h=>by injection h) (GI _)
   have hgz:g.2.length<=500:=by lia
   refine fw (pZ (fU (Ψo:=noO) (pv (g:=87) (fq hself ((l1))) (a2 ▸ J2.S) J2.X rfl rfl (dc rfl) rfl (i:=3) rfl
    (λvs=>a2 ▸ code_add hb hκ J2 (dN _ _) (by lia) b1 (by lia)) rfl
    (λf=>star_two (ds:=g.2.map (keyD κ)) (fq hnode (rfl)) (nst rfl) (fq hpreds rfl) (.inl rfl) (by rw[Ge];exact Gc ‹_› (lb rfl)) f)) (λZ Z h=>h.elim)) ?_)
   intro d own' E24;(refine xAEA E24 λE5 ad' g1 g2=>?_;clear E24;subst E5)
   refine iAEA ((l1)) ad' g1 ?_
   rw[ht]
   have:SX.adds sx0 (G.take i++[g])=(SX.adds sx0 (G.take i)).add g.1 g.2:=by delta SX.adds;rw[Lk];rfl
   rw[this];exact g2
  .intro ρ2 E9;refine xAEA E9 λl1 ad2 a2 J2=>?_;clear E9
   ac_rfl
   replace J2:=hgl ▸ J2;replace J2:=Kq ▸ J2
   exact EX.nil (iAEA rfl ad2 a2 J2)
  .intro p ρ' E9;refine xAEA E9 λE5 ad' g1 g2=>?_;clear E9;subst E5
   exact iAEA rfl ad' g1 g2
theorem j9 {G:List (Nat×List Nat)} {Dg:Gn} {ep:Nat} {vs:List Gd} (hb:k.b=Gh) (hκ:∀ a b,κ a=κ b->a=b) (hg:f Dg=fm (.dcx (grD κ G) ep)) (hz:gsz G<=500) :
  CODE w k.up.up.up.up.up.up f (λI=>VRs I vs [.ref Dg]) (.ref 137) vs [] (λd own'=>∃ ad,d=.ref (ad .S)/\Inv f own' ad (cont κ dd (sx0.adds G) ad)):=by
 refine Jt (f:=73) (λK ko=>ko.made.1) rfl (dc rfl) fP ?_
 intro A l F I s x dx hA H hP hne Lx Ld ex ed
 have H1:=H.take (mo:=.slt 137 dx []) Lx ex (iEA [] rfl (.nil))
 have Ld1:Loose F I (upd f x (.slt 137 dx [])) dx:=⟨Ld.1,Ld.2.1,by rw[zc _ _ hne.symm];exact Ld.2.2.1,Ld.2.2.2⟩
 have H2:=H1.take (mo:=.ns []) Ld1 ed (vn (#[]) 0 rfl (λe he=>by simp at he) (GU _) (λx=>rfl))
 refine TQ (je (w:=w) (k:=k) (f:=f) (own:=upd (upd f x (.slt 137 dx [])) dx (.ns [])) hb hκ hne Lx.2.2.1 Ld.2.2.1 rfl hg hz A l F I s hA H2 (.cons (.ref x) hP)) λr s' z=>?_
 rcases r with e | fl
 .exact z.elim
 .cases fl with
  | ret v =>
   obtain⟨I',o',d',a,H',r,⟨rfl,ad,g1,g2⟩,q⟩:=z
   have E0:=pJ r;clear r;subst E0
   exact⟨rfl,I',o',.ref x,a,H',.ref x,⟨ad,by rw[g1],g2⟩,q⟩
  | _=>exact z.elim
end
section
variable {own f:Own} {h:Kf} {κ:Nat->List Int} {x:SX} {ad:Role->Gn} {dm:DE->MO}
theorem Zn {a:Gn} {ds:List PV} {vs:List Gd} (ho:own a=fm (.lst ds)) (hl:ds.length<=1000):CALL w k own (λI=>VRs I vs []) (call (.builtin "list.clear") (.ref a::vs)) (λI r own'=>r=.none/\own'=upd own a (.lst [])) Ψo:=by
 intro A l F I s hA H hv
 show let Q':=_;let E':=_;Gf _ _ _ Q' E' _;intro Q' E'
 have E0:=VRs.nl hv;clear hv;subst E0
 refine zR (H.ow a _ ho) λo e vs n E5 r=>?_;subst E5
 refine VZ Wz (iEA _ e rfl) PySem.F.entry_list_clear (PySem.F.args_list_clear_1 _) (PySem.AutoSeq1.list_clear_list_0 a vs.toArray n (by rw[Gw,r.length,HJ];exact Gc ‹_› (lb rfl))) ⟨e,?_⟩
 exact⟨I,_,.refl I,H.set ho (GB ..).extBut (GM _ e rfl) (mo':=.lst []) ⟨[],_,rfl,.nil⟩,⟨rfl,rfl⟩,⟨rfl,rfl⟩⟩
theorem call_pop {a:Gn} {ds:List PV} {d:PV} {vs:List Gd} (ho:own a=fm (.lst (ds++[d]))) (hl:ds.length<=1000):CALL w k own (λI=>VRs I vs []) (call (.builtin "list.pop") (.ref a::vs)) (λI r own'=>VR I r d/\own'=upd own a (.lst ds)) Ψo:=by
 intro A l F I s hA H hv
 show let Q':=_;let E':=_;Gf _ _ _ Q' E' _;intro Q' E'
 have E0:=VRs.nl hv;clear hv;subst E0
 refine zR (H.ow a _ ho) λo e vs n E5 r=>?_;subst E5
 have hlen:=r.length
 replace hlen:=Gs ▸ hlen;replace hlen:=HL ▸ hlen
 refine xEA (r.get (i:=ds.length) (d:=d) (by exact Wq)) λv hv rv=>?_
 have hsz:vs.toArray.size=ds.length+1:=by rw[Gw,hlen]
 refine VZ W7 (iEA _ e rfl) PySem.F.entry_list_pop (PySem.F.args_list_pop_1 _) (PySem.MeetsSeq.list_pop_last a vs.toArray n v (by rw[hsz];simpa using hv) (by rw[hsz,HJ];lia)) ⟨e,?_⟩
 have e2:vs.toArray.eraseIdxIfInBounds (vs.toArray.size-1)=(vs.take ds.length).toArray:=by
  rw[hsz,Nat.add_sub_cancel]
  apply Yr
  rw[VG]
  show vs.eraseIdx ds.length=vs.take ds.length
  rw[VL,Ky (by exact KB hlen),Hl]
 have r2:VRs I (vs.take ds.length) ds:=by have:=r.take ds.length;rewrite [gv] at this;exact this;rfl
 have e3:∃ m,Ko (λxs=>xs.eraseIdxIfInBounds (vs.toArray.size-1)) (lstO vs n)=lstO (vs.take ds.length) m:=⟨_,by show ({ cls:=.type "list",data:=.seq (vs.toArray.eraseIdxIfInBounds (vs.toArray.size-1)) _ }:Obj)=_;rw[e2];rfl⟩
 obtain⟨m,e3⟩:=e3
 have e4:=GM (Ko (λxs=>xs.eraseIdxIfInBounds (vs.toArray.size-1))) e rfl
 exact⟨I,_,.refl I,H.set ho (GB ..).extBut e4 (mo':=.lst ds) ⟨vs.take ds.length,m,e3,r2⟩,⟨rv,rfl⟩,⟨rfl,rfl⟩⟩
theorem qR {a:Gn} {ds:List PV} {vs:List Gd} (ho:own a=fm (.lst ds)) (hl:ds.length<=1000):PR w k own (λI=>VRs I vs [.ref a]) (call (.type "tuple") vs) (λI v=>VR I v (.tup ds)):=by
 intro A l F I s hA H hv
 refine VRs.k hv λv vs E0 r1 r2=>?_;clear hv;subst E0
 have E0:=VRs.nl r2;clear r2;subst E0
 have E0:=fJ r1;clear r1;subst E0
 refine zR (H.ow a _ ho) λo e vs n E5 r=>?_;subst E5
 refine call_tuple_list (zj _ e rfl n rfl) (λh' hk=>?_) (by rw[Gw,r.length,HJ];exact Gc ‹_› (lb rfl))
 have H2:=H.all hk
 exact⟨_,fA H2.new.2.1,H2.push_frozen { cls:=.type "tuple",data:=.seq vs.toArray },.tup (zd ..) (r.mono (fA H2.new.2.1)),⟨rfl,rfl⟩⟩
theorem Zw {a:Gn} {ds:List PV} (ho:own a=fm (.lst ds)) (hl:ds.length<=1000) {v:Gd}:PR w k own (λI=>VR I v (.ref a)) (truthy v) (λI b=>b=!ds.isEmpty):=by
 intro A l F I s hA H r
 have E0:=fJ r;clear r;subst E0
 refine zR (H.ow a _ ho) λo e vs n E5 r=>?_;subst E5
 refine gV (zj _ e rfl n rfl) (by rw[Gw,r.length];lia) ⟨I,.refl I,H,?_,⟨rfl,rfl⟩⟩
 have:=r.length
 cases ds<;>cases vs<;>simp at this ⊢
theorem ju (l:Gn) (items:Array Gd) (hfit:(items.size:Int)<2 ^ 63) :
  YB (Hm.«bool.__new__» ⟨[.type "bool",.ref l],[]⟩) (λZ R s=>s.heap.IsList l items/\R (.ok (.ret (.bool (!items.isEmpty)))) { s with toks:=s.toks+1+1 }) :=
 Meets.of_wp λprog w A R s E9=>E9.elim λhl hs=>by
  show let Q':=_;let E':=_;Gf _ _ _ Q' E' _;intro Q' E'
  obtain⟨hp,g,d,tk,os⟩:=s
  have f1:=PySem.F.conv_sub_bool
  repeat (any_goals (first | assumption | (with_reducible refine gV hl hfit ?_) | wp_step))
  all_goals first | exact⟨_,rfl,hs⟩ | exact hs | skip
theorem Qo {a:Gn} {ds:List PV} {vs:List Gd} (ho:own a=fm (.lst ds)) (hl:ds.length<=1000):PR w k own (λI=>VRs I vs [.ref a]) (call (.type "bool") vs) (λI v=>VR I v (.bool (!ds.isEmpty))):=by
 intro A l F I s hA H hv
 refine VRs.k hv λv vs E0 r1 r2=>?_;clear hv;subst E0
 have E0:=VRs.nl r2;clear r2;subst E0
 have E0:=fJ r1;clear r1;subst E0
 refine zR (H.ow a _ ho) λo e vs n E5 r=>?_;subst E5
 have hb:vs.toArray.isEmpty=ds.isEmpty:=by
  have:=r.length
  cases ds<;>cases vs<;>simp at this ⊢
 refine call_bool_1 (ju a vs.toArray (by rw[Gw,r.length];lia)) ⟨(zj _ e rfl n rfl),⟨rfl,?_⟩⟩
 rw[hb]
 exact⟨I,.refl I,H,.bool _,⟨rfl,rfl⟩⟩
theorem pr_isub {a c:Int} {v1 v2:Gd}:PR w k own (λI=>VR I v1 (.int a)/\VR I v2 (.int c)) (Yv .Sub v1 v2) (λI v=>VR I v (.int (a-c))):=λA l F I s hA H E9=>E9.elim λr1 r2=>by
 show let Q':=_;let E':=_;Gf _ _ _ Q' E' _;intro Q' E'
 (refine fM r1 λZ E0=>?_;clear r1;subst E0);(refine fM r2 λZ E0=>?_;clear r2;subst E0)
 exact PySem.P.isub_int ⟨I,.refl I,H,.int _ _,⟨rfl,rfl⟩⟩
theorem AI {e1 e2:Expr} {pos:Pos} {b1 b2:Bool} (h1:EVd w k env ρ e1 (.bool b1)) (h2:EVd w k env ρ e2 (.bool b2)):EVd w k env ρ (.BoolOp .Or [e1,e2] pos) (.bool (b1||b2)):=λA l F I s hA H L p =>
 wpAny_Or2 (mP (h1 A l F I s hA H L p) (λv s1 I1 a1 H1 r1 q1=>by
  (have E0:=dX r1;clear r1;subst E0)
  refine Kj ?_
  cases b1 with
  | true=>exact⟨I1,a1,H1,.bool _,q1⟩
  | false=>exact mP (h2 A l F I1 s1 hA H1 (L.mono a1) p) (λv s2 I2 a2 H2 r2 q2=>⟨I2,a1.trans a2,H2,r2,q1.trans q2⟩)))
end
noncomputable def SX.setRd (x:SX) (r:List Nat):SX:={ x with rd:=fm r }
noncomputable def SX.setP (x:SX) (p:Int):SX:={ x with p:=p }
noncomputable def SX.setF (x:SX) (f:Int):SX:={ x with f:=f }
noncomputable def rdL (x:SX):List Nat:=x.rd.getD []
noncomputable def SX.active (x:SX):Bool:=decide (x.f<x.p)||!(rdL x).isEmpty
noncomputable def SX.outs (x:SX) (r:List Nat):SX:=r.foldl (λx c=>x.setNp c (-1)) x
noncomputable def SX.got (x:SX) (r:List Nat):SX:=((x.outs r).setRd []).setP (x.p+r.length)
section
variable {f own:Own} {κ:Nat->List Int} {x:SX} {ad:Role->Gn} {dm:DE->MO}
theorem Inv.setRd (J:Inv f own ad (cont κ dm x ad)) {r0:List Nat} (h:x.rd=fm r0) (r:List Nat):Inv f (upd own (ad .R) (.lst (r.map (keyD κ)))) ad (cont κ dm (x.setRd r) ad):=by
 have J1:=J.set (r:=.R) (by show x.rd.map _≠_;rw[h];(intro h;injection h;done)) (.lst (r.map (keyD κ)))
 refine J1.cong λq=>?_
 cases q with
 | R=>rfl
 | X =>
  skip
  show fm (MO.ns _)=fm (MO.ns _)
  unfold nsOf rdD;rw[h];rfl
 | _=>rfl
theorem Inv.setX (J:Inv f own ad (cont κ dm x ad)) {y:SX} (h1:y.nd=x.nd) (h2:y.rd=x.rd):Inv f (upd own (ad .X) (.ns (nsOf y ad))) ad (cont κ dm y ad):=by
 have J1:=J.set (r:=.X) (by (intro h;injection h;done)) (.ns (nsOf y ad))
 refine J1.cong λq=>?_
 cases q with
 | X=>rfl
 | S=>rfl
 | D=>show fm (dm _)=fm (dm _);rw[jf (x:=x) (y:=y) (by rw[h1])]
 | R=>show y.rd.map _=x.rd.map _;rw[h2]
 | N i=>show (y.nd.lookup i).map _=(x.nd.lookup i).map _;rw[h1]
 | L i=>show (y.nd.lookup i).map _=(x.nd.lookup i).map _;rw[h1]
end
theorem fX (x:SX) (c i:Nat) (v:Int):(x.setNp c v).nd.lookup i=if i=c then (x.nd.lookup i).map (λp=>(v,p.2)) else x.nd.lookup i:=zV x.nd c i (λp=>(v,p.2))
theorem pr {x:SX} {c i:Nat} {v:Int} (h:x.nd.lookup i≠fp):(x.setNp c v).nd.lookup i≠fp:=by
 rw[fX]
 split
 ·(refine xE (Kv.mp h) λa e=>?_);rw[e];(intro h;injection h;done)
 .exact h
theorem dQ:∀ (r:List Nat) {x:SX} {i:Nat},x.nd.lookup i≠fp->(x.outs r).nd.lookup i≠fp
 | [],x,i,h=>h
 | c::r,x,i,h=>dQ r (pr h)
theorem dR:∀ (r:List Nat) (x:SX),(x.outs r).rd=x.rd/\(x.outs r).p=x.p/\(x.outs r).f=x.f
 | [],x=>⟨rfl,rfl,rfl⟩
 | c::r,x=>dR r (x.setNp c (-1))
section
variable {own f:Own} {h:Kf} {κ:Nat->List Int} {x:SX} {ad:Role->Gn} {dm:DE->MO}
theorem x3 {st:HF} (hst:st=zz (top 6) 4\/st=zz (top 6) 5\/st=zz (top 6) 3\/st=zz (top 6) 8) {v:Gd} {S:PV} (fd:LS) (h1:fd.params=zE st) (h2:fd.defaults=.none) (h3:fd.kwdefaults=.none):PR w k own (λI=>VRs I [v] [S]) (NG fd ⟨[v],[]⟩) (λI bs=>BRs I bs [(oS "self",S)]):=by
 refine zO (st:=st) (bs:=[(oS "self",v)]) h1 h2 h3 (λfd h1 h2 h3=>?_) λI h=>by
   cases h using ft with | cons a h=>exact .cons a .nil
 obtain⟨⟩:=fd
 simp only at h1 h2 h3
 rcases hst with rfl | rfl | rfl | rfl<;>(subst h1 h2 h3;rfl)
theorem qU {r:List Nat} (h:x.rd=fm r):xG (rdD x ad)=fm Gk:=by delta rdD;rw[h];rfl
theorem vA {r:List Nat} (h:x.rd=fm r):rdD x ad=.ref (ad .R):=by delta rdD;rw[h]
theorem uZ {r:List Nat} {vs:List Gd} (J:Inv f own ad (cont κ dm x ad)) (hr:x.rd=fm r) (hl:r.length<=1000) :
  CODE w k.up own (λI=>VRs I vs [.ref (ad .S)]) (.ref 106) vs [] (λd own'=>d=.bool x.active/\own'=own):=by
 intro A l F I s hA H hP
 refine VRs.k hP λv vs E0 r1 r2=>?_;clear hP;subst E0
 have E0:=VRs.nl r2;clear r2;subst E0
 refine yz (w:=w) (i:=6) (own:=own) (P:=λI=>VRs I [_] [.ref (ad .S)]) (ds:=[(oS "self",.ref (ad .S))]) rfl ⟨rfl,rfl,rfl⟩ (x3 (.inr (.inl rfl))) ?_ (λenv eok=>?_) A l F I s hA H (.cons r1 .nil)
 .intro x hx
  simp only[Gi,Gl,or_false] at hx
  subst hx;exact .inl rfl
 .have hself:=eok.kL "self"
  have hbool:=eok.kG "bool"
  refine EX.step (fI (b:=false) (TDb.is (dh J (fq hself rfl)) (qU hr)) (λh=>by injection h) (λZ=>EX.nil ⟨rfl,rfl⟩)) ?_
  refine fw (EX1.mono (EX1.ret (d:=.bool x.active) ?_) ?_)
  .have h1:EVd w k env ⟨[(oS "self",.ref (ad .S))].reverse,own⟩ (.Attribute (.Name (oS "self") ⟨63,58,63,62⟩) (oS "_ready_nodes") ⟨63,58,63,75⟩) (.ref (ad .R)):=by
    rw[←vA (x:=x) hr];exact dh J (fq hself rfl)
   have h2:x.active=(decide (x.f<x.p)||!(r.map (keyD κ)).isEmpty):=by unfold SX.active rdL;rw[hr];simp
   rw[h2]
   exact AI (Ad (Am J (fq hself rfl)) (AB J (fq hself rfl)) (λv1 v2=>pr_lt)) (fG hbool rfl (.cons h1 (nst rfl) .nil) (λvs=>Qo (J.R hr) (by rw[Ge];exact hl)))
  ·(intro p ρ' E9;refine xA E9 λE5 E6=>?_;clear E9;subst E5;subst E6);exact⟨rfl,rfl⟩
theorem JU {r:List Nat} {vs:List Gd} (hb:k.b=Gh) (hκ:∀ a b,κ a=κ b->a=b) (J:Inv f own ad (cont κ dd x ad)) (hr:x.rd=fm r) (hl:r.length<=1000) (hin:∀ c∈r,x.nd.lookup c≠fp) :
  CODE w k.up own (λI=>VRs I vs [.ref (ad .S)]) (.ref 99) vs [] (λd own'=>d=.tup (r.map (keyD κ))/\Inv f own' ad (cont κ dd (x.got r) ad)):=by
 intro A l F I s hA H hP
 refine VRs.k hP λv vs E0 r1 r2=>?_;clear hP;subst E0
 have E0:=VRs.nl r2;clear r2;subst E0
 refine yz (w:=w) (i:=5) (own:=own) (P:=λI=>VRs I [_] [.ref (ad .S)]) (ds:=[(oS "self",.ref (ad .S))]) rfl ⟨rfl,rfl,rfl⟩ (x3 (.inl rfl)) ?_ (λenv eok=>?_) A l F I s hA H (.cons r1 .nil)
 .intro x hx
  simp only[Gi,Gl,or_false] at hx
  subst hx;exact .inl rfl
 .show let Φ':=_;let Ψ':=_;EX _ _ _ _ _ Φ' Ψ';intro Φ' Ψ'
  have hself:=eok.kL "self"
  have hres:=eok.kL "result"
  have hn2i:=eok.kL "n2i"
  have hnode:=eok.kL "node"
  have htuple:=eok.kG "tuple"
  have hout:=eok.kG "_NODE_OUT"
  have hlen:=eok.kG "len"
  have hrl:(r.map (keyD κ)).length=r.length:=Ge ..
  refine EX.step (fI (b:=false) (TDb.is (dh J (fq hself rfl)) (qU hr)) (λh=>by injection h) (λZ=>EX.nil ⟨rfl,rfl⟩)) ?_
  have h1:EVd w k env ⟨[(oS "self",.ref (ad .S))].reverse,own⟩ (.Attribute (.Name (oS "self") ⟨52,23,52,27⟩) (oS "_ready_nodes") ⟨52,23,52,40⟩) (.ref (ad .R)):=by
   rw[←vA (x:=x) hr];exact dh J (fq hself rfl)
  refine EX.step (fH (fG htuple rfl (.cons h1 (nst rfl) .nil) (λvs=>qR (J.R hr) (by exact le_of_eq_of_le (hκ (O6 (keyD κ) r).length r.length (congrArg κ hrl)) hl))) hres rfl) ?_
  refine EX.step (fH (EVd.n2i J (fq hself (rfl))) hn2i rfl) ?_
  let xi:Nat->SX:=λi=>x.outs (r.take i)
  refine fy (D:=λρ=>ρ.loc.lookup (oS "self")=fm (.ref (ad .S))/\ρ.loc.lookup (oS "result")=fm (.tup (r.map (keyD κ)))/\Inv f ρ.own ad (cont κ dd (x.outs r) ad)) (de (k:=k) (CO:=λZ=>True) (ds:=r.map (keyD κ)) hb (fq hres (rfl)) (Itb.tup hb) hnode
   (λi ρ=>ρ.loc.lookup (oS "self")=fm (.ref (ad .S))/\ρ.loc.lookup (oS "result")=fm (.tup (r.map (keyD κ)))/\ρ.loc.lookup (oS "n2i")=fm (.ref (ad .D))/\Inv f ρ.own ad (cont κ dd (xi i) ad)) ?_ (λZ Z Z=>trivial) ?_ ?_) ?_
  .exact⟨(rfl),rfl,rfl,J⟩
  .intro i d ρ3 hd E9;refine xAAA E9 λl1 l2 l3 J3=>?_;clear E9
   ac_rfl
   replace hd:=(Gx) ▸ hd;rewrite [Gz] at hd
   obtain⟨c,hd,rfl⟩:=hd
   obtain⟨⟨n3,su3⟩,hc3⟩:=Kv.mp (dQ (r.take i) (hin c (GS hd)))
   refine fw (EX1.mono (fL (Ψo:=noO) (Ω:=λo=>Inv f o ad (cont κ dd (xi (i+1)) ad)) (fV hout rfl).o (λd' own' E9=>E9.elim λe1 e2=>⟨ad (.N c),?_,λv=>?_⟩) (λZ Z h=>h.elim)) ?_)
   .subst e2
    exact dB (fq hn2i (l3)) (.inl J3.Dd) (fq hnode rfl) (by rw[yv hκ,hc3];rfl)
   .subst e1;subst e2
    intro A l F I s hA H hp
    refine mC (yt (w:=w) (k:=k) (Ψo:=noO) (i:=1) (d:=.int (-1)) (v:=v) (name:=oS "npredecessors") (J3.N hc3) (by show 1<=3;exact lb rfl) (lb rfl) rfl y0.2.1 A l F I s hA H hp) (λv s' I' o' a H' c' q=>⟨I',o',a,H',?_,q⟩)
    have hx:xi (i+1)=(xi i).setNp c (-1):=by
     show x.outs (r.take (i+1))=_
     rw[Hx,hd];delta SX.outs;rw[Lk];rfl
    rw[hx,c']
    exact J3.setNp hc3 (-1)
   .intro p ρ' E9;refine xAEA E9 λE5 own' g E6=>?_;clear E9;subst E5;subst E6
    exact⟨l1,l2,l3,g⟩
  .intro ρ3 E9;refine xAAA E9 λl1 l2 l3 J3=>?_;clear E9
   ac_rfl
   have:xi (r.map (keyD κ)).length=x.outs r:=by show x.outs (r.take _)=_;rw[hrl,Kq]
   replace J3:=this ▸ J3
   exact EX.nil ⟨rfl,l1,l2,J3⟩
  intro ρ4 E9;refine xAA E9 λl1 l2 J4=>?_;clear E9
  refine xAA (dR r x) λk1 k2 k3=>?_
  have hr4:(x.outs r).rd=fm r:=k1.trans hr
  have h4:EVd w k env ρ4 (.Attribute (.Name (oS "self") ⟨56,8,56,12⟩) (oS "_ready_nodes") ⟨56,8,56,25⟩) (.ref (ad .R)):=by
   rw[←vA (x:=x.outs r) hr4];exact dh J4 (fq hself l1)
  refine dH (fU (Ψo:=noO) (Θ:=λd o=>d=.none/\o=upd ρ4.own (ad .R) (.lst [])) (dA h4 (j8 (J4.R hr4)) .nil NI Wz PySem.F.type_list_clear (λv vs A l F I s hA H E9=>E9.elim λp1 p2=>by
   show let Q':=_;let E':=_;Gf _ _ _ Q' E' _;intro Q' E'
   have E0:=fJ p1;clear p1;subst E0
   exact mC (Zn (w:=w) (k:=k) (Ψo:=noO) (J4.R hr4) (by exact le_of_eq_of_le (hκ (O6 (keyD κ) r).length r.length (congrArg κ hrl)) hl) A l F I s hA H p2) (λv s' I' o' a H' E9 q=>E9.elim λc1 c2=>⟨I',o',a,H',⟨.none,by rw[c1];exact .none,rfl,c2⟩,q⟩))) (λZ Z h=>h.elim)) λd5 own5 E27=>?_
  ((refine xA E27 λE5 E6=>?_;clear E27;subst E5;subst E6))
  have J5:Inv f (upd ρ4.own (ad .R) (.lst [])) ad (cont κ dd ((x.outs r).setRd []) ad):=J4.setRd hr4 []
  refine fy (du (S:=ad .S) (d1:=.int x.p) (d2:=.int r.length) (d:=.int (x.p+r.length)) (Ω:=λo=>Inv f o ad (cont κ dd (x.got r) ad)) (fq hself l1) (λv=>xe J5.S J5.X (by rw[ns_out];show fm (PV.int (x.outs r).p)=_;rw[k2]) rfl (by intro x h;injection h))
   (fB hlen rfl (.cons (fq hres l2) (nst rfl) .nil) (λvs=>hrl ▸ jU (by lia))) (λv1 v2=>uT) (λv A l F I s hA H hp=>?_)) ?_
  .refine mC (xq (w:=w) (k:=k) (Ψo:=noO) (d:=.int (x.p+r.length)) (v:=v) (name:=oS "_npassedout") J5.S J5.X rfl (by show 4<=1000;exact lb rfl) A l F I s hA H hp) (λv s' I' o' a H' c' q=>⟨I',o',a,H',?_,q⟩)
   rw[c']
   exact J5.setX (y:=x.got r) rfl rfl
  intro ρ6 E9;refine xEA E9 λown6 J6 E5=>?_;clear E9;subst E5
  refine fw (fS (EX1.ret (fq hres l2)) ?_)
  exact⟨rfl,J6⟩
end
noncomputable def yU {α β:Type} (ok:α->β->Bool) (step:α->β->α):α->List β->Bool
 | _,[]=>Gh
 | x,c::r=>ok x c&&yU ok step (step x c) r
noncomputable def decS (x:SX) (s:Nat):SX:=if npOf x s-1=0 then ((x.setNp s (npOf x s-1)).setRd (rdL x++[s])) else x.setNp s (npOf x s-1)
noncomputable def decOk (x:SX) (s:Nat):Bool:=(x.nd.lookup s).isSome&&x.rd.isSome&&decide ((rdL x).length<=1000)
noncomputable def yL (x:SX) (c:Nat):List Nat:=((x.nd.lookup c).map (·.2)).getD []
noncomputable def yc (x:SX) (c:Nat):SX:=(((yL x c).foldl decS (x.setNp c (-2))).setF (((yL x c).foldl decS (x.setNp c (-2))).f+1))
noncomputable def jy (x:SX) (c:Nat):Bool:=(x.nd.lookup c).isSome&&npOf x c == -1&&decide ((yL x c).length<=1000)&&yU decOk decS (x.setNp c (-2)) (yL x c)
theorem xY {α β:Type} {ok:α->β->Bool} {step:α->β->α}:∀ {l:List β} {x:α},yU ok step x l=Gh->∀ {i:Nat} {c:β},l[i]? = fm c->ok ((l.take i).foldl step x) c=Gh
 | [],x,h,i,c,e=>by simp at e
 | b::r,x,h,0,c,e=>by
  simp at e;subst e
  exact(Yb.mp h).1
 | b::r,x,h,i+1,c,e=>by
  rw[Yl,Km]
  exact xY (Yb.mp h).2 (by simpa using e)
theorem np_of {x:SX} {c:Nat} {n:Int} {su:List Nat} (h:x.nd.lookup c=fm (n,su)):npOf x c=n/\yL x c=su:=by
 unfold npOf yL;rw[h];exact⟨rfl,rfl⟩
theorem decS_suc (x:SX) (s i:Nat):((decS x s).nd.lookup i).map (·.2)=(x.nd.lookup i).map (·.2):=by
 have e:(decS x s).nd=(x.setNp s (npOf x s-1)).nd:=by delta decS;split<;>rfl
 rw[e,fX]
 split
 .cases x.nd.lookup i<;>rfl
 .rfl
theorem vU (i:Nat):∀ (l:List Nat) (x:SX),((l.foldl decS x).nd.lookup i).map (·.2)=(x.nd.lookup i).map (·.2)
 | [],x=>rfl
 | s::r,x=>by rw[Km,vU i r,decS_suc]
theorem decS_rd {x:SX} {s:Nat} (h:x.rd.isSome=Gh):(decS x s).rd.isSome=Gh:=by
 delta decS;split
 .rfl
 .exact h
theorem qz {x:SX} {c:Nat} (h:x.rd.isSome=Gh):(yc x c).rd.isSome=Gh:=by
 have aux:∀ (l:List Nat) (y:SX),y.rd.isSome=Gh->(l.foldl decS y).rd.isSome=Gh:=by
  intro l
  induction l with
  | nil=>intro y hy;exact hy
  | cons s r ih=>intro y hy;exact ih _ (decS_rd hy)
 exact aux _ _ h
section
variable {own f:Own} {h:Kf} {κ:Nat->List Int} {x:SX} {ad:Role->Gn} {dm:DE->MO}
theorem ZQ {cs:List Nat} {vs:List Gd} (hb:k.b=Gh) (hκ:∀ a b,κ a=κ b->a=b) (J:Inv f own ad (cont κ dd x ad)) (hrd:x.rd.isSome=Gh) (hok:yU jy yc x cs=Gh) (hl:cs.length<=1000) :
  CODE w k.up own (λI=>VRs I vs (.ref (ad .S)::cs.map (keyD κ))) (.ref 120) vs [] (λd own'=>d=.none/\Inv f own' ad (cont κ dd (cs.foldl yc x) ad)):=by
 intro A l F I s hA H hP
 cases hP using ft with
 | @cons v1 vs r1 r2 =>
 have hcl:(cs.map (keyD κ)).length=cs.length:=Ge ..
 refine yz (w:=w) (i:=7) (own:=own) (P:=λI=>VRs I (v1::vs) (.ref (ad .S)::cs.map (keyD κ))) (ds:=[(oS "self",.ref (ad .S)),(oS "nodes",.tup (cs.map (keyD κ)))]) rfl ⟨rfl,rfl,rfl⟩
  (λfd h1 h2 h3=>?_) ?_ (λenv eok=>?_) A l F I s hA H (.cons r1 r2)
 .rw[ZN h1 h2 h3]
  refine PR.bind fP (PR.weaken (u6 (ds:=cs.map (keyD κ)) (by exact le_of_eq_of_le (hκ (O6 (keyD κ) cs).length cs.length (congrArg κ hcl)) hl)) (λI h=>by cases h using ft with | cons _ h=>exact h) (λI v h=>h)) λt=>PR.pure λI E9=>E9.elim λh1 h2=>?_
  cases h1 using ft with | cons a h=>exact .cons a (.cons h2 .nil)
 .intro x hx
  simp only[Gi,Gl,or_false] at hx
  rcases hx with rfl | rfl<;>exact .inl rfl
 .show let Φ':=_;let Ψ':=_;EX _ _ _ _ _ Φ' Ψ';intro Φ' Ψ'
  have hself:=eok.kL "self"
  have hnodes:=eok.kL "nodes"
  have hn2i:=eok.kL "n2i"
  have hnode:=eok.kL "node"
  have hinfo:=eok.kL "nodeinfo"
  have hstat:=eok.kL "stat"
  have hsucc:=eok.kL "successor"
  have hsinfo:=eok.kL "successor_info"
  have hout:=eok.kG "_NODE_OUT"
  have hdone:=eok.kG "_NODE_DONE"
  have hrs:∃ r,x.rd=fm r:=Hz.mp hrd
  refine xE hrs λr0 hr0=>?_;try clear hrs
  refine EX.step (fI (b:=false) (TDb.is (dh J (fq hself rfl)) (qU hr0)) (λh=>by injection h) (λZ=>EX.nil ⟨rfl,rfl⟩)) ?_
  refine EX.step (fH (EVd.n2i J (fq hself rfl)) hn2i rfl) ?_
  let xi:Nat->SX:=λi=>(cs.take i).foldl yc x
  have rdi:∀ i,(xi i).rd.isSome=Gh:=by
   have aux:∀ (l:List Nat) (y:SX),y.rd.isSome=Gh->(l.foldl yc y).rd.isSome=Gh:=by
    intro l
    induction l with
    | nil=>intro y hy;exact hy
    | cons s r ih=>intro y hy;exact ih _ (qz hy)
   exact λi=>aux _ _ hrd
  refine fw (EX1.mono (de (Φ:=λp ρ'=>p=.next/\Inv f ρ'.own ad (cont κ dd (cs.foldl yc x) ad)) (k:=k) (CO:=λZ=>True) (ds:=cs.map (keyD κ)) hb (fq hnodes (rfl)) (Itb.tup hb) hnode
   (λi ρ=>ρ.loc.lookup (oS "self")=fm (.ref (ad .S))/\ρ.loc.lookup (oS "n2i")=fm (.ref (ad .D))/\Inv f ρ.own ad (cont κ dd (xi i) ad)) ?_ (λZ Z Z=>trivial) ?_ ?_) ?_)
  .exact⟨rfl,rfl,J⟩
  .intro i d ρ3 hd E9;refine xAA E9 λl1 l2 J3=>?_;clear E9
   ac_rfl
   replace hd:=(Gx) ▸ hd;rewrite [Gz] at hd
   obtain⟨c,hd,rfl⟩:=hd
   have hox:=xY hok hd
   have hox:jy (xi i) c=Gh:=hox
   delta jy at hox
   rewrite [GE,GE,GE] at hox
   refine xA hox λE47 o4=>?_;try clear hox;(refine xA E47 λE20 o3=>?_;clear E47;obtain⟨o1,o2⟩:=E20)
   refine xE (Hz.mp o1) λE48 hc=>?_;obtain⟨n,su⟩:=E48
   refine xA (np_of hc) λe1 e2=>?_
   replace o2:=e1 ▸ o2
   rw[e2] at o3 o4
   have hn:n = -1:=by simpa using o2
   subst hn
   have hsl:su.length<=1000:=by simpa using o3
   have hlk:(dOf κ (xi i) ad).lookup (κ c)=fm (.ref (ad (.N c))):=by rw[yv hκ,hc];rfl
   refine fy (pN (Φ:=λp ρ'=>p=.next/\ρ'=(ρ3.set (oS "node") (keyD κ c)).set (oS "nodeinfo") (.ref (ad (.N c)))) (pA (b:=false) (d:=.ref (ad (.N c))) (by
     have:=pR (w:=w) (k:=k) (env:=env) (ρ:=ρ3.set (oS "node") (keyD κ c)) (o:=.Name (oS "n2i") ⟨73,28,73,31⟩) (e:=.Name (oS "node") ⟨73,36,73,40⟩) (apos:=⟨73,28,73,35⟩) (pos:=⟨73,28,73,41⟩) (D:=ad .D) (es:=dOf κ (xi i) ad) (ks:=κ c) (fq hn2i (l2)) (.inl J3.Dd) (fq hnode rfl) (nst rfl)
     replace this:=hlk ▸ this
     exact this) rfl (.inl hinfo)) (λρ' E9=>E9.elim λh Z=>by injection h) (λρ' E9=>E9.elim λZ h=>EX.nil ⟨rfl,h⟩)) ?_
   rintro ρ4 rfl
   refine EX.step (fH (pC J3 hc (fq hinfo rfl)) hstat rfl) ?_
   refine EX.step (fI (b:=false) (fE (fq hstat rfl) (fV hout rfl) (λv1 v2=>pr_ne)) (λh=>by injection h) (λZ=>EX.nil ⟨rfl,rfl⟩)) ?_
   refine fy (fL (Ψo:=noO) (Ω:=λo=>Inv f o ad (cont κ dd ((xi i).setNp c (-2)) ad)) (fV hdone rfl).o (λd' own' E9=>E9.elim λe1 e2=>⟨ad (.N c),?_,λv=>?_⟩) (λZ Z h=>h.elim)) ?_
   .subst e2
    exact fq hinfo (rfl)
   .subst e1;subst e2
    intro A l F I s hA H hp
    refine mC (yt (w:=w) (k:=k) (Ψo:=noO) (i:=1) (d:=.int (-2)) (v:=v) (name:=oS "npredecessors") (J3.N hc) (by show 1<=3;exact lb rfl) (lb rfl) rfl y0.2.1 A l F I s hA H hp) (λv s' I' o' a H' c' q=>⟨I',o',a,H',?_,q⟩)
    rw[c']
    exact J3.setNp hc (-2)
   intro ρ5 E9;refine xEA E9 λown5 J5 E5=>?_;clear E9;subst E5
   let yj:Nat->SX:=λj=>(su.take j).foldl decS ((xi i).setNp c (-2))
   have hcj:∀ j,∃ m,(yj j).nd.lookup c=fm (m,su):=by
    intro j
    have h1:=vU c (su.take j) ((xi i).setNp c (-2))
    rewrite [fX] at h1;replace h1:=if_pos rfl ▸ h1;replace h1:=hc ▸ h1
    refine xEA (Gz.mp h1) λE30 h2 h3=>?_;obtain⟨m,su'⟩:=E30
    have h3:su'=su:=h3
    subst h3
    exact⟨m,h2⟩
   have hJ5c:∃ m,((xi i).setNp c (-2)).nd.lookup c=fm (m,su):=hcj 0
   refine xE hJ5c λm5 hc5=>?_;try clear hJ5c
   refine fy (D:=λρ=>ρ.loc.lookup (oS "self")=fm (.ref (ad .S))/\ρ.loc.lookup (oS "n2i")=fm (.ref (ad .D))/\Inv f ρ.own ad (cont κ dd (su.foldl decS ((xi i).setNp c (-2))) ad))
    (de (k:=k) (CO:=λown=>own (ad (.L c))=fm (.lst (su.map (keyD κ)))) (ds:=su.map (keyD κ)) hb (pk J5 hc5 (fq hinfo (rfl))) (Av hb) hsucc
    (λj ρ=>ρ.loc.lookup (oS "self")=fm (.ref (ad .S))/\ρ.loc.lookup (oS "n2i")=fm (.ref (ad .D))/\Inv f ρ.own ad (cont κ dd (yj j) ad)) ?_ ?_ ?_ ?_) ?_
   .exact⟨((l1)),((l2)),J5⟩
   .intro j ρ' E9;refine xAA E9 λZ Z J'=>?_;clear E9
    ac_rfl
    refine xE (hcj j) λm hm=>?_
    exact J'.L hm
   .intro j d ρ6 hd6 E9;refine xAA E9 λm1 m2 J6=>?_;clear E9
    ac_rfl
    replace hd6:=(Gx) ▸ hd6;rewrite [Gz] at hd6
    obtain⟨t,hd6,rfl⟩:=hd6
    have ho6:decOk (yj j) t=Gh:=xY o4 hd6
    delta decOk at ho6
    rewrite [GE,GE] at ho6
    refine xA ho6 λE50 p3=>?_;try clear ho6;(refine xA E50 λp1 p2=>?_;clear E50)
    refine xE (Hz.mp p1) λE51 hc6=>?_;obtain⟨n6,su6⟩:=E51
    refine xE (Hz.mp p2) λr6 hr6=>?_
    refine xA (np_of hc6) λg1 g2=>?_
    have hrl6:rdL (yj j)=r6:=by delta rdL;rw[hr6];rfl
    have p3:r6.length<=1000:=by replace p3:=hrl6 ▸ p3;simpa using p3
    refine EX.step (fH (dB (d:=.ref (ad (.N t))) (fq hn2i (m2)) (.inl J6.Dd) (fq hsucc rfl) (by rw[yv hκ,hc6];rfl)) hsinfo rfl) ?_
    refine fy (du (S:=ad (.N t)) (d1:=.int n6) (d2:=.int 1) (d:=.int (n6-1)) (Ω:=λo=>Inv f o ad (cont κ dd ((yj j).setNp t (n6-1)) ad)) (fq hsinfo rfl) (λv=>vm (i:=1) (J6.N hc6) rfl (by intro x h;injection h) rfl y0.2.1) EVd.int (λv1 v2=>pr_isub) (λv A l F I s hA H hp=>?_)) ?_
    .refine mC (yt (w:=w) (k:=k) (Ψo:=noO) (i:=1) (d:=.int (n6-1)) (v:=v) (name:=oS "npredecessors") (J6.N hc6) (by show 1<=3;exact lb rfl) (lb rfl) rfl y0.2.1 A l F I s hA H hp) (λv s' I' o' a H' c' q=>⟨I',o',a,H',?_,q⟩)
     rw[c']
     exact J6.setNp hc6 (n6-1)
    intro ρ7 E9;refine xEA E9 λown7 J7 E5=>?_;clear E9;subst E5
    have hc7:((yj j).setNp t (n6-1)).nd.lookup t=fm (n6-1,su6):=by rw[fX,if_pos rfl,hc6];rfl
    have hr7:((yj j).setNp t (n6-1)).rd=fm r6:=hr6
    have hy:yj (j+1)=decS (yj j) t:=by
     show (su.take (j+1)).foldl decS _=_
     rw[Hx,hd6,Lk];rfl
    have q1:∀ {d1 d2},Hd (oS "self") ((oS "successor_info",d1)::(oS "successor",d2)::ρ6.loc)=fm (.ref (ad .S)):=(m1)
    have q2:∀ {d1 d2},Hd (oS "n2i") ((oS "successor_info",d1)::(oS "successor",d2)::ρ6.loc)=fm (.ref (ad .D)):=(m2)
    refine fw (fI (b:=(n6-1==0)) (fE (pC J7 hc7 (fq hsinfo rfl)) EVd.int (λv1 v2=>pr_eq)) (λhz=>?_) (λhz=>?_))
    .have hz:n6-1=0:=by simpa using hz
     have h7:EVd w k env ⟨(oS "successor_info",.ref (ad (.N t)))::(oS "successor",keyD κ t)::ρ6.loc,own7⟩ (.Attribute (.Name (oS "self") ⟨88,20,88,24⟩) (oS "_ready_nodes") ⟨88,20,88,37⟩) (.ref (ad .R)):=by
      rw[←vA (x:=(yj j).setNp t (n6-1)) hr7];exact dh J7 (fq hself q1)
     refine fw (fS (EX1.app (a:=ad .R) (ds:=r6.map (keyD κ)) (d:=keyD κ t) h7 (J7.R hr7) (by rw[Ge];exact Gc ‹_› (lb rfl)) (fq hsucc (rfl)) (nst rfl)) ?_)
     refine⟨q1,q2,?_⟩
     rw[hy]
     delta decS
     rw[g1,if_pos hz,hrl6]
     have:=J7.setRd hr7 (r6++[t])
     replace this:=GG ▸ this
     exact this
    .have hz:¬ n6-1=0:=by simpa using hz
     refine EX.nil ⟨q1,q2,?_⟩
     rw[hy]
     delta decS
     rw[g1,if_neg hz]
     exact J7
   .intro ρ6 E9;refine xAA E9 λm1 m2 J6=>?_;clear E9
    ac_rfl
    have:yj (su.map (keyD κ)).length=su.foldl decS ((xi i).setNp c (-2)):=by show (su.take _).foldl decS _=_;rw[Ge,Kq]
    replace J6:=this ▸ J6
    exact EX.nil ⟨rfl,m1,m2,J6⟩
   intro ρ6 E9;refine xAA E9 λm1 m2 J6=>?_;clear E9
   refine fw (EX1.mono (du (S:=ad .S) (d1:=.int (su.foldl decS ((xi i).setNp c (-2))).f) (d2:=.int 1) (d:=.int ((su.foldl decS ((xi i).setNp c (-2))).f+1)) (Ω:=λo=>Inv f o ad (cont κ dd (xi (i+1)) ad)) (fq hself m1) (λv=>xe J6.S J6.X ns_fin rfl (by intro x h;injection h)) EVd.int (λv1 v2=>uT) (λv A l F I s hA H hp=>?_)) ?_)
   .refine mC (xq (w:=w) (k:=k) (Ψo:=noO) (d:=.int ((su.foldl decS ((xi i).setNp c (-2))).f+1)) (v:=v) (name:=oS "_nfinished") J6.S J6.X rfl (by show 4<=1000;exact lb rfl) A l F I s hA H hp) (λv s' I' o' a H' c' q=>⟨I',o',a,H',?_,q⟩)
    rw[c']
    have hx:xi (i+1)=yc (xi i) c:=by
     show (cs.take (i+1)).foldl yc x=_
     rw[Hx,hd,Lk];rfl
    rw[hx]
    delta yc
    rw[e2]
    exact J6.setX (y:=(su.foldl decS ((xi i).setNp c (-2))).setF ((su.foldl decS ((xi i).setNp c (-2))).f+1)) rfl rfl
   .intro p ρ' E9;refine xAEA E9 λE5 own' g E6=>?_;clear E9;subst E5;subst E6
    exact⟨m1,m2,g⟩
  .intro ρ3 E9;refine xAA E9 λl1 l2 J3=>?_;clear E9
   ac_rfl
   have:xi (cs.map (keyD κ)).length=cs.foldl yc x:=by show (cs.take _).foldl yc x=_;rw[hcl,Kq]
   replace J3:=this ▸ J3
   exact EX.nil ⟨rfl,J3⟩
  .intro p ρ' E9;refine xA E9 λE5 g=>?_;clear E9;subst E5
   exact⟨rfl,g⟩
end
noncomputable def liO (L:Gn) (i:Nat):Obj:={ cls:=.type "list_iterator",data:=.fields #[.ref L,.int i 0] }
noncomputable def mwO (it:Gn):Obj:={ cls:=.type "method-wrapper",data:=.fields #[.builtin "list_iterator.__next__",.ref it] }
theorem vP:Slot "list_iterator" "__getattribute__" "object.__getattribute__" :=
 .of (owner := "object") (n := "__getattribute__") (by rw[HM,Hf];kernel_rfl) (by decide +kernel) (by decide +kernel) (by decide +kernel)
  (by first | exact .inl (by decide +kernel) | exact .inr (by decide +kernel)) (by rw[G8];kernel_rfl)
theorem zaf:N8 table "object.__getattribute__" = fm Hm.«object.__getattribute__»:=KM (by kernel_rfl)
theorem args_oga (a b:Gd):OC "object.__getattribute__" ⟨[a,b],[]⟩:=by delta OC;kernel_rfl
theorem u0:Slot "wrapper_descriptor" "__get__" "wrapper_descriptor.__get__" :=
 .of (owner := "wrapper_descriptor") (n := "__get__") (by rw[HM,Hf];kernel_rfl) (by decide +kernel) (by decide +kernel) (by decide +kernel)
  (by first | exact .inl (by decide +kernel) | exact .inr (by decide +kernel)) (by rw[G8];kernel_rfl)
theorem qF:N8 table "wrapper_descriptor.__get__" = fm Hm.«wrapper_descriptor.__get__»:=KM (by kernel_rfl)
theorem Qx (a b c:Gd):OC "wrapper_descriptor.__get__" ⟨[a,b,c],[]⟩:=by delta OC;kernel_rfl
theorem xh:Xq (.builtin "list_iterator.__next__")=pure (.type "wrapper_descriptor"):=by show WZ _=_;rw[builtinType_eq_fast];kernel_rfl
theorem wd_set:K0 (.type "wrapper_descriptor") "__set__" = pure fp:=by rw[HM,Hf];kernel_rfl
theorem wd_del:K0 (.type "wrapper_descriptor") "__delete__" = pure fp:=by rw[HM,Hf];kernel_rfl
theorem vw {M:YA} {A:GZ} {E:Gd->Gg->Prop} {s:Gg} {v t:Gd} {name:Str} {r:Option Gd} {Q:Option Gd->Gg->Prop} (h1:Xq v=pure t) (h2:K0 t name=pure r) (h:Q r s):Gf M A (fb v name) Q E s:=by
 delta fb
 rw[h1]
 refine Ga (Gb ?_)
 rw[h2]
 exact Gb h
section
variable {s:Gg} {it L:Gn} {i:Nat}
theorem Zh {P:Fin->Gg->Prop} (e:s.heap.get? it=fm (liO L i)) (h:P (.done (.ret (.ref s.heap.objs.size))) { s with heap:=s.heap.push (mwO it) }) :
  Gf (mdl w) A (Hm.«wrapper_descriptor.__get__» ⟨[.builtin "list_iterator.__next__",.ref it,.type "list_iterator"],[]⟩) P E s:=by
 delta Hm.«wrapper_descriptor.__get__»
 refine Ga (Hh (a:=(.builtin "list_iterator.__next__",fm (.ref it),fm (.type "list_iterator"))) (by first | rfl | kernel_rfl) ?_)
 refine Ga ?_
 refine Ga (Hh (a:=((oS "__next__",HH "list_iterator"):Str×Gd)) (by first | rfl | kernel_rfl) ?_)
 refine Ga (Tt (T := "list_iterator") (b:=true) (iEA _ e rfl) (by rw[G8];kernel_rfl) ?_)
 refine Gb ?_
 exact Ga (GR (Gb h))
theorem ZD {Q:Gd->Gg->Prop} {b:Bool} (e:s.heap.get? it=fm (liO L i)) (h:Q (.ref s.heap.objs.size) { s with heap:=s.heap.push (mwO it),toks:=s.toks+1 }) :
  Gf (mdl w) A (Wk (.ref it) "__next__" b) Q E s:=by
 obtain⟨hp,g,d,tk,os⟩:=s
 have hT:∀ t,(⟨hp,g,d,t,os⟩:Gg).TypeIs (.ref it) "list_iterator" := λt=>(iEA _ e rfl)
 have e':hp.get? it=fm (liO L i):=e
 unfold Wk getAttrBy
 refine Ga (wpAny_mkText (GD (Ga (TM (hT _) (Ga (Hh vP.lookup ?_))))))
 show Gf _ _ (fj (.ref it) (.str (oS "__next__") tk) (.type "list_iterator") (.builtin "object.__getattribute__") Gh b) _ _ _
 unfold fj hookBefore callGetattribute boundAndCalled
 refine Ga (Hh (show (if onTheHeap (.type "list_iterator") then K0 (.type "list_iterator") "__getattr__" else pure fp)=pure fp from rfl) ?_)
 refine Ga (Np (GD ?_))
 have hb:(b&&onTheHeap (.builtin "object.__getattribute__"))=Gk:=by cases b<;>rfl
 rw[hb]
 show Gf _ _ (bindSpecial (.builtin "object.__getattribute__") (.ref it)>>=_) _ _ _
 refine Ga (Hh (vP.bind _) ?_)
 refine Gm (Q:=λv s'=>v=.ref hp.objs.size/\s'=⟨hp.push (mwO it),g,d,tk+1,os⟩) (E:=λZ Z=>False)
  (GX vP (hT _) zaf ?_ (args_oga _ _)) (λv s' hv=>?_) λZ Z z=>z.elim
 .delta Hm.«object.__getattribute__»
  refine Ga (Gb (Ga (Gb (Ga (TM (hT _) (Ga ?_))))))
  delta Builtin.ObjectAttr.find
  refine Ga (Hh slot_listiter_next.lookup (Ga ?_))
  refine vw xh u0.lookup ?_
  show let Q':=_;let E':=_;Gf _ _ _ Q' E' _;intro Q' E'
  refine Ga ?_
  unfold Builtin.ObjectAttr.dataDescriptor? Builtin.ObjectAttr.takesStores
  refine Ga (Ga (vw xh wd_set ?_))
  refine Ga (vw xh wd_del (Gb (Gb ?_)))
  delta Builtin.ObjectAttr.ownThenClass Builtin.ObjectAttr.inOwnDict Builtin.ObjectAttr.ownDict
  refine Ga (Ga (Ga (OX e' ?_)))
  show Gf _ _ (instanceDict it Gk) _ _ _
  delta instanceDict
  refine Ga (OX e' (Gb (Gb ?_)))
  show let Q':=_;let E':=_;Gf _ _ _ Q' E' _;intro Q' E'
  refine Ga (Gb (Ga (Nf (Gb ?_))))
  show let Q':=_;let E':=_;Gf _ _ _ Q' E' _;intro Q' E'
  show Gf _ _ (TG (.builtin "wrapper_descriptor.__get__") (.builtin "list_iterator.__next__") (.ref it) (.type "list_iterator")) _ _ _
  delta TG
  refine Ga (GD (GX u0 xh qF (Zh (s:=⟨hp,g,d,tk+1,os⟩) (i:=i) (L:=L) e' ⟨_,rfl,?_⟩) (Qx _ _ _)))
  exact Gb ⟨_,rfl,rfl,rfl⟩
 .refine xA hv λE5 E6=>?_;try clear hv;subst E5;subst E6
  exact Gb h
theorem qt:N8 table "list_iterator.__next__" = fm Hm.«list_iterator.__next__»:=entry_listiter_next
theorem call_mw {q:Gn} {Q:Gd->Gg->Prop} (hq:s.heap.get? q=fm (mwO it)) (hb:Gf (mdl w) A.in1 (Hm.«list_iterator.__next__» ⟨[.ref it],[]⟩) (λfin s'=>match fin with | .done (.ret v)=>Q v s' | _=>False) E s):Gf (mdl w) A (call (.ref q) []) Q E s:=by
 refine NY (fk ?_)
 show let Q':=_;let E':=_;Gf _ _ _ Q' E' _;intro Q' E'
 show Gf _ _ (callAny (.ref q) _) _ _ _
 delta callAny
 refine Ga (gI hq ?_)
 show Gf _ _ (checkBoundCall "list_iterator.__next__" ⟨[.ref it],[]⟩>>=λZ=>again (.builtin "list_iterator.__next__" ⟨[.ref it],[]⟩)) _ _ _
 rw[show checkBoundCall "list_iterator.__next__" ⟨[.ref it],[]⟩=pure () from by kernel_rfl]
 refine Ga (Gb (Gb (gy (YG _ (by decide +kernel)) (Nn qt ?_))))
 show let Q':=_;let E':=_;Gf _ _ _ Q' E' _;intro Q' E'
 rw[Nk (by decide +kernel) _]
 refine Gm hb (λfin s' z=>?_) λZ Z z=>z
 rcases fin with fl | c
 .cases fl<;>first | exact z | exact z.elim
 .exact z.elim
theorem li_item {vs:List Gd} {n:Nat} {v:Gd} {P:Fin->Gg->Prop} (e:s.heap.get? it=fm (liO L i)) (el:s.heap.get? L=fm (lstO vs n)) (hv:vs[i]? = fm v)
  (h:∀ h',h'.get? it=fm (liO L (i+1))->HI it s.heap h'->P (.done (.ret v)) { s with heap:=h' }):Gf (mdl w) A (Hm.«list_iterator.__next__» ⟨[.ref it],[]⟩) P E s:=by
 refine Ga (Gb (Ga (HD e rfl (x:=.ref L) rfl ?_)))
 show Gf _ _ (if (Hg L==Value.none)=Gh then _ else _) _ _ s
 rw[if_neg (show ¬ ((Hg L==Value.none)=Gh) from Gv)]
 refine Ga (HD e rfl (x:=.int i 0) rfl ?_)
 refine Ga (OW el rfl ?_)
 have hv':vs.toArray[((i:Nat):Int).toNat]? = fm v:=by simpa using hv
 show Gf _ _ (match vs.toArray[((i:Nat):Int).toNat]? with | some x=>_ | none=>_) _ _ s
 rw[hv']
 refine Ga (HV e rfl (by show 1<2;exact lb rfl) (Gb (h _ ?_ (GB ..))))
 rw[GM _ e rfl]
 rfl
theorem li_end {vs:List Gd} {n:Nat} {P:Fin->Gg->Prop} (hh:A.handled=fp) (e:s.heap.get? it=fm (liO L i)) (el:s.heap.get? L=fm (lstO vs n)) (hv:vs.length<=i)
  (h:∀ h' h'' e',HI it s.heap h'->h'.get? it=fm { cls:=.type "list_iterator",data:=.fields #[.none,.int i 0] }->X8 h' h'' e' "StopIteration" -> E (.ref e') { s with heap:=h'' }):Gf (mdl w) A (Hm.«list_iterator.__next__» ⟨[.ref it],[]⟩) P E s:=by
 refine Ga (Gb (Ga (HD e rfl (x:=.ref L) rfl ?_)))
 show Gf _ _ (if (Hg L==Value.none)=Gh then _ else _) _ _ s
 rw[if_neg (show ¬ ((Hg L==Value.none)=Gh) from Gv)]
 refine Ga (HD e rfl (x:=.int i 0) rfl ?_)
 refine Ga (OW el rfl ?_)
 have hv':vs.toArray[((i:Nat):Int).toNat]? = fp:=by simpa using hv
 show Gf _ _ (match vs.toArray[((i:Nat):Int).toNat]? with | some x=>_ | none=>_) _ _ s
 rw[hv']
 refine Ga (Nf (Ga (HV e rfl (by show 0<2;exact lb rfl) ?_)))
 have e1:(s.heap.update it (Hp (·.setIfInBounds 0 .none))).get? it=fm { cls:=.type "list_iterator",data:=.fields #[.none,.int i 0] }:=by
  rw[GM _ e rfl];rfl
 generalize hh1:s.heap.update it (Hp (·.setIfInBounds 0 .none))=h1 at e1
 have sb:HI it s.heap h1:=by rw[←hh1];exact GB ..
 delta Builtin.SmallTypes.stopIteration
 refine Ga ?_
 simp only[Xu,Vt]
 refine Ga (GR ?_ (by size_fits))
 refine Ga (m:=LN _ _) (Hh (a:=Value.none) (by first | rfl | (delta LN;rfl)) ?_)
 refine GR ?_ (by size_fits)
 delta Vs;dsimp only
 refine Ga (Tl ?_)
 rw[hh]
 refine Ga (Gb (Vq ?_))
 refine h h1 _ _ sb e1 ⟨λb o q=>GN _ (GN _ q),?_,?_⟩
 .exact TK (by simp)
 .exact xk _ _ (GA _ rfl) rfl rfl
end
section
variable {own f:Own} {h:Kf} {Ω:Own->Prop}
theorem Ents.snoc {es:DE} {ks:List Int} {d:PV} {xs:List (List Int×Gn×Gd)} (E:Ents I xs (es++[(ks,d)])):∃ xs' a v,xs=xs'++[(ks,a,v)]/\Ents I xs' es:=by
 induction es generalizing xs with
 | nil =>
  cases E with
  | @cons k a v d xs es h1 h3 r=>cases r;exact iEEEA [] a v rfl (.nil)
 | cons e r ih =>
  cases E with
  | @cons k a v d xs es h1 h3 r' =>
   refine xEEEA (ih r') λxs' a' v' E5 r2=>?_;subst E5
   exact iEEEA ((k,a,v)::xs') a' v' rfl (.cons h1 h3 r2)
theorem qx {D:Gn} {es:DE} {ks:List Int} {d:PV} {v1 v2:Gd} (ho:own D=fm (.dct (es++[(ks,d)]))) (hl:es.length<=1000):CALL w k own (λI=>VR I v1 (.ref D)/\VR I v2 (.tup (intL ks))) (hW v1 v2) (λI Z own'=>own'=upd own D (.dct es)) Ψo:=by
 intro A l F I s hA H E9
 show let Q':=_;let E':=_;Gf _ _ _ Q' E' _;intro Q' E'
 refine xA E9 λr1 r2=>?_;clear E9
 refine zy (VR.key (w:=w) r2) λa ok E5 hok htk=>?_;subst E5
 have E0:=fJ r1;clear r1;subst E0
 have hS:=H.notMods ho
 refine vF (H.ow D _ ho) λo e hx el ep xs hdat hel hnd E=>?_
 refine xEEEA (E.snoc) λxs' a' v' E5 E'=>?_;subst E5
 have hT:s.TypeIs (.ref D) "dict" := (iEA _ e hx.1)
 have hlen:=E'.length
 have hkey:=Kb htk (H.fz _ _ hok)
 delta hW
 refine GD (Ga (gX hT (Hv Gk) (Ga (HS (name:=oS "__delitem__") hT V6 (GX V6 hT PySem.F.entry_dict_delitem ?_ (PySem.F.args_dict_delitem_2 _ _))))))
 delta Hm.«dict.__delitem__»
 refine Ga ?_
 delta Builtin.Dict.dictSlotArgs
 refine Ga (Ol hT ?_)
 show Gf _ _ (pure (Hg D,Hg a)) _ _ s
 refine Gb ?_
 show Gf _ _ (Wg D (.ref a)>>=_) _ _ s
 refine Ga ?_
 delta Wg
 refine GD (Ga ((tk w).pyHash (yQ hA) hkey ?_))
 refine Ga (wpAny_dictFind_heap (s:={ s with toks:=s.toks+(tk w).draws ks }) (yQ hA) hkey e hdat hel (E.isKey H.fz) hnd ?_ ?_)
 .intro hno
  exact absurd (by exact Wq) (hno xs'.length (a',v'))
 .intro j p hj
  have hj':j=xs'.length:=by
   rcases KQ j xs'.length with q | q | q
   .exfalso
    replace hnd:=GG ▸ hnd;rewrite [VE] at hnd
    have hm:ks∈xs'.map (·.1):=by
     replace hj:=(Lg q) ▸ hj
     exact Gr.mpr (iEA _ (GS hj) rfl)
    exact hnd.2.2 ks hm ks (by exact List.mem_of_mem_head? rfl) rfl
   .exact q
   .exfalso
    rewrite [HB (by simp;exact Hi ‹_›)] at hj;injection hj
  subst hj'
  have hsz:el.size=xs'.length+1:=by rw[←GY,hel,Ge];simp
  have hget:el[xs'.length]? = fm (N0 (tk w) (ks,a',v')):=by rw[←Kh,hel,Gx];simp
  refine Ga (Kk e hdat ?_)
  rw[hget]
  refine Ga (wpAny_updateDictKeys e hdat (Gb ?_) (by rw[hsz,HJ];lia) (Gc (size_eraseIdxIfInBounds_le _ _) (Oi _)))
  refine Ga (wpAny_letGo (Gb ⟨_,rfl,Gb ?_⟩))
  have e2:(el.eraseIdxIfInBounds xs'.length).toList=xs'.map (N0 (tk w)):=by
   rw[VG,hel,GG,GF,NW]
   rw[VL,Ky (by simp),Hl]
   rw[gv (by exact Ge ..)]
  replace hnd:=GG ▸ hnd;rewrite [VE] at hnd
  exact⟨I,_,.refl I,H.set ho (GB ..).extBut (GM _ e (Obj.isFreed_of_dict (Yi hdat _))) (mo':=.dct es) ⟨hx.mapDictKeys _,_,ep+1,xs',Yi hdat _,e2,hnd.1,E'⟩,rfl,⟨rfl,rfl⟩⟩
theorem AF {o i:Expr} {sp pos:Pos} {D:Gn} (ho:EVd w k env ρ o (.ref D)) (hi:EVO w k env ρ i Θ noO) (hdel:∀ d own',Θ d own'->∀ v,CALL w k own' (λI=>VR I v d) (hW (.ref D) v) (λZ Z o=>Ω o) noO) :
  EX1 w k env ρ (.Delete [.Subscript o i sp] pos) (λp ρ'=>p=.next/\∃ own',Ω own'/\ρ'=⟨ρ.loc,own'⟩) Ψ:=λA l F I s hA R=>by
 show let Q':=_;let E':=_;Gf _ _ _ Q' E' _;intro Q' E'
 refine wpAny_Delete (wpAny_deleteEach_cons ?_)
 show let Q':=_;let E':=_;Gf _ _ _ Q' E' _;intro Q' E'
 show Gf _ _ (do
  let ov ← eval o env
  let iv ← holding [ov] (eval i env)
  Wj sp
  holding [ov,iv] (hW ov iv)
  release [ov,iv] []) _ _ s
 refine Ga (mA (TD.at ho hA R trivial) (λov s1 I1 a1 R1 r1 q1=>Ga (GD (Gm (hi.at hA R1) (λiv s2 E9=>E9.casesOn λI2 o2 d a2 R2 r2 q2 c2=>?_) λZ Z E9=>E9.casesOn λZ Z Z Z Z Z x=>x.elim))))
 have E0:=fJ r1;clear r1;subst E0
 refine Ga (Ka (Ga (GD (mK ((hdel d o2 c2 iv).rep hA R2 r2) (λZ s3 I3 o3 a3 R3 c3 q3=>wpAny_release (wpAny_deleteEach_nil ?_))))))
 exact⟨I3,_,.next,a1.trans (a2.trans a3),R3,trivial,q1.trans (q2.trans q3),rfl,o3,c3,rfl⟩
theorem Zl:N8 table "iter" = fm Hm.«iter»:=entryFor_of_fast (by kernel_rfl)
theorem ZO (a:Gd):OC "iter" ⟨[a],[]⟩:=by delta OC;kernel_rfl
theorem pH {e:Expr} {x:Str} {np cp pos:Pos} {Lc:Gn} {ds:List PV} (hl:env.kindOf x=fm .globalImplicit) (hx:bltTab.lookup x=fm (.builtin "iter")) (he:EVd w k env ρ e (.ref Lc)) (ho:ρ.own Lc=fm (.lst ds)) (hst:∀ x p,e≠.Starred x p)
  (hd:(x==("__debug__" : Str))=Gk:=by exact Hv Gk):EVO w k env ρ (.Attribute (.Call (.Name x np) [e] [] cp) "__next__" pos) (λd own'=>∃ it,ρ.own it=fp/\d=.ob (mwO it)/\own'=upd ρ.own it (.obj (liO Lc 0))) Ψo:=by
 show let Θ':=_;let Ψ':=_;EVO _ _ _ _ _ Θ' Ψ';intro Θ' Ψ'
 intro A l F I s hA H L
 show let Q':=_;let E':=_;Gf _ _ _ Q' E' _;intro Q' E'
 have ha:Args w k env ρ [e] [.ref Lc]:=.cons he hst .nil
 refine Attribute_any_ (LL (mPf (fZ hl hx hd A l F I s hA H L trivial) (λfv s1 I1 a1 H1 r1 q1=>?_))) (by rw[gQ];rfl)
 show let Q':=_;let E':=_;Gf _ _ _ Q' E' _;intro Q' E'
 have E0:=pS r1;clear r1;subst E0
 refine NU (ha.noStar cp) (mPf (ha.evalArgs cp _ A l F I1 s1 hA H1 (L.mono a1) trivial) (λar s2 I2 a2 H2 E9 q2=>E9.elim λhkw r2=>?_))
 rw[hkw]
 obtain⟨ap,ak⟩:=ar
 cases r2 using ft with
 | @cons v vs r2 r3 =>
 (have E0:=VRs.nl r3;clear r3;subst E0)
 have E0:=fJ r2;clear r2;subst E0
 refine zR (H2.ow Lc _ ho) λo eo us n E5 ru=>?_;subst E5
 refine WH (by decide +kernel) (by decide +kernel) Zl (ZO _) ?_
 delta Hm.«iter»
 refine Ga (m:=someArgs "iter" 1 2 _) (Hh (a:=[Hg Lc]) (by first | rfl | kernel_rfl) ?_)
 show Gf _ _ (Xs (.ref Lc)>>=_) _ _ _
 refine Ga (Wi (zj _ eo rfl n rfl) (Gb ⟨_,rfl,?_⟩))
 have Li:Loose F I2 ρ.own s2.heap.objs.size:=H2.new
 have H3:HP w l F I2 ρ.own (s2.heap.push (liO Lc 0)):=H2.push _
 have e3:(s2.heap.push (liO Lc 0)).get? s2.heap.objs.size=fm (liO Lc 0):=GA _ rfl
 refine ZD (s:={ s2 with heap:=s2.heap.push (liO Lc 0) }) (i:=0) (L:=Lc) e3 ?_
 generalize s2.heap.objs.size=it at Li e3 ⊢
 have H4:=H3.take (mo:=.obj (liO Lc 0)) Li e3 ⟨rfl,by show HH "list_iterator" ≠ _;exact dc rfl⟩
 have H5:=H4.push_frozen (mwO it)
 exact⟨_,_,.ob (mwO it),(a1.trans a2).trans (fA H4.new.2.1),H5,.ob (zd ..),q1.trans ⟨q2.1,q2.2⟩,it,Li.2.2.1,rfl,rfl⟩
theorem pF {o:Expr} {pos:Pos} {it Lc:Gn} {i:Nat} {ds:List PV} (hb:k.b=Gh) (he:eval (.Call o [] [] pos) env=(do gl pos (← eval o env) [] (NP pos (Kw [] env)) (Ow pos (Nc [] env)))) (ho:EVd w k env ρ o (.ob (mwO it))) (hit:ρ.own it=fm (.obj (liO Lc i))) (hL:ρ.own Lc=fm (.lst ds)) :
  EVO w k env ρ (.Call o [] [] pos) (λd own'=>ds[i]? = fm d/\own'=upd ρ.own it (.obj (liO Lc (i+1)))) (λx own'=>ds.length<=i/\x.cls=.type "StopIteration" /\ own'=upd ρ.own it (.obj { cls:=.type "list_iterator",data:=.fields #[.none,.int i 0] })):=by
 intro A l F I s hA H L
 refine Call_ (mPf (ho A l F I s hA H L trivial) (λfv s1 I1 a1 H1 r1 q1=>?_)) he
 cases r1 using Ab with
 | @ob q eq =>
 refine Xy (P:=λh=>h.get? q=fm (mwO it)) rfl (λh X=>(iEA (.machine) (.inr (.inl rfl)) ((OY (part:=fp) X).andThen Xh))) ?_
 refine PySem.evalArgs_none ⟨H1.fz _ _ eq,?_⟩
 show Gf _ _ (call (.ref q) []) _ _ _
 refine xEAA (H1.ow it _ hit) λoi ei hoi hfr=>?_
 have ei:s1.heap.get? it=fm (liO Lc i):=by rw[ei,hoi]
 refine zR (H1.ow Lc _ hL) λol el us n E5 ru=>?_;subst E5
 refine call_mw (H1.fz _ _ eq) ?_
 cases hd:ds[i]? with
 | some d =>
  refine xEA (ru.get hd) λv hv rv=>?_
  refine li_item ei el hv λh' g1 g2=>?_
  exact⟨I1,_,d,a1,H1.set hit g2.extBut g1 (mo':=.obj (liO Lc (i+1))) ⟨rfl,by show HH "list_iterator" ≠ _;exact dc rfl⟩,rv,⟨q1.1,q1.2⟩,rfl,rfl⟩
 | none =>
  have hle:ds.length<=i:=G0.mp hd
  refine li_end (hA.hd hb) ei el (by rw[ru.length];exact hle) λh' h'' e' g1 g2 g3=>?_
  have H2:=H1.set hit g1.extBut g2 (mo':=.obj { cls:=.type "list_iterator",data:=.fields #[.none,.int i 0] }) ⟨rfl,by show HH "list_iterator" ≠ _;exact dc rfl⟩
  refine xA (dg (s:={ s1 with heap:=h' }) H2 g3) λH3 X3=>?_
  exact⟨I1,_,⟨.type "StopIteration",fp⟩,a1,H3,X3,⟨q1.1,q1.2⟩,hle,rfl,rfl⟩
theorem EX.drop {ss:List HF} {own':Own} (hle:OLe own' ρ.own) (h:EX w k env ⟨ρ.loc,own'⟩ ss Φ Ψ):EX w k env ρ ss Φ Ψ:=λA l F I s hA E9=>E9.casesOn λG H L D=>h A l F I s hA ⟨G,H.drop hle,L,D⟩
end
noncomputable def z5 (suc:Nat->List Nat):List (Nat×Nat)->Option (Nat×List (Nat×Nat))
 | []=>fp
 | (t,i)::r=>match (suc t)[i]? with
  | some c=>fm (c,(t,i+1)::r)
  | none=>z5 suc r
noncomputable def yJ (suc:Nat->List Nat) (inN:Nat->Bool):Nat->Nat->List (Nat×Nat)->List Nat->Option (List Nat)
 | 0,_,_,_=>fp
 | n+1,c,rs,seen =>
  if c∈seen then
   if (rs.map (·.1)).contains c then fp else match z5 suc rs with
    | none=>fm seen
    | some (c',rs')=>yJ suc inN n c' rs' seen
  else if inN c&&!(rs.map (·.1)).contains c&&decide (seen.length<=50)&&decide (rs.length<=50) then match z5 suc ((c,0)::rs) with
    | none=>fm (c::seen)
    | some (c',rs')=>yJ suc inN n c' rs' (c::seen)
   else fp
noncomputable def xj (suc:Nat->List Nat) (inN:Nat->Bool) (fuel:Nat):List Nat->List Nat->Option (List Nat)
 | [],seen=>fm seen
 | c::r,seen=>if c∈seen then xj suc inN fuel r seen else match yJ suc inN fuel c [] seen with
  | some s=>xj suc inN fuel r s
  | none=>fp
inductive FRole where
 | st | its | sn | n2
 | it (i:Nat)
deriving DecidableEq
section
variable (κ:Nat->List Int) (adS:Role->Gn)
noncomputable def zipE (l:List Nat):DE:=l.zipIdx.map λp=>(κ p.1,.int p.2)
noncomputable def yb (a:FRole->Gn) (rs:List (Nat×Nat)) (seen:List Nat):FRole->Option MO
 | .st=>fm (.lst (rs.reverse.map λp=>keyD κ p.1))
 | .its=>fm (.lst ((GH rs.length).map λi=>.ob (mwO (a (.it i)))))
 | .sn=>fm (.set (seen.map κ))
 | .n2=>fm (.dct (zipE κ (rs.reverse.map (·.1))))
 | .it i=>(rs.reverse[i]?).map λp=>.obj (liO (adS (.L p.1)) p.2)
end
section
variable {κ:Nat->List Int} {adS:Role->Gn} {g own:Own} {a:FRole->Gn} {rs:List (Nat×Nat)} {seen:List Nat}
theorem JE (l:List Nat) (c:Nat):zipE κ (l++[c])=zipE κ l++[(κ c,.int l.length)]:=by
 delta zipE
 rw[List.zipIdx_append,GG]
 simp
theorem Inv.push (J:Inv g own a (yb κ adS a rs seen)) {c:Nat} {it:Gn} (o1:Own) (ho1:o1=upd own (a .sn) (.set (κ c::seen.map κ))) (hit:o1 it=fp) :
  ∃ a',(∀ r,r≠.it rs.length->a' r=a r)/\a' (.it rs.length)=it /\
   Inv g (upd (upd (upd (upd o1 it (.obj (liO (adS (.L c)) 0))) (a .its) (.lst (((GH rs.length).map λi=>.ob (mwO (a (.it i))))++[.ob (mwO it)]))) (a .n2) (.dct (zipE κ (rs.reverse.map (·.1))++[(κ c,.int rs.length)]))) (a .st) (.lst ((rs.reverse.map λp=>keyD κ p.1)++[keyD κ c])))
    a' (yb κ adS a' ((c,0)::rs) (c::seen)):=by
 have J1:=J.set (r:=.sn) (by (intro h;injection h;done)) (.set (κ c::seen.map κ))
 replace J1:=(Gq ho1) ▸ J1
 have cn:yb κ adS a rs seen (.it rs.length)=fp:=by
  show (rs.reverse[rs.length]?).map _=fp
  rw[HB (by simp)];rfl
 have J2:=J1.new (r:=.it rs.length) (a:=it) (by exact cn) hit (.obj (liO (adS (.L c)) 0))
 have ea:∀ r,r≠.it rs.length->fu a (.it rs.length) it r=a r:=λr h=>zg _ _ h
 have J3:=J2.set (r:=.its) (by (intro h;injection h;done)) (.lst (((GH rs.length).map λi=>.ob (mwO (a (.it i))))++[.ob (mwO it)]))
 have J4:=J3.set (r:=.n2) (by (intro h;injection h;done)) (.dct (zipE κ (rs.reverse.map (·.1))++[(κ c,.int rs.length)]))
 have J5:=J4.set (r:=.st) (by (intro h;injection h;done)) (.lst ((rs.reverse.map λp=>keyD κ p.1)++[keyD κ c]))
 replace J5:=(ea .its (by intro h;cases h)) ▸ J5;replace J5:=(ea .n2 (by intro h;cases h)) ▸ J5;replace J5:=(ea .st (by intro h;cases h)) ▸ J5
 refine iEAA (fu a (.it rs.length) it) ea (zq ..) (J5.cong λr=>?_)
 cases r with
 | st =>
  skip
  show fm (MO.lst _)=fm _
  rw[Hr,GG];rfl
 | n2 =>
  skip
  show fm (MO.dct _)=fm _
  rw[Hr,GG,GF,NW,JE]
  simp
 | its =>
  skip
  show fm (MO.lst _)=fm _
  rw[GC,LW,GG,GF,NW,zq]
  congr 3
  refine GT λi hi=>?_
  rw[ea (.it i) (by intro h;(injection h with E1;subst E1);exact absurd (Hn.mp hi) (Of _))]
 | sn =>
  skip
  rfl
 | it i =>
  rw[zg _ _ (by intro h;injection h),zg _ _ (by intro h;injection h),zg _ _ (by intro h;injection h)]
  show ((((c,0)::rs).reverse)[i]?).map _=_
  rw[Hr]
  by_cases q:i=rs.length
  .subst q;rw[zq,Kx (by simp)];simp
  .rw[zg _ _ (by intro h;(injection h with E1;subst E1);exact q rfl),zg _ _ (by intro h;injection h)]
   rcases ND i rs.length with z | z
   .rw[Lg (by simpa using z)];rfl
   .rw[HB (by simp;lia)]
    show fp=(rs.reverse[i]?).map _
    rw[HB (by simpa using z)];rfl
theorem Inv.adv {t i:Nat} {r:List (Nat×Nat)} (J:Inv g own a (yb κ adS a ((t,i)::r) seen)):Inv g (upd own (a (.it r.length)) (.obj (liO (adS (.L t)) (i+1)))) a (yb κ adS a ((t,i+1)::r) seen):=by
 have e:∀ j,yb κ adS a ((t,j)::r) seen (.it r.length)=fm (.obj (liO (adS (.L t)) j)):=λj=>by
  show ((((t,j)::r).reverse)[r.length]?).map _=_
  rw[Hr,Kx (by simp)];simp
 have J1:=J.set (r:=.it r.length) (by rw[e];(intro h;injection h;done)) (.obj (liO (adS (.L t)) (i+1)))
 refine J1.cong λq=>?_
 by_cases z:q=.it r.length
 .subst z;rw[zq,e]
 .rw[zg _ _ z]
  cases q with
  | st=>show fm (MO.lst _)=fm (MO.lst _);simp
  | n2=>show fm (MO.dct _)=fm (MO.dct _);simp
  | its=>rfl
  | sn=>rfl
  | it j =>
   show ((((t,i+1)::r).reverse)[j]?).map _=((((t,i)::r).reverse)[j]?).map _
   rw[Hr,Hr]
   have hj:j≠r.length:=λe=>z (by rw[e])
   rcases ND j r.length with y | y
   .rw[Lg (by simpa using y),Lg (by simpa using y)]
   .rw[HB (by simp;lia),HB (by simp;lia)]
theorem Inv.popS {t i:Nat} {r:List (Nat×Nat)} (J:Inv g own a (yb κ adS a ((t,i)::r) seen)) (m:MO) :
  Inv g (Mine.del (upd (upd (upd (upd own (a (.it r.length)) m) (a .st) (.lst (r.reverse.map λp=>keyD κ p.1))) (a .n2) (.dct (zipE κ (r.reverse.map (·.1))))) (a .its) (.lst ((GH r.length).map λi=>.ob (mwO (a (.it i)))))) (a (.it r.length))) a (yb κ adS a r seen):=by
 have e:yb κ adS a ((t,i)::r) seen (.it r.length)=fm (.obj (liO (adS (.L t)) i)):=by
  show ((((t,i)::r).reverse)[r.length]?).map _=_
  rw[Hr,Kx (by simp)];simp
 have J1:=J.set (r:=.it r.length) (by rw[e];(intro h;injection h;done)) m
 have J2:=J1.set (r:=.st) (by (intro h;injection h;done)) (.lst (r.reverse.map λp=>keyD κ p.1))
 have J3:=J2.set (r:=.n2) (by (intro h;injection h;done)) (.dct (zipE κ (r.reverse.map (·.1))))
 have J4:=J3.set (r:=.its) (by (intro h;injection h;done)) (.lst ((GH r.length).map λi=>.ob (mwO (a (.it i)))))
 have J5:=J4.del (r:=.it r.length) (by rw[zg _ _ (by intro h;injection h),zg _ _ (by intro h;injection h),zg _ _ (by intro h;injection h),zq];(intro h;injection h;done))
 refine J5.cong λq=>?_
 by_cases z:q=.it r.length
 .subst z;rw[zq]
  show (r.reverse[r.length]?).map _=fp
  rw[HB (by simp)];rfl
 .rw[zg _ _ z]
  cases q with
  | st=>rfl
  | n2=>rfl
  | its=>rfl
  | sn=>rfl
  | it j =>
   rw[zg _ _ (by intro h;injection h),zg _ _ (by intro h;injection h),zg _ _ (by intro h;injection h),zg _ _ z]
   show (r.reverse[j]?).map _=((((t,i)::r).reverse)[j]?).map _
   rw[Hr]
   have hj:j≠r.length:=λe=>z (by rw[e])
   rcases ND j r.length with y | y
   .rw[Lg (by simpa using y)]
   .rw[HB (by simpa using y),HB (by simp;lia)]
end
section
variable {own f:Own} {h:Kf} {κ:Nat->List Int} {x:SX} {ad:Role->Gn} {dm:DE->MO}
theorem EX1.brk {pos:Pos}:EX1 w k env ρ (.Break pos) (λp ρ'=>p=.brk/\ρ'=ρ) Ψ:=λA l F I s hA R =>
 wpAny_Break ⟨I,ρ,.brk,.refl I,R,trivial,.refl s,rfl,rfl⟩
theorem EX1.cont {pos:Pos}:EX1 w k env ρ (.Continue pos) (λp ρ'=>p=.cont/\ρ'=ρ) Ψ:=λA l F I s hA R =>
 wpAny_Continue ⟨I,ρ,.cont,.refl I,R,trivial,.refl s,rfl,rfl⟩
theorem p9 {e:Expr} {d:PV} {b:Bool} (h:EVd w k env ρ e d) (ht:∀ v,PR w k ρ.own (λI=>VR I v d) (truthy v) (λI b'=>b'=b)) (he:isTrue e env (eval e env)=(do let v ← eval e env;Wj e.pos;holding [v] (truthy v)):=by rfl):TDb w k env ρ e b :=
 λA l F I s hA H L Z=>gJ (mP (h A l F I s hA H L trivial) (λv s1 I1 a1 H1 r1 q1=>mP (ht v A l F I1 s1 hA H1 r1) (λb' s2 I2 a2 H2 r2 q2=>⟨I2,a1.trans a2,H2,r2,q1.trans q2⟩))) he
theorem z3 {α β:Type} {f:α->β} (hf:∀ a b,f a=f b->a=b) {a:α} {l:List α}:f a∈l.map f↔a∈l:=by
 rw[Gr]
 exact⟨λE9=>xEA E9 λb h1 h2=>hf _ _ h2 ▸ h1,λh=>(iEA a h rfl)⟩
theorem JF (κ:Nat->List Int) (l:List Nat):(zipE κ l).map (·.1)=l.map κ:=by
 delta zipE
 refine Gj (GL) ?_
 show l.zipIdx.map (λp=>κ p.1)=_
 have:l.zipIdx.map (λp=>κ p.1)=(l.zipIdx.map (·.1)).map κ:=by rw[GL];rfl
 refine Gj (this) ?_;rw[List.zipIdx_map_fst]
theorem u7 (κ:Nat->List Int) (l:List Nat):(zipE κ l).length=l.length:=by delta zipE;simp
theorem tyd_set {a:Gn} {ks:List (List Int)} (h:own a=fm (.set ks)):yY w own (.ref a) "set" := λl F I s v H r=>by
 cases r using dG with
 | ref=>(refine Zq (H.set_ h) λo es ep t L ks' hg hc hd Z=>?_);exact⟨(iEA _ hg hc),λb q=>by (injection q with E1;subst E1);exact(iEA _ hg hd)⟩
theorem Aj (own:Own) (a:Gn):OLe (Mine.del own a) own:=λb m e=>by
 delta Mine.del at e
 split at e
 .injection e
 .exact e
structure St (own1:Own) (X:Nat->Prop) (κ:Nat->List Int) (ad:Role->Gn) (ρ:PSt) (a:FRole->Gn) (rs:List (Nat×Nat)) (seen:List Nat):Prop where
 n2i:ρ.loc.lookup (oS "n2i")=fm (.ref (ad .D))
 st:ρ.loc.lookup (oS "stack")=fm (.ref (a .st))
 its:ρ.loc.lookup (oS "itstack")=fm (.ref (a .its))
 sn:ρ.loc.lookup (oS "seen")=fm (.ref (a .sn))
 n2:ρ.loc.lookup (oS "node2stacki")=fm (.ref (a .n2))
 inv:Inv own1 ρ.own a (yb κ ad a rs seen)
 ok:∀ p∈rs,X p.1
theorem St.node {X:Nat->Prop} {own1:Own} {a:FRole->Gn} {rs:List (Nat×Nat)} {seen:List Nat} (h:St own1 X κ ad ρ a rs seen) (d:PV):St own1 X κ ad (ρ.set (oS "node") d) a rs seen :=
 ⟨h.n2i,h.st,h.its,h.sn,h.n2,h.inv,h.ok⟩
theorem St.move {X:Nat->Prop} {own1 own':Own} {a a':FRole->Gn} {rs rs':List (Nat×Nat)} {seen seen':List Nat} (h:St own1 X κ ad ρ a rs seen) (e:a' .st=a .st/\a' .its=a .its/\a' .sn=a .sn/\a' .n2=a .n2) (J:Inv own1 own' a' (yb κ ad a' rs' seen')) (ok:∀ p∈rs',X p.1):St own1 X κ ad ⟨ρ.loc,own'⟩ a' rs' seen' :=
 ⟨h.n2i,by rw[e.1];exact h.st,by rw[e.2.1];exact h.its,by rw[e.2.2.1];exact h.sn,by rw[e.2.2.2];exact h.n2,J,ok⟩
section
variable {own1:Own} {a:FRole->Gn} {rs:List (Nat×Nat)} {seen:List Nat}
theorem EVO.pop {o:Expr} {apos pos:Pos} {A0:Gn} {ds:List PV} {d:PV} (ho:EVd w k env ρ o (.ref A0)) (hown:ρ.own A0=fm (.lst (ds++[d]))) (hl:ds.length<=1000) (hline:(apos.endLine==pos.line)=Gh:=by rfl) (hbase:Ht o (oS "pop") env (eval o env)=eval o env:=by rfl) :
  EVO w k env ρ (.Call (.Attribute o (oS "pop") apos) [] [] pos) (λd' own'=>d'=d/\own'=upd ρ.own A0 (.lst ds)) Ψo :=
 dA ho (j8 hown) .nil NI W7 PySem.F.type_list_pop (λv vs A l F I s hA H E9=>E9.elim λp1 p2=>by
  show let Q':=_;let E':=_;Gf _ _ _ Q' E' _;intro Q' E'
  have E0:=fJ p1;clear p1;subst E0
  exact mC (call_pop (w:=w) (k:=k) (Ψo:=Ψo) hown hl A l F I s hA H p2) (λv s' I' o' a H' E9 q=>E9.elim λc1 c2=>⟨I',o',a,H',⟨d,c1,rfl,c2⟩,q⟩)) (lb rfl) hline hbase
theorem Qd (a:FRole->Gn) (n:Nat):((GH (n+1)).map λi=>PV.ob (mwO (a (.it i))))=((GH n).map λi=>PV.ob (mwO (a (.it i))))++[.ob (mwO (a (.it n)))]:=by
 (rewrite [LW];refine Gj (GG) ?_);rfl
theorem Jn {vs:List Gd} {seenEnd:List Nat} (hb:k.b=Gh) (hκ:∀ a b,κ a=κ b->a=b) (J:Inv f own ad (cont κ dd x ad)) (hrun:xj (yL x) (λc=>(x.nd.lookup c).isSome) 1000 (x.nd.map (·.1)) []=fm seenEnd) (hsl:x.sb 1000) :
  CODE w k.up own (λI=>VRs I vs [.ref (ad .S)]) (.ref 127) vs [] (λd own'=>d=.none/\Inv f own' ad (cont κ dd x ad)):=by
 intro A l F I s hA H hP
 refine VRs.k hP λv vs E0 r1 r2=>?_;clear hP;subst E0
 have E0:=VRs.nl r2;clear r2;subst E0
 refine yz (w:=w) (i:=8) (own:=own) (P:=λI=>VRs I [_] [.ref (ad .S)]) (ds:=[(oS "self",.ref (ad .S))]) rfl ⟨rfl,rfl,rfl⟩ (x3 (.inr (.inr (.inr rfl)))) ?_ (λenv eok=>?_) A l F I s hA H (.cons r1 .nil)
 .intro x hx
  simp only[Gi,Gl,or_false] at hx
  subst hx;exact .inl rfl
 .have hself:=eok.kL "self"
  have hn2i:=eok.kL "n2i"
  have hst:=eok.kL "stack"
  have hits:=eok.kL "itstack"
  have hsn:=eok.kL "seen"
  have hn2:=eok.kL "node2stacki"
  have hnode:=eok.kL "node"
  have hset:=eok.kG "set"
  have hiter:=eok.kG "iter"
  have hlen:=eok.kG "len"
  have hstop:=eok.kG "StopIteration"
  refine ph (D:=ad .D) (es:=dOf κ x ad) J.Dd λep=>?_
  refine Mine.gn (upd own (ad .D) (.dcx (dOf κ x ad) ep)) λown1 hown1=>?_
  have J1:Inv f own1 ad (cont κ (dx ep) x ad):=by
   have:=J.set (r:=.D) (by (intro h;injection h;done)) (.dcx (dOf κ x ad) ep)
   replace this:=hown1 ▸ this
   refine this.cong λr=>?_
   cases r with
   | D=>rfl
   | _=>rfl
  have JD:∀ {o:Own} {a:FRole->Gn} {c:FRole->Option MO},Inv own1 o a c->o (ad .D)=fm (.dcx (dOf κ x ad) ep):=λL=>(L.fr _ _ (J1.at_ .D _ rfl)).1
  refine EX.step (fH (EVd.n2i J1 (fq hself rfl)) hn2i rfl) ?_
  refine df (fD (Ψo:=noO) (EVO.list .nil (lb rfl)) hst (λZ Z h=>h.elim) rfl) λa1 ha1=>?_
  refine df (fD (Ψo:=noO) (EVO.list .nil (lb rfl)) hits (λZ Z h=>h.elim) rfl) λa2 ha2=>?_
  refine df (fD (Ψo:=noO) (p8 hset rfl) hsn (λZ Z h=>h.elim) rfl) λa3 ha3=>?_
  refine df (fD (Ψo:=noO) EVO.dict hn2 (λZ Z h=>h.elim) rfl) λa4 ha4=>?_
  have L0:Inv own1 own1 (λ_:FRole=>0) (λZ=>fp):=⟨(λr m e=>by injection e),(λr r' h=>absurd rfl h),(λb m e=>⟨e,λr h=>absurd rfl h⟩)⟩
  have L1:=L0.new (r:=.st) rfl ha1 (.lst [])
  have L2:=L1.new (r:=.its) rfl ha2 (.lst [])
  have L3:=L2.new (r:=.sn) rfl ha3 (.set [])
  have L4:=L3.new (r:=.n2) rfl ha4 (.dct [])
  have hex:∃ a,a .st=a1/\a .its=a2/\a .sn=a3/\a .n2=a4/\Inv own1 (upd (upd (upd (upd own1 a1 (.lst [])) a2 (.lst [])) a3 (.set [])) a4 (.dct [])) a (yb κ ad a [] []):=by
   refine vt _ rfl rfl rfl rfl (L4.cong λr=>?_)
   cases r<;>rfl
  refine xm hex λa0 e1' e2' e3' e4' L5=>?_;try clear hex
  clear L0 L1 L2 L3 L4
  let X:Nat->Prop:=λc=>(x.nd.lookup c).isSome=Gh
  have S0:St own1 X κ ad ⟨(oS "node2stacki",.ref a4)::(oS "seen",.ref a3)::(oS "itstack",.ref a2)::(oS "stack",.ref a1)::(oS "n2i",.ref (ad .D))::[(oS "self",PV.ref (ad .S))].reverse,upd (upd (upd (upd own1 a1 (.lst [])) a2 (.lst [])) a3 (.set [])) a4 (.dct [])⟩ a0 [] [] :=
   ⟨rfl,by rw[e1'];rfl,by rw[e2'];rfl,by rw[e3'];rfl,by rw[e4'];rfl,L5,λp h=>nomatch h⟩
  generalize hρ:(PSt.mk ((oS "node2stacki",.ref a4)::(oS "seen",.ref a3)::(oS "itstack",.ref a2)::(oS "stack",.ref a1)::(oS "n2i",.ref (ad .D))::[(oS "self",PV.ref (ad .S))].reverse) (upd (upd (upd (upd own1 a1 (.lst [])) a2 (.lst [])) a3 (.set [])) a4 (.dct [])))=ρ0 at S0
  show EX w k env (PSt.mk ((oS "node2stacki",.ref a4)::(oS "seen",.ref a3)::(oS "itstack",.ref a2)::(oS "stack",.ref a1)::(oS "n2i",.ref (ad .D))::[(oS "self",PV.ref (ad .S))].reverse) (upd (upd (upd (upd own1 a1 (.lst [])) a2 (.lst [])) a3 (.set [])) a4 (.dct []))) _ _ _
  rw[hρ]
  clear hρ L5 e1' e2' e3' e4'
  let suc:=yL x
  let inN:=λc=>(x.nd.lookup c).isSome
  let nodes:=x.nd.map (·.1)
  have hkeys:((dOf κ x ad).map λp=>PV.tup (intL p.1))=nodes.map (keyD κ):=by
   show (x.nd.map _).map _=(x.nd.map _).map _
   (refine Gj (GL) ?_;rw[GL]);rfl
  refine fy (D:=λρ=>∃ a seen,St own1 X κ ad ρ a [] seen) (de (k:=k) (CO:=λown=>own (ad .D)=fm (.dcx (dOf κ x ad) ep)) (ds:=(dOf κ x ad).map λp=>.tup (intL p.1)) hb (fq hn2i S0.n2i) (Itb.keys hb) hnode
   (λi ρ=>∃ a seen,St own1 X κ ad ρ a [] seen/\xj suc inN 1000 (nodes.drop i) seen=fm seenEnd) ?_ ?_ ?_ ?_) ?_
  .exact iEEA a0 [] S0 hrun
  ·(intro i ρ' E9;refine xEEA E9 λa seen S Z=>?_;clear E9);exact JD S.inv
  .intro i d ρ2 hd E9;refine xEEA E9 λa seen S2 hrun2=>?_;clear E9
   ac_rfl
   replace hd:=hkeys ▸ hd;replace hd:=Gj (Gq (Gx)) hd;rewrite [Gz] at hd
   obtain⟨c,hd,rfl⟩:=hd
   have hdrop:nodes.drop i=c::nodes.drop (i+1):=by
    obtain⟨h1,h2⟩:=GK.mp hd
    refine Gj (OM h1) ?_;rw[h2]
   replace hrun2:=hdrop ▸ hrun2
   unfold xj at hrun2
   have S3:=S2.node (keyD κ c)
   generalize hρ3:ρ2.set (oS "node") (keyD κ c)=ρ3 at S3
   have hn3:ρ3.loc.lookup (oS "node")=fm (keyD κ c):=by rw[←hρ3];exact rfl
   refine EX.cons (Φ₁:=λp ρ'=>ρ'=ρ3/\((p=.cont/\c∈seen)\/(p=.next/\c∉seen))) (fI (b:=decide (κ c∈seen.map κ)) (fE (fq hnode hn3) (fq hsn S3.sn) (λv1 v2=>JH (S3.inv.at_ .sn _ rfl))) (λhm=>fw (EX1.mono EX1.cont ?_)) (λhm=>EX.nil ⟨rfl,.inr ⟨rfl,?_⟩⟩)) ?_ ?_
   .intro p ρ' E9;refine xA E9 λE5 E6=>?_;clear E9;subst E5;subst E6
    exact⟨rfl,.inl ⟨rfl,(z3 hκ).mp (of_decide_eq_true hm)⟩⟩
   .exact λh=>(of_decide_eq_false hm) ((z3 hκ).mpr h)
   .rintro ρ' ⟨rfl,⟨h,_⟩ | ⟨_,hns⟩⟩
    ac_rfl
    .injection h
    replace hrun2:=Gj (Gq (if_neg hns)) hrun2
    cases hf:yJ suc inN 1000 c [] seen with
    | none=>replace hrun2:=hf ▸ hrun2;injection hrun2
    | some sEnd =>
    replace hrun2:=hf ▸ hrun2
    have hrun2:xj suc inN 1000 (nodes.drop (i+1)) sEnd=fm seenEnd:=hrun2
    refine fw (EX1.mono (dC (Φ:=λp ρ'=>p=.next/\∃ a,St own1 X κ ad ρ' a [] sEnd) (λn ρ=>∃ c rs seen a,St own1 X κ ad ρ a rs seen/\ρ.loc.lookup (oS "node")=fm (keyD κ c)/\rs.length<=60/\yJ suc inN n c rs seen=fm sEnd)
     (λn b ρ=>b=Gh/\∃ c rs seen a,St own1 X κ ad ρ a rs seen/\ρ.loc.lookup (oS "node")=fm (keyD κ c)/\rs.length<=60/\yJ suc inN n c rs seen=fm sEnd) ?_ ?_ ?_ 1000 (Qa c [] seen a S3 hn3 (GU _) hf)) ?_)
    .intro n ρ hJ A l F I s hA R
     exact Gm (pn (Ψ:=noX) (TDb.val EVd.bool) A l F I s hA R) (λb s' ⟨I',ρ',a,R',q',h1,h2⟩=>⟨I',ρ',a,R',q',h1,h2 ▸ hJ⟩) λZ Z x=>x
    .rintro n ρ4 ⟨_,c4,rs4,seen4,a4,S4,hn4,hl4,hr4⟩
     ac_rfl
     obtain⟨m,rfl⟩:∃ m,n=m+1:=by
      cases n with
      | zero=>injection hr4
      | succ m=>exact⟨m,rfl⟩
     unfold yJ at hr4
     refine fy (D:=λρ5=>∃ rs5 seen5 a5,St own1 X κ ad ρ5 a5 rs5 seen5/\rs5.length<=60/\(match z5 suc rs5 with | none=>fm seen5 | some (c',rs')=>yJ suc inN m c' rs' seen5)=fm sEnd)
      (fI (b:=decide (κ c4∈seen4.map κ)) (fE (fq hnode hn4) (fq hsn S4.sn) (λv1 v2=>JH (S4.inv.at_ .sn _ rfl))) (λhm=>?_) (λhm=>?_)) ?_
     .have hin:c4∈seen4:=(z3 hκ).mp (of_decide_eq_true hm)
      replace hr4:=Gj (Gq (if_pos hin)) hr4
      cases hcont:(rs4.map (·.1)).contains c4 with
      | true=>replace hr4:=Gj (Gq (if_pos hcont)) hr4;injection hr4
      | false =>
      replace hr4:=Gj (Gq (if_neg (by rw[hcont];exact dc rfl))) hr4
      refine fw (fI (b:=false) (by
       have hlk:((zipE κ (rs4.reverse.map (·.1))).lookup (κ c4)).isSome=Gk:=by
        rw[OS]
        intro hh
        have h2:=xy.mp hh
        rewrite [JF,z3 hκ] at h2;replace h2:=Y4 ▸ h2;rewrite [Y2] at h2
        have:(rs4.map (·.1)).contains c4=Gh:=Ki.mpr h2
        replace this:=Gj (Gq (hcont)) this;injection this
       have:=fE (w:=w) (k:=k) (e1:=.Name (oS "node") ⟨102,23,102,27⟩) (e2:=.Name (oS "node2stacki") ⟨102,31,102,42⟩) (pos:=⟨102,23,102,42⟩) (fq hnode hn4) (fq hn2 S4.n2) (λv1 v2=>zab (ks:=κ c4) (.inl (S4.inv.at_ .n2 _ rfl)))
       replace this:=hlk ▸ this
       exact this) (λh=>by injection h) (λZ=>EX.nil ⟨rfl,rs4,seen4,a4,S4,hl4,hr4⟩))
     .have hin:c4∉seen4:=λh=>(of_decide_eq_false hm) ((z3 hκ).mpr h)
      replace hr4:=Gj (Gq (if_neg hin)) hr4
      cases hchk:(inN c4&&!(rs4.map (·.1)).contains c4&&decide (seen4.length<=50)&&decide (rs4.length<=50)) with
      | false=>replace hr4:=Gj (Gq (if_neg (by rw[hchk];exact dc rfl))) hr4;injection hr4
      | true =>
      replace hr4:=Gj (Gq (if_pos hchk)) hr4
      rewrite [GE,GE,GE,decide_eq_true_eq,decide_eq_true_eq] at hchk
      refine xA hchk λE53 q4=>?_;try clear hchk;(refine xA E53 λE23 q3=>?_;clear E53;(refine xA E23 λq1 q2=>?_;clear E23))
      have hnc:c4∉rs4.map (·.1):=by
       intro h
       replace q2:=Ki.mpr h ▸ q2;injection q2
      refine xE (Hz.mp q1) λE54 hc4=>?_;obtain⟨n4,su4⟩:=E54
      have iv:=S4.inv
      refine dH (fU (Ψo:=noO) (Θ:=λd o=>d=.none/\o=upd ρ4.own (a4 .sn) (.set (κ c4::seen4.map κ))) (dA (fq hsn S4.sn) (tyd_set (iv.at_ .sn _ rfl)) (.cons (fq hnode hn4) (nst rfl) .nil) PySem.F.plainAttrs_set Xi PySem.F.type_set_add (λv vs A l F I s hA H E9=>E9.elim λp1 p2=>by
       show let Q':=_;let E':=_;Gf _ _ _ Q' E' _;intro Q' E'
       cases p2 using ft with
       | cons p2 p3 =>
       (have E0:=VRs.nl p3;clear p3;subst E0)
       exact mC (call_add (w:=w) (k:=k) (Ψo:=noO) (kk:=κ c4) (iv.at_ .sn _ rfl) (λh=>hin ((z3 hκ).mp h)) (by rw[Ge];exact Gc ‹_› (lb rfl)) A l F I s hA H ⟨p1,.cons p2 .nil⟩) (λv s' I' o' a H' E9 q=>xEAA E9 λd c1 c2 c3=>⟨I',o',a,H',⟨d,c1,c2,c3⟩,q⟩))) (λZ Z h=>h.elim)) λd5 o5 E41=>?_
      ((refine xA E41 λE5 ho5=>?_;clear E41;subst E5))
      have iv5:=iv.set (r:=.sn) (by (intro h;injection h;done)) (.set (κ c4::seen4.map κ))
      replace iv5:=(Gq ho5) ▸ iv5
      have J5:=pb J1 iv5
      have h5its:o5 (a4 .its)=fm (.lst ((GH rs4.length).map λi=>.ob (mwO (a4 (.it i))))):=iv5.at_ .its _ (by rfl)
      refine fy (fU (Ψo:=noO) (EVO.append (a:=a4 .its) (fq hits S4.its) h5its (pH hiter rfl (pk J5 hc4 (dB (fq hn2i S4.n2i) (.inr ⟨ep,JD iv5⟩) (fq hnode hn4) (by rw[yv hκ,hc4];rfl))) (J5.L hc4) (nst rfl)) (nst rfl) (λd own1 E9=>xEAA E9 λit g1 g2 g3=>⟨(GH rs4.length).map λi=>.ob (mwO (a4 (.it i))),?_,by simp;exact Gc ‹_› (lb rfl)⟩)) (λZ Z h=>h.elim)) ?_
      .have g1:o5 it=fp:=g1
       rw[g3]
       show upd o5 it _ _=_
       rw[zc _ _ (by intro e;replace g1:=(Gq e) ▸ g1;replace h5its:=Gj (Gq (g1)) h5its;injection h5its)];exact h5its
      intro ρ6 E9;refine xEEA E9 λd6 o6 E43 E44=>?_;clear E9;(refine zs E43 λd7 o7 ds7 E24 h7 ho6 E25=>?_;clear E43;(refine xEAA E24 λit hit E32 ho7=>?_;clear E24;subst E32);subst E25);subst E44
      have hit:o5 it=fp:=hit
      have hne_it:∀ r m,fu (yb κ ad a4 rs4 seen4) .sn (fm (.set (κ c4::seen4.map κ))) r=fm m->a4 r≠it:=λr m hr e=>by have:=iv5.at_ r m hr;(replace this:=e ▸ this;replace this:=Gj (Gq (hit)) this);injection this
      have n1:a4 .its≠it:=hne_it .its _ (by rfl)
      have n2:a4 .n2≠it:=hne_it .n2 _ (by rfl)
      have n3:a4 .st≠it:=hne_it .st _ (by rfl)
      have h7:o7 (a4 .its)=fm (.lst ds7):=h7
      have ho7:o7=upd o5 it (.obj (liO (ad (.L c4)) 0)):=ho7
      replace h7:=ho7 ▸ h7;replace h7:=Gj (Gq (zc _ _ n1)) h7;replace h7:=Gj (Gq (h5its)) h7
      (injection h7 with E1;injection E1 with E1;subst E1)
      replace ho6:=ho7 ▸ ho6
      have inj:=iv5.inj
      have m1:a4 .n2≠a4 .its:=λe=>by have:=inj .n2 .its (by (intro h;injection h;done)) (by (intro h;injection h;done)) e;injection this
      have m2:a4 .st≠a4 .its:=λe=>by have:=inj .st .its (by (intro h;injection h;done)) (by (intro h;injection h;done)) e;injection this
      have m3:a4 .st≠a4 .n2:=λe=>by have:=inj .st .n2 (by (intro h;injection h;done)) (by (intro h;injection h;done)) e;injection this
      have h6st:o6 (a4 .st)=fm (.lst (rs4.reverse.map λp=>keyD κ p.1)):=by
       (rewrite [ho6];refine Gj (zc _ _ m2) ?_;refine Gj (zc _ _ n3) ?_);exact iv5.at_ .st _ (by rfl)
      have h6n2:o6 (a4 .n2)=fm (.dct (zipE κ (rs4.reverse.map (·.1)))):=by
       (rewrite [ho6];refine Gj (zc _ _ m1) ?_;refine Gj (zc _ _ n2) ?_);exact iv5.at_ .n2 _ (by rfl)
      have hrl:(rs4.reverse.map λp=>keyD κ p.1).length=rs4.length:=by simp
      refine EX.step (dD (D:=a4 .n2) (es:=zipE κ (rs4.reverse.map (·.1))) (ks:=κ c4) (d:=.int rs4.length) (fB hlen rfl (.cons (fq hst S4.st) (nst rfl) .nil) (λvs=>hrl ▸ vK h6st (by lia))) (fq hn2 S4.n2) (fq hnode hn4) h6n2 (by rw[u7];simp;exact Gc ‹_› (lb rfl))) ?_
      have hput:putT (zipE κ (rs4.reverse.map (·.1))) (κ c4) (.int rs4.length)=zipE κ (rs4.reverse.map (·.1))++[(κ c4,.int rs4.length)]:=by
       refine jb ?_
       have:((zipE κ (rs4.reverse.map (·.1))).lookup (κ c4)).isSome=Gk:=by
        rw[OS]
        intro hh
        have h2:=xy.mp hh
        rewrite [JF,z3 hκ] at h2;replace h2:=Y4 ▸ h2;rewrite [Y2] at h2
        exact hnc h2
       cases hz:(zipE κ (rs4.reverse.map (·.1))).lookup (κ c4) with
       | none=>rfl
       | some v=>replace this:=hz ▸ this;injection this
      rw[hput]
      refine fw (fS (EX1.app (a:=a4 .st) (ds:=rs4.reverse.map λp=>keyD κ p.1) (d:=keyD κ c4) (fq hst S4.st) (by show upd o6 _ _ _=_;refine Gj (zc _ _ m3) ?_;exact h6st) (by lia) (fq hnode hn4) (nst rfl)) ?_)
      refine xEAA (Inv.push S4.inv o5 ho5 hit (c:=c4)) λa' g1 g2 g3=>?_
      refine⟨rfl,(c4,0)::rs4,c4::seen4,a',?_,by rw[GC];lia,hr4⟩
      have:=S4.move (own':=_) ⟨g1 .st (by intro h;injection h),g1 .its (by intro h;injection h),g1 .sn (by intro h;injection h),g1 .n2 (by intro h;injection h)⟩ g3 (λp hp=>by rcases Gi.mp hp with rfl | hp;exact q1;exact S4.ok p hp)
      replace this:=(Gq ho6) ▸ this
      exact this
     .intro ρ5 E9;refine qY E9 λrs5 seen5 a5 S5 hl5 hres=>?_;clear E9
      ac_rfl
      refine fw (EX1.mono (dC (Φ:=λp ρ'=>(p=.next/\∃ c rs seen a,St own1 X κ ad ρ' a rs seen/\ρ'.loc.lookup (oS "node")=fm (keyD κ c)/\rs.length<=60/\yJ suc inN m c rs seen=fm sEnd)\/(p=.brk/\∃ a,St own1 X κ ad ρ' a [] sEnd))
       (λj ρ=>∃ rs seen a,rs.length=j/\rs.length<=60/\St own1 X κ ad ρ a rs seen/\(match z5 suc rs with | none=>fm seen | some (c',rs')=>yJ suc inN m c' rs' seen)=fm sEnd)
       (λj b ρ=>∃ rs seen a,rs.length=j/\rs.length<=60/\St own1 X κ ad ρ a rs seen/\(match z5 suc rs with | none=>fm seen | some (c',rs')=>yJ suc inN m c' rs' seen)=fm sEnd/\b=!rs.isEmpty) ?_ ?_ ?_ rs5.length (zI rs5 seen5 a5 rfl hl5 S5 hres)) ?_)
      .intro j ρ6 E9 A l F I s hA R;refine zs E9 λrs6 seen6 a6 hj hl6 S6 hr6=>?_;clear E9
       ac_rfl
       show let Q':=_;let E':=_;Gf _ _ _ Q' E' _;intro Q' E'
       have hbe:(!(rs6.reverse.map λp=>keyD κ p.1).isEmpty)=!rs6.isEmpty:=by cases rs6<;>simp
       exact Gm (pn (Ψ:=noX) (p9 (fq hst S6.st) (λv=>Zw (S6.inv.at_ .st _ rfl) (by simp;exact Gc ‹_› (lb rfl)))) A l F I s hA R) (λb s' ⟨I',ρ',a,R',q',h1,h2⟩=>⟨I',ρ',a,R',q',rs6,seen6,a6,hj,hl6,h2 ▸ S6,hr6,by (refine Gj (h1) ?_;exact(hbe))⟩) λZ Z x=>x
      .intro j ρ6 E9;refine yO E9 λrs6 seen6 a6 hj hl6 S6 hr6 hne=>?_;clear E9
       ac_rfl
       cases rs6 with
       | nil=>injection hne
       | cons top r =>
       obtain⟨t,i⟩:=top
       have hX:X t:=S6.ok _ Gp
       refine xE (Hz.mp hX) λE55 hct=>?_;obtain⟨nt,su⟩:=E55
       have hsu:suc t=su:=(np_of hct).2
       have hlr:r.length+1<=60:=hl6
       have J6:=pb J1 S6.inv
       have hLt:=J6.L hct
       have hits6:ρ6.own (a6 .its)=fm (.lst (((GH r.length).map λi=>.ob (mwO (a6 (.it i))))++[.ob (mwO (a6 (.it r.length)))])):=by
        rw[←Qd];exact S6.inv.at_ .its _ rfl
       have hit6:ρ6.own (a6 (.it r.length))=fm (.obj (liO (ad (.L t)) i)):=S6.inv.at_ (.it r.length) _ (by
        show ((((t,i)::r).reverse)[r.length]?).map _=_
        rw[Hr,Kx (by simp)];simp)
       have hne_it:∀ q,q≠FRole.it r.length->yb κ ad a6 ((t,i)::r) seen6 q≠fp->a6 q≠a6 (.it r.length):=λq hq hc e=>hq (S6.inv.inj _ _ hc (by
        show ((((t,i)::r).reverse)[r.length]?).map _≠_
        rw[Hr,Kx (by simp)];simp) e)
       refine fw (pU (Φ₁:=λp ρ'=>p=.brk/\∃ c rs seen a,St own1 X κ ad ρ' a rs seen/\ρ'.loc.lookup (oS "node")=fm (keyD κ c)/\rs.length<=60/\yJ suc inN m c rs seen=fm sEnd)
        (Ψ₁:=λxd ρ'=>su.length<=i/\xd.cls=.type "StopIteration" /\ ρ'=⟨ρ6.loc,upd ρ6.own (a6 (.it r.length)) (.obj { cls:=.type "list_iterator",data:=.fields #[.none,.int i 0] })⟩) ?_ ?_ hstop rfl (by rw[G8];kernel_rfl) (by rw[G8];kernel_rfl) ?_)
       .refine dH (fD (pF hb (by rfl) (EVd.sub (fq hits S6.its) (dZ EVd.int) (jt hits6) zh (λv1 v2=>x5 hits6 (by exact XZ) (by simp;lia))) hit6 hLt) hnode (λxd o E9=>xAA E9 λg1 g2 g3=>⟨by rewrite [Ge] at g1;exact g1,g2,by rw[g3]⟩) rfl) λd7 o7 E45=>?_
        ((refine xA E45 λhd7 ho7=>?_;clear E45))
        replace hd7:=Gj (Gq (Gx)) hd7;rewrite [Gz] at hd7
        refine xEA hd7 λc' hc' E5=>?_;try clear hd7;subst E5
        refine fw (EX1.mono EX1.brk ?_)
        intro p ρ' E9;refine xA E9 λE5 E6=>?_;clear E9;subst E5;subst E6
        have hsp:z5 suc ((t,i)::r)=fm (c',(t,i+1)::r):=by
         unfold z5;rw[hsu,hc']
        replace hr6:=hsp ▸ hr6
        have S7:=S6.move (own':=o7) (a':=a6) (rs':=(t,i+1)::r) (seen':=seen6) ⟨rfl,rfl,rfl,rfl⟩ (by rw[ho7];exact S6.inv.adv) (λp hp=>by rcases Gi.mp hp with rfl | hp;exact hX;exact S6.ok p (Go _ hp))
        exact⟨rfl,c',(t,i+1)::r,seen6,a6,S7.node (keyD κ c'),rfl,hlr,hr6⟩
       .intro p ρ' E9;refine xA E9 λE5 h=>?_;clear E9;subst E5
        exact .inl ⟨rfl,h⟩
       .intro xd ρ' E9;(refine rPPR E9 λg1 g2=>?_;clear E9)
        ac_rfl
        refine iEAA ("StopIteration") g2 (by rw[G8];kernel_rfl) ?_
        have hsp:z5 suc ((t,i)::r)=z5 suc r:=by
         conv=>lhs;unfold z5
         rw[hsu,HB g1]
        replace hr6:=hsp ▸ hr6
        generalize hm0:MO.obj { cls:=.type "list_iterator",data:=.fields #[.none,.int i 0] }=m0
        refine Mine.gn (upd ρ6.own (a6 (.it r.length)) m0) λo0 ho0=>?_
        have k0:∀ q m,q≠FRole.it r.length->yb κ ad a6 ((t,i)::r) seen6 q=fm m->o0 (a6 q)=fm m:=λq m hq hc=>by
         (rewrite [←ho0];refine Gj (zc _ _ (hne_it q hq (by rw[hc];exact Lo m))) ?_);exact S6.inv.at_ _ _ hc
        have o_st:o0 (a6 .st)=fm (.lst ((r.reverse.map λp=>keyD κ p.1)++[keyD κ t])):=by
         have:=k0 .st _ (by intro h;injection h) rfl
         (replace this:=Hr ▸ this;replace this:=GG ▸ this);exact this
        have o_n2:o0 (a6 .n2)=fm (.dct (zipE κ (r.reverse.map (·.1))++[(κ t,.int r.length)])):=by
         have:=k0 .n2 _ (by intro h;injection h) rfl
         replace this:=Hr ▸ this;replace this:=GG ▸ this;replace this:=GF ▸ this;replace this:=NW ▸ this;rewrite [JE] at this
         simpa using this
        have o_its:o0 (a6 .its)=fm (.lst (((GH r.length).map λi=>.ob (mwO (a6 (.it i))))++[.ob (mwO (a6 (.it r.length)))])):=by
         rw[←Qd];exact k0 .its _ (by intro h;injection h) rfl
        have inj:=S6.inv.inj
        have m1:a6 .n2≠a6 .st:=λe=>by have:=inj .n2 .st (by (intro h;injection h;done)) (by (intro h;injection h;done)) e;injection this
        have m2:a6 .its≠a6 .st:=λe=>by have:=inj .its .st (by (intro h;injection h;done)) (by (intro h;injection h;done)) e;injection this
        have m3:a6 .its≠a6 .n2:=λe=>by have:=inj .its .n2 (by (intro h;injection h;done)) (by (intro h;injection h;done)) e;injection this
        refine fy (AF (D:=a6 .n2) (Ω:=λo=>o=upd (upd o0 (a6 .st) (.lst (r.reverse.map λp=>keyD κ p.1))) (a6 .n2) (.dct (zipE κ (r.reverse.map (·.1))))) (fq hn2 S6.n2) (EVO.pop (fq hst S6.st) o_st (by simp;lia)) (λd own' E9 v=>E9.elim λe1 e2=>?_)) ?_
        .subst e1;subst e2
         intro A l F I s hA H hp
         exact mC (qx (w:=w) (k:=k.any) (Ψo:=noO) (d:=.int r.length) (by show upd o0 _ _ _=_;refine Gj (zc _ _ m1) ?_;exact o_n2) (by rw[u7];simp;lia) A l F I s hA H ⟨.ref _,hp⟩) (λv s' I' o' a H' c q=>⟨I',o',a,H',c,q⟩)
        intro ρ8 E9;refine xEA E9 λo8 ho8 E5=>?_;clear E9;subst E5
        refine dH (fU (Ψo:=noO) (EVO.pop (fq hits S6.its) (by show o8 _=_;(rewrite [ho8];refine Gj (zc _ _ m3) ?_;refine Gj (zc _ _ m2) ?_);exact o_its) (by simp;lia)) (λZ Z h=>h.elim)) λd9 o9 E47=>?_
        ((refine xA E47 λE5 ho9=>?_;clear E47;subst E5))
        have iv9:=S6.inv.popS m0
        replace iv9:=ho0 ▸ iv9
        refine EX.drop (own':=Mine.del o9 (a6 (.it r.length))) (Aj _ _) (EX.nil ?_)
        have ho9:o9=upd o8 (a6 .its) (.lst ((GH r.length).map λi=>.ob (mwO (a6 (.it i))))):=ho9
        replace ho9:=ho8 ▸ ho9
        replace iv9:=(Gq ho9) ▸ iv9
        refine⟨r.length,by rw[←hj];exact Oa _,r,seen6,a6,rfl,by exact KA ‹_›,S6.move (own':=Mine.del o9 (a6 (.it r.length))) ⟨rfl,rfl,rfl,rfl⟩ iv9 (λp hp=>S6.ok p (Go _ hp)),hr6⟩
      .intro j ρ6 E9;refine yO E9 λrs6 seen6 a6 hj hl6 S6 hr6 hne=>?_;clear E9
       ac_rfl
       cases rs6 with
       | cons top r=>injection hne
       | nil =>
       refine fw (EX1.mono EX1.brk ?_)
       intro p ρ' E9;refine xA E9 λE5 E6=>?_;clear E9;subst E5;subst E6
       have hr6:fm seen6=fm sEnd:=hr6
       (injection hr6 with E1;subst E1)
       exact .inr (iAE rfl a6 S6)
      .rintro p ρ' (⟨rfl,h⟩ | ⟨rfl,a,h⟩)
       .exact iEA m (Oa _) h
       .exact iAE rfl a h
    ·(intro n ρ4 E9;refine xA E9 λh Z=>?_;clear E9);injection h
    .intro p ρ' E9;refine xAE E9 λE5 a' S'=>?_;clear E9;subst E5
     exact iEEA a' sEnd S' hrun2
   .intro p ρ' hp E9
    refine E9.casesOn λE20 E21=>?_;clear E9;subst E20;obtain⟨rfl,hin⟩ | ⟨rfl,_⟩:=E21
    ac_rfl
    .replace hrun2:=Gj (Gq (if_pos hin)) hrun2
     exact iEEA a seen S3 hrun2
    .exact absurd rfl hp
  .intro ρ2 E9;refine xEEA E9 λa seen S2 Z=>?_;clear E9
   exact EX.nil (iAEE rfl a seen S2)
  .intro ρ2 E9;refine xEE E9 λa seen S2=>?_;clear E9
   ac_rfl
   refine pd (D:=ad .D) (es:=dOf κ x ad) (ep:=ep) (JD S2.inv) ?_
   refine fw (fS (EX1.ret EVd.none) ?_)
   refine⟨rfl,?_⟩
   have J2:=pb J1 S2.inv
   have:=J2.set (r:=.D) (by (intro h;injection h;done)) (.dct (dOf κ x ad))
   refine this.cong λr=>?_
   cases r with
   | D=>rfl
   | _=>rfl
end
end
noncomputable def yV (x:SX):List Nat:=(x.nd.map (·.1)).filter (λc=>npOf x c==0)
section
variable {f own:Own} {κ:Nat->List Int} {x:SX} {ad:Role->Gn} {dm:DE->MO}
theorem Inv.toX (J:Inv f own ad (cont κ dd x ad)) (ep:Nat):Inv f (upd own (ad .D) (.dcx (dOf κ x ad) ep)) ad (cont κ (dx ep) x ad):=by
 refine(J.set (r:=.D) (by (intro h;injection h;done)) (.dcx (dOf κ x ad) ep)).cong λr=>?_
 cases r with
 | D=>rfl
 | _=>rfl
theorem Inv.toD {ep:Nat} (J:Inv f own ad (cont κ (dx ep) x ad)):Inv f (upd own (ad .D) (.dct (dOf κ x ad))) ad (cont κ dd x ad):=by
 refine(J.set (r:=.D) (by (intro h;injection h;done)) (.dct (dOf κ x ad))).cong λr=>?_
 cases r with
 | D=>rfl
 | _=>rfl
theorem Inv.newRd (J:Inv f own ad (cont κ dm x ad)) (hr:x.rd=fp) {a:Gn} (ha:own a=fp) (l:List Nat) :
  ∃ ad',ad' .S=ad .S/\ad' .D=ad .D/\dOf κ (x.setRd l) ad'=dOf κ x ad/\Inv f (upd (upd own a (.lst (l.map (keyD κ)))) (ad .X) (.ns (xW (nsOf x ad) (oS "_ready_nodes") (.ref a)))) ad' (cont κ dm (x.setRd l) ad'):=by
 have c1:cont κ dm x ad .R=fp:=by show x.rd.map _=fp;rw[hr];rfl
 have J1:=J.new c1 ha (.lst (l.map (keyD κ)))
 have J2:=J1.set (r:=.X) (by (intro h;injection h;done)) (.ns (xW (nsOf x ad) (oS "_ready_nodes") (.ref a)))
 have ea:∀ r,r≠.R->fu ad .R a r=ad r:=λr h=>zg _ _ h
 replace J2:=(ea .X (by intro h;cases h)) ▸ J2
 have hd:dOf κ (x.setRd l) (fu ad .R a)=dOf κ x ad:=by
  delta dOf
  refine GT λn Z=>?_
  rw[ea _ (by intro h;injection h)]
 refine yB (fu ad .R a) (ea _ (by intro h;injection h)) (ea _ (by intro h;injection h)) hd (J2.cong λr=>?_)
 cases r with
 | S=>show fm _=fm _;rw[ea _ (by intro h;injection h)]
 | X =>
  skip
  show fm (MO.ns _)=fm (MO.ns _)
  unfold nsOf rdD SX.setRd
  rw[hr]
  rw[ea _ (by intro h;injection h),zq]
  rfl
 | D=>show fm (dm _)=fm (dm _);rw[hd]
 | R=>rfl
 | N i=>show (x.nd.lookup i).map _=(x.nd.lookup i).map _;rw[ea _ (by intro h;injection h)]
 | L i=>rfl
end
section
variable {own f:Own} {h:Kf} {κ:Nat->List Int} {x:SX} {ad:Role->Gn} {dm:DE->MO}
open Classical in
theorem qC {vs:List Gd} {seenEnd:List Nat} (hb:k.b=Gh) (hκ:∀ a b,κ a=κ b->a=b) (J:Inv f own ad (cont κ dd x ad)) (hrd:x.rd=fp) (hrun:xj (yL x) (λc=>(x.nd.lookup c).isSome) 1000 (x.nd.map (·.1)) []=fm seenEnd) (hsl:x.sb 1000) (hlen:x.nd.length<=1000) :
  CODE w k.up.up own (λI=>VRs I vs [.ref (ad .S)]) (.ref 92) vs [] (λd own'=>d=.none/\∃ ad',ad' .S=ad .S/\Inv f own' ad' (cont κ dd (x.setRd (yV x)) ad')):=by
 intro A l F I s hA H hP
 refine VRs.k hP λv vs E0 r1 r2=>?_;clear hP;subst E0
 have E0:=VRs.nl r2;clear r2;subst E0
 refine yz (w:=w) (i:=4) (own:=own) (P:=λI=>VRs I [_] [.ref (ad .S)]) (ds:=[(oS "self",.ref (ad .S))]) rfl ⟨rfl,rfl,rfl⟩ (x3 (.inr (.inr (.inl rfl)))) ?_ (λenv eok=>?_) A l F I s hA H (.cons r1 .nil)
 .intro x hx
  simp only[Gi,Gl,or_false] at hx
  subst hx;exact .inl rfl
 .show let Φ':=_;let Ψ':=_;EX _ _ _ _ _ Φ' Ψ';intro Φ' Ψ'
  have hself:=eok.kL "self"
  have hcyc:=eok.kL "cycle"
  refine EX.step (fI (b:=false) (by
   have h0:xG (rdD x ad)=fm Gh:=by delta rdD;rw[hrd];rfl
   exact dU (dh J (fq hself rfl)) h0) (λh=>by injection h) (λZ=>EX.nil ⟨rfl,rfl⟩)) ?_
  refine ph (D:=ad .D) (es:=dOf κ x ad) J.Dd λep=>?_
  have J1:=J.toX ep
  let nodes:=x.nd.map (·.1)
  have hvals:((dOf κ x ad).map (·.2))=nodes.map λc=>PV.ref (ad (.N c)):=by
   show (x.nd.map _).map _=(x.nd.map _).map _
   rw[GL,GL];rfl
  have hlook:∀ c∈nodes,∃ n su,x.nd.lookup c=fm (n,su):=λc hc=>by
   refine xEA (Gr.mp hc) λp hp E5=>?_;subst E5
   refine xE (Kv.mp (uY hp)) λE30 e=>?_;obtain⟨n,su⟩:=E30
   exact iEE n su e
  have hinj:∀ c∈nodes,∀ c'∈nodes,ad (.N c)=ad (.N c')->c=c':=λc hc c' hc' e=>by
   refine xEE (hlook c hc) λn su h1=>?_
   refine xEE (hlook c' hc') λn' su' h2=>?_
   have:=J.inj (.N c) (.N c') (by show (x.nd.lookup c).map _≠_;rw[h1];(intro h;injection h;done)) (by show (x.nd.lookup c').map _≠_;rw[h2];(intro h;injection h;done)) e
   injection this
  let p:PV->Bool:=λd=>decide (∃ c∈nodes,d=.ref (ad (.N c))/\npOf x c=0)
  let g:PV->PV:=λd=>if hh:∃ c,c∈nodes/\d=.ref (ad (.N c)) then keyD κ (choose hh) else .none
  have hp:∀ c∈nodes,p (.ref (ad (.N c)))=(npOf x c==0):=λc hc=>by
   show decide _=_
   rw[Tp,decide_eq_true_eq,beq_iff_eq]
   refine⟨λE9=>xEAA E9 λc' h1 h2 h3=>?_,λhh=>(iEAA c hc rfl hh)⟩
   have:ad (.N c)=ad (.N c'):=by injection h2
   rw[hinj c hc c' h1 this];exact h3
  have hg:∀ c∈nodes,g (.ref (ad (.N c)))=keyD κ c:=λc hc=>by
   have hh:∃ c',c'∈nodes/\PV.ref (ad (.N c))=.ref (ad (.N c')):=(iEA c hc rfl)
   show (if hh:_ then _ else _)=_
   rw[dif_pos hh]
   have h2:=choose_spec hh
   have:ad (.N c)=ad (.N (choose hh)):=by injection h2.2
   rw[←hinj c hc _ h2.1 this]
  have hres:(((dOf κ x ad).map (·.2)).filter p).map g=(yV x).map (keyD κ):=by
   rw[hvals]
   show _=(nodes.filter _).map _
   have aux:∀ l:List Nat,(∀ c∈l,c∈nodes)->((l.map λc=>PV.ref (ad (.N c))).filter p).map g=(l.filter λc=>npOf x c==0).map (keyD κ):=by
    intro l
    induction l with
    | nil=>intro _;rfl
    | cons c r ih =>
     intro hl
     have hc:=hl c Gp
     rw[GF,Ks,Ks,hp c hc]
     split
     .rw[GF,GF,hg c hc,ih λc h=>hl c (Go _ h)]
     .exact ih λc h=>hl c (Go _ h)
   exact aux nodes λc h=>h
  refine fy (fL (Ψo:=noO) (Ω:=λo=>∃ ad',ad' .S=ad .S/\dOf κ (x.setRd (yV x)) ad'=dOf κ x ad/\ad' .D=ad .D/\Inv f o ad' (cont κ (dx ep) (x.setRd (yV x)) ad'))
   (Ar (CO:=λown=>own (ad .D)=fm (.dcx (dOf κ x ad) ep)) [] (dz (EVd.n2i J1 (fq hself rfl)) (uK (.inr ⟨ep,J1.at_ .D _ rfl⟩)) .nil NJ Wn PySem.F.type_dict_values (λv vs=>JN (.inr ⟨ep,J1.at_ .D _ rfl⟩)))
    (Aq hb) (J1.at_ .D _ rfl) rfl (dc rfl) (λy hy hfr=>?_) (λy d hy=>by injection hy)
    (fF p g (.inl rfl) (J1.at_ .D _ rfl) rfl (by rw[hvals,Ge];show (x.nd.map _).length<=_;rw[Ge];exact Gc ‹_› (lb rfl)) (λcenv hce d hd=>?_) (λcenv hce d hd Z=>?_)))
   (λd' own' E9=>xEAA E9 λa e1 e3 e2=>⟨ad .S,fq hself rfl,λv=>?_⟩) (λZ Z h=>h.elim)) ?_
  .simp only[Gi,Gl,or_false] at hy
   rcases hy with rfl | rfl<;>injection hfr
  .replace hd:=hvals ▸ hd
   refine xEA (Gr.mp hd) λc hc E5=>?_;subst E5
   refine xEE (hlook c hc) λn su hcl=>?_
   have hi:cenv.kindOf (oS "i")=fm .local:=by rw[hce.kind];rfl
   rw[hp c hc,(np_of hcl).1]
   exact xI (fE (pC J1 hcl (fq hi ze)) EVd.int (λv1 v2=>pr_eq))
  .replace hd:=hvals ▸ hd
   refine xEA (Gr.mp hd) λc hc E5=>?_;subst E5
   refine xEE (hlook c hc) λn su hcl=>?_
   have hi:cenv.kindOf (oS "i")=fm .local:=by rw[hce.kind];rfl
   rw[hg c hc]
   exact Ak J1 hcl (fq hi ze)
  .subst e1;subst e2
   rw[hres]
   have e3:upd own (ad .D) (.dcx (dOf κ x ad) ep) a=fp:=e3
   intro A l F I s hA H hp
   have nS:ad .S≠a:=λe=>by have:=J1.S;(replace this:=e ▸ this;replace this:=e3 ▸ this);injection this
   have nX:ad .X≠a:=λe=>by have:=J1.X;(replace this:=e ▸ this;replace this:=e3 ▸ this);injection this
   refine mC (xq (w:=w) (k:=k.up) (Ψo:=noO) (d:=.ref a) (v:=v) (name:=oS "_ready_nodes") (S:=ad .S) (dx:=ad .X) (es:=nsOf x ad) (ds:=[]) (by show upd _ a _ _=_;rw[zc _ _ nS];exact J1.S) (by show upd _ a _ _=_;rw[zc _ _ nX];exact J1.X) rfl (by show 4<=1000;exact lb rfl) A l F I s hA H hp) (λv s' I' o' a' H' c' q=>⟨I',o',a',H',?_,q⟩)
   refine yZ (J1.newRd hrd e3 (yV x)) λad' g1 g2 g3 g4=>?_
   rw[c']
   exact yB ad' g1 g3 g2 g4
  intro ρ2 E9;refine xEA E9 λown2 E49 E50=>?_;clear E9;(refine yZ E49 λad' g1 g2 g3 J2=>?_;clear E49);subst E50
  refine pd (D:=ad .D) (es:=dOf κ x ad) (ep:=ep) (by have:=J2.at_ .D _ rfl;(replace this:=g3 ▸ this;replace this:=g2 ▸ this);exact this) ?_
  have J3:=J2.toD
  replace J3:=g2 ▸ J3;replace J3:=g3 ▸ J3
  refine dH (fD (Ψo:=noO) (dj (fq hself (by rw[←g1];rfl)) J3.S J3.X rfl rfl (dc rfl) (i:=8) rfl .nil (λvs=>(Jn hb hκ J3 hrun hsl).call)) hcyc (λZ Z h=>h.elim) rfl) λd4 o4 E51=>?_
  ((refine xA E51 λE30 J4=>?_;clear E51;subst E30))
  refine fw (fI (b:=false) (p9 (fq hcyc ze) (λv A l F I s hA H r=>by (have E0:=pJ r;clear r;subst E0);exact Gb ⟨I,.refl I,H,rfl,.refl s⟩)) (λh=>by injection h) (λZ=>EX.nil (iAEA rfl ad' g1 J4)))
end
section
variable {own f:Own} {h:Kf}
theorem pr_sum {ns:List Int} {vs:List Gd} (hb:k.b=Gh):PR w k own (λI=>VRs I vs [.lst (intL ns)]) (call (.builtin "sum") vs) (λI v=>VR I v (.int ns.sum)):=by
 intro A l F I s hA H hP
 show let Q':=_;let E':=_;Gf _ _ _ Q' E' _;intro Q' E'
 refine VRs.k hP λv vs E0 r1 r2=>?_;clear hP;subst E0
 have E0:=VRs.nl r2;clear r2;subst E0
 cases r1 using VR.cl with
 | @lst a us n e r =>
 have hi:=db r
 refine xE (hi.allInts.items) λxs hx=>?_
 have hn:=hi.numsOf
 refine sum_intListG (xs:=xs) (hA.hd hb) (zj _ (H.fz _ _ e) rfl n (by rw[←hx])) λh' tk t' hk=>?_
 have e2:preSum (numAt xs) xs.size=ns.sum:=by
  rw[preSum_eq,KW (by exact KB (Ge ..)),←nums_intItems,←hx,hn]
 rw[e2]
 exact⟨I,.refl I,H.all hk,.int _ _,⟨rfl,rfl⟩⟩
noncomputable def maxI (ns:List Int):Int:=ns.getD (argBest (λi j=>decide (ns.getD i 0>ns.getD j 0)) (ns.length-1)) 0
theorem pr_max {ns:List Int} {vs:List Gd} (hb:k.b=Gh) (hne:ns≠[]):PR w k own (λI=>VRs I vs [.lst (intL ns)]) (call (.builtin "max") vs) (λI v=>VR I v (.int (maxI ns))):=by
 intro A l F I s hA H hP
 show let Q':=_;let E':=_;Gf _ _ _ Q' E' _;intro Q' E'
 refine VRs.k hP λv vs E0 r1 r2=>?_;clear hP;subst E0
 have E0:=VRs.nl r2;clear r2;subst E0
 cases r1 using VR.cl with
 | @lst a us n e r =>
 have hi:=db r
 refine xE (hi.allInts.items) λxs hx=>?_
 have hn:=hi.numsOf
 have hnum:xs.toList.map (·.1)=ns:=by rw[←nums_intItems,←hx,hn]
 have hlen:xs.size=ns.length:=by rw[←hnum];simp
 have hat:∀ i,numAt xs i=ns.getD i 0:=λi=>by
  delta numAt
  rw[←hnum,Gt,Gx,Kh]
 refine max_intList (xs:=xs) (hA.hd hb) (zj _ (H.fz _ _ e) rfl n (by rw[←hx])) (by rw[hlen];exact List.length_pos_iff.mpr hne) λv h' tk hv hk=>?_
 refine xE (intItems_at hv) λt E5=>?_;subst E5
 rw[hat]
 have e3:(λi j=>decide (numAt xs i>numAt xs j))=λi j=>decide (ns.getD i 0>ns.getD j 0):=by funext i j;rw[hat,hat]
 rw[e3,hlen]
 exact⟨I,.refl I,H.all hk,.int _ _,⟨rfl,rfl⟩⟩
theorem AC {e1 e2:Expr} {pos:Pos} {b1 b2:Bool} (h1:EVd w k env ρ e1 (.bool b1)) (h2:b1=Gh->EVd w k env ρ e2 (.bool b2)):EVd w k env ρ (.BoolOp .And [e1,e2] pos) (.bool (b1&&b2)):=λA l F I s hA H L p =>
 wpAny_And2 (mP (h1 A l F I s hA H L p) (λv s1 I1 a1 H1 r1 q1=>by
  (have E0:=dX r1;clear r1;subst E0)
  refine Kj ?_
  cases b1 with
  | false=>exact⟨I1,a1,H1,.bool _,q1⟩
  | true=>exact mP (h2 rfl A l F I1 s1 hA H1 (L.mono a1) p) (λv s2 I2 a2 H2 r2 q2=>⟨I2,a1.trans a2,H2,r2,q1.trans q2⟩)))
theorem pD {x y:Str} {px py tp pos:Pos} {c:Nat} {e:Expr} {d1 d2:PV} (hb:k.b=Gh) (he:EVd w k env ρ e (.tup [d1,d2])) (hl:Nm env x) (hl2:Nm env y) (hs:swapsWithSole [.Tuple [.Name x px,.Name y py] c tp] e pos.line env=pure Gk:=by rfl)
  (hw:swappedStores [.Tuple [.Name x px,.Name y py] c tp] e env=pure fp:=by rfl) :
  EX1 w k env ρ (.Assign [.Tuple [.Name x px,.Name y py] c tp] e pos) (λp ρ'=>p=.next/\ρ'=(ρ.set x d1).set y d2) Ψ:=by
 show let Φ':=_;let Ψ':=_;EX1 _ _ _ _ _ Φ' Ψ';intro Φ' Ψ'
 intro A l F I s hA R
 show let Q':=_;let E':=_;Gf _ _ _ Q' E' _;intro Q' E'
 refine wpAny_Assign_stores (mA (TD.at he hA R trivial) (λv s1 I1 a1 R1 r1 q1=>?_)) hs hw
 show Gf _ A (assign (.Tuple [.Name x px,.Name y py] c tp) env v) _ _ s1
 cases r1 using dv with
 | @tup a vs n e rr =>
 cases rr using ft with
 | @cons v1 _ t1 rr =>
 cases rr using ft with
 | @cons v2 _ t2 rr =>
 (have E0:=VRs.nl rr;clear rr;subst E0)
 obtain⟨G,H,L,D⟩:=R1
 have ht:s1.heap.IsTuple a #[v1,v2]:=(zj _ (H.fz _ _ e) rfl n rfl)
 refine gM (hA.hd hb) ht rfl rfl λh5 hs5=>?_
 have R2:Rep w (env::l) F I1 env ρ { s1 with heap:=h5 }:=⟨G,H.at_loose H.new hs5,L,D⟩
 show Gf _ _ (do holding [v2] (assign (.Name x px) env v1);(do holding [] (assign (.Name y py) env v2);pure ())) _ _ _
 refine Ga (GD (KD (R2.store hl t1 λs5 R5 q5=>?_)))
 refine Ga (GD (KD (Rep.store (ρ:=ρ.set x d1) R5 hl2 t2 λs6 R6 q6=>Gb ?_)))
 exact⟨I1,_,.next,a1,R6,trivial,q1.trans ⟨q6.1.trans q5.1,q6.2.trans q5.2⟩,rfl,rfl⟩
end
section
open SeqAt
inductive PlD:Nat->PV->Prop
 | int (n:Nat) (i:Int):PlD n (.int i)
 | str (n:Nat) (x:Str):PlD n (.str x)
 | bytes (n:Nat) (b:Array UInt8):PlD n (.bytes b)
 | tup (n:Nat) (ds:List PV):(∀ d∈ds,PlD n d)->PlD (n+1) (.tup ds)
 | lst (n:Nat) (ds:List PV):(∀ d∈ds,PlD n d)->PlD (n+1) (.lst ds)
theorem Q7 {A:GZ} {s:Gg} (b:Array UInt8) (t u:Tok):EqAt A s (.bytes b t) (.bytes b u) Gh:=by
 intro prog w E Q h
 delta eqBool
 refine GD ?_
 refine wpAny_ite_split (λhab=>?_) (λhab=>?_)
 .exact Ga (Nf (Gb h))
 .exact Ga (W.eq_bytes (Q:=λr s'=>Gf (model prog w) A (truthOfDropped r) Q E s') (by
   rw[beq_self_eq_true]
   exact Kj h))
section
variable {own f:Own} {h:Kf}
theorem VRs.at2 {vs us:List Gd} {ds:List PV} (r1:VRs I vs ds) (r2:VRs I us ds) {j:Nat} (h1:j<vs.toArray.size) (h2:j<us.toArray.size):∃ d∈ds,VR I vs.toArray[j] d/\VR I us.toArray[j] d:=by
 have hj:j<ds.length:=by rw[←r1.length];simpa using h1
 have e:ds[j]? = fm ds[j]:=Gu hj
 refine xEA (r1.get e) λv hv rv=>?_
 refine xEA (r2.get e) λu hu ru=>?_
 have e1:vs.toArray[j]=v:=by
  replace hv:=(Gu (by simpa using h1)) ▸ hv;simpa using hv
 have e2:us.toArray[j]=u:=by
  replace hu:=(Gu (by simpa using h2)) ▸ hu;simpa using hu
 exact iEAA (ds[j]) (KH hj) (by rw[e1];exact rv) (by rw[e2];exact ru)
theorem uy (n:Nat):(GH n).all (λZ=>Gh)=Gh:=by exact Kt.mpr λx=>congrFun rfl
theorem uI {n:Nat} {d:PV} (hp:PlD n d):∀ {A:GZ} {s:Gg} {v u:Gd},A.units+n<NM->HP w l F I own s.heap->VR I v d->VR I u d->EqAt A s v u Gh:=by
 induction hp with
 | int n i =>
  intro A s v u hu H r1 r2
  cases r1 with
  | int _ t =>
  cases r2 with
  | int _ t' =>
  have:=EqAt.int_int (A:=A) (s:=s) i t i t'
  rewrite [beq_self_eq_true] at this;exact this
 | str n x =>
  intro A s v u hu H r1 r2
  cases r1 with
  | str _ t =>
  cases r2 with
  | str _ t' =>
  have:=EqAt.str_str (A:=A) (s:=s) x t x t'
  rewrite [beq_self_eq_true] at this;exact this
 | bytes n b=>intro A s v u hu H r1 r2;(refine fY r1 λZ E0=>?_;clear r1;subst E0);(refine fY r2 λZ E0=>?_;clear r2;subst E0);exact Q7 _ _ _
 | tup n ds hd ih =>
  intro A s v u hu H r1 r2
  cases r1 using dv with
  | @tup a vs m e1 q1 =>
  cases r2 using dv with
  | @tup b us m' e2 q2 =>
  by_cases hab:a=b
  .subst hab;exact EqAt.same _
  refine EqAt.of_refs hab ?_
  have:=RcAt.tuples (A:=A) (s:=s) (e:=λZ=>Gh) (zj _ (H.fz _ _ e1) rfl m rfl) (zj _ (H.fz _ _ e2) rfl m' rfl) (by exact H0 hu) (λj h1 h2=>by
   refine xEAA (q1.at2 q2 h1 h2) λd hm g1 g2=>?_
   exact ih d hm (A:=A.in1) (by show A.units+1+n<NM;lia) H g1 g2)
  rewrite [uy] at this;replace this:=(show (vs.toArray.size==us.toArray.size)=Gh by simp[q1.length,q2.length]) ▸ this
  exact this
 | lst n ds hd ih =>
  intro A s v u hu H r1 r2
  cases r1 using VR.cl with
  | @lst a vs m e1 q1 =>
  cases r2 using VR.cl with
  | @lst b us m' e2 q2 =>
  by_cases hab:a=b
  .subst hab;exact EqAt.same _
  refine EqAt.of_refs hab ?_
  have:=RcAt.lists (A:=A) (s:=s) (e:=λZ=>Gh) (zj _ (H.fz _ _ e1) rfl m rfl) (zj _ (H.fz _ _ e2) rfl m' rfl) (by simp[q1.length,q2.length]) (by exact H0 hu) (λj h1 h2=>by
   refine xEAA (q1.at2 q2 h1 h2) λd hm g1 g2=>?_
   exact ih d hm (A:=A.in1) (by show A.units+1+n<NM;lia) H g1 g2)
  rewrite [uy] at this
  exact this
theorem xF {n:Nat} {d:PV} (hp:PlD n d) (hn:n<=100) (hs:(∃ ds,d=.lst ds)\/∃ ds,d=.tup ds) {v1 v2:Gd}:PR w k own (λI=>VR I v1 d/\VR I v2 d) (Ke .NotEq v1 v2) (λI v=>VR I v (.bool Gk)):=by
 intro A l F I s hA H E9
 show let Q':=_;let E':=_;Gf _ _ _ Q' E' _;intro Q' E'
 refine xA E9 λr1 r2=>?_;clear E9
 show let Q':=_;let E':=_;Gf _ _ _ Q' E' _;intro Q' E'
 have hu:=hA.un
 rcases hs with ⟨ds,rfl⟩ | ⟨ds,rfl⟩
 .cases hp with
  | lst n _ hd =>
  cases r1 using VR.cl with
  | @lst a vs m e1 q1 =>
  cases r2 using VR.cl with
  | @lst b us m' e2 q2 =>
  have:=RcNeAt.lists (A:=A) (s:=s) (e:=λZ=>Gh) (zj _ (H.fz _ _ e1) rfl m rfl) (zj _ (H.fz _ _ e2) rfl m' rfl) (by simp[q1.length,q2.length]) (by lia) (λj h1 h2=>by
   refine xEAA (q1.at2 q2 h1 h2) λd hm g1 g2=>?_
   exact uI (hd d hm) (A:=A.in1) (by show A.units+1+n<NM;exact An ‹_› ‹_›) H g1 g2)
  rewrite [uy] at this
  exact this prg w _ _ ⟨I,.refl I,H,.bool _,.refl s⟩
 .cases hp with
  | tup n _ hd =>
  cases r1 using dv with
  | @tup a vs m e1 q1 =>
  cases r2 using dv with
  | @tup b us m' e2 q2 =>
  have:=RcNeAt.tuples (A:=A) (s:=s) (e:=λZ=>Gh) (zj _ (H.fz _ _ e1) rfl m rfl) (zj _ (H.fz _ _ e2) rfl m' rfl) (by lia) (λj h1 h2=>by
   refine xEAA (q1.at2 q2 h1 h2) λd hm g1 g2=>?_
   exact uI (hd d hm) (A:=A.in1) (by show A.units+1+n<NM;exact An ‹_› ‹_›) H g1 g2)
  rewrite [uy] at this;replace this:=(show (vs.toArray.size==us.toArray.size)=Gh by simp[q1.length,q2.length]) ▸ this
  exact this prg w _ _ ⟨I,.refl I,H,.bool _,.refl s⟩
theorem Zm {n:Nat} {ds:List PV} (hp:PlD n (.lst ds)) (hn:n<=100) {v1 v2:Gd}:PR w k own (λI=>VR I v1 (.lst ds)/\VR I v2 (.lst ds)) (Ke .Eq v1 v2) (λI v=>VR I v (.bool Gh)):=by
 intro A l F I s hA H E9
 show let Q':=_;let E':=_;Gf _ _ _ Q' E' _;intro Q' E'
 refine xA E9 λr1 r2=>?_;clear E9
 have hu:=hA.un
 cases hp with
 | lst n _ hd =>
 cases r1 using VR.cl with
 | @lst a vs m e1 q1 =>
 cases r2 using VR.cl with
 | @lst b us m' e2 q2 =>
 have:=RcAt.lists (A:=A) (s:=s) (e:=λZ=>Gh) (zj _ (H.fz _ _ e1) rfl m rfl) (zj _ (H.fz _ _ e2) rfl m' rfl) (by simp[q1.length,q2.length]) (by lia) (λj h1 h2=>by
  refine xEAA (q1.at2 q2 h1 h2) λd hm g1 g2=>?_
  exact uI (hd d hm) (A:=A.in1) (by show A.units+1+n<NM;exact An ‹_› ‹_›) H g1 g2)
 rewrite [uy] at this
 exact this prg w _ _ ⟨I,.refl I,H,.bool _,.refl s⟩
end
end
section
open PySem.W
noncomputable def runV {α:Type} (n:Nat) (lt:Nat->Nat->Bool):KasT α->Option α
 | .ret a=>fm a
 | .ask i j k=>if i<n/\j<n then runV n lt (k (lt i j)) else fp
theorem QX {α:Type} {n:Nat} {lt:Nat->Nat->Bool} {cmp:Nat->Nat->(Bool->Gg->Prop)->Gg->Prop} {s:Gg} (hC:∀ i j,i<n->j<n->∀ C:Bool->Gg->Prop,C (lt i j) s->cmp i j C s) {Q:α->Gg->Prop} :
  ∀ (t:KasT α) (a:α),runV n lt t=fm a->Q a s->t.kasWp cmp Q s
 | .ret b,a,h,hq=>by (injection h with E1;subst E1);exact hq
 | .ask i j k,a,h,hq=>by
  unfold runV at h
  by_cases z:i<n/\j<n
  .replace h:=if_pos z ▸ h
   exact hC i j z.1 z.2 _ (QX hC (k (lt i j)) a h hq)
  .replace h:=if_neg z ▸ h;injection h
section
variable {s:Gg} {vs:List Gd} {a:Gn}
noncomputable def yC (a:Gn) (h h':Kf):Prop:=∀ b o,b≠a->h.get? b=fm o->h'.get? b=fm o
theorem JX {n:Nat} {κ:Wm} {lt:Nat->Nat->Bool} {p:Array Nat} {P:YP->Gg->Prop} (ho:s.heap.get? a=fm (HW "list" vs.toArray n)) (h2:2<=vs.length) (h64:vs.length<64)
  (hK:∀ h',yC a s.heap h'->∀ Q:Wm->Gg->Prop,Q κ { s with heap:=h' }->Gf (mdl w) A (keyKind' vs.toArray) Q (λZ Z=>False) { s with heap:=h' })
  (hC:∀ h',yC a s.heap h'->∀ i j,i<vs.length->j<vs.length->∀ C:Bool->Gg->Prop,C (lt i j) { s with heap:=h' }->kas_ask prg w A κ vs i j C { s with heap:=h' })
  (hr:runV vs.length lt (kas_sort vs.length)=fm p)
  (h:∀ h' c,h'.get? a=fm (HW "list" (Nw (p.toList.map λi=>vs.getD i Value.none)) c)->yC a s.heap h'->P (.done (.ret .none)) { s with heap:=h' }) :
  Gf (mdl w) A (Hm.«list.sort» ⟨[.ref a],[]⟩) P E s:=by
 have ha:a<s.heap.objs.size:=HU ho
 have s1:=GB s.heap a (Ko λZ=>(#[]:Array Gd))
 obtain⟨e1,ho1⟩:∃ e1,(s.heap.update a (Ko λZ=>(#[]:Array Gd))).get? a=fm (HW "list" #[] e1):=⟨_,T3 ho λZ => #[]⟩
 generalize hh1:s.heap.update a (Ko λZ=>(#[]:Array Gd))=g1 at s1 ho1
 refine Mine.gn ((g1.push (HW "tuple" vs.toArray 0)).push (HW "list" #[] 0)) λg2 hh2=>?_
 have k2:yC a s.heap g2:=λb o hb e=>by rw[←hh2];exact GN _ (GN _ (s1.extBut b o hb e))
 have ho2:g2.get? a=fm (HW "list" #[] e1):=by rw[←hh2];exact GN _ (GN _ ho1)
 rw[fh]
 refine Ga (listItems_at ho rfl ?_)
 refine Ga (VP ho rfl ?_ (by rw[Gw,HJ];lia) (GU _))
 rw[hh1]
 refine Ga (WY ho1 rfl ?_)
 refine Ga (Vr ?_ (by show vs.length<=_;rw[HJ];lia))
 refine Ga (Yd ?_ (GU _))
 refine GD ?_
 show Gf (mdl w) A _ P E { s with heap:=(g1.push (HW "tuple" vs.toArray 0)).push (HW "list" #[] 0) }
 rw[hh2]
 dsimp only
 have hn2:¬ vs.toArray.size<2:=by rw[Gw];exact Tc ‹_›
 rw[if_neg hn2,if_neg hn2]
 refine Ga (Gm (hK g2 k2 (λκ' s'=>κ'=κ/\s'={ s with heap:=g2 }) ⟨rfl,rfl⟩) (λκ' s0 E9=>E9.elim λe e'=>?_) λZ Z x=>x.elim)
 subst e;subst e'
 have hk:(kas_sort vs.length).kasWp (kas_ask prg w A κ' vs) (λq s''=>q=p/\s''={ s with heap:=g2 }) { s with heap:=g2 } :=
  QX (s:={ s with heap:=g2 }) (λi j hi hj C hc=>hC g2 k2 i j hi hj C hc) _ _ hr ⟨rfl,rfl⟩
 refine Ga (Gm (kat_run (Q:=λst' s'=>∃ q:Array Nat,q.size=vs.length/\arrOf st'=q.map (kas_item (vs.toArray.zip vs.toArray))/\failedOf st'=fp/\(q=p/\s'={ s with heap:=g2 }))
  rfl h2 h64 (λp' st' s' a1 a2 a3 a4=>(yB p' a1 a2 a3 a4)) hk) ?_ λZ Z e=>e)
 rintro⟨⟨⟩,st'⟩ s' E9
 refine xm E9 λq hp har hf E24 E25=>?_;clear E9;subst E24;subst E25
 dsimp only
 have hout:=kat_snds rfl har
 have hsz:(Nw (q.toList.map λi=>vs.getD i Value.none)).size=vs.length:=by rw[Gw,Ge,GY,hp]
 rw[hout]
 have s2:=GB g2 a (Ko λZ=>Nw (q.toList.map λi=>vs.getD i Value.none))
 obtain⟨c2,hc2⟩:∃ c2,(g2.update a (Ko λZ=>Nw (q.toList.map λi=>vs.getD i Value.none))).get? a=fm (HW "list" (Nw (q.toList.map λi=>vs.getD i Value.none)) c2):=⟨_,T3 ho2 λZ=>Nw (q.toList.map λi=>vs.getD i Value.none)⟩
 refine Ga (WY ho2 rfl ?_)
 refine Ga (VP ho2 rfl ?_ (GU _) (Gc (KB hsz) (by rw[HJ];lia)))
 rw[hf]
 rw[bne_self_eq_false,if_neg Gv]
 exact Gb (h _ c2 hc2 λb o hb e=>s2.extBut b o hb (k2 b o hb e))
theorem uV {n:Nat} {P:YP->Gg->Prop} (ho:s.heap.get? a=fm (HW "list" vs.toArray n)) (h2:vs.length<2)
  (h:∀ h' c,h'.get? a=fm (HW "list" vs.toArray c)->yC a s.heap h'->P (.done (.ret .none)) { s with heap:=h' }) :
  Gf (mdl w) A (Hm.«list.sort» ⟨[.ref a],[]⟩) P E s:=by
 have ha:a<s.heap.objs.size:=HU ho
 have s1:=GB s.heap a (Ko λZ=>(#[]:Array Gd))
 obtain⟨e1,ho1⟩:∃ e1,(s.heap.update a (Ko λZ=>(#[]:Array Gd))).get? a=fm (HW "list" #[] e1):=⟨_,T3 ho λZ => #[]⟩
 revert s1 ho1;refine Mine.gn (s.heap.update a (Ko λZ=>(#[]:Array Gd))) λg1 hh1 s1 ho1=>?_
 refine Mine.gn ((g1.push (HW "tuple" vs.toArray 0)).push (HW "list" #[] 0)) λg2 hh2=>?_
 have k2:yC a s.heap g2:=λb o hb e=>by rw[←hh2];exact GN _ (GN _ (s1.extBut b o hb e))
 have ho2:g2.get? a=fm (HW "list" #[] e1):=by rw[←hh2];exact GN _ (GN _ ho1)
 rw[fh]
 refine Ga (listItems_at ho rfl ?_)
 refine Ga (VP ho rfl ?_ (by rw[Gw,HJ];lia) (GU _))
 rw[hh1]
 refine Ga (WY ho1 rfl ?_)
 refine Ga (Vr ?_ (by show vs.length<=_;rw[HJ];lia))
 refine Ga (Yd ?_ (GU _))
 refine GD ?_
 show Gf (mdl w) A _ P E { s with heap:=(g1.push (HW "tuple" vs.toArray 0)).push (HW "list" #[] 0) }
 rw[hh2]
 dsimp only
 have hn2:vs.toArray.size<2:=by rw[Gw];exact h2
 rw[if_pos hn2,if_pos hn2]
 refine Ga (Gb ?_)
 refine Ga (Gb ?_)
 dsimp only
 have hout:(arrOf (SortSt.mk' general' (vs.toArray.zip vs.toArray) #[] 7 fp)).map (·.2)=vs.toArray:=by
  show (vs.toArray.zip vs.toArray).map (·.2)=vs.toArray
  apply Yr
  simp[Y3]
 rw[hout]
 have s2:=GB g2 a (Ko λZ=>vs.toArray)
 obtain⟨c2,hc2⟩:∃ c2,(g2.update a (Ko λZ=>vs.toArray)).get? a=fm (HW "list" vs.toArray c2):=⟨_,T3 ho2 λZ=>vs.toArray⟩
 refine Ga (WY ho2 rfl ?_)
 refine Ga (VP ho2 rfl ?_ (GU _) (by rw[Gw,HJ];lia))
 rw[bne_self_eq_false,if_neg Gv]
 exact Gb (h _ c2 hc2 λb o hb e=>s2.extBut b o hb (k2 b o hb e))
theorem ua {l:Gn} {out:List Gd} {Q:Gd->Gg->Prop} (hl:s.heap.IsList l vs.toArray) (h64:vs.length<64)
  (hsort:∀ (g:Kf) (a:Gn) (P:YP->Gg->Prop) (E':Gd->Gg->Prop),(∀ b o,s.heap.get? b=fm o->g.get? b=fm o)->s.heap.get? a=fp->g.get? a=fm (HW "list" vs.toArray 0) ->
   (∀ h' c,h'.get? a=fm (HW "list" out.toArray c)->yC a g h'->P (.done (.ret .none)) { s with heap:=h' })->Gf (mdl w) A.in1.in1 (Hm.«list.sort» ⟨[.ref a],[]⟩) P E' { s with heap:=g })
  (h:∀ h' D c,s.heap.get? D=fp->h'.get? D=fm (HW "list" out.toArray c)->(∀ b o,s.heap.get? b=fm o->h'.get? b=fm o)->Q (.ref D) { s with heap:=h' }) :
  Gf (mdl w) A (call (.builtin "sorted") [.ref l]) Q E s:=by
 refine WH kind_sorted plain_sorted entry_sorted (args_sorted1 _) ?_
 show let Q':=_;let E':=_;Gf _ _ _ Q' E' _;intro Q' E'
 delta Hm.«sorted»
 refine Ga (m:=checkCount "sorted" 1 1 _) (Gb ?_)
 refine Ga (collect_list hl ?_ (by rw[HJ];lia))
 refine Ga (Yd ?_ (by rw[HJ];lia))
 have hsz:((s.heap.push (HW "list" #[] 0)).update s.heap.objs.size (Ko (· ++ vs.toArray))).objs.size=s.heap.objs.size+1:=by
  rw[Heap.size_update,size_push']
 have hoL:(((s.heap.push (HW "list" #[] 0)).update s.heap.objs.size (Ko (· ++ vs.toArray))).push (HW "list" vs.toArray 0)).get? (s.heap.objs.size+1)=fm (HW "list" vs.toArray 0):=by
  rw[←hsz];exact GA _ rfl
 have keep:∀ b o,s.heap.get? b=fm o->(((s.heap.push (HW "list" #[] 0)).update s.heap.objs.size (Ko (· ++ vs.toArray))).push (HW "list" vs.toArray 0)).get? b=fm o:=λb o q=>by
  have hlt:b<s.heap.objs.size:=HU q
  rw[YV _ _ _ (by rw[hsz];exact HZ (VJ hlt)),Heap.get?_update_ne _ _ _ _ (HZ hlt),YV _ _ _ (HZ hlt)]
  exact q
 show Gf _ _ _ _ _ { s with heap:=((s.heap.push (HW "list" #[] 0)).update s.heap.objs.size (Ko (· ++ vs.toArray))).push (HW "list" vs.toArray 0) }
 rw[hsz]
 have keep2:∀ h',yC (s.heap.objs.size+1) (((s.heap.push (HW "list" #[] 0)).update s.heap.objs.size (Ko (· ++ vs.toArray))).push (HW "list" vs.toArray 0)) h'->∀ b o,s.heap.get? b=fm o->h'.get? b=fm o:=λh' k b o q =>
  k b o (HZ (VJ (HU q))) (keep b o q)
 refine Ga (GD (GX slot_list_sort (iEA _ hoL rfl) entry_list_sort ?_ (args_list_sort _)))
 refine hsort _ (s.heap.objs.size+1) _ _ keep (TK (Oi _)) hoL λh' c g k=>?_
 exact iEA _ rfl (Gb ⟨_,rfl,h h' _ c (TK (Oi _)) g (keep2 h' k)⟩)
theorem Q6 {l:Gn} {κ:Wm} {lt:Nat->Nat->Bool} {p:Array Nat} {Q:Gd->Gg->Prop} (hl:s.heap.IsList l vs.toArray) (h2:2<=vs.length) (h64:vs.length<64)
  (hK:∀ h',(∀ b o,s.heap.get? b=fm o->h'.get? b=fm o)->∀ Q:Wm->Gg->Prop,Q κ { s with heap:=h' }->Gf (mdl w) A.in1.in1 (keyKind' vs.toArray) Q (λZ Z=>False) { s with heap:=h' })
  (hC:∀ h',(∀ b o,s.heap.get? b=fm o->h'.get? b=fm o)->∀ i j,i<vs.length->j<vs.length->∀ C:Bool->Gg->Prop,C (lt i j) { s with heap:=h' }->kas_ask prg w A.in1.in1 κ vs i j C { s with heap:=h' })
  (hr:runV vs.length lt (kas_sort vs.length)=fm p)
  (h:∀ h' D c,s.heap.get? D=fp->h'.get? D=fm (HW "list" (Nw (p.toList.map λi=>vs.getD i Value.none)) c)->(∀ b o,s.heap.get? b=fm o->h'.get? b=fm o)->Q (.ref D) { s with heap:=h' }) :
  Gf (mdl w) A (call (.builtin "sorted") [.ref l]) Q E s :=
 ua (out:=p.toList.map λi=>vs.getD i Value.none) hl h64 (λg a P E' keep hn ho k=>by
  have up:∀ h',yC a g h'->∀ b o,s.heap.get? b=fm o->h'.get? b=fm o:=λh' kk b o e=>kk b o (by rintro rfl;replace e:=hn ▸ e;injection e) (keep b o e)
  exact JX (s:={ s with heap:=g }) ho h2 h64 (λh' kk Q hq=>hK h' (up h' kk) Q hq) (λh' kk i j hi hj C hc=>hC h' (up h' kk) i j hi hj C hc) hr k) h
theorem Jq {l:Gn} {Q:Gd->Gg->Prop} (hl:s.heap.IsList l vs.toArray) (h2:vs.length<2)
  (h:∀ h' D c,s.heap.get? D=fp->h'.get? D=fm (HW "list" vs.toArray c)->(∀ b o,s.heap.get? b=fm o->h'.get? b=fm o)->Q (.ref D) { s with heap:=h' }) :
  Gf (mdl w) A (call (.builtin "sorted") [.ref l]) Q E s :=
 ua (out:=vs) hl (by exact Hb ‹_› (lb rfl)) (λg a P E' keep hn ho k=>uV (s:={ s with heap:=g }) ho h2 k) h
end
end
section
open SeqAt AutoSeq1 MeetsSeq MeetsSeq2 MeetsSeq3
theorem Z7 (l b:Gn) {us vs:List Gd} {xs ys:List Int} (n n2:Nat) (h1:Ni us xs) (h2:Ni vs ys) :
  YB (Hm.«list.__lt__» ⟨[.ref l,.ref b],[]⟩)
   (λA R s=>s.heap.get? l=fm { cls:=.type "list",data:=.seq us.toArray n }/\s.heap.get? b=fm { cls:=.type "list",data:=.seq vs.toArray n2 } /\
    R (.ok (.ret (.bool (ltL xs ys)))) s):=by
 intro prog w A R s h
 show let Q':=_;let E':=_;Gf _ _ _ Q' E' _;intro Q' E'
 obtain⟨hp,g,d,tk,os⟩:=s;obtain⟨hl,hb,h⟩:=h
 have f3:=AutoSeq1.sub_list_list
 wp_walk using Hw hl,Hw hb
 exact⟨VN plain_eq_loop _,Nn entry_eq_loop (by
  rw[Nk plain_eq_loop _]
  exact lt_loop l b n n2 h1 h2 _ 0 rfl (GU _) (GU _) prog w A R _ ⟨hl,hb,by simpa using h⟩)⟩
section
variable {prog:LH} {s:Gg}
theorem Zu {l b:Gn} {us vs:List Gd} {xs ys:List Int} {n n2:Nat} {Q:Bool->Gg->Prop} (h1:Ni us xs) (h2:Ni vs ys) (hl:s.heap.get? l=fm (HW "list" us.toArray n)) (hb:s.heap.get? b=fm (HW "list" vs.toArray n2)) (hu:A.units<NM)
  (h:Q (ltL xs ys) s):Gf (model prog w) A (oneLt' Gh (.ref l) (.ref b)) Q E s:=by
 rw[oneLt'_eq]
 rw[if_pos rfl]
 refine Ga (wpAny_cRoomFor hu ?_)
 refine Ga (wpAny_callSpecialIfBound?_slot (iEA _ hl rfl) F.slot_list_lt (VZ F.slot_list_lt (iEA _ hl rfl) F.entry_list_lt (F.args_list_lt_2 _ _) (Z7 l b n n2 h1 h2) ⟨hl,hb,?_⟩))
 exact Kj h
end
end
section
open PySem.W
section
noncomputable def ym {α:Type} (dflt:α) (lt:α->α->Bool) (cs:List α):Option (List α) :=
 if cs.length<2 then fm cs else
  match runV cs.length (λi j=>lt (cs.getD i dflt) (cs.getD j dflt)) (kas_sort cs.length) with
  | none=>fp
  | some p=>if p.toList.all (λi=>decide (i<cs.length)) then fm (p.toList.map λi=>cs.getD i dflt) else fp
theorem pO {I:PH} {α:Type} {f:α->PV} {cs:List α} {dflt:α} {vs:List Gd} (r:VRs I vs (cs.map f)):∀ {p:List Nat},(p.all λi=>decide (i<cs.length))=Gh->VRs I (p.map λi=>vs.getD i Value.none) ((p.map λi=>cs.getD i dflt).map f)
 | [],_=>.nil
 | i::p,h=>by
  (replace h:=List.all_cons ▸ h;rewrite [GE,decide_eq_true_eq] at h)
  have e:(cs.map f)[i]? = fm (f (cs.getD i dflt)):=by simp[h.1]
  refine xEA (r.get e) λv g rv=>?_
  have g2:vs.getD i Value.none=v:=by rw[Gt,g];rfl
  have rv':VR I (vs.getD i Value.none) (f (cs.getD i dflt)):=by rw[g2];exact rv
  exact .cons rv' (pO r h.2)
theorem vR {α:Type} {f:α->PV} {cs out:List α} {dflt:α} {lt:α->α->Bool} {κ:Wm} {us:List Gd} (h64:cs.length<64) (ho:ym dflt lt cs=fm out)
  (hK:2<=cs.length->∀ (A:GZ) (l:List Env) (F I:PH) (s:Gg) (vs:List Gd),A.units+256<NM->HP w l F I own s.heap->VRs I vs (cs.map f)->∀ Q:Wm->Gg->Prop,Q κ s->Gf (mdl w) A (keyKind' vs.toArray) Q (λZ Z=>False) s)
  (hC:∀ (A:GZ) (l:List Env) (F I:PH) (s:Gg) (v1 v2:Gd) (a b:α),A.units+200<NM->HP w l F I own s.heap->VR I v1 (f a)->VR I v2 (f b)->a∈cs->b∈cs->∀ C:Bool->Gg->Prop,C (lt a b) s->Gf (mdl w) A (keyLt' κ v1 v2) C (λZ Z=>False) s) :
  PR w k.up own (λI=>VRs I us [.lst (cs.map f)]) (call (.builtin "sorted") us) (λI v=>VR I v (.lst (out.map f))):=by
 intro A l F I s hA H hP
 show let Q':=_;let E':=_;Gf _ _ _ Q' E' _;intro Q' E'
 refine VRs.k hP λv vs E0 r1 r2=>?_;clear hP;subst E0
 have E0:=VRs.nl r2;clear r2;subst E0
 cases r1 using VR.cl with
 | @lst a vs n e1 r =>
 have hlen:vs.length=cs.length:=by rw[r.length,Ge]
 have hu:=hA.un
 have fin:∀ (ws:List Gd) (ds:List α),VRs I ws (ds.map f)->∀ h' D c,s.heap.get? D=fp->h'.get? D=fm (HW "list" ws.toArray c)->(∀ b o,s.heap.get? b=fm o->h'.get? b=fm o) ->
   Py w l F own I s (λJ v=>VR J v (.lst (ds.map f))) (.ref D) { s with heap:=h' }:=λws ds rr h' D c n1 g k=>by
  have L:=H.loose_of_none n1
  refine⟨upd I D (HW "list" ws.toArray c),fA L.2.1,(H.all k).freeze L g,.lst (zd ..) (rr.mono (fA L.2.1)),⟨rfl,rfl⟩⟩
 delta ym at ho
 by_cases z:cs.length<2
 .replace ho:=if_pos z ▸ ho
  (injection ho with E1;subst E1)
  exact Jq (vs:=vs) (zj _ (H.fz _ _ e1) rfl n rfl) (by exact lt_of_eq_of_lt hlen z) (fin vs cs r)
 .replace ho:=if_neg z ▸ ho
  cases hr:runV cs.length (λi j=>lt (cs.getD i dflt) (cs.getD j dflt)) (kas_sort cs.length) with
  | none=>replace ho:=hr ▸ ho;injection ho
  | some p =>
   replace ho:=hr ▸ ho
   simp only at ho
   by_cases hp:p.toList.all (λi=>decide (i<cs.length))=Gh
   .replace ho:=if_pos hp ▸ ho
    (injection ho with E1;subst E1)
    have hun:A.in1.in1.units=A.units+1+1:=rfl
    refine Q6 (vs:=vs) (κ:=κ) (lt:=λi j=>lt (cs.getD i dflt) (cs.getD j dflt)) (p:=p) (zj _ (H.fz _ _ e1) rfl n rfl) (by lia) (by exact lt_of_eq_of_lt hlen h64) (λh' kk Q hq=>?_) (λh' kk i j hi hj C hc=>?_) (by rw[hlen];exact hr) (fin _ _ (pO r hp))
    .exact hK (by exact Ob ‹_›) A.in1.in1 l F I { s with heap:=h' } vs (by simp only[Lv.up] at hu;lia) (H.all kk) r Q hq
    .have ei:(cs.map f)[i]? = fm (f (cs.getD i dflt)):=by simp[show i<cs.length by exact NT hi hlen]
     have ej:(cs.map f)[j]? = fm (f (cs.getD j dflt)):=by simp[show j<cs.length by exact NT hj hlen]
     refine xEA (r.get ei) λv g rv=>?_
     refine xEA (r.get ej) λv' g' rv'=>?_
     show Gf (mdl w) A.in1.in1 (keyLt' κ (vs.getD i Value.none) (vs.getD j Value.none)) C (λZ Z=>False) _
     rw[Gt,g,Gt,g']
     have mi:cs.getD i dflt∈cs:=by rw[Gt,Gu (show i<cs.length by exact NT hi hlen)];exact KH _
     have mj:cs.getD j dflt∈cs:=by rw[Gt,Gu (show j<cs.length by exact NT hj hlen)];exact KH _
     exact hC A.in1.in1 l F I { s with heap:=h' } v v' _ _ (by simp only[Lv.up] at hu;lia) (H.all kk) rv rv' mi mj C hc
   .replace ho:=if_neg hp ▸ ho;injection ho
theorem uo {cs out:List (List Int)} {us:List Gd} (h64:cs.length<64) (ho:ym [] ltL cs=fm out) :
  PR w k.up own (λI=>VRs I us [.lst (llD cs)]) (call (.builtin "sorted") us) (λI v=>VR I v (.lst (llD out))) :=
 vR (f:=λc=>.lst (intL c)) (κ:=oneType') h64 ho
  (λh2 A l F I s vs hu H r Q hq=>by
   refine kas_kind (T:=.type "list") (by rw[r.length,Ge];exact h2) (λv hv=>?_) rfl rfl hq
   obtain⟨i,hi,rfl⟩:=List.mem_iff_getElem.mp hv
   refine xEA (r.get' (Gu hi)) λd e rd=>?_
   replace e:=(Gx) ▸ e
   cases hc:cs[i]? with
   | none=>replace e:=hc ▸ e;injection e
   | some c =>
    replace e:=hc ▸ e
    (injection e with E1;subst E1)
    cases hv':vs[i] with
    | ref a =>
     replace rd:=hv' ▸ rd
     cases rd using VR.cl with
     | lst e1 q=>exact(Looks.ld (H.fz _ _ e1)).andThen .now
    | _=>replace rd:=hv' ▸ rd;cases rd)
  (λA l F I s v1 v2 a b hu H r1 r2 Z Z C hc=>by
   cases r1 using VR.cl with
   | lst e1 q1 =>
   cases r2 using VR.cl with
   | lst e2 q2 =>
   rw[keyLt'_oneType]
   exact Zu (db q1) (db q2) (H.fz _ _ e1) (H.fz _ _ e2) (by exact H0 hu) hc)
end
end
section
open SeqAt AutoSeq1 MeetsSeq MeetsSeq2 MeetsSeq3
theorem Zb (l b:Gn) {us vs:List Gd} {xs ys:List Int} (n n2:Nat) (h1:Ni us xs) (h2:Ni vs ys) (hlen:xs.length=ys.length) :
  YB (Hm.«tuple.__lt__» ⟨[.ref l,.ref b],[]⟩)
   (λA R s=>s.heap.get? l=fm { cls:=.type "tuple",data:=.seq us.toArray n }/\s.heap.get? b=fm { cls:=.type "tuple",data:=.seq vs.toArray n2 } /\
    R (.ok (.ret (.bool (ltL xs ys)))) s) :=
 .of_wp λprog w A R s h=>by
  show let Q':=_;let E':=_;Gf _ _ _ Q' E' _;intro Q' E'
  obtain⟨hp,g,d,tk,os⟩:=s;obtain⟨hl,hb,h⟩:=h
  have f2:=AutoSeq1.sub_tuple_tuple
  wp_walk using Hw hl,Hw hb,Tu _ (λrest b s'=>b.1=fp/\s'=⟨hp,g,d,tk,os⟩/\∃ us' vs' xs' ys',rest=us'.zip vs'/\Ni us' xs'/\Ni vs' ys'/\xs'.length=ys'.length /\
   R (.ok (.ret (.bool (ltL xs' ys')))) ⟨hp,g,d,tk,os⟩) _
  case turn =>
   rintro⟨y,x⟩ rest b s' ⟨hb',rfl,us',vs',xs',ys',hz,i1,i2,hl',hR⟩
   show let Q':=_;let E':=_;Gf _ _ _ Q' E' _;intro Q' E'
   cases i1 with
   | nil=>injection hz
   | cons a t i1 =>
   cases i2 with
   | nil=>injection hz
   | cons c u i2 =>
   replace hz:=List.zip_cons_cons ▸ hz
   injection hz with hyx hrest
   injection hyx with hy hx
   subst hy hx
   refine Ga (EqAt.int_int a t c u prog w _ _ ?_)
   cases he:(a==c) with
   | true =>
    have heq:a=c:=by simpa using he
    unfold ltL at hR
    replace hR:=if_pos heq ▸ hR
    wp_walk
    exact⟨rfl,rfl,_,_,_,_,hrest,i1,i2,by simpa using hl',hR⟩
   | false =>
    have hne:a≠c:=by simpa using he
    unfold ltL at hR
    replace hR:=if_neg hne ▸ hR
    rw[if_pos (show (!false)=Gh from rfl)]
    dsimp only
    show let Q':=_;let E':=_;Gf _ _ _ Q' E' _;intro Q' E'
    refine Ga (m:=rule _) (Nf ?_)
    refine Ga (hV (op:=.Lt) (TP _ a t) (TP _ c u) Xo Xj (W8 _ _) (gives_int_lt a c t u) (λx=>nomatch x) ?_)
    refine Ga (Gb (Gb ?_))
    exact Gb (iEA _ rfl hR)
  case fin =>
   rintro⟨b1,b2⟩ s' ⟨hb',rfl,us',vs',xs',ys',hz,i1,i2,hl',hR⟩
   simp only at hb'
   subst hb'
   have hx:ltL xs' ys'=Gk:=by
    cases i1 with
    | nil =>
     cases i2 with
     | nil=>rfl
     | cons c u i2=>simp at hl'
    | cons a t i1 =>
     cases i2 with
     | nil=>rfl
     | cons c u i2=>injection hz
   replace hR:=hx ▸ hR
   wp_walk
   have e1:=IntsAre.len h1
   have e2:=IntsAre.len h2
   exact iEA _ rfl (by simpa [Builtin.Tuple.tupleCompareSizes,e1,e2,hlen] using hR)
  case h =>
   exact⟨rfl,rfl,_,_,_,_,rfl,h1,h2,hlen,h⟩
end
section
open PySem.W SeqAt MeetsSeq MeetsSeq2 MeetsSeq3
noncomputable abbrev I3:=Int×Int×Int
noncomputable def yI (t:I3):PV:=.tup [.int t.1,.tup [.int t.2.1,.int t.2.2]]
noncomputable def lt3 (a b:I3):Bool:=ltL [a.1,a.2.1,a.2.2] [b.1,b.2.1,b.2.2]
theorem pG {I:PH} {v:Gd} {a:I3} (h:VR I v (yI a)):∃ x y n m t u z,v=.ref x/\I x=fm { cls:=.type "tuple",data:=.seq #[.int a.1 t,.ref y] n }/\I y=fm { cls:=.type "tuple",data:=.seq #[.int a.2.1 u,.int a.2.2 z] m }:=by
 cases h using dv with
 | tup e1 q1 =>
 cases q1 using ft with
 | cons r1 q1 =>
 cases q1 using ft with
 | cons r2 q1 =>
 (have E0:=VRs.nl q1;clear q1;subst E0)
 refine fM r1 λZ E0=>?_;clear r1;subst E0
 cases r2 using dv with
 | tup e2 q2 =>
 cases q2 using ft with
 | cons r3 q2 =>
 cases q2 using ft with
 | cons r4 q2 =>
 (have E0:=VRs.nl q2;clear q2;subst E0)
 refine fM r3 λZ E0=>?_;clear r3;subst E0
 refine fM r4 λZ E0=>?_;clear r4;subst E0
 exact Q5 _ _ _ _ _ _ _ rfl e1 e2
section
variable {s:Gg}
theorem tup_eq {x y:Gn} {n m:Nat} {p q p' q':Int} {t u t' u':Tok} (hu:A.units<NM) (h1:s.heap.get? x=fm { cls:=.type "tuple",data:=.seq #[.int p t,.int q u] n }) (h2:s.heap.get? y=fm { cls:=.type "tuple",data:=.seq #[.int p' t',.int q' u'] m }) :
  EqAt A s (.ref x) (.ref y) (p==p'&&q==q'):=by
 by_cases e:x=y
 .subst e
  replace h2:=h1 ▸ h2
  injection h2 with h2
  injection h2 with _ _ h2
  injection h2 with h2
  have e1:LV p t=LV p' t':=by have:=congrArg (·.toList.head?) h2;simpa using this
  have e2:LV q u=LV q' u':=by have:=congrArg (·.toList.getLast?) h2;simpa using this
  injection e1 with e1 _
  injection e2 with e2 _
  subst e1 e2
  have:(p==p&&q==q)=Gh:=by simp
  rw[this]
  exact EqAt.same _
 .refine EqAt.of_refs e ?_
  have:=RcAt.tuples (A:=A) (s:=s) (e:=λi=>if i=0 then p==p' else q==q') (zj _ h1 rfl _ rfl) (zj _ h2 rfl _ rfl) hu (λj h1 h2=>by
   match j,h1,h2 with
   | 0,_,_=>exact(EqAt.int_int p t p' t')
   | 1,_,_=>exact(EqAt.int_int q u q' u'))
  simpa [LW] using this
theorem tup_lt {x y:Gn} {n m:Nat} {p q p' q':Int} {t u t' u':Tok} {Q:Bool->Gg->Prop} (hu:A.units<NM) (h1:s.heap.get? x=fm { cls:=.type "tuple",data:=.seq #[.int p t,.int q u] n }) (h2:s.heap.get? y=fm { cls:=.type "tuple",data:=.seq #[.int p' t',.int q' u'] m })
  (h:Q (ltL [p,q] [p',q']) s):Gf (mdl w) A (oneLt' Gk (.ref x) (.ref y)) Q E s :=
 kat_one _ _ (richCompare_meets_room (op:=.Lt) (iEA _ h1 rfl) (iEA _ h2 rfl) F.slot_tuple_lt F.entry_tuple_lt (F.args_tuple_lt_2 _ _) (Zb x y (us:=[.int p t,.int q u]) (vs:=[.int p' t',.int q' u']) n m (.cons _ _ (.cons _ _ .nil)) (.cons _ _ (.cons _ _ .nil)) rfl)
  ⟨h1,h2,(λx=>nomatch x),h⟩ hu)
theorem vd {cs out:List I3} {us:List Gd} (h64:cs.length<64) (ho:ym (0,0,0) lt3 cs=fm out) :
  PR w k.up own (λI=>VRs I us [.lst (cs.map yI)]) (call (.builtin "sorted") us) (λI v=>VR I v (.lst (out.map yI))) :=
 vR (κ:=tuples' Gh) h64 ho
  (λh2 A l F I s vs hu H r Q hq=>by
   have K:∀ {cs:List I3} {vs:List Gd},VRs I vs (cs.map yI)->∃ fs,KatTups s.heap vs fs/\fs.length=cs.length/\∀ v∈fs,Looks (mdl w) s.heap (Xq v) (.type "int"):=by
    intro cs
    induction cs with
    | nil=>intro vs r;(have E0:=VRs.nl r;clear r;subst E0);exact iEAA [] (.nil) rfl (λv hv=>by cases hv)
    | cons c cs ih =>
     intro vs r
     refine VRs.k r λv vs E0 r1 r2=>?_;clear r;subst E0
     refine xEAA (ih r2) λfs a1 a2 a3=>?_
     refine vC (pG r1) λx y n m t u z E5 e1 e2=>?_;subst E5
     refine iEAA (.int c.1 t::fs) (.cons (H.fz _ _ e1) rfl rfl rfl a1) (by exact Gq ((λ{a b}=>Nat.succ_inj.mpr) (id (Gq a2)))) (λv hv=>?_)
     rcases Gi.mp hv with rfl | hv
     .exact .now
     .exact a3 v hv
   refine xEAA (K r) λfs a1 a2 a3=>?_
   exact kat_kind a1 (by lia) a3 rfl hq)
  (λA l F I s v1 v2 a b hu H r1 r2 Z Z C hc=>by
   refine vC (pG r1) λx y n m t u z E5 e1 e2=>?_;subst E5
   refine vC (pG r2) λx' y' n' m' t' u' z' E5 e1' e2'=>?_;subst E5
   refine kat_lt (H.fz _ _ e1) rfl (H.fz _ _ e1') rfl ?_
   refine kat_cons (EqAt.int_int a.1 t b.1 t' prg w _ _ ?_)
   unfold lt3 ltL at hc
   cases he:(a.1==b.1) with
   | false =>
    have hne:a.1≠b.1:=by simpa using he
    replace hc:=if_neg hne ▸ hc
    exact kat_no (oneLt_int hc)
   | true =>
    have heq:a.1=b.1:=by simpa using he
    replace hc:=if_pos heq ▸ hc
    refine kat_yes (kat_cons (tup_eq (by exact H0 hu) (H.fz _ _ e2) (H.fz _ _ e2') prg w _ _ ?_))
    cases he2:(a.2.1==b.2.1&&a.2.2==b.2.2) with
    | true =>
     simp only[GE,beq_iff_eq] at he2
     have hx:ltL [a.2.1,a.2.2] [b.2.1,b.2.2]=Gk:=by rw[he2.1,he2.2];simp[ltL]
     replace hc:=hx ▸ hc
     exact kat_yes (kat_nil hc)
    | false=>exact kat_no (tup_lt (by exact H0 hu) (H.fz _ _ e2) (H.fz _ _ e2') hc))
end
end
noncomputable def lawF:HF:=top 20
noncomputable def lawB:List HF:=zt lawF
noncomputable def Law (env:Env):Prop:=env.scope=zf lawF
theorem Law.kd {env:Env} (h:Law env) (x:Str):env.kindOf x=(zf lawF).names.lookup x:=by
 show env.scope.names.lookup x=_;rw[show env.scope=zf lawF from h]
theorem Law.kL {env:Env} (h:Law env) (x:String) (k:(zf lawF).names.lookup (G7 x)=fm .local:=by rfl):env.kindOf (G7 x)=fm .local:=(h.kd _).trans k
theorem Law.kC {env:Env} (h:Law env) (x:String) (k:(zf lawF).names.lookup (G7 x)=fm .cell:=by rfl):env.kindOf (G7 x)=fm .cell:=(h.kd _).trans k
theorem Law.kG {env:Env} (h:Law env) (x:String) (k:(zf lawF).names.lookup (G7 x)=fm .globalImplicit:=by rfl):env.kindOf (G7 x)=fm .globalImplicit:=(h.kd _).trans k
theorem pick_map {α β:Type} (f:α->β) (xs:List α) (lo hi st:Option Int):pick (xs.map f) lo hi st=(pick xs lo hi st).map f:=by
 delta pick
 rw[Ge,YC]
 congr 1
 funext i
 rw[Gx]
noncomputable def cell0:List Int:=[1,5,1,0,2,4,3]
noncomputable def yH (xs:List Int):List Int:=(GH 7).map λj=>cell0.getD j 0+(pick xs (fm (j:Int)) (fm 24) (fm 7)).sum
section
theorem Qh {own:Own} {ds:List PV} {lo hi st:Option Int} {v1 vl vu vs:Gd} {sl:Gn} (h:ds.length<=1048576) (pl:Oc vl lo) (pu:Oc vu hi) (ps:Oc vs st) (h0:st≠fm 0) :
  PR w k own (λI=>VR I v1 (.lst ds)/\SlAt I sl vl vu vs) (K7 v1 (.ref sl)) (λI v=>VR I v (.lst (pick ds lo hi st))):=by
 intro A l F I s hA H E9
 show let Q':=_;let E':=_;Gf _ _ _ Q' E' _;intro Q' E'
 refine xA E9 λr1 r2=>?_;clear E9
 cases r1 using VR.cl with
 | @lst a us n e r =>
  refine Ye (items:=us.toArray) (zj _ (H.fz _ _ e) rfl _ rfl) (iEAA _ (H.fz _ _ r2) rfl rfl) pl pu ps h0 ?_ (by rw[Gw,r.length];simp[N7];exact Gc ‹_› (lb rfl))
  rw[vk]
  exact⟨_,fA H.new.2.1,H.push_frozen (lstO (pick us lo hi st) 0),.lst (zd ..) ((r.pick lo hi st).mono (fA H.new.2.1)),⟨rfl,rfl⟩⟩
theorem law_s0 {xs:List Int} (hb:k.b=Gh) (he:Law env) (hs:ρ.loc.lookup (oS "script")=fm (.lst (intL xs))) (hx:xs.length<=1048576) :
  EX1 w k env ρ (lawB.getD 0 default) (λp ρ'=>p=.next/\ρ'=ρ.set (oS "cells") (.lst (intL (yH xs)))) Ψ:=by
 show let Φ':=_;let Ψ':=_;EX1 _ _ _ _ _ Φ' Ψ';intro Φ' Ψ'
 have hsc:=he.kC "script"
 have hce:=he.kL "cells"
 have hrange:=he.kG "range"
 let f:PV->PV:=λd=>d.onI d λi=>.int (cell0.getD i.toNat 0+(pick xs (fm i) (fm 24) (fm 7)).sum)
 have hres:((rngL 7).filter (λZ=>Gh)).map f=intL (yH xs):=by rfl
 rw[←hres]
 refine dF (CO:=λZ=>True) [(oS "script",.lst (intL xs))] (fG hrange rfl (.cons (EVd.int (i:=7)) (nst rfl) .nil) (λvs=>zK)) (Itb.rng hb (lb rfl)) trivial rfl (dc rfl) (λy hy hfr=>?_) (λy d hy=>?_)
  (fF (λZ=>Gh) f (.inl rfl) trivial rfl (by rw[zx];exact lb rfl) (λcenv hce d hd=>z6) (λcenv hce d hd Z=>?_)) hce (by delta Lq Vp WW;rw[show env.scope=zf lawF from he];rfl)
 .simp only[Gi,Gl,or_false] at hy
  rcases hy with rfl | rfl | rfl | rfl
  .injection hfr
  .injection hfr
  .injection hfr
  .exact hsc
 .by_cases q:y=oS "script"
  .subst q;replace hy:=ze ▸ hy;(injection hy with E1;subst E1);exact⟨hs,rfl⟩
  .replace hy:=zb q ▸ hy;injection hy
 .obtain⟨j,hj,rfl⟩:∃ j,j<7/\d=.int (j:Nat):=by
   delta rngL at hd
   refine xEA (Gr.mp hd) λj hj E5=>?_;subst E5
   exact iEA j (Hn.mp hj) rfl
  have kk:cenv.kindOf (oS "k")=fm .local:=hce.kindIs (kd:=.local) rfl
  have hi:(intL cell0)[j]? = fm (.int (cell0.getD j 0)):=by
   delta intL
   rw[Gx,Gt,Gu (show j<cell0.length from hj)];rfl
  show EVd w k cenv _ _ (.int (cell0.getD j 0+(pick xs (fm (j:Int)) (fm 24) (fm 7)).sum))
  refine fC (EVd.sub (EVd.list (ds:=intL cell0) (.cons EVd.int (nst rfl) (.cons EVd.int (nst rfl) (.cons EVd.int (nst rfl) (.cons EVd.int (nst rfl) (.cons EVd.int (nst rfl) (.cons EVd.int (nst rfl) (.cons EVd.int (nst rfl) .nil))))))) (lb rfl)) (fq kk rfl) zo zh (λv1 v2=>zn hi (lb rfl)))
   (fB (hce.kindIs (kd:=.globalImplicit) rfl) rfl (.cons (fN (d:=.lst (intL (pick xs (fm (j:Int)) (fm 24) (fm 7)))) (fx (.inr (hce.kindIs (kd:=.free) rfl)) rfl) (.some (fq kk rfl)) (.some EVd.int) (.some EVd.int) zo zh (λv1 sl vl vu vs p1 p2 p3=>?_)) (nst rfl) .nil) (λvs=>pr_sum hb)) (λv1 v2=>ur)
  have:=Qh (w:=w) (k:=k) (own:=ρ.own) (ds:=intL xs) (v1:=v1) (sl:=sl) (by show (xs.map PV.int).length<=_;rw[Ge];assumption) p1 p2 p3 (dc rfl)
  replace this:=(show pick (intL xs) (fm (j:Int)) (fm 24) (fm 7)=intL (pick xs (fm (j:Int)) (fm 24) (fm 7)) from pick_map ..) ▸ this
  exact this
end
noncomputable def xS:PV:=.lst [.lst [.str (oS "a"),.str (oS "ab")],.lst [.bytes [97].toArray,.bytes [97,98].toArray]]
noncomputable def za (h:List Int):List Int:=(h.filter λc=>c.fmod 3 != 0).map λc=>c.fmod 3-1
section
theorem law_s1 {cs:List Int} (he:Law env) (h1:ρ.loc.lookup (oS "cells")=fm (.lst (intL cs))) (hl:cs.length<=1000) :
  EX1 w k env ρ (lawB.getD 1 default) (λp ρ'=>p=.next/\ρ'=ρ.set (oS "halves") (.lst (llD [cs.take 4,cs.drop 4]))) Ψ:=by
 have hce:=he.kL "cells"
 have hha:=he.kL "halves"
 have hlen:(intL cs).length<=100000:=by show (cs.map PV.int).length<=_;rw[Ge];exact Gc ‹_› (lb rfl)
 have e1:pick (intL cs) fp (fm ((4:Nat):Int)) fp=intL (cs.take 4):=by rw[JK];delta intL;rw[NK]
 have e2:pick (intL cs) (fm ((4:Nat):Int)) fp fp=intL (cs.drop 4):=by rw[vy];delta intL;rw[LZ]
 refine fT (EVd.list (ds:=llD [cs.take 4,cs.drop 4]) (.cons (d:=.lst (intL (cs.take 4))) ?_ (nst rfl) (.cons (d:=.lst (intL (cs.drop 4))) ?_ (nst rfl) .nil)) (by show 2<=100000;exact lb rfl)) (.inl hha) rfl
 .rw[←e1]
  exact fN (fq hce h1) .none (.some EVd.int) .none zo zh (λv1 sl vl vu vs pl pu ps=>yr hlen pl pu ps (by intro h;injection h))
 .rw[←e2]
  exact fN (fq hce h1) (.some EVd.int) .none .none zo zh (λv1 sl vl vu vs pl pu ps=>yr hlen pl pu ps (by intro h;injection h))
theorem law_s2 (he:Law env):EX1 w k env ρ (lawB.getD 2 default) (λp ρ'=>p=.next/\ρ'=ρ.set (oS "kinds") xS) Ψ:=by
 have hki:=he.kC "kinds"
 exact fT (EVd.list (.cons (EVd.list (.cons EVd.str (nst rfl) (.cons EVd.str (nst rfl) .nil)) (lb rfl)) (nst rfl)
  (.cons (EVd.list (.cons EVd.bytes (nst rfl) (.cons EVd.bytes (nst rfl) .nil)) (lb rfl)) (nst rfl) .nil)) (lb rfl)) (.inr hki) rfl
theorem law_s3 {hs:List (List Int)} (hb:k.b=Gh) (he:Law env) (h1:ρ.loc.lookup (oS "halves")=fm (.lst (llD hs))) (hl:hs.length<=1000) (hl2:∀ h∈hs,h.length<=1000) :
  EX1 w k env ρ (lawB.getD 3 default) (λp ρ'=>p=.next/\ρ'=ρ.set (oS "rows") (.lst (llD (hs.map za)))) Ψ:=by
 have hha:=he.kL "halves"
 have hro:=he.kC "rows"
 let g:PV->Int:=λd=>d.onI 0 λi=>i
 let row:PV->PV:=λd=>d.onL d λxs=>.lst ((xs.filter λd=>(g d).fmod 3 != 0).map λd=>.int ((g d).fmod 3-1))
 have hrow:∀ h:List Int,row (.lst (intL h))=.lst (intL (za h)):=λh=>by
  show PV.lst (((h.map PV.int).filter λd=>(g d).fmod 3 != 0).map λd=>.int ((g d).fmod 3-1))=.lst ((za h).map PV.int)
  delta za
  rw[Wc,GL,GL];rfl
 have hres:((llD hs).filter (λZ=>Gh)).map row=llD (hs.map za):=by
  rw[zT]
  delta llD
  rw[GL,GL]
  exact GT λh Z=>hrow h
 refine fT ?_ (.inr hro) (by delta Lq Vp WW;rw[show env.scope=zf lawF from he];rfl)
 rw[←hres]
 refine fK (CO:=λZ=>True) [] (fq hha h1) (Itb.lst hb) trivial rfl (dc rfl) (λy hy hfr=>?_) (λy d hy=>by injection hy) (fF (λZ=>Gh) row (.inl rfl) trivial rfl (by rw[zA];exact Gc ‹_› (lb rfl)) (λcenv hce d hd=>z6) (λcenv hce d hd Z=>?_))
 .simp only[Gi,Gl,or_false] at hy
  rcases hy with rfl | rfl<;>injection hfr
 .refine xEA (Gr.mp hd) λh hh E5=>?_;subst E5
  show EVd w k cenv _ _ (.lst (((intL h).filter λd=>(g d).fmod 3 != 0).map λd=>.int ((g d).fmod 3-1)))
  refine fK (CO:=λZ=>True) [] (fq (hce.kindIs (kd:=.local) rfl) rfl) (Itb.lst hb) trivial rfl (dc rfl) (λy hy hfr=>?_) (λy d hy=>by injection hy)
   (fF (λd=>(g d).fmod 3 != 0) (λd=>.int ((g d).fmod 3-1)) (.inl rfl) trivial rfl (by show (h.map PV.int).length<=_;rw[Ge];have:=hl2 h hh;exact Gc ‹_› (lb rfl)) (λcenv2 hce2 d hd2=>?_) (λcenv2 hce2 d hd2 Z=>?_))
  .simp only[Gi,Gl,or_false] at hy
   rcases hy with rfl | rfl<;>injection hfr
  .refine xEA (Gr.mp hd2) λc hc E5=>?_;subst E5
   exact xI (fE (d2:=.int 0) (fC (fq (hce2.kindIs (kd:=.local) rfl) rfl) EVd.int (λv1 v2=>um (dc rfl))) EVd.int (λv1 v2=>pr_ne))
  .refine xEA (Gr.mp hd2) λc hc E5=>?_;subst E5
   exact fC (fC (fq (hce2.kindIs (kd:=.local) rfl) rfl) EVd.int (λv1 v2=>um (dc rfl))) EVd.int (λv1 v2=>qu)
end
noncomputable def toPV (b:Bool) (so:List Nat):Option Int->PV
 | some i=>.int i
 | none=>.str (zS (zY b so))
noncomputable def xC (cs so:List Nat) (p:Nat):Option Int:=(fnd cs so p).map λi=>(i:Int)+so.length-1
noncomputable def dueI (row:List Int) (ps:List Nat) (nm:Int) (j:Nat):Option Int :=
 if nm∈row.drop j then fm ((ps.getD (j+1+(row.drop j).idxOf nm) 0:Nat):Int) else fp
theorem JG (b:Bool) (cs so:List Nat) (p:Nat):zl b cs so p=toPV b so (xC cs so p):=by
 unfold zl xC
 cases fnd cs so p<;>rfl
theorem qI (b:Bool) (row:List Int) (ps so:List Nat) (nm:Int) (j:Nat):yK b row ps so nm j=toPV b so (dueI row ps nm j):=by
 unfold yK dueI
 by_cases h:nm∈row.drop j
 .rw[if_pos h,if_pos h];rfl
 .rw[if_neg h,if_neg h];rfl
noncomputable def nmI (n:Int):List Nat:=if n=0 then [97] else [97,98]
noncomputable def csOf (h:List Int):List Nat:=(zQ h).1++[47]
noncomputable def psOf (h:List Int):List Nat:=(zQ h).2
noncomputable def incr:List Nat->Bool
 | []=>Gh
 | [_]=>Gh
 | x::y::r=>decide (x<y)&&incr (y::r)
structure ya (h:List Int):Prop where
 read:lrGo (csOf h) 9 [0] [] (zB (csOf h) 0)=fm (psOf h,(za h).map nmI)
 leap:∀ nm:Int,nm=0\/nm=1->(psOf h).map (xC (csOf h) (soOf (nmI nm)))=(GH (psOf h).length).map (dueI (za h) (psOf h) nm)
 len:(psOf h).length=(za h).length+1
 inc:incr (psOf h)=Gh
 sm:Sm (csOf h)
 cl:(csOf h).length<=100
 bit:∀ c∈za h,c=0\/c=1
noncomputable def kOf (c:Int):Nat:=(1+(c.fdiv 3).fmod 2).toNat
noncomputable def mOf (c:Int):List Nat:=if c.fmod 3=0 then [] else nmOf c
noncomputable def seg (c:Int):List Nat:=Ha (kOf c) 47++mOf c
noncomputable def segs (h:List Int):List Nat:=h.flatMap seg
noncomputable def zH:Nat->List Int->List Nat
 | _,[]=>[]
 | n,c::r=>if c.fmod 3=0 then zH (n+(seg c).length) r else (n+(seg c).length)::zH (n+(seg c).length) r
noncomputable def tl (h:List Int):List Nat:=segs h++[47]
theorem uz (c:Int):kOf c=1\/kOf c=2:=by
 have:=fmod2 (c.fdiv 3)
 delta kOf;lia
theorem zX (n:Nat) (c:Int) (r:List Int):zH n (c::r)=if c.fmod 3=0 then zH (n+(seg c).length) r else (n+(seg c).length)::zH (n+(seg c).length) r:=rfl
theorem uL:∀ (h:List Int) (a ps:List Nat),h.foldl yh (a,ps)=(a++segs h,ps++zH a.length h)
 | [],a,ps=>by simp[segs,zH]
 | c::r,a,ps=>by
  rw[Km]
  have e1:segs (c::r)=seg c++segs r:=rfl
  have e2:yh (a,ps) c=if c.fmod 3=0 then (a++Ha (kOf c) 47,ps) else (a++Ha (kOf c) 47++nmOf c,ps++[(a++Ha (kOf c) 47++nmOf c).length]):=rfl
  rw[e2]
  by_cases q:c.fmod 3=0
  .have es:seg c=Ha (kOf c) 47:=by unfold seg mOf;rw[if_pos q,Hl]
   rw[if_pos q,uL r,e1,zX,if_pos q,es,←He,Gs]
  .have es:seg c=Ha (kOf c) 47++nmOf c:=by unfold seg mOf;rw[if_neg q]
   rw[if_neg q,uL r,e1,zX,if_neg q,es,←He,←He,He ps,Gs,Gs,Gs,←HE];rfl
theorem cs_eq (h:List Int):csOf h=tl h:=by
 unfold csOf zQ;rw[uL];rfl
theorem ps_eq (h:List Int):psOf h=0::zH 0 h:=by
 unfold psOf zQ;rw[uL];rfl
theorem QL:∀ h:List Int,∃ r,tl h=47::r
 | []=>⟨[],rfl⟩
 | c::r=>by
  have e:tl (c::r)=seg c++tl r:=by unfold tl segs;rw[Nh,He]
  rw[e]
  delta seg
  rcases uz c with k | k<;>rw[k]<;>exact⟨_,rfl⟩
theorem Jc (c:Int) (r:List Int):tl (c::r)=seg c++tl r:=by unfold tl segs;rw[Nh,He]
theorem y7 (c:Int) (r:List Int):za (c::r)=if c.fmod 3=0 then za r else (c.fmod 3-1)::za r:=by
 delta za
 rw[Ks]
 by_cases q:c.fmod 3=0
 .rw[if_pos q,if_neg (by simp[q])]
 .rw[if_neg q,if_pos (by exact bi_ine.mpr q)];rfl
theorem ZT {c:Int} (q:c.fmod 3≠0):mOf c=nmI (c.fmod 3-1):=by
 have:=fmod3 c
 unfold mOf nmOf nmI
 rw[if_neg q]
 by_cases e:c.fmod 3=1
 .rw[if_pos e,if_pos (by exact Int.sub_eq_zero.mpr e)]
 .rw[if_neg e,if_neg (by lia)]
theorem xR:∀ (h:List Int) (n:Nat),(zH n h).length=(za h).length
 | [],n=>rfl
 | c::r,n=>by
  rw[y7,zX]
  split
  .exact xR r _
  .rw[GC,GC,xR r]
theorem seg_pos (c:Int):1<=(seg c).length:=by
 delta seg
 rw[Gs,KE]
 rcases uz c with k | k<;>lia
theorem uu:∀ (h:List Int) (n x:Nat),x<=n->incr (x::zH n h)=Gh
 | [],n,x,_=>rfl
 | c::r,n,x,hx=>by
  have:=seg_pos c
  rw[zX]
  split
  .exact uu r _ x (by exact XH hx)
  .show (decide (x<_)&&incr (_::zH _ r))=Gh
   rw[decide_eq_true (by lia),uu r _ _ (GI _)];rfl
theorem seg_sm (c:Int):Sm (seg c):=λx hx=>by
 delta seg at hx
 rcases KR.mp hx with q | q
 .rw[(List.mem_replicate.mp q).2];exact lb rfl
 .unfold mOf nmOf at q
  split at q
  .cases q
  .split at q<;>simp at q<;>lia
theorem tl_sm (h:List Int):Sm (tl h):=λx hx=>by
 rcases KR.mp hx with q | q
 .refine xEA (Ly.mp q) λc Z q=>?_
  exact seg_sm c x q
 .rw[LI.mp q];exact lb rfl
theorem row_bit (h:List Int):∀ c∈za h,c=0\/c=1:=λc hc=>by
 delta za at hc
 refine xEA (Gr.mp hc) λx hx E5=>?_;subst E5
 have:=(LY.mp hx).2
 have h3:=fmod3 x
 have:x.fmod 3≠0:=by simpa using this
 lia
theorem z7 (X Y sub:List Nat) (j:Nat):AtP (X++Y) sub (X.length+j)↔AtP Y sub j:=by
 unfold AtP
 rw[List.drop_append,List.drop_eq_nil_of_le (show X.length<=X.length+j by exact HK _ _),KC,Gs,show X.length+j-X.length=j by exact TC X.length j]
 constructor
 ·(intro E9;refine xA E9 λa b=>?_;clear E9);exact⟨by lia,b⟩
 ·(intro E9;refine xA E9 λa b=>?_;clear E9);exact⟨by lia,b⟩
theorem u5 {cs sub:List Nat} {p i:Nat} (h1:p<=i) (h2:AtP cs sub i) (h3:∀ k,p<=k->k<i->¬ AtP cs sub k):fnd cs sub p=fm i:=by
 cases e:fnd cs sub p with
 | none=>exact absurd h2 (u9 e i h1)
 | some j =>
  refine xAA (xO e) λa b c=>?_
  rcases KQ i j with q | q | q
  .exact absurd h2 (c i h1 q)
  .rw[q]
  .exact absurd b (h3 j a q)
theorem Qi {cs sub:List Nat} {p:Nat} (h:∀ i,p<=i->¬ AtP cs sub i):fnd cs sub p=fp:=by
 cases e:fnd cs sub p with
 | none=>rfl
 | some j =>
  refine xAA (xO e) λa b Z=>?_
  exact absurd b (h j a)
noncomputable def fo (nm:List Nat):List Int->Option Nat
 | []=>fp
 | c::r=>if mOf c=nm then fm (kOf c-1) else (fo nm r).map ((seg c).length + ·)
theorem mOf_3 (c:Int):mOf c=[]\/mOf c=[97]\/mOf c=[97,98]:=by
 unfold mOf nmOf
 split
 .exact .inl rfl
 .split
  .exact .inr (.inl rfl)
  .exact .inr (.inr rfl)
noncomputable def pre:List Nat->List Nat->Bool
 | [],_=>Gh
 | _::_,[]=>Gk
 | a::l,b::r=>Nat.beq a b&&pre l r
theorem QF:∀ (sub cs:List Nat),pre sub cs=Gh↔sub.length<=cs.length/\cs.take sub.length=sub
 | [],cs=>⟨λZ=>⟨GU _,rfl⟩,λZ=>rfl⟩
 | a::l,[]=>⟨λh=>(nomatch h),λh=>(nomatch h.1)⟩
 | a::l,b::r=>by
  show (Nat.beq a b&&pre l r)=Gh↔_
  rw[GE,QF l r,Nat.beq_eq,GC,GC,Yl,LF,Nat.add_le_add_iff_right]
  exact⟨λE9=>xAA E9 λx y z=>⟨y,x.symm,z⟩,λE9=>xAA E9 λy x z=>⟨x.symm,y,z⟩⟩
theorem atP_pre {cs sub:List Nat} {i:Nat} (h:i<=cs.length):AtP cs sub i↔pre sub (cs.drop i)=Gh:=by
 unfold AtP
 rw[QF,Hc,XF h]
theorem seg_chk (rest:List Nat):([1,2].all λk=>[[],[97],[97,98]].all λm=>[[97],[97,98]].all λnm=>(GH (k+m.length)).all λj=>pre (soOf nm) ((Ha k 47++m++47::rest).drop j)==(m==nm&&j==k-1))=Gh:=by kernel_rfl
theorem at_seg (c:Int) (rest nm:List Nat) (hn:nm=[97]\/nm=[97,98]) (j:Nat) (hj:j<(seg c).length):AtP (seg c++47::rest) (soOf nm) j↔mOf c=nm/\j=kOf c-1:=by
 have hl:(seg c).length=kOf c+(mOf c).length:=by unfold seg;(refine Gj (Gs) ?_;rw[KE])
 have z:=Kt.mp (Kt.mp (Kt.mp (Kt.mp (seg_chk rest) (kOf c) (by simpa using uz c)) (mOf c) (by simpa using mOf_3 c)) nm (by simpa using hn)) j (Hn.mpr (hl ▸ hj))
 rw[atP_pre (by rw[Gs];lia),show (seg c++47::rest)=Ha (kOf c) 47++mOf c++47::rest from rfl,eq_of_beq z,GE,beq_iff_eq,beq_iff_eq]
theorem fo_ok {nm:List Nat} (hn:nm=[97]\/nm=[97,98]):∀ r:List Int,(∀ i,fo nm r=fm i->AtP (tl r) (soOf nm) i/\∀ j,j<i->¬ AtP (tl r) (soOf nm) j)/\(fo nm r=fp->∀ j,¬ AtP (tl r) (soOf nm) j)
 | []=>by
  refine⟨λi e=>(by injection e),λZ j h=>?_⟩
  have:=h.1
  rcases hn with rfl | rfl<;>simp[tl,segs,soOf] at this
 | c::r=>by
  refine xA (fo_ok hn r) λh1 h2=>?_
  refine xE (QL r) λrest hr=>?_
  have hs:=at_seg c rest nm hn
  rw[Jc]
  have hne:nm≠[]:=by rcases hn with rfl | rfl<;>simp
  unfold fo
  by_cases q:mOf c=nm
  .rw[if_pos q]
   have hlt:kOf c-1<(seg c).length:=by
    unfold seg
    rw[Gs,KE]
    rcases uz c with k | k<;>lia
   refine⟨λi e=>?_,λe=>by injection e⟩
   (injection e with E1;subst E1)
   rw[hr]
   exact⟨(hs _ hlt).mpr ⟨q,rfl⟩,λj hj h=>by have:=((hs j (by exact K4 ‹_› ‹_›)).mp h).2;lia⟩
  .rw[if_neg q]
   have hlow:∀ j,j<(seg c).length->¬ AtP (seg c++tl r) (soOf nm) j:=λj hj h=>by
    replace h:=hr ▸ h;exact q ((hs j hj).mp h).1
   refine⟨λi e=>?_,λe j h=>?_⟩
   .refine xEA (Gz.mp e) λi' e1 E5=>?_;subst E5
    refine xA (h1 i' e1) λa b=>?_
    refine⟨(z7 _ _ _ _).mpr a,λj hj h=>?_⟩
    by_cases z:j<(seg c).length
    .exact hlow j z h
    .have:j=(seg c).length+(j-(seg c).length):=by exact AZ ‹_›
     replace h:=this ▸ h
     exact b _ (by lia) ((z7 _ _ _ _).mp h)
   .have e:fo nm r=fp:=O5.mp e
    by_cases z:j<(seg c).length
    .exact hlow j z h
    .have:j=(seg c).length+(j-(seg c).length):=by exact AZ ‹_›
     replace h:=this ▸ h
     exact h2 e _ ((z7 _ _ _ _).mp h)
theorem zao {nm:List Nat} (hn:nm=[97]\/nm=[97,98]) (pre suf:List Int):fnd (segs pre++tl suf) (soOf nm) (segs pre).length=(fo nm suf).map ((segs pre).length + ·):=by
 refine xA (fo_ok hn suf) λh1 h2=>?_
 cases e:fo nm suf with
 | none =>
  refine Qi λi hi h=>?_
  have:i=(segs pre).length+(i-(segs pre).length):=by exact Gq (Hj hi)
  replace h:=this ▸ h
  exact h2 e _ ((z7 _ _ _ _).mp h)
 | some j =>
  refine xA (h1 j e) λa b=>?_
  refine u5 (HK _ _) ((z7 _ _ _ _).mpr a) λk hk hlt h=>?_
  have hlt:k<(segs pre).length+j:=hlt
  have:k=(segs pre).length+(k-(segs pre).length):=by exact Gq (Hj hk)
  replace h:=this ▸ h
  exact b _ (by lia) ((z7 _ _ _ _).mp h)
theorem mOf_nm (c x:Int) (hx:x=0\/x=1):mOf c=nmI x↔c.fmod 3≠0/\c.fmod 3-1=x:=by
 have h3:=fmod3 c
 unfold mOf nmOf nmI
 by_cases q:c.fmod 3=0
 .rw[if_pos q]
  constructor
  .intro e;rcases hx with rfl | rfl<;>simp at e
  ·(intro E9;refine xA E9 λa Z=>?_;clear E9);exact absurd q a
 .rw[if_neg q]
  by_cases q1:c.fmod 3=1
  .rw[if_pos q1,q1]
   rcases hx with rfl | rfl<;>decide
  .have:c.fmod 3=2:=by lia
   rw[if_neg q1,this]
   rcases hx with rfl | rfl<;>decide
theorem fo_due (x:Int) (hx:x=0\/x=1):∀ (suf:List Int) (n:Nat),((fo (nmI x) suf).map λi=>((n+i:Nat):Int)+(soOf (nmI x)).length-1)=if x∈za suf then fm (((zH n suf).getD ((za suf).idxOf x) 0:Nat):Int) else fp
 | [],n=>rfl
 | c::r,n=>by
  have ih:=fo_due x hx r (n+(seg c).length)
  rw[y7,zX]
  unfold fo
  by_cases q:mOf c=nmI x
  .refine xA ((mOf_nm c x hx).mp q) λq1 q2=>?_
   rw[if_pos q,if_neg q1,if_neg q1,q2,if_pos Gp,List.idxOf_cons_self]
   show fm _=fm (((n+(seg c).length:Nat)):Int)
   congr 1
   have e:(seg c).length=kOf c+(nmI x).length:=by unfold seg;(refine Gj (Gs) ?_;rw[KE,q])
   have e2:(soOf (nmI x)).length=(nmI x).length+2:=by unfold soOf;simp
   rw[e]
   show ((n+(kOf c-1):Nat):Int)+(soOf (nmI x)).length-1=_
   rw[e2]
   rcases uz c with k | k<;>rw[k]<;>lia
  .rw[if_neg q]
   have e:((T4 (λi=>(seg c).length+i) (fo (nmI x) r)).map λi=>((n+i:Nat):Int)+(soOf (nmI x)).length-1)=(fo (nmI x) r).map λi=>((n+(seg c).length+i:Nat):Int)+(soOf (nmI x)).length-1:=by
    rw[V7]
    congr 1
    funext i
    show ((n+((seg c).length+i):Nat):Int)+_-1=_
    rw[HE]
   show (T4 _ (T4 _ _))=_
   refine Gj (e) ?_;refine Gj (ih) ?_
   by_cases z:c.fmod 3=0
   .rw[if_pos z,if_pos z]
   .rw[if_neg z,if_neg z]
    have hne:c.fmod 3-1≠x:=λe=>q ((mOf_nm c x hx).mpr ⟨z,e⟩)
    by_cases m:x∈za r
    ·(refine Gj (if_pos m) ?_;rw[if_pos (Go _ m),List.idxOf_cons,beq_eq_false_iff_ne.mpr hne]);rfl
    .refine Gj (if_neg m) ?_;rw[if_neg (by exact Vm (id (Hk hne)) m)]
theorem qo:∀ (pre suf:List Int) (n:Nat),zH n (pre++suf)=zH n pre++zH (n+(segs pre).length) suf
 | [],suf,n=>rfl
 | c::pre,suf,n=>by
  have e:segs (c::pre)=seg c++segs pre:=rfl
  rw[Nx,zX,zX,qo pre,e,Gs]
  split
  .rw[HE]
  .rw[Nx,HE n]
theorem QJ (pre suf:List Int):za (pre++suf)=za pre++za suf:=by
 unfold za;(rewrite [LJ];exact(GG))
theorem uD (pre suf:List Int):tl (pre++suf)=segs pre++tl suf:=by
 unfold tl segs;rw[NE,He]
theorem leapI_eq (cs so:List Nat) (p:Nat):xC cs so p=(fnd cs so p).map λi:Nat=>(i:Int)+so.length-1:=by
 unfold xC;cases fnd cs so p<;>rfl
theorem jx (x:Int) (hx:x=0\/x=1) (pre suf:List Int):xC (tl (pre++suf)) (soOf (nmI x)) (segs pre).length=dueI (za (pre++suf)) (0::zH 0 (pre++suf)) x (za pre).length:=by
 have hn:nmI x=[97]\/nmI x=[97,98]:=by rcases hx with rfl | rfl<;>decide
 unfold dueI
 rw[leapI_eq,uD,zao hn,QJ,WF,qo,V7]
 have h:=fo_due x hx suf (segs pre).length
 have e:((λi:Nat=>(i:Int)+((soOf (nmI x)).length:Int)-1)∘λi=>(segs pre).length+i)=λi=>(((segs pre).length+i:Nat):Int)+(soOf (nmI x)).length-1:=rfl
 rewrite [e];refine Gj (h) ?_
 by_cases m:x∈za suf
 .refine Gj (if_pos m) ?_;rw[if_pos m]
  congr 2
  have hl:=xR pre 0
  rewrite [VI,show (za pre).length+1+(za suf).idxOf x=((zH 0 pre).length+(za suf).idxOf x)+1 by lia,List.getD_cons_succ];refine Gj (Gt) ?_;rw[Gt,Kx (HK _ _),show (zH 0 pre).length+(za suf).idxOf x-(zH 0 pre).length=(za suf).idxOf x by exact TC (zH 0 pre).length (List.idxOf x (za suf))]
 .refine Gj (if_neg m) ?_;rw[if_neg m]
theorem qB (x:Int) (hx:x=0\/x=1):∀ (suf pre:List Int),(zH (segs pre).length suf).map (xC (tl (pre++suf)) (soOf (nmI x)))=(GH (za suf).length).map λt=>dueI (za (pre++suf)) (0::zH 0 (pre++suf)) x ((za pre).length+1+t)
 | [],pre=>rfl
 | c::r,pre=>by
  have ih:=qB x hx r (pre++[c])
  have ea:pre++[c]++r=pre++c::r:=by exact Gq (O9 pre c r)
  have es:(segs (pre++[c])).length=(segs pre).length+(seg c).length:=by unfold segs;simp
  replace ih:=ea ▸ ih;replace ih:=es ▸ ih
  rw[zX,y7]
  have er:za (pre++[c])=if c.fmod 3=0 then za pre else za pre++[c.fmod 3-1]:=by
   rw[QJ,y7]
   split
   .exact Hl _
   .rfl
  by_cases q:c.fmod 3=0
  .replace er:=Gj er ((if_pos q))
   rewrite [if_pos q,if_pos q];refine Gj (ih) ?_;rw[er]
  .replace er:=Gj er ((if_neg q))
   have hk:=jx x hx (pre++[c]) r
   rw[ea,es,er,Gs,HL] at hk
   rw[er,Gs,HL] at ih
   rewrite [if_neg q,if_neg q];refine Gj (GF) ?_;rw[ih,hk,GC,Xp,GF,GL]
   congr 1
   refine GT λt Z=>?_
   show dueI _ _ _ _=dueI _ _ _ _
   congr 1;show _=(za pre).length+1+(t+1);exact Kp ((za pre).length+1) 1 t
theorem skc_rep (k:Nat) (l:List Nat):skc (Ha k 47++l)=k+skc l:=by
 induction k with
 | zero=>exact Gq (VI (skc l))
 | succ k ih=>rw[List.replicate_succ,Nx];show skc _+1=_;rw[ih];exact Kp _ _ _
theorem vb (X Y:List Nat):zB (X++Y) X.length=X.length+skc Y:=by
 unfold zB;rw[WF]
theorem Jl:∀ (suf pre:List Int) (n:Nat) (ps:List Nat) (ns:List (List Nat)),(za suf).length<=n ->
  lrGo (tl (pre++suf)) n ps ns (zB (tl (pre++suf)) (segs pre).length)=fm (ps++zH (segs pre).length suf,ns++(za suf).map nmI)
 | [],pre,n,ps,ns,_=>by
  have e:zB (tl (pre++[])) (segs pre).length=(tl (pre++[])).length:=by
   rw[uD,vb];show _+1=_;rw[Gs];rfl
  rw[e]
  have hr:za []=[]:=rfl
  rw[hr]
  show _=fm (ps++[],ns++[])
  rw[Hl ps,Hl ns]
  cases n with
  | zero=>rfl
  | succ n=>unfold lrGo;exact(if_neg (Of _))
 | c::r,pre,n,ps,ns,hn=>by
  have ea:pre++[c]++r=pre++c::r:=by exact Gq (O9 pre c r)
  have es:(segs (pre++[c])).length=(segs pre).length+(seg c).length:=by unfold segs;simp
  have esg:segs (pre++[c])=segs pre++seg c:=by unfold segs;simp
  refine xE (QL r) λrest hr=>?_
  have hsk:zB (tl (pre++c::r)) (segs pre).length=(segs pre).length+(kOf c+skc (mOf c++tl r)):=by
   rw[uD,vb,Jc]
   unfold seg
   rw[He,skc_rep]
  rw[y7] at hn ⊢
  rw[zX]
  by_cases q:c.fmod 3=0
  .have em:mOf c=[]:=by unfold mOf;exact(if_pos q)
   have esl:(seg c).length=kOf c:=by unfold seg;(rewrite [em,Hl];exact(KE))
   rw[if_pos q] at hn ⊢
   rw[if_pos q]
   have ih:=Jl r (pre++[c]) n ps ns hn
   have e2:zB (tl (pre++c::r)) (segs (pre++[c])).length=zB (tl (pre++c::r)) (segs pre).length:=by
    rw[hsk,←ea,uD,vb,es,esl,em,KC];exact HE _ _ _
   rw[ea,e2,es] at ih
   exact ih
  .rw[if_neg q] at hn ⊢
   rw[if_neg q]
   replace hn:=GC ▸ hn
   match n,hn with
   | n+1,hn =>
    have hm:mOf c=[97]\/mOf c=[97,98]:=by
     rcases mOf_3 c with m | m | m
     .exfalso
      unfold mOf nmOf at m
      replace m:=Gj (Gq (if_neg q)) m
      split at m<;>injection m
     .exact .inl m
     .exact .inr m
    have hs0:skc (mOf c++tl r)=0:=by rcases hm with m | m<;>rw[m]<;>rfl
    replace hsk:=hs0 ▸ hsk;rewrite [VK] at hsk
    have esl:(seg c).length=kOf c+(mOf c).length:=by unfold seg;(refine Gj (Gs) ?_;rw[KE])
    have ecs:tl (pre++c::r)=(segs pre++Ha (kOf c) 47)++(mOf c++47::rest):=by
     rw[uD,Jc,hr];unfold seg;simp only[He]
    have eX:(segs pre++Ha (kOf c) 47).length=(segs pre).length+kOf c:=by (refine Gj (Gs) ?_;rw[KE])
    have hfn:fnd (tl (pre++c::r)) [47] ((segs pre).length+kOf c)=fm ((segs pre).length+kOf c+(mOf c).length):=by
     rw[ecs,←eX]
     refine u5 (by exact HK _ _) ((z7 _ _ _ _).mpr ?_) λk hk hlt h=>?_
     .rcases hm with m | m<;>rw[m]<;>simp[AtP]
     .have:k=(segs pre++Ha (kOf c) 47).length+(k-(segs pre++Ha (kOf c) 47).length):=by exact Gq (Hj hk)
      replace h:=this ▸ h
      have h:=(z7 _ _ _ _).mp h
      have hlt':k-(segs pre++Ha (kOf c) 47).length<(mOf c).length:=by exact W9 hk hlt
      generalize k-(segs pre++Ha (kOf c) 47).length=j at h hlt'
      rcases hm with m | m<;>rw[m] at h hlt'<;>simp only[GC,V9] at hlt'
      .have:j=0:=by exact Nat.lt_one_iff.mp hlt'
       subst this;simp[AtP] at h
      .have:j=0\/j=1:=by lia
       rcases this with rfl | rfl<;>simp[AtP] at h
    have hlt:(segs pre).length+kOf c<(tl (pre++c::r)).length:=by
     rw[ecs,Gs,eX]
     rcases hm with m | m<;>rw[m]<;>simp
    have hpy:pySl (tl (pre++c::r)) (fm (((segs pre).length+kOf c:Nat):Int)) (fm (((segs pre).length+kOf c+(mOf c).length:Nat):Int))=mOf c:=by
     have hle:(segs pre).length+kOf c+(mOf c).length<=(tl (pre++c::r)).length:=by
      rw[ecs,Gs,Gs (as:=mOf c),eX];lia
     unfold pySl
     show ((tl (pre++c::r)).drop (OB _ _)).take (OB _ _-OB _ _)=_
     rw[clipAt_in (by exact La ((segs pre).length+kOf c+(mOf c).length)) (by exact Int.ofNat_le.mpr hle),clipAt_in (by exact La ((segs pre).length+kOf c)) (by lia),OU,OU]
     rewrite [ecs,←eX,WF,Nat.add_sub_cancel_left];exact(List.take_left)
    have ih:=Jl r (pre++[c]) n (ps++[(segs pre).length+kOf c+(mOf c).length]) (ns++[mOf c]) (by exact XG ‹_›)
    rw[ea,es,esl,←HE] at ih
    rw[hsk]
    unfold lrGo
    refine Gj (if_pos hlt) ?_;rw[hfn]
    show lrGo _ n (ps++[_]) (ns++[pySl _ _ _]) _=_
    rewrite [hpy];refine Gj (ih) ?_;rw[esl,ZT q,←HE]
    simp
theorem ZM (h:List Int):(za h).length<=h.length:=by
 unfold za;rw[Ge];exact K9 ..
theorem jW {h:List Int} (hl:h.length=3\/h.length=4):ya h where
 read:=by
  have:=Jl h [] 9 [0] [] (by have:=ZM h;lia)
  rw[cs_eq,ps_eq]
  exact this
 leap x hx:=by
  have h0:=jx x hx [] h
  have h1:=qB x hx h []
  rewrite [cs_eq,ps_eq];refine Gj (GF) ?_;rw[GC,xR,Xp,GF,GL]
  refine congr (congrArg _ h0) (h1.trans (GT λt Z=>?_))
  show dueI _ _ _ (0+1+t)=dueI _ _ _ (t+1)
  congr 1;exact LR _ _
 len:=by (rewrite [ps_eq];refine Gj (GC) ?_;rw[xR])
 inc:=by rw[ps_eq];exact uu h 0 0 (GI _)
 sm:=by rw[cs_eq];exact tl_sm h
 cl:=by
  have:=(uE h).1
  unfold csOf
  rw[Gs,HL];lia
 bit:=row_bit h
noncomputable def lawH:List HF:=zt (lawB.getD 6 default)
theorem kinds_at (b:Bool):∃ ds,xS=.lst ds/\ds.length=2/\ds[b.toNat]? = fm (.lst [tb b [97],tb b [97,98]]):=by
 cases b<;>exact iEAA _ rfl rfl rfl
structure vO (ρ:PSt) (hs:List (List Int)) (b:Bool):Prop where
 halves:ρ.loc.lookup (oS "halves")=fm (.lst (llD hs))
 kinds:ρ.loc.lookup (oS "kinds")=fm xS
 rows:ρ.loc.lookup (oS "rows")=fm (.lst (llD (hs.map za)))
 k:ρ.loc.lookup (oS "k")=fm (.int ((b.toNat:Nat):Int))
section
variable {hs:List (List Int)} {h:List Int} {b:Bool}
theorem Jp {env:Env} {ρ:PSt} {p1 p2 p3:Pos} (h1:Nm env (oS "kinds")) (h2:Nm env (oS "k")) (e1:ρ.loc.lookup (oS "kinds")=fm xS) (e2:ρ.loc.lookup (oS "k")=fm (.int ((b.toNat:Nat):Int))) :
  EVd w k env ρ (.Subscript (.Name (oS "kinds") p1) (.Name (oS "k") p2) p3) (.lst [tb b [97],tb b [97,98]]):=by
 refine xEAA (kinds_at b) λds e hl hi=>?_
 exact EVd.sub (fx h1 (e ▸ e1)) (fx h2 e2) zo zh (λv1 v2=>zn hi (by lia))
theorem law_h0 (hb:k.b=Gh) (he:Law env) (T:vO ρ hs b) (hl:hs.length<=1000) (hh:hs[b.toNat]? = fm h) (hl2:h.length<=1000) :
  EX1 w k.up.up env ρ (lawH.getD 0 default) (λp ρ'=>p=.next/\ρ'=(ρ.set (oS "path") (tb b (csOf h))).set (oS "found") (.lst (natL (psOf h)))) Ψ:=by
 have hha:=he.kL "halves"
 have hki:=he.kC "kinds"
 have hkk:=he.kC "k"
 have hpa:=he.kC "path"
 have hfo:=he.kC "found"
 have hlp:=he.kG "_law_path"
 have hi:(llD hs)[b.toNat]? = fm (.lst (intL h)):=by delta llD;rw[Gx,hh];rfl
 exact pD hb (fR hlp rfl (i:=13) rfl (.cons (EVd.sub (fq hha T.halves) (fx (.inr hkk) T.k) zo zh (λv1 v2=>zn hi (by rw[zA];exact Gc ‹_› (lb rfl)))) (nst rfl)
  (.cons (Jp (.inr hki) (.inr hkk) T.kinds T.k) (nst rfl) .nil)) (λvs=>Qv hb hl2)) (.inr hpa) (.inr hfo)
end
section
variable {hs:List (List Int)} {h:List Int} {b:Bool}
theorem pl_natL (n:Nat) (ps:List Nat):PlD (n+1) (.lst (natL ps)):=.lst n _ λd hd=>by
 (refine xEA (Gr.mp hd) λp Z E5=>?_;subst E5);exact .int ..
theorem xQ {h:List Int} {n:Nat} (hl:h.length<=n):(za h).length<=n:=by
 delta za;rw[Ge];exact Gc (K9 ..) hl
theorem pl_tb (n:Nat) (b:Bool) (cs:List Nat):PlD n (tb b cs):=by cases b<;>constructor
theorem rows_k {env:Env} {ρ:PSt} {p1 p2 p3:Pos} (h1:Nm env (oS "rows")) (h2:Nm env (oS "k")) (e1:ρ.loc.lookup (oS "rows")=fm (.lst (llD (hs.map za)))) (e2:ρ.loc.lookup (oS "k")=fm (.int ((b.toNat:Nat):Int)))
  (hl:hs.length<=1000) (hh:hs[b.toNat]? = fm h):EVd w k env ρ (.Subscript (.Name (oS "rows") p1) (.Name (oS "k") p2) p3) (.lst (intL (za h))):=by
 have hi:(llD (hs.map za))[b.toNat]? = fm (.lst (intL (za h))):=by delta llD;rw[Gx,Gx,hh];rfl
 exact EVd.sub (fx h1 e1) (fx h2 e2) zo zh (λv1 v2=>zn hi (by rw[zA,Ge];exact Gc ‹_› (lb rfl)))
theorem law_h1 (hb:k.b=Gh) (he:Law env) (T:vO ρ hs b) (hl:hs.length<=1000) (hh:hs[b.toNat]? = fm h) (hl2:h.length<=1000) (X:ya h)
  (lp:ρ.loc.lookup (oS "path")=fm (tb b (csOf h))) (lf:ρ.loc.lookup (oS "found")=fm (.lst (natL (psOf h)))) :
  EX1 w k.up.up.up.up env ρ (lawH.getD 1 default) (λp ρ'=>p=.next/\ρ'=ρ) Ψ:=by
 show let Φ':=_;let Ψ':=_;EX1 _ _ _ _ _ Φ' Ψ';intro Φ' Ψ'
 have hki:=he.kC "kinds"
 have hkk:=he.kC "k"
 have hpa:=he.kC "path"
 have hfo:=he.kC "found"
 have hro:=he.kC "rows"
 have hlr:=he.kG "_law_read"
 let f:PV->PV:=λd=>d.onI d λn=>tb b (nmI n)
 have hres:((intL (za h)).filter (λZ=>Gh)).map f=((za h).map nmI).map (tb b):=by
  rw[zT];delta intL;rw[GL,GL];rfl
 have hrl:(za h).length<=1000:=xQ hl2
 have hpl:PlD 2 (.tup [.lst (natL (psOf h)),.lst (((za h).map nmI).map (tb b))]):=.tup 1 _ λd hd=>by
  simp only[Gi,Gl,or_false] at hd
  rcases hd with rfl | rfl
  .exact pl_natL 0 _
  .exact .lst 0 _ λd hd=>by (refine xEA (Gr.mp hd) λp Z E5=>?_;subst E5);exact pl_tb ..
 refine fI (b:=false) (fE (d1:=.tup [.lst (natL (psOf h)),.lst (((za h).map nmI).map (tb b))]) (fR hlr rfl (i:=14) rfl (.cons (fx (.inr hpa) lp) (nst rfl) .nil) (λvs=>Qr hb (by have:=X.cl;exact Gc ‹_› (lb rfl)) X.sm X.read))
  (f7 (.cons (fx (.inr hfo) lf) (nst rfl) (.cons (d:=.lst (((za h).map nmI).map (tb b))) ?_ (nst rfl) .nil)) (by show 2<=100000;exact lb rfl)) (λv1 v2=>xF hpl (lb rfl) (.inr ⟨_,rfl⟩))) (λh=>nomatch h) (λZ=>EX.nil ⟨rfl,rfl⟩)
 rw[←hres]
 refine fK (CO:=λZ=>True) [(oS "kinds",xS),(oS "k",.int ((b.toNat:Nat):Int))] (rows_k (.inr hro) (.inr hkk) T.rows T.k hl hh) (Itb.lst hb) trivial rfl (dc rfl) (λy hy hfr=>?_) (λy d hy=>?_)
  (fF (λZ=>Gh) f (.inl rfl) trivial rfl (by show ((za h).map PV.int).length<=_;rw[Ge];exact Gc ‹_› (lb rfl)) (λcenv hce d hd=>z6) (λcenv hce d hd Z=>?_))
 .simp only[Gi,Gl,or_false] at hy
  rcases hy with rfl | rfl | rfl | rfl
  .injection hfr
  .injection hfr
  .exact hkk
  .exact hki
 .by_cases q:y=oS "kinds"
  .subst q;replace hy:=ze ▸ hy;(injection hy with E1;subst E1);exact⟨T.kinds,rfl⟩
  .replace hy:=zb q ▸ hy
   by_cases q:y=oS "k"
   .subst q;replace hy:=ze ▸ hy;(injection hy with E1;subst E1);exact⟨T.k,rfl⟩
   .replace hy:=zb q ▸ hy;injection hy
 .refine xEA (Gr.mp hd) λn hn E5=>?_;subst E5
  have hbit:=X.bit n hn
  have hi:[tb b [97],tb b [97,98]][n.toNat]? = fm (tb b (nmI n)):=by rcases hbit with rfl | rfl<;>rfl
  exact EVd.sub (Jp (.inr (hce.kindIs (kd:=.free) rfl)) (.inr (hce.kindIs (kd:=.free) rfl)) rfl rfl) (fq (hce.kindIs (kd:=.local) rfl) rfl) zo zh (λv1 v2=>zN (by rcases hbit with rfl | rfl<;>decide) hi (by show 2<=100000;exact lb rfl))
end
noncomputable def jD:PV->Bool
 | .str x=>x.cps.size==1
 | .bytes x=>x.size==1
 | _=>Gk
noncomputable def zW (b:Bool) (h:List Int):PV:=.lst [.lst ((psOf h).map (zl b (csOf h) (soOf [97]))),.lst ((psOf h).map (zl b (csOf h) (soOf [97,98])))]
section
variable {hs:List (List Int)} {h:List Int} {b:Bool}
theorem law_h2 {P:Gn} {ds:List PV} {d:PV} (he:Law env) (lp:ρ.loc.lookup (oS "places")=fm (.ref P)) (hP:ρ.own P=fm (.lst ds)) (hl:ds.length<=1000) (lf:ρ.loc.lookup (oS "found")=fm d) :
  EX1 w k env ρ (lawH.getD 2 default) (λp ρ'=>p=.next/\ρ'=⟨ρ.loc,upd ρ.own P (.lst (ds++[d]))⟩) Ψ:=by
 have hpl:=he.kC "places"
 have hfo:=he.kC "found"
 exact EX1.app (fx (.inr hpl) lp) hP (by exact Gc ‹_› (lb rfl)) (fx (.inr hfo) lf) (nst rfl)
theorem law_h3 {P:Gn} {ds:List PV} (hb:k.b=Gh) (he:Law env) (T:vO ρ hs b) (hl2:h.length<=100) (X:ya h)
  (lp:ρ.loc.lookup (oS "path")=fm (tb b (csOf h))) (lf:ρ.loc.lookup (oS "found")=fm (.lst (natL (psOf h)))) (ll:ρ.loc.lookup (oS "leaps")=fm (.ref P)) (hP:ρ.own P=fm (.lst ds)) (hl:ds.length<=1000) :
  EX1 w k.up.up.up.up env ρ (lawH.getD 3 default) (λp ρ'=>p=.next/\ρ'=⟨ρ.loc,upd ρ.own P (.lst (ds++[zW b h]))⟩) Ψ:=by
 have hle:=he.kC "leaps"
 have hki:=he.kC "kinds"
 have hkk:=he.kC "k"
 have hpa:=he.kC "path"
 have hfo:=he.kC "found"
 have hpl:(psOf h).length<=1000:=by rw[X.len];have:=xQ (n:=100) hl2;lia
 have hcl:(csOf h).length<=1000:=by have:=X.cl;exact Gc ‹_› (lb rfl)
 let f:PV->PV:=λd=>.lst ((psOf h).map (zl b (csOf h) (soOf (if jD d=Gh then [97] else [97,98]))))
 have o1:jD (tb b [97])=Gh:=by cases b<;>rfl
 have o2:jD (tb b [97,98])=Gk:=by cases b<;>rfl
 have hres:(([tb b [97],tb b [97,98]]:List PV).filter (λZ=>Gh)).map f=[.lst ((psOf h).map (zl b (csOf h) (soOf [97]))),.lst ((psOf h).map (zl b (csOf h) (soOf [97,98])))]:=by
  rw[zT]
  show [f (tb b [97]),f (tb b [97,98])]=_
  simp only[f,o1,o2,if_true,GQ,if_false]
 delta zW
 rw[←hres]
 refine EX1.app (fx (.inr hle) ll) hP (by exact Gc ‹_› (lb rfl)) (fK (CO:=λZ=>True) [(oS "found",.lst (natL (psOf h))),(oS "path",tb b (csOf h))] (Jp (.inr hki) (.inr hkk) T.kinds T.k) (Itb.lst hb) trivial rfl (dc rfl) (λy hy hfr=>?_) (λy d hy=>?_)
  (fF (λZ=>Gh) f (.inl rfl) trivial rfl (by show 2<=100000;exact lb rfl) (λcenv hce d hd=>z6) (λcenv hce d hd Z=>?_))) (nst rfl)
 .simp only[Gi,Gl,or_false] at hy
  rcases hy with rfl | rfl | rfl | rfl | rfl
  .injection hfr
  .injection hfr
  .injection hfr
  .exact hfo
  .exact hpa
 .by_cases q:y=oS "found"
  .subst q;replace hy:=ze ▸ hy;(injection hy with E1;subst E1);exact⟨lf,rfl⟩
  .replace hy:=zb q ▸ hy
   by_cases q:y=oS "path"
   .subst q;replace hy:=ze ▸ hy;(injection hy with E1;subst E1);exact⟨lp,rfl⟩
   .replace hy:=zb q ▸ hy;injection hy
 .obtain⟨nm,rfl,hnm,hs1,hs2,hs3⟩:∃ nm,d=tb b nm/\(if jD d=Gh then [97] else [97,98])=nm/\Sm nm/\nm.length<=10/\(rpOf b (soOf nm)).length<=900:=by
   simp only[Gi,Gl,or_false] at hd
   rcases hd with rfl | rfl
   .exact vt [97] rfl (by rw[o1];rfl) (by intro c hc;simp at hc;lia) (lb rfl) (by cases b<;>decide +kernel)
   .exact vt [97,98] rfl (by rw[o2];rfl) (by intro c hc;simp at hc;lia) (lb rfl) (by cases b<;>decide +kernel)
  show EVd w k.up.up.up.up cenv _ _ (.lst ((psOf h).map (zl b (csOf h) (soOf (if jD (tb b nm)=Gh then [97] else [97,98])))))
  rw[hnm]
  exact fR (hce.kindIs (kd:=.globalImplicit) rfl) rfl (i:=15) rfl (.cons (fx (.inr (hce.kindIs (kd:=.free) rfl)) rfl) (nst rfl) (.cons (fx (.inr (hce.kindIs (kd:=.free) rfl)) rfl) (nst rfl) (.cons (fq (hce.kindIs (kd:=.local) rfl) rfl) (nst rfl) .nil)))
   (λvs=>qr hb hcl X.sm hs1 hs2 hs3 hpl)
end
theorem jh {h:List Int} (X:ya h) (b:Bool) {nm:Int} (hn:nm=0\/nm=1) :
  (psOf h).map (zl b (csOf h) (soOf (nmI nm)))=(GH (psOf h).length).map (yK b (za h) (psOf h) (soOf (nmI nm)) nm):=by
 have e:=congrArg (O6 (toPV b (soOf (nmI nm)))) (X.leap nm hn)
 replace e:=GL ▸ e;replace e:=GL ▸ e
 have e1:(toPV b (soOf (nmI nm)))∘(xC (csOf h) (soOf (nmI nm)))=zl b (csOf h) (soOf (nmI nm)):=funext λp=>(JG ..).symm
 have e2:(toPV b (soOf (nmI nm)))∘(dueI (za h) (psOf h) nm)=yK b (za h) (psOf h) (soOf (nmI nm)) nm:=funext λp=>(qI ..).symm
 replace e:=e1 ▸ e;replace e:=e2 ▸ e
 exact e
theorem pl_leaps (b:Bool) (h:List Int):PlD 2 (zW b h):=.lst 1 _ λd hd=>by
 have K:∀ so,PlD 1 (.lst ((psOf h).map (zl b (csOf h) so))):=λso=>.lst 0 _ λd hd=>by
  refine xEA (Gr.mp hd) λp Z E5=>?_;subst E5
  rw[JG]
  cases xC (csOf h) so p<;>constructor
 simp only[Gi,Gl,or_false] at hd
 rcases hd with rfl | rfl
 .exact K _
 .exact K _
noncomputable def uN (b:Bool):PV:=.lst [tb b (soOf [97]),tb b (soOf [97,98])]
section
variable {hs:List (List Int)} {h:List Int} {b:Bool}
theorem law_h4 (he:Law env) (lk:ρ.loc.lookup (oS "k")=fm (.int ((b.toNat:Nat):Int))) :
  EX1 w k env ρ (lawH.getD 4 default) (λp ρ'=>p=.next/\ρ'=ρ.set (oS "sought") (uN b)) Ψ:=by
 have hso:=he.kC "sought"
 have hkk:=he.kC "k"
 have hi:([.lst [.str (oS "/a/"),.str (oS "/ab/")],.lst [.bytes [47,97,47].toArray,.bytes [47,97,98,47].toArray]]:List PV)[b.toNat]? = fm (uN b):=by cases b<;>rfl
 exact fT (EVd.sub (EVd.list (.cons (EVd.list (.cons EVd.str (nst rfl) (.cons EVd.str (nst rfl) .nil)) (lb rfl)) (nst rfl)
  (.cons (EVd.list (.cons EVd.bytes (nst rfl) (.cons EVd.bytes (nst rfl) .nil)) (lb rfl)) (nst rfl) .nil)) (lb rfl)) (fx (.inr hkk) lk) zo zh (λv1 v2=>zn hi (lb rfl))) (.inr hso) rfl
theorem law_h5 {P:Gn} {ds:List PV} (hb:k.b=Gh) (he:Law env) (T:vO ρ hs b) (hl:hs.length<=1000) (hh:hs[b.toNat]? = fm h) (hl2:h.length<=90) (X:ya h)
  (lf:ρ.loc.lookup (oS "found")=fm (.lst (natL (psOf h)))) (ls:ρ.loc.lookup (oS "sought")=fm (uN b)) (ll:ρ.loc.lookup (oS "leaps")=fm (.ref P)) (hP:ρ.own P=fm (.lst ds)) (hld:ds.length<=1000) (hi:ds[b.toNat]? = fm (zW b h)) :
  EX1 w k.up env ρ (lawH.getD 5 default) (λp ρ'=>p=.next/\ρ'=ρ) Ψ:=by
 show let Φ':=_;let Ψ':=_;EX1 _ _ _ _ _ Φ' Ψ';intro Φ' Ψ'
 have hle:=he.kC "leaps"
 have hkk:=he.kC "k"
 have hso:=he.kC "sought"
 have hfo:=he.kC "found"
 have hro:=he.kC "rows"
 have hrange:=he.kG "range"
 let f:PV->PV:=λd=>d.onI d λn=>.lst ((GH (psOf h).length).map (yK b (za h) (psOf h) (soOf (nmI n)) n))
 have hres:.lst (((rngL 2).filter (λZ=>Gh)).map f)=zW b h:=by
  show PV.lst [f (.int 0),f (.int 1)]=_
  delta zW
  rw[show ([97]:List Nat)=nmI 0 from rfl,show ([97,98]:List Nat)=nmI 1 from rfl,jh X b (.inl rfl),jh X b (.inr rfl)];rfl
 refine fI (b:=false) (fE (d1:=zW b h) (d2:=zW b h) (EVd.sub (fx (.inr hle) ll) (fx (.inr hkk) T.k) (jt hP) zh (λv1 v2=>Qn hP hi (by exact Gc ‹_› (lb rfl)))) ?_ (λv1 v2=>xF (pl_leaps b h) (lb rfl) (.inl ⟨_,rfl⟩))) (λh=>nomatch h) (λZ=>EX.nil ⟨rfl,rfl⟩)
 rw[←hres]
 refine fK (CO:=λZ=>True) [(oS "found",.lst (natL (psOf h))),(oS "k",.int ((b.toNat:Nat):Int)),(oS "rows",.lst (llD (hs.map za))),(oS "sought",uN b)] (fG hrange rfl (.cons (EVd.int (i:=2)) (nst rfl) .nil) (λvs=>zK)) (Itb.rng hb (lb rfl)) trivial rfl (dc rfl) (λy hy hfr=>?_) (λy d hy=>?_)
  (fF (λZ=>Gh) f (.inl rfl) trivial rfl (by rw[zx];exact lb rfl) (λcenv hce d hd=>z6) (λcenv hce d hd Z=>?_))
 .simp only[Gi,Gl,or_false] at hy
  rcases hy with rfl | rfl | rfl | rfl | rfl | rfl | rfl
  .injection hfr
  .injection hfr
  .injection hfr
  .exact hfo
  .exact hkk
  .exact hro
  .exact hso
 .by_cases q:y=oS "found"
  .subst q;replace hy:=ze ▸ hy;(injection hy with E1;subst E1);exact⟨lf,rfl⟩
  .replace hy:=zb q ▸ hy
   by_cases q:y=oS "k"
   .subst q;replace hy:=ze ▸ hy;(injection hy with E1;subst E1);exact⟨T.k,rfl⟩
   .replace hy:=zb q ▸ hy
    by_cases q:y=oS "rows"
    .subst q;replace hy:=ze ▸ hy;(injection hy with E1;subst E1);exact⟨T.rows,rfl⟩
    .replace hy:=zb q ▸ hy
     by_cases q:y=oS "sought"
     .subst q;replace hy:=ze ▸ hy;(injection hy with E1;subst E1);exact⟨ls,rfl⟩
     .replace hy:=zb q ▸ hy;injection hy
 .obtain⟨n,rfl,hn,hsi,hr,hsl⟩:∃ n:Nat,d=.int (n:Int)/\((n:Int)=0\/(n:Int)=1)/\([tb b (soOf [97]),tb b (soOf [97,98])]:List PV)[n]? = fm (tb b (soOf (nmI n)))/\(rpOf b (soOf (nmI n))).length<=900/\(soOf (nmI n)).length<=1000:=by
   refine xEA (Gr.mp hd) λj hj E5=>?_;subst E5
   have hj:j<2:=Hn.mp hj
   refine iEAA j rfl (by lia) ?_
   have:j=0\/j=1:=by lia
   rcases this with rfl | rfl
   .exact⟨rfl,by cases b<;>decide +kernel,by exact lb rfl⟩
   .exact⟨rfl,by cases b<;>decide +kernel,by exact lb rfl⟩
  exact fR (hce.kindIs (kd:=.globalImplicit) rfl) rfl (i:=16) rfl (.cons (rows_k (.inr (hce.kindIs (kd:=.free) rfl)) (.inr (hce.kindIs (kd:=.free) rfl)) rfl rfl hl hh) (nst rfl) (.cons (fx (.inr (hce.kindIs (kd:=.free) rfl)) rfl) (nst rfl) (.cons (fq (hce.kindIs (kd:=.local) rfl) rfl) (nst rfl)
   (.cons (EVd.sub (fx (.inr (hce.kindIs (kd:=.free) rfl)) rfl) (fq (hce.kindIs (kd:=.local) rfl) rfl) zo zh (λv1 v2=>zn hsi (by show 2<=100000;exact lb rfl))) (nst rfl) .nil))))
   (λvs=>Q9 hb (λn hn=>by rcases X.bit n hn with rfl | rfl<;>decide) (by have:=xQ (n:=90) hl2;exact Gc ‹_› (lb rfl)) X.len hsl hr)
end
noncomputable def zp (h0 h1:List Int):List PV:=[.lst (natL (psOf h0)),.lst (natL (psOf h1))]
noncomputable def zD (h0 h1:List Int):List PV:=[zW Gk h0,zW Gh h1]
structure ForJ (own0:Own) (P L:Gn) (h0 h1:List Int) (i:Nat) (ρ:PSt):Prop where
 halves:ρ.loc.lookup (oS "halves")=fm (.lst (llD [h0,h1]))
 kinds:ρ.loc.lookup (oS "kinds")=fm xS
 rows:ρ.loc.lookup (oS "rows")=fm (.lst (llD [za h0,za h1]))
 places:ρ.loc.lookup (oS "places")=fm (.ref P)
 leaps:ρ.loc.lookup (oS "leaps")=fm (.ref L)
 own:ρ.own=upd (upd own0 P (.lst ((zp h0 h1).take i))) L (.lst ((zD h0 h1).take i))
section
variable {h0 h1:List Int} {own0:Own} {P L:Gn}
theorem xN {α:Type} {f:Gn->Option α} {a:Gn} {x y:α}:upd (upd f a x) a y=upd f a y:=by
 funext b;delta upd;split<;>rfl
theorem qG (hb:k.b=Gh) (he:Law env) (hPL:P≠L) (b:Bool) (hl0:h0.length<=80) (hl1:h1.length<=80) (X0:ya h0) (X1:ya h1) (J:ForJ own0 P L h0 h1 b.toNat ρ) :
  EX w k.up.up.up.up env (ρ.set (oS "k") (.int ((b.toNat:Nat):Int))) lawH (λp ρ'=>p=.next/\ForJ own0 P L h0 h1 (b.toNat+1) ρ') Ψ:=by
 obtain⟨loc,own⟩:=ρ
 obtain⟨j1,j2,j3,j4,j5,j6⟩:=J
 simp only at j1 j2 j3 j4 j5 j6
 subst j6
 let h:List Int:=if b=Gh then h1 else h0
 have hh:[h0,h1][b.toNat]? = fm h:=by cases b<;>rfl
 have hl2:h.length<=80:=by show (if b=Gh then h1 else h0).length<=80;split<;>assumption
 have X:ya h:=by show ya (if b=Gh then h1 else h0);split<;>assumption
 have hpl:(zp h0 h1).take b.toNat++[.lst (natL (psOf h))]=(zp h0 h1).take (b.toNat+1):=by cases b<;>rfl
 have hll:(zD h0 h1).take b.toNat++[zW b h]=(zD h0 h1).take (b.toNat+1):=by cases b<;>rfl
 have hli:((zD h0 h1).take (b.toNat+1))[b.toNat]? = fm (zW b h):=by cases b<;>rfl
 have hn1:((zp h0 h1).take b.toNat).length<=1000:=Gc (Oq _ _) (by cases b<;>decide)
 have hn2:((zD h0 h1).take b.toNat).length<=1000:=Gc (Oq _ _) (by cases b<;>decide)
 have hn3:((zD h0 h1).take (b.toNat+1)).length<=1000:=Gc (Oq _ _) (by cases b<;>decide)
 have T0:vO ((⟨loc,upd (upd own0 P (.lst ((zp h0 h1).take b.toNat))) L (.lst ((zD h0 h1).take b.toNat))⟩:PSt).set (oS "k") (.int ((b.toNat:Nat):Int))) [h0,h1] b :=
  ⟨j1,j2,j3,rfl⟩
 have hw:lawH=[lawH.getD 0 default,lawH.getD 1 default,lawH.getD 2 default,lawH.getD 3 default,lawH.getD 4 default,lawH.getD 5 default]:=rfl
 rw[hw]
 have hP0:∀ X Y:MO,(upd (upd own0 P X) L Y) P=fm X:=λX Y=>(zc _ _ hPL).trans (zd ..)
 refine EX.step (law_h0 (k:=k.up.up) hb he T0 (by show 2<=1000;exact lb rfl) hh (by exact Gc ‹_› (lb rfl))) ?_
 generalize hρ1:((((⟨loc,upd (upd own0 P (.lst ((zp h0 h1).take b.toNat))) L (.lst ((zD h0 h1).take b.toNat))⟩:PSt).set (oS "k") (.int ((b.toNat:Nat):Int))).set (oS "path") (tb b (csOf h))).set (oS "found") (.lst (natL (psOf h))))=ρ1
 have T1:vO ρ1 [h0,h1] b:=by
  subst hρ1
  exact⟨(T0.halves),(T0.kinds),(T0.rows),(T0.k)⟩
 have p1:ρ1.loc.lookup (oS "path")=fm (tb b (csOf h)):=by subst hρ1;exact rfl
 have f1:ρ1.loc.lookup (oS "found")=fm (.lst (natL (psOf h))):=by subst hρ1;exact rfl
 have a1:ρ1.loc.lookup (oS "places")=fm (.ref P):=by subst hρ1;exact((j4))
 have b1:ρ1.loc.lookup (oS "leaps")=fm (.ref L):=by subst hρ1;exact((j5))
 have o1:ρ1.own=upd (upd own0 P (.lst ((zp h0 h1).take b.toNat))) L (.lst ((zD h0 h1).take b.toNat)):=by subst hρ1;rfl
 clear hρ1 j1 j2 j3 j4 j5 T0 hw
 obtain⟨loc1,own1⟩:=ρ1
 simp only at p1 f1 a1 b1 o1
 subst o1
 refine EX.step (law_h1 hb he T1 (by show 2<=1000;exact lb rfl) hh (by exact Gc ‹_› (lb rfl)) X p1 f1) ?_
 refine EX.step (law_h2 he a1 (hP0 _ _) hn1 f1) ?_
 have e2:upd (upd (upd own0 P (.lst ((zp h0 h1).take b.toNat))) L (.lst ((zD h0 h1).take b.toNat))) P (.lst ((zp h0 h1).take b.toNat++[.lst (natL (psOf h))]))=upd (upd own0 P (.lst ((zp h0 h1).take (b.toNat+1)))) L (.lst ((zD h0 h1).take b.toNat)):=by
  rw[hpl];funext c;delta upd
  by_cases q1:c=P
  .subst q1;simp[hPL]
  .simp[q1]
 show EX w _ env ⟨loc1,upd (upd (upd own0 P (.lst ((zp h0 h1).take b.toNat))) L (.lst ((zD h0 h1).take b.toNat))) P (.lst ((zp h0 h1).take b.toNat++[.lst (natL (psOf h))]))⟩ _ _ _
 rw[e2]
 have T2:vO ⟨loc1,upd (upd own0 P (.lst ((zp h0 h1).take (b.toNat+1)))) L (.lst ((zD h0 h1).take b.toNat))⟩ [h0,h1] b:=⟨T1.halves,T1.kinds,T1.rows,T1.k⟩
 refine EX.step (law_h3 hb he T2 (by exact Gc ‹_› (lb rfl)) X p1 f1 b1 (zd ..) hn2) ?_
 show EX w _ env ⟨loc1,upd (upd (upd own0 P (.lst ((zp h0 h1).take (b.toNat+1)))) L (.lst ((zD h0 h1).take b.toNat))) L (.lst ((zD h0 h1).take b.toNat++[zW b h]))⟩ _ _ _
 rw[xN,hll]
 refine EX.step (law_h4 he T1.k) ?_
 refine fw (fS (law_h5 (P:=L) (k:=k.up.up.up) hb he (hs:=[h0,h1]) ⟨T1.halves,T1.kinds,T1.rows,T1.k⟩ (by show 2<=1000;exact lb rfl) hh (by exact Gc ‹_› (lb rfl)) X
  (f1) rfl (b1) (zd ..) hn3 hli) ?_)
 exact⟨rfl,T1.halves,T1.kinds,T1.rows,a1,b1,rfl⟩
end
structure L1 (h0 h1:List Int) (loc:List (Str×PV)):Prop where
 rows:loc.lookup (oS "rows")=fm (.lst (llD [za h0,za h1]))
 places:loc.lookup (oS "places")=fm (.lst (zp h0 h1))
 leaps:loc.lookup (oS "leaps")=fm (.lst (zD h0 h1))
theorem Q2 {own:Own} {a:Gn} {m:MO} (h:own a=fp):Mine.del (upd own a m) a=own:=by
 funext b;unfold Mine.del upd;by_cases e:b=a
 .subst e;simp[h]
 .simp[e]
section
variable {h0 h1:List Int} {own0:Own}
theorem ZZ (hb:k.b=Gh) (he:Law env) (hl0:h0.length<=80) (hl1:h1.length<=80) (X0:ya h0) (X1:ya h1) {loc:List (Str×PV)}
  (j1:loc.lookup (oS "halves")=fm (.lst (llD [h0,h1]))) (j2:loc.lookup (oS "kinds")=fm xS) (j3:loc.lookup (oS "rows")=fm (.lst (llD [za h0,za h1])))
  (h:∀ loc,L1 h0 h1 loc->EX w k.up.up.up.up env ⟨loc,own0⟩ (lawB.drop 7) Φ Ψ):EX w k.up.up.up.up env ⟨loc,own0⟩ (lawB.drop 4) Φ Ψ:=by
 have hpl:=he.kC "places"
 have hle:=he.kC "leaps"
 have hkk:=he.kC "k"
 have hrange:=he.kG "range"
 have hw:lawB.drop 4=lawB.getD 4 default::lawB.getD 5 default::lawB.getD 6 default::lawB.drop 7:=rfl
 rw[hw]
 refine df (fO (Ψo:=noO) (EVO.list .nil (lb rfl)) (.inr hpl) (λZ Z h=>h.elim) rfl) λP hP=>?_
 refine df (fO (Ψo:=noO) (EVO.list .nil (lb rfl)) (.inr hle) (λZ Z h=>h.elim) rfl) λL hL=>?_
 have hP:own0 P=fp:=hP
 have hL:upd own0 P (.lst []) L=fp:=hL
 have hPL:P≠L:=λe=>by subst e;rewrite [zd] at hL;injection hL
 have hL0:own0 L=fp:=(zc _ _ (Hk hPL)).symm.trans hL
 refine fy (D:=λρ=>ForJ own0 P L h0 h1 2 ρ) (f8 (CO:=λZ=>True) (ds:=rngL 2) hb (fG hrange rfl (.cons (EVd.int (i:=2)) (nst rfl) .nil) (λvs=>zK)) (Itb.rng hb (lb rfl)) (.inr hkk)
  (λi ρ=>ForJ own0 P L h0 h1 i ρ) ?_ (λZ Z Z=>trivial) ?_ (λρ' J=>EX.nil ⟨rfl,J⟩)) ?_
 .exact⟨(j1),(j2),(j3),rfl,rfl,rfl⟩
 .intro i d ρ3 hd J
  ((refine rPR (zL hd) λhi=>?_))
  show let Φ':=_;let Ψ':=_;EX _ _ _ _ _ Φ' Ψ';intro Φ' Ψ'
  have:i=0\/i=1:=by lia
  rcases this with rfl | rfl
  .refine EX.mono (qG hb he hPL Gk hl0 hl1 X0 X1 J) ?_
   (intro p ρ' E9;refine xA E9 λE5 J'=>?_;clear E9;subst E5);exact J'
  .refine EX.mono (qG hb he hPL Gh hl0 hl1 X0 X1 J) ?_
   (intro p ρ' E9;refine xA E9 λE5 J'=>?_;clear E9;subst E5);exact J'
 .rintro⟨loc3,own3⟩ E9
  refine E9.casesOn λk1 k2 k3 k4 k5 k6=>?_;clear E9
  simp only at k1 k2 k3 k4 k5 k6
  subst k6
  refine EX.freeze (a:=L) (ds:=zD h0 h1) (loc':=(oS "leaps",.lst (zD h0 h1))::loc3) (zd ..) (λy d hy=>?_) ?_
  .by_cases q:y=oS "leaps"
   .subst q;replace hy:=ze ▸ hy;(injection hy with E1;subst E1);exact .inr ⟨k5,rfl⟩
   .replace hy:=zb q ▸ hy;exact .inl hy
  rw[Q2 ((zc _ _ (Hk hPL)).trans hL0)]
  refine EX.freeze (a:=P) (ds:=zp h0 h1) (loc':=(oS "places",.lst (zp h0 h1))::(oS "leaps",.lst (zD h0 h1))::loc3) (zd ..) (λy d hy=>?_) ?_
  .by_cases q:y=oS "places"
   .subst q;replace hy:=ze ▸ hy;(injection hy with E1;subst E1);exact .inr ⟨k4,rfl⟩
   .replace hy:=zb q ▸ hy;exact .inl hy
  rw[Q2 hP]
  exact h _ ⟨(k3),rfl,rfl⟩
end
section
open PySem.W
structure TO (n:Nat) (lt:Nat->Nat->Bool):Prop where
 tot:∀ i j,i<n->j<n->i≠j->lt i j=!lt j i
 tr:∀ i j k,i<n->j<n->k<n->lt i j=Gh->lt j k=Gh->lt i k=Gh
noncomputable def PermN (n:Nat) (p:Array Nat):Prop:=p.toList.Perm (GH n)
noncomputable def Asc (lt:Nat->Nat->Bool) (p:Array Nat) (m:Nat):Prop:=∀ i j,i<j->j<m->lt (p.getD i 0) (p.getD j 0)=Gh
noncomputable def Dsc (lt:Nat->Nat->Bool) (p:Array Nat) (m:Nat):Prop:=∀ i j,i<j->j<m->lt (p.getD j 0) (p.getD i 0)=Gh
section
variable {n:Nat} {lt:Nat->Nat->Bool} {p:Array Nat}
theorem PermN.size (h:PermN n p):p.size=n:=by
 have:=Xe h
 (replace this:=Lj ▸ this;replace this:=GY ▸ this);exact this
theorem QE {p q:Array Nat} {i j:Nat} (h:p[i]? = q[j]?):p.getD i 0=q.getD j 0:=by
 refine Gj (HO) ?_;rw[HO,h]
theorem PermN.some (h:PermN n p) {i:Nat} (hi:i<n):p.toList[i]? = .some (p.getD i 0):=by
 have hs:=h.size
 rw[HO,Kh,Array.getElem?_eq_getElem (by exact NT hi (id (Gq hs)))];rfl
theorem PermN.lo (h:PermN n p) {i:Nat} (hi:i<n):p.getD i 0<n :=
 Hn.mp (h.mem_iff.mp (GS (h.some hi)))
theorem PermN.ne (h:PermN n p) {i j:Nat} (hi:i<n) (hj:j<n) (e:i≠j):p.getD i 0≠p.getD j 0:=λq=>by
 have nd:p.toList.Nodup:=h.nodup_iff.mpr Y1
 have a:=h.some hi
 have b:=h.some hj
 replace b:=(Gq q) ▸ b
 exact e ((YS (by rw[GY,h.size];exact hi) nd).mp (a.trans b.symm))
theorem yS {α β:Type} (f:α->KasT β):∀ t:KasT α,runV n lt (t.bind f)=(runV n lt t).bind λa=>runV n lt (f a)
 | .ret _=>rfl
 | .ask i j k=>by
  show (if i<n/\j<n then runV n lt ((k (lt i j)).bind f) else fp)=(if i<n/\j<n then runV n lt (k (lt i j)) else fp).bind _
  split
  .exact yS f _
  .rfl
theorem xL {α:Type} {i j:Nat} {k:Bool->KasT α} (hi:i<n) (hj:j<n):runV n lt (.ask i j k)=runV n lt (k (lt i j)):=if_pos ⟨hi,hj⟩
theorem qK (T:TO n lt) (P:PermN n p):∀ f m,1<=m->m+f=n->Asc lt p m->∃ r,runV n lt (kas_asc p f m)=fm r/\m<=r/\r<=n/\Asc lt p r/\(r=n\/(r<n/\lt (p.getD r 0) (p.getD (r-1) 0)=Gh))
 | 0,m,_,h2,h3=>(vt m rfl (GI _) (by exact KB h2) h3 (.inl (by exact Nat.add_right_cancel h2)))
 | f+1,m,h1,h2,h3=>by
  unfold kas_asc
  rw[xL (P.lo (by lia)) (P.lo (by exact dP ‹_› ‹_›))]
  cases e:lt (p.getD m 0) (p.getD (m-1) 0) with
  | true=>exact vt m rfl (GI _) (by exact Nat.le.intro h2) h3 (.inr ⟨by lia,e⟩)
  | false =>
   have e2:lt (p.getD (m-1) 0) (p.getD m 0)=Gh:=by (refine Gj (T.tot _ _ (P.lo (by exact dP ‹_› ‹_›)) (P.lo (by lia)) (P.ne (by exact dP ‹_› ‹_›) (by lia) (by exact AW ‹_›))) ?_;rw[e]);rfl
   obtain⟨r,a,b,c⟩:=qK T P f (m+1) (by exact NO _ _) (by lia) (λi j hij hj=>by
    by_cases q:j=m
    .subst q
     by_cases q2:i=j-1
     .subst q2;exact e2
     .exact T.tr _ _ _ (P.lo (by lia)) (P.lo (by exact dP ‹_› ‹_›)) (P.lo (by lia)) (h3 i (j-1) (by exact AP ‹_› ‹_›) (by exact Nt hij)) e2
    .exact h3 i j hij (by lia))
   exact iEAA r a (by exact KA ‹_›) c
theorem QB (T:TO n lt) (P:PermN n p):∀ f m,1<=m->m+f=n->Dsc lt p m->∃ r,runV n lt (kas_desc f p m 0)=fm (p,r,0)/\m<=r/\r<=n/\Dsc lt p r
 | 0,m,_,h2,h3=>(yB m rfl (GI _) (by exact KB h2) h3)
 | f+1,m,h1,h2,h3=>by
  unfold kas_desc
  rw[xL (P.lo (by lia)) (P.lo (by exact dP ‹_› ‹_›))]
  cases e:lt (p.getD m 0) (p.getD (m-1) 0) with
  | true =>
   obtain⟨r,a,b,c⟩:=QB T P f (m+1) (by exact NO _ _) (by lia) (λi j hij hj=>by
    by_cases q:j=m
    .subst q
     by_cases q2:i=j-1
     .subst q2;exact e
     .exact T.tr _ _ _ (P.lo (by lia)) (P.lo (by exact dP ‹_› ‹_›)) (P.lo (by lia)) e (h3 i (j-1) (by exact AP ‹_› ‹_›) (by exact Nt hij))
    .exact h3 i j hij (by lia))
   exact iEAA r a (by exact KA ‹_›) c
  | false =>
   have e2:lt (p.getD (m-1) 0) (p.getD m 0)=Gh:=by (refine Gj (T.tot _ _ (P.lo (by exact dP ‹_› ‹_›)) (P.lo (by lia)) (P.ne (by exact dP ‹_› ‹_›) (by lia) (by exact AW ‹_›))) ?_;rw[e]);rfl
   refine yB m ?_ (GI _) (by exact Nat.le.intro h2) h3
   (rewrite [if_neg (dc rfl)];refine Gj (xL (P.lo (by exact dP ‹_› ‹_›)) (P.lo (by lia))) ?_;rw[e2]);rfl
theorem Qg (P:PermN n p) (m:Nat):PermN n (kas_rev p 0 m):=(Ww.mp (mirror_perm p 0 m ((m-0) / 2))).trans P
theorem rev_asc (P:PermN n p) {m:Nat} (hm:m<=n) (D:Dsc lt p m):Asc lt (kas_rev p 0 m) m:=λi j hij hj=>by
 have hs:=P.size
 have g:∀ i,i<m->(kas_rev p 0 m).getD i 0=p.getD (m-1-i) 0:=λi hi=>QE (by
  show (mirror p 0 m ((m-0) / 2))[i]? = _
  (rewrite [getElem?_mirror_all (by exact le_of_le_of_eq hm (id (Gq hs)))];refine Gj (if_pos ⟨by exact GU _,hi⟩) ?_);congr 1;lia)
 rw[g i (by exact K4 ‹_› ‹_›),g j hj]
 exact D _ _ (by exact Nz.rv ‹_› ‹_›) (by exact Nz.rx ‹_›)
theorem count_ok (T:TO n lt) (P:PermN n p) (hn:1<=n):∃ m q,runV n lt (kas_count n p)=fm (m,q)/\1<=m/\m<=n/\PermN n q/\Asc lt q m:=by
 delta kas_count
 rw[yS]
 refine xm (qK T P (n-1) 1 (by exact GI _) (by exact Hj hn) (λi j Z Z=>by lia)) λr a b c d e=>?_
 rw[a]
 show ∃ m q,runV n lt (if (r==n)=Gh then _ else _)=_/\_
 by_cases h1:r=n
 .rw[if_pos (by rw[h1];exact beq_self_eq_true n)]
  exact uQ r p rfl b c P d
 .rw[if_neg (by rw[beq_iff_eq];exact h1)]
  by_cases h2:r>1
  .rw[if_pos h2,xL (P.lo (by exact Nat.lt_of_succ_le hn)) (P.lo (by exact Aa ‹_› ‹_›)),d 0 (r-1) (by exact Nat.zero_lt_sub_of_lt h2) (by exact Nt b)]
   exact uQ r p rfl b c P d
  .rw[if_neg h2]
   have hr:r=1:=by lia
   subst hr
   refine xA (e.resolve_left h1) λe1 e2=>?_
   delta kas_descPart
   rw[yS]
   obtain⟨m,a2,b2,c2,d2⟩:=QB T P (n-(1+1)) (1+1) (by exact Oi _) (by exact Hj e1) (λi j Z Z=>by
    have h1:i=0:=by lia
    have h2:j=1:=by lia
    subst h1 h2;exact e2)
   rw[a2]
   show ∃ m q,runV n lt (if (0:Nat)>0 then _ else _)=_/\_
   rw[if_neg (dc rfl)]
   delta kas_tail3
   rw[yS]
   refine xm (qK T (Qg P m) (n-m) m (by exact KA ‹_›) (by exact Hj c2) (rev_asc P c2 d2)) λr a3 b3 c3 d3 e3=>?_
   show ∃ m' q,(runV n lt (kas_asc (kas_rev p 0 m) (n-m) m)).bind _=_/\_
   rw[a3]
   exact uQ r (kas_rev p 0 m) rfl (by lia) c3 (Qg P m) d3
theorem jo (T:TO n lt) (P:PermN n p) {k:Nat} (hk:k<n) (A:Asc lt p k):∀ f l r,l<=r->r<=k->r-l<=f->(∀ i,i<l->lt (p.getD i 0) (p.getD k 0)=Gh)->(∀ i,r<=i->i<k->lt (p.getD k 0) (p.getD i 0)=Gh) ->
  ∃ L,runV n lt (kas_place p k f l r)=fm L/\L<=k/\(∀ i,i<L->lt (p.getD i 0) (p.getD k 0)=Gh)/\(∀ i,L<=i->i<k->lt (p.getD k 0) (p.getD i 0)=Gh)
 | 0,l,r,h1,h2,h3,h4,h5=>(yB l rfl (by exact Gc ‹_› ‹_›) h4 (λi a b=>h5 i (by exact Nz.c1 ‹_› ‹_›) b))
 | f+1,l,r,h1,h2,h3,h4,h5=>by
  unfold kas_place
  by_cases q:l>=r
  .rw[if_pos q];exact yB l rfl (by exact Gc ‹_› ‹_›) h4 (λi a b=>h5 i (by exact Gc ‹_› ‹_›) b)
  .rw[if_neg q,xL (P.lo hk) (P.lo (by exact pV ‹_› ‹_› ‹_›))]
   cases e:lt (p.getD k 0) (p.getD ((l+r) / 2) 0) with
   | true =>
    refine jo T P hk A f l ((l+r) / 2) (by exact AD ‹_›) (by exact Nz.mo ‹_› ‹_›) (by exact Nz.mw ‹_› ‹_›) h4 (λi a b=>?_)
    by_cases q2:i=(l+r) / 2
    .subst q2;exact e
    .exact T.tr _ _ _ (P.lo hk) (P.lo (by exact pV ‹_› ‹_› ‹_›)) (P.lo (by exact K4 ‹_› ‹_›)) e (A _ i (by exact OE a λa=>q2 (id (Gq a))) b)
   | false =>
    have e2:lt (p.getD ((l+r) / 2) 0) (p.getD k 0)=Gh:=by (refine Gj (T.tot _ _ (P.lo (by exact pV ‹_› ‹_› ‹_›)) (P.lo hk) (P.ne (by exact pV ‹_› ‹_› ‹_›) hk (by exact Nz.mp ‹_› ‹_›))) ?_;rw[e]);rfl
    refine jo T P hk A f ((l+r) / 2+1) r (by exact Nz.mt ‹_›) h2 (by exact AR ‹_› ‹_›) (λi a=>?_) h5
    by_cases q2:i=(l+r) / 2
    .subst q2;exact e2
    .exact T.tr _ _ _ (P.lo (by lia)) (P.lo (by exact pV ‹_› ‹_› ‹_›)) (P.lo hk) (A i _ (by lia) (by exact Nz.mk ‹_› ‹_›)) e2
theorem bin_ok (T:TO n lt):∀ (f:Nat) {p:Array Nat} (k:Nat),PermN n p->k+f=n->Asc lt p k->∃ q,runV n lt (kas_bin f p k)=fm q/\PermN n q/\Asc lt q n
 | 0,p,k,P,h,A=>(iEAA p rfl P (by rw[←h];exact A))
 | f+1,p,k,P,h,A=>by
  unfold kas_bin
  rw[yS]
  refine yZ (jo T P (k:=k) (by lia) A k 0 k (by exact GU _) (by exact GI _) (by exact OD _ _) (λi h=>by lia) (λi h1 h2=>by exact absurd ‹_› (V1 ‹_›))) λL a b c d=>?_
  rw[a]
  show ∃ q,runV n lt (kas_bin f (bubble p k (k-L)) (k+1))=_/\_
  have hs:=P.size
  have g:∀ i,(bubble p k (k-L)).getD i 0=if i=L then p.getD k 0 else if L<i/\i<=k then p.getD (i-1) 0 else p.getD i 0:=λi=>by
   have:=getElem?_bubble (xs:=p) (src:=k) (by lia) (k-L) (by exact OD _ _) i
   have e:k-(k-L)=L:=by exact Nat.sub_sub_self b
   replace this:=e ▸ this
   repeat' split
   all_goals (exact QE (by simp_all))
  refine bin_ok T f (k+1) ((Ww.mp (bubble_perm p k (k-L))).trans P) (by lia) (λi j hij hj=>?_)
  have jk:j<=k:=Hy hj
  have ik:i<=k:=KJ (Hb hij jk)
  rcases KQ i L with x | x | x
  .rw[g i,if_neg (HZ x),if_neg (λy=>Nat.lt_asymm x y.1),g j]
   rcases KQ j L with y | y | y
   .rw[if_neg (HZ y),if_neg (λz=>Nat.lt_asymm y z.1)];exact A _ _ hij (Hb y b)
   .rw[if_pos y];exact c _ x
   .rw[if_neg (LP y),if_pos ⟨y,jk⟩];exact A _ _ (Hb x (Nu y)) (Aa y jk)
  .have y:L<j:=x ▸ hij
   rw[g i,if_pos x,g j,if_neg (LP y),if_pos ⟨y,jk⟩];exact d _ (Nu y) (Aa y jk)
  .have y:=K4 x hij
   rw[g i,if_neg (LP x),if_pos ⟨x,ik⟩,g j,if_neg (LP y),if_pos ⟨y,jk⟩];exact A _ _ (Nz.sr x hij) (Aa y jk)
theorem sort_ok (T:TO n lt) (hn:1<=n):∃ q,runV n lt (kas_sort n)=fm q/\PermN n q/\Asc lt q n:=by
 delta kas_sort
 rw[yS]
 refine xf (count_ok T (p:=Nw (GH n)) (List.Perm.refl _) hn) λm q a b c d e=>?_
 rw[a]
 show ∃ q',runV n lt (if m<n then kas_bin (n-max m 1) q (max m 1) else .ret q)=_/\_
 have hm:max m 1=m:=by exact Nat.max_eq_left b
 rw[hm]
 split
 .exact bin_ok T (n-m) m d (by exact Hj c) e
 .have:m=n:=by lia
  subst this;exact iEAA q rfl d e
end
section
variable {α:Type} {d:α} {lt:α->α->Bool}
structure TOL (lt:α->α->Bool) (cs:List α):Prop where
 tot:∀ x∈cs,∀ y∈cs,x≠y->lt x y=!lt y x
 tr:∀ x∈cs,∀ y∈cs,∀ z∈cs,lt x y=Gh->lt y z=Gh->lt x z=Gh
theorem Zp (d:α) (cs:List α):(GH cs.length).map (λi=>cs.getD i d)=cs:=by
 apply Y9 (by simp)
 intro i h1 h2
 simp[Gt,h2]
theorem qJ {cs:List α} (T:TOL lt cs) (nd:cs.Nodup):∃ out,ym d lt cs=fm out/\out.Perm cs/\out.Pairwise λx y=>lt x y=Gh:=by
 delta ym
 by_cases h:cs.length<2
 .rw[if_pos h]
  refine iEAA cs rfl (.refl _) ?_
  match cs,h with
  | [],_=>exact .nil
  | [x],_=>exact Xk (λx y=>lt x y=Gh) x
 .rw[if_neg h]
  have hm:∀ i,i<cs.length->cs.getD i d∈cs:=λi hi=>by
   rw[Gt,Gu hi];exact KH hi
  have hne:∀ i j,i<cs.length->j<cs.length->i≠j->cs.getD i d≠cs.getD j d:=λi j hi hj e=>by
   rw[Gt,Gt,Gu hi,Gu hj]
   intro q
   exact e ((YS hi nd).mp (by (refine Gj (Gu hi) ?_;rw[Gu hj]);exact congrArg fm q))
  refine xEAA (sort_ok (n:=cs.length) (lt:=λi j=>lt (cs.getD i d) (cs.getD j d)) ⟨λi j hi hj e=>T.tot _ (hm i hi) _ (hm j hj) (hne i j hi hj e),λi j k hi hj hk=>T.tr _ (hm i hi) _ (hm j hj) _ (hm k hk)⟩ (by lia)) λq a b c=>?_
  rw[a]
  have hall:(q.toList.all λi=>decide (i<cs.length))=Gh:=by
   rw[Kt];intro i hi;exact decide_eq_true (Hn.mp (b.mem_iff.mp hi))
  refine iEAA (q.toList.map λi=>cs.getD i d) (by simp only[hall,if_true]) ?_ ?_
  .have:=b.map (λi=>cs.getD i d)
   rewrite [Zp] at this;exact this
  .rw[YR,OK]
   intro i j hi hj hij
   have hs:=b.size
   rw[GY] at hi hj
   have:=c i j hij (by lia)
   simpa [HO,hi,hj] using this
theorem u4 {cs:List α} (T:TOL lt cs):∀ {a b:List α},(∀ x∈a,x∈cs)->a.Nodup->a.Perm b->a.Pairwise (λx y=>lt x y=Gh)->b.Pairwise (λx y=>lt x y=Gh)->a=b
 | [],b,_,_,p,_,_=>by rw[List.nil_perm.mp p]
 | x::a,[],_,_,p,_,_=>absurd (Xe p) (by (intro h;injection h;done))
 | x::a,y::b,hm,nd,p,h1,h2=>by
  have e:x=y:=HR λne=>by
   have hy:y∈a:=by
    rcases Gi.mp (p.mem_iff.mpr Gp) with q | q
    .exact absurd q.symm ne
    .exact q
   have hx:x∈b:=by
    rcases Gi.mp (p.mem_iff.mp Gp) with q | q
    .exact absurd q ne
    .exact q
   have a1:=(KG.mp h1).1 y hy
   have a2:=(KG.mp h2).1 x hx
   replace a1:=(T.tot x (hm x Gp) y (hm y (Go _ hy)) ne) ▸ a1;replace a1:=a2 ▸ a1
   injection a1
  subst e
  rw[u4 T (λz hz=>hm z (Go _ hz)) (LX.mp nd).2 (List.Perm.cons_inv p) (KG.mp h1).2 (KG.mp h2).2]
theorem jQ {cs ds:List α} (T:TOL lt cs) (nd:cs.Nodup) (p:cs.Perm ds):∃ out,ym d lt cs=fm out/\ym d lt ds=fm out/\out.Perm cs:=by
 have nd2:ds.Nodup:=p.nodup_iff.mp nd
 have T2:TOL lt ds:=⟨λx hx y hy=>T.tot x (p.mem_iff.mpr hx) y (p.mem_iff.mpr hy),λx hx y hy z hz=>T.tr x (p.mem_iff.mpr hx) y (p.mem_iff.mpr hy) z (p.mem_iff.mpr hz)⟩
 refine xEAA (qJ (d:=d) T nd) λo1 a1 b1 c1=>?_
 refine xEAA (qJ (d:=d) T2 nd2) λo2 a2 b2 c2=>?_
 have e:o1=o2:=u4 T (λx hx=>b1.mem_iff.mp hx) (b1.nodup_iff.mpr nd) (b1.trans (p.trans b2.symm)) c1 c2
 exact iEAA o1 a1 (by (refine Gj (a2) ?_;rw[e])) b1
end
theorem Jg:∀ (x y:List Int),x≠y->ltL x y=!ltL y x
 | [],[],h=>absurd rfl h
 | [],_::_,_=>rfl
 | _::_,[],_=>rfl
 | a::x,b::y,h=>by
  unfold ltL
  by_cases e:a=b
  .subst e;(refine Gj (if_pos rfl) ?_;rw[if_pos rfl]);exact Jg x y λq=>h (by rw[q])
  ·(refine Gj (if_neg e) ?_;rw[if_neg (Hk e),Tp,KP,decide_eq_true_eq,decide_eq_false_iff_not]);lia
theorem Qb:∀ (x y z:List Int),ltL x y=Gh->ltL y z=Gh->ltL x z=Gh
 | [],[],_,h,_=>by injection h
 | [],_::_,[],_,h=>by injection h
 | [],_::_,_::_,_,_=>rfl
 | _::_,[],_,h,_=>by injection h
 | _::_,_::_,[],_,h=>by injection h
 | a::x,b::y,c::z,h1,h2=>by
  unfold ltL at h1 h2 ⊢
  by_cases e1:a=b
  .subst e1
   replace h1:=if_pos rfl ▸ h1
   by_cases e2:a=c
   .subst e2;rw[if_pos rfl] at h2 ⊢;exact Qb x y z h1 h2
   .rw[if_neg e2] at h2 ⊢;exact h2
  .replace h1:=if_neg e1 ▸ h1;rewrite [decide_eq_true_eq] at h1
   by_cases e2:b=c
   .subst e2;(refine Gj (if_neg e1) ?_;rw[decide_eq_true_eq]);exact h1
   .replace h2:=if_neg e2 ▸ h2;rewrite [decide_eq_true_eq] at h2
    (refine Gj (if_neg (by lia)) ?_;rw[decide_eq_true_eq]);exact Int.lt_trans h1 h2
theorem A4 (cs:List (List Int)):TOL ltL cs:=⟨λx Z y Z=>Jg x y,λx Z y Z z Z=>Qb x y z⟩
theorem Ax (cs:List I3):TOL lt3 cs:=⟨λx Z y Z h=>Jg _ _ λe=>h (by
 obtain⟨a,b,c⟩:=x;obtain⟨a',b',c'⟩:=y
 simp only[LF] at e
 (refine xAAA e λE5 E6 E7 Z=>?_;try clear e;subst E5;subst E6;subst E7);rfl),λx Z y Z z Z=>Qb _ _ _⟩
end
noncomputable def dueX (s:List Int) (nm:Int):Option Nat:=if nm∈s then fm (s.idxOf nm+1) else fp
noncomputable def stX (s0 s1:List Int):List (Nat×Nat×Int):=([0,1]:List Int).filterMap λnm=>match dueX s0 nm,dueX s1 nm with
 | some a,fm b=>fm (a,b,nm)
 | _,_=>fp
noncomputable def subX:Nat->List Int->List Int->List (List Int)
 | 0,_,_=>[[]]
 | n+1,s0,s1=>[[]]++(stX s0 s1).flatMap λs=>(subX n (s0.drop s.1) (s1.drop s.2.1)).map λrest=>[s.2.2]++rest
noncomputable def lcsX:Nat->List Int->List Int->Nat
 | 0,_,_=>0
 | n+1,s0,s1=>(stX s0 s1).foldl (λm s=>max m (lcsX n (s0.drop s.1) (s1.drop s.2.1)+1)) 0
noncomputable def zi (r0 r1:List Int):List Nat:=(GH (r0.length+1)).flatMap λi=>(GH (r1.length+1)).map λj=>8*i+j
noncomputable def tgX (r0 r1:List Int) (c:Nat):List Nat:=(stX (r0.drop (c / 8)) (r1.drop (c%8))).map λs=>c+8*s.1+s.2.1
noncomputable def yT (r0 r1:List Int):List (Nat×List Nat):=(zi r0 r1).map λc=>(c,tgX r0 r1 c)
structure Sim where
 x:SX
 rs:List (List Nat)
noncomputable def vz (r0 r1:List Int) (ks:List Nat) (c:Nat):Bool:=!ks.contains c&&(tgX r0 r1 c).all ks.contains&&(zi r0 r1).contains c
noncomputable def uP (r0 r1:List Int) (st:Sim):Option Sim :=
 if ((rdL st.x).all λc=>(st.x.nd.lookup c).isSome)&&yU (vz r0 r1) (λks c=>ks++[c]) st.rs.flatten (rdL st.x)&&yU jy yc (st.x.got (rdL st.x)) (rdL st.x) &&
  decide ((rdL ((rdL st.x).foldl yc (st.x.got (rdL st.x)))).length<=1000)
 then fm ⟨(rdL st.x).foldl yc (st.x.got (rdL st.x)),st.rs++[rdL st.x]⟩ else fp
noncomputable def xX (r0 r1:List Int):Nat->Sim->Option Sim
 | 0,_=>fp
 | n+1,st=>if st.x.active&&decide (st.rs.length<24) then match uP r0 r1 st with
   | some st'=>xX r0 r1 n st'
   | none=>fp
  else fm st
noncomputable def lcsC (r0 r1:List Int) (c:Nat):Nat:=lcsX 5 (r0.drop (c / 8)) (r1.drop (c%8))
noncomputable def trR (rs:List (List Nat)):List Nat:=rs.zipIdx.flatMap λp=>p.1.map λc=>64*p.2+c
noncomputable def trD (r0 r1:List Int):List Nat:=(zi r0 r1).map λc=>64*lcsC r0 r1 c+c
noncomputable def x0 (r0 r1:List Int):SX:=sx0.adds (yT r0 r1)
noncomputable def runX (r0 r1:List Int):Option Sim:=xX r0 r1 24 ⟨(x0 r0 r1).setRd (yV (x0 r0 r1)),[]⟩
noncomputable def jw (r0 r1:List Int):Bool :=
 decide (gsz (yT r0 r1)<=500)&&(xj (yL (x0 r0 r1)) (λc=>((x0 r0 r1).nd.lookup c).isSome) 1000 ((x0 r0 r1).nd.map (·.1)) []).isSome &&
 match runX r0 r1 with
 | none=>Gk
 | some st=>!st.x.active&&(trR st.rs).isPerm (trD r0 r1)
noncomputable def yi (s0 s1:List Int):List (List Int):=(zZ s0).filter λc=>(zZ s1).contains c
noncomputable def jI:List (List Int)->Bool
 | []=>Gh
 | x::r=>!r.contains x&&jI r
noncomputable def jG (s0 s1:List Int):Bool :=
 (yi s0 s1).isPerm (subX 5 s0 s1)&&jI (yi s0 s1)&&(subX 5 s0 s1).all (λx=>decide (x.length<=lcsX 5 s0 s1))&&(subX 5 s0 s1).any (λx=>x.length==lcsX 5 s0 s1)&&decide ((subX 5 s0 s1).length<64)
noncomputable def bitsL:Nat->List (List Int)
 | 0=>[[]]
 | n+1=>(bitsL n).flatMap λt=>[0::t,1::t]
noncomputable def ye (n:Nat):List (List Int):=(GH (n+1)).flatMap bitsL
section
theorem Qt {A:GZ} {E:Gd->Gg->Prop} {s:Gg} {t sl:Gn} {x y z:Gd} {u:Tok} {Q:Gd->Gg->Prop} (ht:IsTup s.heap t #[x,y,z]) (hs:s.heap.IsSliceOf sl .none (.int 2 u) .none)
  (h:Q (.ref s.heap.objs.size) { s with heap:=s.heap.push { cls:=.type "tuple",data:=.seq #[x,y] } }):Gf (mdl w) A (K7 (.ref t) (.ref sl)) Q E s:=by
 refine xEAA (id hs) λos hos hcs hds=>?_
 have hTs:s.TypeIs (.ref sl) "slice" := (iEA os hos hcs)
 delta K7
 try with_reducible refine GD ?_
 first | refine Ga (Gb ?_) | skip
 refine Ga (gX ht.typeIs (Hv Gk) ?_)
 refine Ga (HS (name:=oS "__getitem__") ht.typeIs gN
  (GX gN ht.typeIs entry_tuple_getitem ?_ (args_tuple_getitem _ _)))
 show let Q':=_;let E':=_;Gf _ _ _ Q' E' _;intro Q' E'
 show Gf _ _ (Builtin.Tuple.tupleItemsOf (.ref t)>>=_) _ _ s
 refine Ga (tupleItemsOf_ ht ?_)
 refine Ga (TM hTs ?_)
 rw[if_pos (dc rfl)]
 refine Ga (m:=Vf (.ref sl) (pure (3:Int))) ?_
 show let Q':=_;let E':=_;Gf _ _ _ Q' E' _;intro Q' E'
 delta Vf Builtin.Slice.sliceFields
 refine Ga (Ga (HD hos hds (x:=.none) rfl (Ga (HD hos hds (x:=.int 2 u) rfl (Ga (HD hos hds (x:=.none) rfl (Gb ?_)))))))
 refine Ga (slicePart_none ?_)
 show Gf _ _ (if ((1:Int)==0)=Gh then _ else _) _ _ s
 rw[if_neg (dc rfl)]
 refine Ga (slicePart_none (Ga (slicePart_int (Ga (Gb ?_)))))
 refine Gb ?_
 show Gf _ _ (if ((0:Int)==0&&(1:Int)==1&&((2:Nat)==3))=Gh then _ else _) _ _ s
 rw[if_neg (dc rfl)]
 have hdrop:sizeOk (.seq #[x,y]):=by show 2<=N7;exact lb rfl
 have e:((GH 2).filterMap λ(k:Nat)=>(#[x,y,z]:Array Gd)[((0:Int)+(k:Int)*1).toNat]?).toArray = #[x,y]:=rfl
 first
  | exact Ga (m:=Nj _) (GR (Gb (iEA _ rfl (Gb h))) hdrop)
  | exact Ga (m:=Nj _) (GR (Ga (Gb (Gb ⟨_,rfl,Gb h⟩))) hdrop)
  | exact Ga (Ga (m:=Nj _) (GR (Gb (Gb ⟨_,rfl,Gb h⟩)) hdrop))
  | exact Ga (Ga (m:=Nj _) (GR (Gb ⟨_,rfl,Gb h⟩) hdrop))
theorem xP {d0 d1 d2:PV} {v1 vl vu vs:Gd} {sl:Gn} (pl:Oc vl fp) (pu:Oc vu (fm 2)) (ps:Oc vs fp) :
  PR w k own (λI=>VR I v1 (.tup [d0,d1,d2])/\SlAt I sl vl vu vs) (K7 v1 (.ref sl)) (λI v=>VR I v (.tup [d0,d1])):=by
 intro A l F I s hA H E9
 show let Q':=_;let E':=_;Gf _ _ _ Q' E' _;intro Q' E'
 refine xA E9 λr1 r2=>?_;clear E9
 cases pl;cases pu;cases ps
 cases r1 using dv with
 | @tup a us n e r =>
  cases r using ft with
  | @cons x us a1 r =>
  cases r using ft with
  | @cons y us a2 r =>
  cases r using ft with
  | @cons z us a3 r =>
   (have E0:=VRs.nl r;clear r;subst E0)
   refine Qt (x:=x) (y:=y) (z:=z) (zj _ (H.fz _ _ e) rfl _ rfl) (iEAA _ (H.fz _ _ r2) rfl rfl) ?_
   exact⟨_,fA H.new.2.1,H.push_frozen { cls:=.type "tuple",data:=.seq #[x,y] },.tup (vs:=[x,y]) (n:=0) (zd ..) ((VRs.cons a1 (.cons a2 .nil)).mono (fA H.new.2.1)),⟨rfl,rfl⟩⟩
noncomputable def inB (d:PV) (ps:List Nat):Bool:=d.onI Gk λi=>(ps.map λ(n:Nat)=>(n:Int)).contains i
theorem ints_lay (c:List Int):KN (c.map .int)=Gh/\Lb (c.map .int)<=1:=by
 induction c with
 | nil=>decide
 | cons n r ih=>simp only[GF,KN,Ot,Lb,Oo,Bool.true_and];exact⟨ih.1,by have:=ih.2;exact Om.mp this⟩
theorem ZU {x:Str} {ns:List Int} {v1 v2:Gd} (hx:Vl x=Gh):PR w k own (λI=>VR I v1 (.str x)/\VR I v2 (.lst (intL ns))) (Ke .In v1 v2) (λI v=>VR I v (.bool Gk)):=by
 intro A l F I s hA H E9
 show let Q':=_;let E':=_;Gf _ _ _ Q' E' _;intro Q' E'
 refine xA E9 λr1 r2=>?_;clear E9
 refine fW r1 λZ E0=>?_;clear r1;subst E0
 cases r2 using VR.cl with
 | lst e r =>
  have hu:=hA.un
  refine XO (VM (H.fz _ _ e) rfl rfl (IntsAre.rd (db r))) (Reads.str x _) (ints_lay ns).1 (by exact W.canLay0_ofPy (PyData.str x) rfl hx) (by simp only[Oo];exact Nz.ue ‹_›) ?_
  have:((ns.map PyData.int).any λy=>XS y (.str x))=Gk:=by
   rw[YT]
   intro y hy
   refine xEA (Gr.mp hy) λn Z E5=>?_;subst E5
   intro h;injection h;done
  rw[this]
  exact⟨I,.refl I,H,.bool _,.refl s⟩
theorem ql {d:PV} {ps:List Nat} {v1 v2:Gd} (hd:(∃ i,d=.int i)\/∃ x,d=.str x/\Vl x=Gh):PR w k own (λI=>VR I v1 d/\VR I v2 (.lst (natL ps))) (Ke .In v1 v2) (λI v=>VR I v (.bool (inB d ps))):=by
 rw[Z0]
 rcases hd with E90 | E91
 .refine xE E90 λi E5=>?_;clear E90;subst E5
  exact jO
 .refine xEA E91 λx E5 hx=>?_;clear E91;subst E5
  exact ZU hx
end
noncomputable def kap (p0 p1:List Nat) (c:Nat):List Int:=if c / 8<p0.length/\c%8<p1.length then [((p0.getD (c / 8) 0:Nat):Int),((p1.getD (c%8) 0:Nat):Int)] else [-1-(c:Int),0]
theorem QV:∀ {ps:List Nat},incr ps=Gh->ps.Pairwise (· < ·)
 | [],_=>.nil
 | [x],_=>by exact Xk (λx1 x2=>x1<x2) x
 | x::y::r,h=>by
  unfold incr at h
  rewrite [GE,decide_eq_true_eq] at h
  have ih:=QV h.2
  refine KG.mpr ⟨λz hz=>?_,ih⟩
  rcases Gi.mp hz with rfl | q
  .exact h.1
  .exact K4 h.1 ((KG.mp ih).1 z q)
theorem QY {ps:List Nat} (h:incr ps=Gh) {i j:Nat} (hij:i<j) (hj:j<ps.length):ps.getD i 0<ps.getD j 0:=by
 have:=OK.mp (QV h) i j (by exact K4 ‹_› ‹_›) hj hij
 rw[Gt,Gt,Gu hj,Gu (show i<ps.length by exact K4 ‹_› ‹_›)]
 exact this
theorem vE {ps:List Nat} (h:incr ps=Gh) {i j:Nat} (hi:i<ps.length) (hj:j<ps.length) (e:ps.getD i 0=ps.getD j 0):i=j:=by
 rcases KQ i j with q | q | q
 .have:=QY h q hj;lia
 .exact q
 .have:=QY h q hi;lia
set_option tactic.hygienic true in
theorem kap_inj {p0 p1:List Nat} (h0:incr p0=Gh) (h1:incr p1=Gh) (a b:Nat) (e:kap p0 p1 a=kap p0 p1 b):a=b:=by
 delta kap at e
 split at e<;>split at e
 .rename_i q1 q2
  simp only[LF,gG,and_true] at e
  have e1:=vE h0 q1.1 q2.1 e.1
  have e2:=vE h1 q1.2 q2.2 e.2
  exact gF e1 e2
 .simp only[LF] at e;lia
 .simp only[LF] at e;lia
 .simp only[LF] at e;lia
theorem vc {p0 p1:List Nat} {i j:Nat} (hi:i<p0.length) (hj:j<p1.length) (h8:p1.length<=8):kap p0 p1 (8*i+j)=[((p0.getD i 0:Nat):Int),((p1.getD j 0:Nat):Int)]:=by
 have e1:(8*i+j) / 8=i:=by exact Nz.dd ‹_› ‹_›
 have e2:(8*i+j)%8=j:=by exact Nz.mm ‹_› ‹_›
 delta kap
 rw[e1,e2,if_pos ⟨hi,hj⟩]
set_option tactic.hygienic true in
theorem xp {s:List Int} {n:Int} {a:Nat} (h:dueX s n=fm a):1<=a/\a<=s.length/\n∈s:=by
 delta dueX at h
 split at h
 .rename_i q
  (injection h with E1;subst E1)
  have:=List.idxOf_lt_length_of_mem q
  exact⟨by exact NO _ _,by exact Hi ‹_›,q⟩
 .injection h
set_option tactic.hygienic true in
theorem QR {s0 s1:List Int} {s:Nat×Nat×Int} (h:s∈stX s0 s1):1<=s.1/\s.1<=s0.length/\1<=s.2.1/\s.2.1<=s1.length/\(s.2.2=0\/s.2.2=1)/\dueX s0 s.2.2=fm s.1/\dueX s1 s.2.2=fm s.2.1:=by
 delta stX at h
 refine xEA (Vn.mp h) λn hn e=>?_
 split at e
 .rename_i a b e1 e2
  (injection e with E1;subst E1)
  have h1:=xp e1
  have h2:=xp e2
  refine⟨h1.1,h1.2.1,h2.1,h2.2.1,?_,e1,e2⟩
  simpa using hn
 .injection e
theorem qj (row:List Int) (ps:List Nat) (n:Int) (j:Nat):dueI row ps n j=(dueX (row.drop j) n).map λa=>((ps.getD (j+a) 0:Nat):Int):=by
 unfold dueI dueX
 split
 .show fm _=fm _
  congr 3;exact Lp j (List.idxOf n (List.drop j row))
 .rfl
structure Hs (h0 h1:List Int):Prop where
 X0:ya h0
 X1:ya h1
 l0:h0.length=4
 l1:h1.length=3
theorem Hs.r0 {h0 h1:List Int} (H:Hs h0 h1):(za h0).length<=4:=xQ (by rw[H.l0];exact lb rfl)
theorem Hs.r1 {h0 h1:List Int} (H:Hs h0 h1):(za h1).length<=3:=xQ (by rw[H.l1];exact lb rfl)
noncomputable abbrev kp (h0 h1:List Int):Nat->List Int:=kap (psOf h0) (psOf h1)
theorem Hs.inj {h0 h1:List Int} (H:Hs h0 h1):∀ a b,kp h0 h1 a=kp h0 h1 b->a=b:=kap_inj H.X0.inc H.X1.inc
noncomputable def stT (h0 h1:List Int) (t:Nat) (n:Int):PV:=.tup [.int (((psOf h0).getD (t / 8) 0:Nat):Int),.int (((psOf h1).getD (t%8) 0:Nat):Int),.int n]
noncomputable def stD (h0 h1:List Int) (c:Nat):List PV:=(stX ((za h0).drop (c / 8)) ((za h1).drop (c%8))).map λs=>stT h0 h1 (c+8*s.1+s.2.1) s.2.2
noncomputable def zr (h0 h1:List Int) (i j:Nat) (n:Int):PV:=.tup [toPV Gk (soOf (nmI n)) (dueI (za h0) (psOf h0) n i),toPV Gh (soOf (nmI n)) (dueI (za h1) (psOf h1) n j),.int n]
noncomputable def jv (p0 p1:List Nat) (d:PV):Bool:=d.onT Gk λl=>PV.on3 l Gk λa b _=>inB a p0&&inB b p1
theorem QG {b:Bool} {so:List Nat} {row:List Int} {ps:List Nat} {n:Int} {j:Nat} (hl:ps.length=row.length+1) (hj:j<=row.length):inB (toPV b so (dueI row ps n j)) ps=(dueX (row.drop j) n).isSome:=by
 rw[qj]
 cases e:dueX (row.drop j) n with
 | none=>rfl
 | some a =>
  have:=xp e
  replace this:=Hc ▸ this
  show (ps.map λ(n:Nat)=>(n:Int)).contains _=Gh
  rw[Ki]
  refine Gr.mpr ⟨ps.getD (j+a) 0,?_,rfl⟩
  rw[Gt,Gu (show j+a<ps.length from Nz.se hl this.2.1 hj)]
  exact KH _
theorem zaj {h0 h1:List Int} (H:Hs h0 h1) {i j:Nat} (hi:i<=(za h0).length) (hj:j<=(za h1).length) :
  ([zr h0 h1 i j 0,zr h0 h1 i j 1].filter (jv (psOf h0) (psOf h1)))=stD h0 h1 (8*i+j):=by
 have r1:=H.r1
 have e1:(8*i+j) / 8=i:=by exact dK ‹_› ‹_›
 have e2:(8*i+j)%8=j:=by exact dI ‹_› ‹_›
 have K:∀ n:Int,([zr h0 h1 i j n].filter (jv (psOf h0) (psOf h1)))=((([n]:List Int).filterMap λnm=>match dueX ((za h0).drop i) nm,dueX ((za h1).drop j) nm with
   | some a,fm b=>fm (a,b,nm)
   | _,_=>fp).map λs=>stT h0 h1 (8*i+j+8*s.1+s.2.1) s.2.2):=λn=>by
  have hk:jv (psOf h0) (psOf h1) (zr h0 h1 i j n)=((dueX ((za h0).drop i) n).isSome&&(dueX ((za h1).drop j) n).isSome):=by
   show (inB _ _&&inB _ _)=_
   rw[QG H.X0.len hi,QG H.X1.len hj]
  rw[Ks,hk]
  cases q0:dueX ((za h0).drop i) n with
  | none=>simp[q0]
  | some a =>
   cases q1:dueX ((za h1).drop j) n with
   | none=>simp[q0,q1]
   | some b =>
    have g0:=xp q0
    have g1:=xp q1
    rw[Hc] at g0 g1
    have f1:(8*i+j+8*a+b) / 8=i+a:=AU (Ac hj g1.2.1) r1
    have f2:(8*i+j+8*a+b)%8=j+b:=AM (Ac hj g1.2.1) r1
    simp only[XT,Vg,if_true,Wb,KU,q0,q1,YE,GF,NW]
    unfold zr stT
    rw[f1,f2,qj,qj,q0,q1];rfl
 unfold stD stX
 rw[e1,e2,show ([zr h0 h1 i j 0,zr h0 h1 i j 1]:List PV)=[zr h0 h1 i j 0]++[zr h0 h1 i j 1] from rfl,LJ,K 0,K 1,show ([0,1]:List Int)=[0]++[1] from rfl,XJ,GG]
 all_goals rfl
noncomputable def cutT:PV->PV
 | .tup [a,b,_]=>.tup [a,b]
 | d=>d
theorem tg_in {h0 h1:List Int} (H:Hs h0 h1) {i j:Nat} (hi:i<=(za h0).length) (hj:j<=(za h1).length) {s:Nat×Nat×Int} (hs:s∈stX ((za h0).drop ((8*i+j) / 8)) ((za h1).drop ((8*i+j)%8))) :
  8*i+j+8*s.1+s.2.1=8*(i+s.1)+(j+s.2.1)/\i+s.1<=(za h0).length/\j+s.2.1<=(za h1).length:=by
 have r1:=H.r1
 have g:=QR hs
 have e1:(8*i+j) / 8=i:=by exact dK ‹_› ‹_›
 have e2:(8*i+j)%8=j:=by exact dI ‹_› ‹_›
 replace g:=e1 ▸ g;replace g:=e2 ▸ g;replace g:=Hc ▸ g;replace g:=Hc ▸ g
 exact⟨Ap,Ac hi g.2.1,Ac hj g.2.2.2.1⟩
theorem stT_key {h0 h1:List Int} (H:Hs h0 h1) {i j:Nat} (hi:i<=(za h0).length) (hj:j<=(za h1).length) (n:Int):stT h0 h1 (8*i+j) n=.tup (intL (kp h0 h1 (8*i+j))++[.int n])/\cutT (stT h0 h1 (8*i+j) n)=keyD (kp h0 h1) (8*i+j):=by
 have r1:=H.r1
 have e1:(8*i+j) / 8=i:=by exact dK ‹_› ‹_›
 have e2:(8*i+j)%8=j:=by exact dI ‹_› ‹_›
 have l0:=H.X0.len
 have l1:=H.X1.len
 have hk:kp h0 h1 (8*i+j)=[(((psOf h0).getD i 0:Nat):Int),(((psOf h1).getD j 0:Nat):Int)]:=vc (l0 ▸ GW hi) (l1 ▸ GW hj) (by lia)
 unfold stT keyD
 rw[e1,e2,hk]
 exact⟨rfl,rfl⟩
theorem cut_stD {h0 h1:List Int} (H:Hs h0 h1) {i j:Nat} (hi:i<=(za h0).length) (hj:j<=(za h1).length) :
  (stD h0 h1 (8*i+j)).map cutT=(tgX (za h0) (za h1) (8*i+j)).map (keyD (kp h0 h1)):=by
 unfold stD tgX
 rw[GL,GL]
 refine GT λs hs=>?_
 refine xAA (tg_in H hi hj hs) λe g1 g2=>?_
 show cutT (stT h0 h1 (8*i+j+8*s.1+s.2.1) s.2.2)=keyD (kp h0 h1) (8*i+j+8*s.1+s.2.1)
 rw[e]
 exact(stT_key H g1 g2 _).2
noncomputable def zP (n1 i j:Nat):List Nat:=((GH i).flatMap λi=>(GH n1).map λj=>8*i+j)++(GH j).map λj=>8*i+j
theorem JJ (n1 i:Nat):zP n1 i n1=zP n1 (i+1) 0:=by
 delta zP
 rw[LW,NE];simp
theorem jL (n1 i j:Nat):zP n1 i (j+1)=zP n1 i j++[8*i+j]:=by
 delta zP
 rw[LW,GG,He];rfl
theorem JL (r0 r1:List Int):zP (r1.length+1) (r0.length+1) 0=zi r0 r1:=by
 unfold zP zi;exact List.append_right_eq_self.mpr rfl
theorem zam {n1 i j:Nat} (h8:n1<=8) (hj:j<n1):8*i+j∉zP n1 i j:=by
 delta zP
 intro h
 rcases KR.mp h with q | q
 .refine xEA (Ly.mp q) λa ha q=>?_
  refine xEA (Gr.mp q) λb hb q=>?_
  rw[Hn] at ha hb;lia
 .refine xEA (Gr.mp q) λb hb q=>?_
  rewrite [Hn] at hb;lia
theorem yw {r0 r1:List Int} (h1:r1.length<=3) {c:Nat}:c∈zi r0 r1↔c / 8<=r0.length/\c%8<=r1.length:=by
 delta zi
 simp only[Ly,Gr,Hn]
 constructor
 ·(intro E9;refine xEAEA E9 λa ha b hb E5=>?_;clear E9;subst E5);exact Nz.p4 ‹_› ‹_› ‹_›
 ·(intro E9;refine xA E9 λa b=>?_;clear E9);exact iEAEA (c / 8) (by exact GW ‹_›) (c%8) (by exact GW ‹_›) (by exact Wp c 8)
theorem yF {κ:Nat->List Int} (hκ:∀ a b,κ a=κ b->a=b) (g:Nat->PV):∀ (L:List Nat) (c:Nat),(L.map λc=>(κ c,g c)).lookup (κ c)=if c∈L then fm (g c) else fp
 | [],c=>rfl
 | x::L,c=>by
  rw[GF]
  by_cases e:c=x
  .subst e;rw[z4,if_pos Gp]
  .rw[yl (λq=>e (hκ _ _ q)),yF hκ g L c]
   by_cases q:c∈L
   .rw[if_pos q,if_pos (Go _ q)]
   .rw[if_neg q,if_neg (by exact Vm e q)]
noncomputable def grE (h0 h1:List Int) (L:List Nat):DE:=L.map λc=>(kp h0 h1 c,.lst ((tgX (za h0) (za h1) c).map (keyD (kp h0 h1))))
noncomputable def stE (h0 h1:List Int) (L:List Nat):DE:=L.map λc=>(kp h0 h1 c,.lst (stD h0 h1 c))
theorem jZ {κ:Nat->List Int} (hκ:∀ a b,κ a=κ b->a=b) {g:Nat->PV} {L:List Nat} {c:Nat} (h:c∉L):putT (L.map λc=>(κ c,g c)) (κ c) (g c)=(L++[c]).map λc=>(κ c,g c):=by
 rw[jb (by rw[yF hκ,if_neg h]),GG];rfl
theorem grE_grD (h0 h1:List Int):grE h0 h1 (zi (za h0) (za h1))=grD (kp h0 h1) (yT (za h0) (za h1)):=by
 unfold grE grD yT
 rw[GL];rfl
theorem L1.set {h0 h1:List Int} {loc:List (Str×PV)} (h:L1 h0 h1 loc) {x:Str} (d:PV) (e1:oS "rows" ≠ x) (e2:oS "places" ≠ x) (e3:oS "leaps" ≠ x):L1 h0 h1 ((x,d)::loc) :=
 ⟨(zb e1).trans h.rows,(zb e2).trans h.places,(zb e3).trans h.leaps⟩
theorem txt_ok (b:Bool) {n:Int} (hn:n=0\/n=1):Vl (zS (zY b (soOf (nmI n))))=Gh:=by
 rcases hn with rfl | rfl<;>cases b<;>decide +kernel
theorem QO (b:Bool) {n:Int} (hn:n=0\/n=1) (o:Option Int):(∃ i,toPV b (soOf (nmI n)) o=.int i)\/∃ x,toPV b (soOf (nmI n)) o=.str x/\Vl x=Gh:=by
 cases o with
 | none=>exact .inr (iEA _ rfl (txt_ok b hn))
 | some i=>exact .inl ⟨i,rfl⟩
noncomputable def lawG:List HF:=zt ((zt (lawB.getD 9 default)).getD 0 default)
structure GJ (h0 h1:List Int) (own0:Own) (g s:Gn) (L:List Nat) (ρ:PSt):Prop where
 l1:L1 h0 h1 ρ.loc
 gr:ρ.loc.lookup (oS "graph")=fm (.ref g)
 st:ρ.loc.lookup (oS "steps")=fm (.ref s)
 own:ρ.own=upd (upd own0 g (.dct (grE h0 h1 L))) s (.dct (stE h0 h1 L))
theorem GJ.set {h0 h1:List Int} {own0:Own} {g s:Gn} {L:List Nat} {ρ:PSt} (h:GJ h0 h1 own0 g s L ρ) {x:Str} (d:PV) (hx:x=oS "i" \/ x=oS "j" \/ x=oS "both"):GJ h0 h1 own0 g s L (ρ.set x d):=by
 rcases hx with rfl | rfl | rfl<;>exact⟨h.l1.set d (dc rfl) (dc rfl) (dc rfl),h.gr,h.st,h.own⟩
section
variable {h0 h1:List Int} {own0:Own} {g s:Gn} {b:Bool}
theorem qg {ps:List Nat} {i:Nat} (hi:i<ps.length):(natL ps)[i]? = fm (.int ((ps.getD i 0:Nat):Int)):=by
 delta natL
 rw[Gx,Gt,Gu hi];rfl
theorem vI (ps:List Nat):(natL ps).length=ps.length:=Ge ..
theorem Hs.n0 (H:Hs h0 h1):(psOf h0).length<=5:=by have:=H.X0.len;have:=H.r0;lia
theorem Hs.n1 (H:Hs h0 h1):(psOf h1).length<=4:=by have:=H.X1.len;have:=H.r1;lia
theorem x4 {p1 p2 p3:Pos} {c:Nat} {z:Int} {ps:List Nat} (h:Nm env (oS "places")) (hl:ρ.loc.lookup (oS "places")=fm (.lst (zp h0 h1))) (hz:0<=z) (e:(zp h0 h1)[z.toNat]? = fm (.lst (natL ps))) :
  EVd w k env ρ (.Subscript (.Name (oS "places") p1) (.Constant (.int z) c p2) p3) (.lst (natL ps)) :=
 EVd.sub (fx h hl) EVd.int zo zh (λv1 v2=>zN hz e (by show 2<=100000;exact lb rfl))
theorem v9 {p1 p2 p3 p4 p5 q1 q2 q3 q4 q5 t:Pos} {c1 c2 c3:Nat} {i j:Nat} (H:Hs h0 h1) (h:Nm env (oS "places")) (hl:ρ.loc.lookup (oS "places")=fm (.lst (zp h0 h1))) (hi:Nm env (oS "i")) (hj:Nm env (oS "j"))
  (li:ρ.loc.lookup (oS "i")=fm (.int i)) (lj:ρ.loc.lookup (oS "j")=fm (.int j)) (bi:i<=(za h0).length) (bj:j<=(za h1).length) :
  EVd w k env ρ (.Tuple [.Subscript (.Subscript (.Name (oS "places") p1) (.Constant (.int 0) c1 p2) p3) (.Name (oS "i") p4) p5,.Subscript (.Subscript (.Name (oS "places") q1) (.Constant (.int 1) c2 q2) q3) (.Name (oS "j") q4) q5] c3 t) (.tup (intL (kp h0 h1 (8*i+j)))):=by
 have l0:=H.X0.len
 have l1:=H.X1.len
 have n0:=H.n0
 have n1:=H.n1
 have hk:kp h0 h1 (8*i+j)=[(((psOf h0).getD i 0:Nat):Int),(((psOf h1).getD j 0:Nat):Int)]:=vc (by lia) (by lia) (by exact Gc ‹_› (lb rfl))
 rw[hk]
 exact f7 (.cons (EVd.sub (x4 h hl (dc rfl) rfl) (fx hi li) zo zh (λv1 v2=>zn (qg (by lia)) (by rw[vI];exact Gc ‹_› (lb rfl)))) (nst rfl)
  (.cons (EVd.sub (x4 h hl (dc rfl) rfl) (fx hj lj) zo zh (λv1 v2=>zn (qg (by lia)) (by rw[vI];exact Gc ‹_› (lb rfl)))) (nst rfl) .nil)) (by show 2<=100000;exact lb rfl)
theorem ZJ {h:List Int} (X:ya h) (b:Bool) {n:Int} (hn:n=0\/n=1) {j:Nat} (hj:j<(psOf h).length) :
  ∃ ds es,zW b h=.lst ds/\ds.length<=100000/\ds[n.toNat]? = fm (.lst es)/\es.length=(psOf h).length/\es[j]? = fm (toPV b (soOf (nmI n)) (dueI (za h) (psOf h) n j)):=by
 have e:=jh X b hn
 have e2:((psOf h).map (zl b (csOf h) (soOf (nmI n))))[j]? = fm (toPV b (soOf (nmI n)) (dueI (za h) (psOf h) n j)):=by
  rw[e,Gx,Ym hj,←qI];rfl
 refine uQ _ ((psOf h).map (zl b (csOf h) (soOf (nmI n)))) rfl (by show 2<=100000;exact lb rfl) ?_ (Ge ..) e2
 rcases hn with rfl | rfl<;>rfl
theorem Q1 {h:List Int} {p1 p2 p3 p4 p5 p6 p7:Pos} {c:Nat} {z n:Int} {y:Str} {j:Nat} (X:ya h) (hlp:Nm env (oS "leaps")) (hnu:Nm env (oS "number")) (hy:Nm env y) (l1:ρ.loc.lookup (oS "leaps")=fm (.lst (zD h0 h1)))
  (l2:ρ.loc.lookup (oS "number")=fm (.int n)) (l3:ρ.loc.lookup y=fm (.int j)) (hz:0<=z) (e:(zD h0 h1)[z.toNat]? = fm (zW b h)) (hn:n=0\/n=1) (hj:j<(psOf h).length) (hl:(psOf h).length<=1000) (hd:(y==("__debug__" : Str))=Gk) :
  EVd w k env ρ (.Subscript (.Subscript (.Subscript (.Name (oS "leaps") p1) (.Constant (.int z) c p2) p3) (.Name (oS "number") p4) p5) (.Name y p6) p7) (toPV b (soOf (nmI n)) (dueI (za h) (psOf h) n j)):=by
 refine xf (ZJ X b hn hj) λds es a1 a2 a3 a4 a5=>?_
 replace e:=a1 ▸ e
 exact EVd.sub (EVd.sub (EVd.sub (fx hlp l1) EVd.int zo zh (λv1 v2=>zN hz e (by show 2<=100000;exact lb rfl))) (fx hnu l2) zo zh (λv1 v2=>zN (by rcases hn with rfl | rfl<;>decide) a3 a2)) (fx hy l3 hd) zo zh (λv1 v2=>zn a5 (by lia))
theorem law_g0 {i j:Nat} (hb:k.b=Gh) (he:Law env) (H:Hs h0 h1) (J:L1 h0 h1 ρ.loc) (li:ρ.loc.lookup (oS "i")=fm (.int i)) (lj:ρ.loc.lookup (oS "j")=fm (.int j)) (bi:i<=(za h0).length) (bj:j<=(za h1).length) :
  EX1 w k env ρ (lawG.getD 0 default) (λp ρ'=>p=.next/\ρ'=ρ.set (oS "both") (.lst [zr h0 h1 i j 0,zr h0 h1 i j 1])) Ψ:=by
 show let Φ':=_;let Ψ':=_;EX1 _ _ _ _ _ Φ' Ψ';intro Φ' Ψ'
 have hbo:=he.kL "both"
 have hi:=he.kC "i"
 have hj:=he.kC "j"
 have hle:=he.kC "leaps"
 have hrange:=he.kG "range"
 have l0:=H.X0.len
 have l1:=H.X1.len
 have n0:=H.n0
 have n1:=H.n1
 let f:PV->PV:=λd=>d.onI d λn=>zr h0 h1 i j n
 have hres:((rngL 2).filter (λZ=>Gh)).map f=[zr h0 h1 i j 0,zr h0 h1 i j 1]:=rfl
 rw[←hres]
 refine dF (CO:=λZ=>True) [(oS "leaps",.lst (zD h0 h1)),(oS "i",.int i),(oS "j",.int j)] (fG hrange rfl (.cons (EVd.int (i:=2)) (nst rfl) .nil) (λvs=>zK)) (Itb.rng hb (lb rfl)) trivial rfl (dc rfl) (λy hy hfr=>?_) (λy d hy=>?_)
  (fF (λZ=>Gh) f (.inl rfl) trivial rfl (by rw[zx];exact lb rfl) (λcenv hce d hd=>z6) (λcenv hce d hd Z=>?_)) hbo (by delta Lq Vp WW;rw[show env.scope=zf lawF from he];rfl)
 .simp only[Gi,Gl,or_false] at hy
  rcases hy with rfl | rfl | rfl | rfl | rfl | rfl<;>first | (injection hfr;done) | exact hi | exact hj | exact hle
 .by_cases q:y=oS "leaps"
  .subst q;replace hy:=ze ▸ hy;(injection hy with E1;subst E1);exact⟨J.leaps,rfl⟩
  .replace hy:=zb q ▸ hy
   by_cases q:y=oS "i"
   .subst q;replace hy:=ze ▸ hy;(injection hy with E1;subst E1);exact⟨li,rfl⟩
   .replace hy:=zb q ▸ hy
    by_cases q:y=oS "j"
    .subst q;replace hy:=ze ▸ hy;(injection hy with E1;subst E1);exact⟨lj,rfl⟩
    .replace hy:=zb q ▸ hy;injection hy
 .obtain⟨n,rfl,hn⟩:∃ n:Int,d=.int n/\(n=0\/n=1):=by
   refine xEA (Gr.mp hd) λm hm E5=>?_;subst E5
   have hm:m<2:=Hn.mp hm
   exact iEA m rfl (by lia)
  have kl:Nm cenv (oS "leaps"):=.inr (hce.kindIs (kd:=.free) rfl)
  have kn:Nm cenv (oS "number"):=.inl (hce.kindIs (kd:=.local) rfl)
  exact f7 (.cons (Q1 H.X0 kl kn (.inr (hce.kindIs (kd:=.free) rfl)) rfl rfl rfl (dc rfl) rfl hn (by lia) (by exact Gc ‹_› (lb rfl)) (Hv Gk)) (nst rfl)
   (.cons (Q1 H.X1 kl kn (.inr (hce.kindIs (kd:=.free) rfl)) rfl rfl rfl (dc rfl) rfl hn (by lia) (by exact Gc ‹_› (lb rfl)) (Hv Gk)) (nst rfl)
   (.cons (fx kn rfl) (nst rfl) .nil))) (by show 3<=100000;exact lb rfl)
end
section
variable {h0 h1:List Int} {own0:Own} {g s:Gn} {b:Bool} {L:List Nat}
theorem Jz {r0 r1:List Int} (h0:r0.length<=4) (h1:r1.length<=3):(zi r0 r1).length<=20:=by
 delta zi
 rw[T5]
 simp only[Ge,Lj,V8,Ti]
 exact WT (show r0.length+1<=5 by exact HY ‹_›) (show r1.length+1<=4 by exact HY ‹_›)
theorem y8 {ps:List Nat} {vs:List Gd} (h:ps.length<=1000) {own:Own}:PR w k own (λI=>VRs I vs [.lst (natL ps)]) (call (.builtin "len") vs) (λI v=>VR I v (.int ps.length)):=by
 have:=yX (w:=w) (k:=k) (own:=own) (ds:=natL ps) (vs:=vs) (by rw[vI];exact Gc ‹_› (lb rfl))
 rewrite [vI] at this;exact this
theorem QH (s0 s1:List Int):(stX s0 s1).length<=2:=by
 delta stX
 exact List.length_filterMap_le _ _
theorem QK (h0 h1:List Int) (c:Nat):(stD h0 h1 c).length<=2:=by
 delta stD;rw[Ge];exact QH ..
theorem law_g1 {i j:Nat} (hb:k.b=Gh) (he:Law env) (H:Hs h0 h1) (gs:g≠s) (J:GJ h0 h1 own0 g s L ρ) (li:ρ.loc.lookup (oS "i")=fm (.int i)) (lj:ρ.loc.lookup (oS "j")=fm (.int j)) (lb:ρ.loc.lookup (oS "both")=fm (.lst [zr h0 h1 i j 0,zr h0 h1 i j 1]))
  (bi:i<=(za h0).length) (bj:j<=(za h1).length) (hL:L.length<=1000) (hnew:8*i+j∉L) :
  EX1 w k env ρ (lawG.getD 1 default) (λp ρ'=>p=.next/\ρ'=⟨ρ.loc,upd ρ.own s (.dct (stE h0 h1 (L++[8*i+j])))⟩) Ψ:=by
 have hbo:=he.kL "both"
 have hst:=he.kL "steps"
 have hi:=he.kC "i"
 have hj:=he.kC "j"
 have hpl:=he.kC "places"
 have hown:ρ.own s=fm (.dct (stE h0 h1 L)):=by rw[J.own];exact zd ..
 have n0:=H.n0
 have n1:=H.n1
 rw[show stE h0 h1 (L++[8*i+j])=putT (stE h0 h1 L) (kp h0 h1 (8*i+j)) (.lst (stD h0 h1 (8*i+j))) from (jZ H.inj hnew).symm]
 refine dD ?_ (fq hst J.st) (v9 H (.inr hpl) J.l1.places (.inr hi) (.inr hj) li lj bi bj) hown (by delta stE;rw[Ge];exact hL)
 have hres:(([zr h0 h1 i j 0,zr h0 h1 i j 1]:List PV).filter (jv (psOf h0) (psOf h1))).map id=stD h0 h1 (8*i+j):=by rw[List.map_id,zaj H bi bj]
 rw[←hres]
 refine fK (CO:=λZ=>True) [(oS "places",.lst (zp h0 h1))] (fq hbo lb) (Itb.lst hb) trivial rfl (dc rfl) (λy hy hfr=>?_) (λy d hy=>?_)
  (fF (jv (psOf h0) (psOf h1)) id (.inl rfl) trivial rfl (by show 2<=100000;exact dc rfl) (λcenv hce d hd=>?_) (λcenv hce d hd Z=>fq (hce.kindIs (kd:=.local) rfl) rfl))
 .simp only[Gi,Gl,or_false] at hy
  rcases hy with rfl | rfl | rfl<;>first | (injection hfr;done) | exact hpl
 .by_cases q:y=oS "places"
  .subst q;replace hy:=ze ▸ hy;(injection hy with E1;subst E1);exact⟨J.l1.places,rfl⟩
  .replace hy:=zb q ▸ hy;injection hy
 .obtain⟨n,rfl,hn⟩:∃ n:Int,d=zr h0 h1 i j n/\(n=0\/n=1):=by
   simp only[Gi,Gl,or_false] at hd
   rcases hd with rfl | rfl
   .exact iEA 0 rfl (.inl rfl)
   .exact iEA 1 rfl (.inr rfl)
  have ks:cenv.kindOf (oS "step")=fm .local:=hce.kindIs (kd:=.local) rfl
  have kp:Nm cenv (oS "places"):=.inr (hce.kindIs (kd:=.free) rfl)
  refine xI (dY (fE (EVd.sub (d2:=.int 0) (fq ks rfl) EVd.int vo yD (λv1 v2=>x9 (i:=0) rfl (by show 3<=100000;exact dc rfl))) (x4 kp rfl (dc rfl) rfl) (λv1 v2=>ql (QO Gk hn _)))
   (λZ=>fE (EVd.sub (d2:=.int 1) (fq ks rfl) EVd.int vo yD (λv1 v2=>x9 (i:=1) rfl (by show 3<=100000;exact dc rfl))) (x4 kp rfl (dc rfl) rfl) (λv1 v2=>ql (QO Gh hn _))))
theorem law_g2 {i j:Nat} (hb:k.b=Gh) (he:Law env) (H:Hs h0 h1) (gs:g≠s) (J:L1 h0 h1 ρ.loc) (lg:ρ.loc.lookup (oS "graph")=fm (.ref g)) (ls:ρ.loc.lookup (oS "steps")=fm (.ref s)) (og:ρ.own g=fm (.dct (grE h0 h1 L))) (os:ρ.own s=fm (.dct (stE h0 h1 (L++[8*i+j]))))
  (li:ρ.loc.lookup (oS "i")=fm (.int i)) (lj:ρ.loc.lookup (oS "j")=fm (.int j))
  (bi:i<=(za h0).length) (bj:j<=(za h1).length) (hL:L.length<=1000) (hnew:8*i+j∉L) :
  EX1 w k env ρ (lawG.getD 2 default) (λp ρ'=>p=.next/\ρ'=⟨ρ.loc,upd ρ.own g (.dct (grE h0 h1 (L++[8*i+j])))⟩) Ψ:=by
 have hst:=he.kL "steps"
 have hgr:=he.kL "graph"
 have hi:=he.kC "i"
 have hj:=he.kC "j"
 have hpl:=he.kC "places"
 rw[show grE h0 h1 (L++[8*i+j])=putT (grE h0 h1 L) (kp h0 h1 (8*i+j)) (.lst ((tgX (za h0) (za h1) (8*i+j)).map (keyD (kp h0 h1)))) from (jZ H.inj hnew).symm]
 refine dD ?_ (fq hgr lg) (v9 H (.inr hpl) J.places (.inr hi) (.inr hj) li lj bi bj) og (by delta grE;rw[Ge];exact hL)
 have hres:((stD h0 h1 (8*i+j)).filter (λZ=>Gh)).map cutT=(tgX (za h0) (za h1) (8*i+j)).map (keyD (kp h0 h1)):=by rw[zT];exact cut_stD H bi bj
 rw[←hres]
 refine fK (CO:=λZ=>True) [] (dB (fq hst ls) (.inl os) (v9 H (.inr hpl) J.places (.inr hi) (.inr hj) li lj bi bj) (by delta stE;rw[yF H.inj,if_pos (by exact List.mem_concat_self)])) (Itb.lst hb) trivial rfl (dc rfl) (λy hy hfr=>?_) (λy d hy=>by injection hy)
  (fF (λZ=>Gh) cutT (.inl rfl) trivial rfl (by have:=QK h0 h1 (8*i+j);exact Gc ‹_› (lb rfl)) (λcenv hce d hd=>z6) (λcenv hce d hd Z=>?_))
 .simp only[Gi,Gl,or_false] at hy
  rcases hy with rfl | rfl<;>injection hfr
 .refine xEA (Gr.mp hd) λx hx E5=>?_;subst E5
  exact fN (fq (hce.kindIs (kd:=.local) rfl) rfl) .none (.some EVd.int) .none vo yD (λv1 sl vl vu vs pl pu ps=>xP pl pu ps)
theorem ZA (hb:k.b=Gh) (he:Law env) (H:Hs h0 h1) {loc:List (Str×PV)} (l1:L1 h0 h1 loc)
  (h:∀ loc g s,g≠s->own0 g=fp->own0 s=fp->GJ h0 h1 own0 g s (zi (za h0) (za h1)) ⟨loc,upd (upd own0 g (.dct (grE h0 h1 (zi (za h0) (za h1))))) s (.dct (stE h0 h1 (zi (za h0) (za h1))))⟩ ->
   EX w k env ⟨loc,upd (upd own0 g (.dct (grE h0 h1 (zi (za h0) (za h1))))) s (.dct (stE h0 h1 (zi (za h0) (za h1))))⟩ (lawB.drop 10) Φ Ψ):EX w k env ⟨loc,own0⟩ (lawB.drop 7) Φ Ψ:=by
 have hgr:=he.kL "graph"
 have hst:=he.kL "steps"
 have hi:=he.kC "i"
 have hj:=he.kC "j"
 have hpl:=he.kC "places"
 have hrange:=he.kG "range"
 have hlen:=he.kG "len"
 have n0:=H.n0
 have n1:=H.n1
 have x0:=H.X0.len
 have x1:=H.X1.len
 have hw:lawB.drop 7=lawB.getD 7 default::lawB.getD 8 default::lawB.getD 9 default::lawB.drop 10:=rfl
 rw[hw]
 refine df (fO (Ψo:=noO) EVO.dict (.inl hgr) (λZ Z h=>h.elim) rfl) λg hg=>?_
 refine df (fO (Ψo:=noO) EVO.dict (.inl hst) (λZ Z h=>h.elim) rfl) λs hs=>?_
 have hg:own0 g=fp:=hg
 have hs:upd own0 g (.dct []) s=fp:=hs
 have gs:g≠s:=λe=>by subst e;rewrite [zd] at hs;injection hs
 have hs0:own0 s=fp:=(zc _ _ (Hk gs)).symm.trans hs
 let N1:=(psOf h1).length
 refine fy (D:=λρ=>GJ h0 h1 own0 g s (zi (za h0) (za h1)) ρ) (f8 (CO:=λZ=>True) (ds:=rngL (psOf h0).length) hb (fG hrange rfl (.cons (fB hlen rfl (.cons (x4 (.inr hpl) ((l1.places)) (dc rfl) rfl) (nst rfl) .nil) (λvs=>y8 (by exact Gc ‹_› (lb rfl)))) (nst rfl) .nil) (λvs=>zK)) (Itb.rng hb (by exact Gc ‹_› (lb rfl))) (.inr hi)
  (λi ρ=>GJ h0 h1 own0 g s (zP N1 i 0) ρ) ?_ (λZ Z Z=>trivial) ?_ (λρ' J=>EX.nil ⟨rfl,?_⟩)) ?_
 .exact⟨(l1.set _ (dc rfl) (dc rfl) (dc rfl)).set _ (dc rfl) (dc rfl) (dc rfl),rfl,rfl,rfl⟩
 .intro i d ρ3 hd J
  ((refine rPR (zL hd) λhi3=>?_))
  show let Φ':=_;let Ψ':=_;EX _ _ _ _ _ Φ' Ψ';intro Φ' Ψ'
  have J':=J.set (.int i) (.inl rfl)
  have li:(ρ3.set (oS "i") (.int i)).loc.lookup (oS "i")=fm (.int i):=rfl
  generalize ρ3.set (oS "i") (.int i)=ρ4 at J' li
  refine fw (f8 (CO:=λZ=>True) (ds:=rngL N1) hb (fG hrange rfl (.cons (fB hlen rfl (.cons (x4 (.inr hpl) J'.l1.places (dc rfl) rfl) (nst rfl) .nil) (λvs=>y8 (by exact Gc ‹_› (lb rfl)))) (nst rfl) .nil) (λvs=>zK)) (Itb.rng hb (by show (psOf h1).length<=_;exact Gc ‹_› (lb rfl))) (.inr hj)
   (λj ρ=>GJ h0 h1 own0 g s (zP N1 i j) ρ/\ρ.loc.lookup (oS "i")=fm (.int i)) ⟨J',li⟩ (λZ Z Z=>trivial) ?_ (λρ' E9=>E9.elim λJ Z=>EX.nil ?_))
  .intro j d ρ5 hd E9;refine xA E9 λJ5 li5=>?_;clear E9
   ac_rfl
   ((refine rPR (zL hd) λhj5=>?_))
   have J6:=J5.set (.int j) (.inr (.inl rfl))
   have li6:(ρ5.set (oS "j") (.int j)).loc.lookup (oS "i")=fm (.int i):=li5
   have lj6:(ρ5.set (oS "j") (.int j)).loc.lookup (oS "j")=fm (.int j):=rfl
   generalize ρ5.set (oS "j") (.int j)=ρ6 at J6 li6 lj6
   have hlw:lawG=[lawG.getD 0 default,lawG.getD 1 default,lawG.getD 2 default]:=rfl
   show EX w k env ρ6 lawG _ _
   rw[hlw]
   have bj:j<=(za h1).length:=by have:j<(psOf h1).length:=hj5;lia
   have bi:i<=(za h0).length:=by lia
   have hnew:8*i+j∉zP N1 i j:=zam (by show (psOf h1).length<=8;exact Gc ‹_› (lb rfl)) hj5
   have hL:(zP N1 i j).length<=1000:=by
    delta zP
    rw[Gs,T5]
    simp only[Ge,Lj,V8,Ti]
    have:i*N1<=5*4:=WT (by lia) n1
    have:j<(psOf h1).length:=hj5
    lia
   refine EX.step (law_g0 hb he H J6.l1 li6 lj6 bi bj) ?_
   have J7:=J6.set (.lst [zr h0 h1 i j 0,zr h0 h1 i j 1]) (.inr (.inr rfl))
   have li7:(ρ6.set (oS "both") (.lst [zr h0 h1 i j 0,zr h0 h1 i j 1])).loc.lookup (oS "i")=fm (.int i):=li6
   have lj7:(ρ6.set (oS "both") (.lst [zr h0 h1 i j 0,zr h0 h1 i j 1])).loc.lookup (oS "j")=fm (.int j):=lj6
   have lb7:(ρ6.set (oS "both") (.lst [zr h0 h1 i j 0,zr h0 h1 i j 1])).loc.lookup (oS "both")=fm (.lst [zr h0 h1 i j 0,zr h0 h1 i j 1]):=rfl
   generalize ρ6.set (oS "both") (.lst [zr h0 h1 i j 0,zr h0 h1 i j 1])=ρ7 at J7 li7 lj7 lb7
   refine EX.step (law_g1 hb he H gs J7 li7 lj7 lb7 bi bj hL hnew) ?_
   refine fw (fS (law_g2 hb he H gs (L:=zP N1 i j) J7.l1 J7.gr J7.st (by show upd _ _ _ _=_;rw[zc _ _ gs,J7.own,zc _ _ gs,zd]) (zd ..) li7 lj7 bi bj hL hnew) ?_)
   refine⟨⟨J7.l1,J7.gr,J7.st,?_⟩,li7⟩
   show upd (upd ρ7.own s _) g _=_
   rw[jL,J7.own,xN,yn (Hk gs),xN]
  .replace J:=(show (rngL N1).length=N1 from zx _) ▸ J;rewrite [JJ] at J
   exact J
 .rewrite [zx] at J
  rw[←JL,←x0,←x1]
  exact J
 .rintro⟨loc3,own3⟩ J
  have e:=J.own
  simp only at e
  subst e
  exact h loc3 g s gs hg hs0 J
end
section
variable {R:Type} {f own:Own} {ad:R->Gn} {c:R->Option MO} {a:Gn} {m m0:MO}
theorem Inv.live (h:Inv f own ad c) {r:R} (hr:c r≠fp):own (ad r)≠fp:=by
 refine xE (Kv.mp hr) λm e=>?_
 rw[h.at_ r m e];exact Lo m
theorem Inv.frN (h:Inv f own ad c) (ha:own a=fp) (m:MO):Inv (upd f a m) (upd own a m) ad c where
 at_ r m' e:=by
  have:=h.live (r:=r) (by rw[e];exact Lo m')
  rw[zc _ _ (λq=>this (by rw[q,ha]))];exact h.at_ r m' e
 inj:=h.inj
 fr b m' e:=by
  by_cases q:b=a
  .subst q
   rw[zd] at e ⊢
   exact⟨e,λr hr q=>h.live hr (by rw[q,ha])⟩
  .rw[zc _ _ q] at e ⊢;exact h.fr b m' e
theorem Inv.frS (h:Inv f own ad c) (hf:f a=fm m0) (m:MO):Inv (upd f a m) (upd own a m) ad c where
 at_ r m' e:=by
  rw[zc _ _ ((h.fr a m0 hf).2 r (by rw[e];exact Lo m'))];exact h.at_ r m' e
 inj:=h.inj
 fr b m' e:=by
  by_cases q:b=a
  .subst q
   rw[zd] at e ⊢
   exact⟨e,(h.fr b m0 hf).2⟩
  .rw[zc _ _ q] at e ⊢;exact h.fr b m' e
theorem Inv.frD (h:Inv f own ad c) (hf:f a=fm m0):Inv (Mine.del f a) (Mine.del own a) ad c where
 at_ r m' e:=by
  have:=(h.fr a m0 hf).2 r (by rw[e];exact Lo m')
  show (if ad r=a then fp else own (ad r))=_
  rw[if_neg this];exact h.at_ r m' e
 inj:=h.inj
 fr b m' e:=by
  have e:(if b=a then fp else f b)=fm m':=e
  show (if b=a then fp else own b)=_/\_
  by_cases q:b=a
  .replace e:=if_pos q ▸ e;injection e
  .rw[if_neg q] at e ⊢;exact h.fr b m' e
end
noncomputable def shV (h0 h1:List Int) (c:Nat):List (List Int):=subX 5 ((za h0).drop (c / 8)) ((za h1).drop (c%8))
noncomputable def shE (h0 h1:List Int) (L:List Nat):DE:=L.map λc=>(kp h0 h1 c,.lst (llD (shV h0 h1 c)))
noncomputable def rdsD (h0 h1:List Int) (rs:List (List Nat)):List PV:=rs.map λr=>.tup (r.map (keyD (kp h0 h1)))
structure WL (h0 h1:List Int) (s S a r:Gn) (loc:List (Str×PV)):Prop where
 l1:L1 h0 h1 loc
 st:loc.lookup (oS "steps")=fm (.ref s)
 so:loc.lookup (oS "sorter")=fm (.ref S)
 sh:loc.lookup (oS "shared")=fm (.ref a)
 ro:loc.lookup (oS "rounds")=fm (.ref r)
structure WO (h0 h1:List Int) (s S a r:Gn) (x:SX) (L:List Nat) (rs:List (List Nat)) (own:Own):Prop where
 sa:s≠a
 inv:∃ f ad,ad .S=S/\Inv f own ad (cont (kp h0 h1) dd x ad)/\f s=fm (.dct (stE h0 h1 (zi (za h0) (za h1))))/\f a=fm (.dct (shE h0 h1 L))/\f r=fm (.lst (rdsD h0 h1 rs))
section
variable {h0 h1:List Int} {own0:Own} {g s S a r:Gn} {b:Bool} {L:List Nat}
theorem WO.os {x:SX} {rs:List (List Nat)} {own:Own} (h:WO h0 h1 s S a r x L rs own):own s=fm (.dct (stE h0 h1 (zi (za h0) (za h1)))):=by
 obtain⟨_,f,ad,_,J,e,_,_⟩:=h;exact(J.fr _ _ e).1
theorem WO.oa {x:SX} {rs:List (List Nat)} {own:Own} (h:WO h0 h1 s S a r x L rs own):own a=fm (.dct (shE h0 h1 L)):=by
 obtain⟨_,f,ad,_,J,_,e,_⟩:=h;exact(J.fr _ _ e).1
theorem WO.or {x:SX} {rs:List (List Nat)} {own:Own} (h:WO h0 h1 s S a r x L rs own):own r=fm (.lst (rdsD h0 h1 rs)):=by
 obtain⟨_,f,ad,_,J,_,_,e⟩:=h;exact(J.fr _ _ e).1
theorem x0_rd (r0 r1:List Int):(x0 r0 r1).rd=fp:=by delta x0;rw[dN];rfl
theorem JI {r0 r1:List Int} (h:gsz (yT r0 r1)<=500):(x0 r0 r1).sb 1000/\(x0 r0 r1).nd.length<=1000:=by
 have:=dw (yT r0 r1) sx0 0 (λi n su e=>by injection e) (lb rfl)
 exact⟨this.1.mono (by lia),Gc this.2 (by lia)⟩
theorem Zf (hb:k.b=Gh) (he:Law env) (H:Hs h0 h1) {loc:List (Str×PV)} (gs:g≠s) (hz:gsz (yT (za h0) (za h1))<=500) {se:List Nat}
  (hf:xj (yL (x0 (za h0) (za h1))) (λc=>((x0 (za h0) (za h1)).nd.lookup c).isSome) 1000 ((x0 (za h0) (za h1)).nd.map (·.1)) []=fm se)
  (J:GJ h0 h1 own0 g s (zi (za h0) (za h1)) ⟨loc,upd (upd own0 g (.dct (grE h0 h1 (zi (za h0) (za h1))))) s (.dct (stE h0 h1 (zi (za h0) (za h1))))⟩)
  (h:∀ ρ S a r,WL h0 h1 s S a r ρ.loc->WO h0 h1 s S a r ((x0 (za h0) (za h1)).setRd (yV (x0 (za h0) (za h1)))) [] [] ρ.own->EX w k.up.up.up.up.up.up env ρ (lawB.drop 14) Φ Ψ) :
  EX w k.up.up.up.up.up.up env ⟨loc,upd (upd own0 g (.dct (grE h0 h1 (zi (za h0) (za h1))))) s (.dct (stE h0 h1 (zi (za h0) (za h1))))⟩ (lawB.drop 10) Φ Ψ:=by
 have hgr:=he.kL "graph"
 have hso:=he.kL "sorter"
 have hsh:=he.kC "shared"
 have hro:=he.kC "rounds"
 have hts:=he.kG "TopologicalSorter"
 have hw:lawB.drop 10=lawB.getD 10 default::lawB.getD 11 default::lawB.getD 12 default::lawB.getD 13 default::lawB.drop 14:=rfl
 rw[hw]
 refine ph (D:=g) (es:=grE h0 h1 (zi (za h0) (za h1))) ((zc _ _ gs).trans (zd ..)) λep=>?_
 have lgr:=J.gr
 have lst:=J.st
 have ll:=J.l1
 simp only at lgr lst ll
 refine Mine.gn (upd (upd (upd own0 g (.dct (grE h0 h1 (zi (za h0) (za h1))))) s (.dct (stE h0 h1 (zi (za h0) (za h1))))) g (.dcx (grE h0 h1 (zi (za h0) (za h1))) ep)) λf0 hown=>?_
 have hg0:f0 g=fm (.dcx (grD (kp h0 h1) (yT (za h0) (za h1))) ep):=by rw[←hown,zd,grE_grD]
 have hs0:f0 s=fm (.dct (stE h0 h1 (zi (za h0) (za h1)))):=by rw[←hown,zc _ _ (Hk gs),zd]
 clear hown J
 refine dH (fO (Ψo:=noO) (pL hts rfl (λK o=>o.made.1) (.cons (fq hgr lgr) (nst rfl) .nil) (λvs=>j9 hb H.inj hg0 hz)) (.inl hso) (λZ Z h=>h.elim) rfl) λd own1 E66=>?_
 ((refine xEA E66 λad E5 J1=>?_;clear E66;subst E5))
 have bd:=JI hz
 have J1:Inv f0 own1 ad (cont (kp h0 h1) dd (x0 (za h0) (za h1)) ad):=J1
 refine dH (fU (Ψo:=noO) (dj (fq hso rfl) J1.S J1.X rfl rfl (dc rfl) (i:=4) rfl .nil (λvs=>(qC (k:=k.up.up.up.up) hb H.inj J1 (x0_rd _ _) hf bd.1 bd.2).call)) (λZ Z h=>h.elim)) λd2 own2 E68=>?_
 ((refine xAEA E68 λE5 ad2 e2 J2=>?_;clear E68;subst E5))
 refine df (fO (Ψo:=noO) EVO.dict (.inr hsh) (λZ Z h=>h.elim) rfl) λa ha=>?_
 have J3:=J2.frN ha (.dct [])
 refine df (fO (Ψo:=noO) (EVO.list .nil (lb rfl)) (.inr hro) (λZ Z h=>h.elim) rfl) λr hr=>?_
 have J4:=J3.frN hr (.lst [])
 have ha:own2 a=fp:=ha
 have hr:upd own2 a (.dct []) r=fp:=hr
 have hs2:=(J2.fr s _ hs0).1
 have sa:s≠a:=λe=>by (replace hs2:=e ▸ hs2;replace hs2:=ha ▸ hs2);injection hs2
 have ra:r≠a:=λe=>by (replace hr:=e ▸ hr;rewrite [zd] at hr);injection hr
 have rs:r≠s:=λe=>by (replace hr:=e ▸ hr;replace hr:=zc _ _ sa ▸ hr;replace hr:=hs2 ▸ hr);injection hr
 refine h _ (ad .S) a r ⟨(((ll.set _ (dc rfl) (dc rfl) (dc rfl)).set _ (dc rfl) (dc rfl) (dc rfl)).set _ (dc rfl) (dc rfl) (dc rfl)),((lst)),(rfl),rfl,rfl⟩
  ⟨sa,_,ad2,e2,J4,?_,?_,zd ..⟩
 .rw[zc _ _ (Hk rs),zc _ _ sa];exact hs0
 .rw[zc _ _ (Hk ra),zd];rfl
end
theorem Jx:∀ (n:Nat) (s0 s1:List Int),s0.length<=n->subX (n+1) s0 s1=subX n s0 s1
 | 0,s0,s1,h=>by
  have:s0=[]:=Xm.mp (by exact XI h)
  subst this;rfl
 | n+1,s0,s1,h=>by
  show [[]]++(stX s0 s1).flatMap _=[[]]++(stX s0 s1).flatMap _
  congr 1
  rw[Kr,Kr]
  congr 1
  refine GT λs hs=>?_
  have g:=QR hs
  rw[Jx n _ _ (by rw[Hc];exact Nz.s8 h g.1)]
theorem uq:∀ (n:Nat) (s0 s1:List Int),∀ x∈subX n s0 s1,x.length<=n
 | 0,_,_,x,h=>by
  have:x=[]:=LI.mp h
  subst this;exact GI _
 | n+1,s0,s1,x,h=>by
  rcases KR.mp h with q | q
  .have:x=[]:=LI.mp q
   subst this;exact GU _
  .refine xEA (Ly.mp q) λs hs q=>?_
   refine xEA (Gr.mp q) λy hy E5=>?_;subst E5
   have:=uq n _ _ y hy
   show ([s.2.2]++y).length<=n+1
   rw[Gs,HL];lia
theorem qL {α β:Type} (f:α->List β) (B:Nat):∀ (l:List α),(∀ x∈l,(f x).length<=B)->(l.flatMap f).length<=l.length*B
 | [],_=>by exact G0.mp rfl
 | x::l,h=>by
  rw[Nh,Gs,GC,Nat.add_mul,Nat.one_mul]
  have h1:=h x Gp
  have h2:=qL f B l λy hy=>h y (Go _ hy)
  rw[LR];exact OF h2 h1
theorem qh:∀ (n:Nat) (s0 s1:List Int),(subX n s0 s1).length+1<=2 ^ (n+1)
 | 0,_,_=>by show 1+1<=2;exact lb rfl
 | n+1,s0,s1=>by
  show ([[]]++(stX s0 s1).flatMap _).length+1<=_
  rw[Gs]
  have:=qL (λs=>(subX n (s0.drop s.1) (s1.drop s.2.1)).map λrest=>[s.2.2]++rest) (2 ^ (n+1)-1) (stX s0 s1) (λs Z=>by
   have:=qh n (s0.drop s.1) (s1.drop s.2.1)
   rw[Ge];exact Nu this)
  have h2:=QH s0 s1
  have h3:(stX s0 s1).length*(2 ^ (n+1)-1)<=2*(2 ^ (n+1)-1):=Nat.mul_le_mul_right _ h2
  have h4:2 ^ (n+1+1)=2*2 ^ (n+1):=by rw[XE 2 (n+1)];exact Nat.mul_comm (2 ^ (n+1)) 2
  have h5:1<=2 ^ (n+1):=Nat.one_le_two_pow
  show ([[]]:List (List Int)).length+_+1<=_
  rw[HL,h4]
  exact Nz.pw this h3 h5
section
variable {h0 h1:List Int}
theorem shV_len (c:Nat):(shV h0 h1 c).length<=63:=by
 have:=qh 5 ((za h0).drop (c / 8)) ((za h1).drop (c%8))
 show (subX 5 _ _).length<=63
 exact XG ‹_›
theorem shV_each (c:Nat):∀ x∈shV h0 h1 c,x.length<=5:=uq 5 _ _
theorem shV_eq (H:Hs h0 h1) {i j:Nat} (hi:i<=(za h0).length) (hj:j<=(za h1).length) :
  shV h0 h1 (8*i+j)=[[]]++(stX ((za h0).drop ((8*i+j) / 8)) ((za h1).drop ((8*i+j)%8))).flatMap λs=>(shV h0 h1 (8*i+j+8*s.1+s.2.1)).map λrest=>[s.2.2]++rest:=by
 have r0:=H.r0
 have r1:=H.r1
 show [[]]++(stX _ _).flatMap _=_
 congr 1
 rw[Kr,Kr]
 congr 1
 refine GT λs hs=>?_
 refine xAA (tg_in H hi hj hs) λe g1 g2=>?_
 have f1:(8*i+j+8*s.1+s.2.1) / 8=(8*i+j) / 8+s.1:=(AU g2 r1).trans (congrArg (· + s.1) (dK hj r1).symm)
 have f2:(8*i+j+8*s.1+s.2.1)%8=(8*i+j)%8+s.2.1:=(AM g2 r1).trans (congrArg (· + s.2.1) (dI hj r1).symm)
 show (subX 4 _ _).map _=(subX 5 _ _).map _
 rw[Jx 4 _ _ (by rw[Hc];exact Gc (OD ..) r0),f1,f2,List.drop_drop,List.drop_drop]
theorem jV (H:Hs h0 h1) {i j:Nat} (hi:i<=(za h0).length) (hj:j<=(za h1).length) {d:PV} (hd:d∈stD h0 h1 (8*i+j)) :
  ∃ t n x y,t∈tgX (za h0) (za h1) (8*i+j)/\kp h0 h1 t=[x,y]/\d=.tup [.int x,.int y,.int n]:=by
 have n0:=H.n0
 have n1:=H.n1
 have x0:=H.X0.len
 have x1:=H.X1.len
 refine xEA (Gr.mp hd) λs hs E5=>?_;subst E5
 refine xAA (tg_in H hi hj hs) λe g1 g2=>?_
 have e1:(8*(i+s.1)+(j+s.2.1)) / 8=i+s.1:=dK g2 H.r1
 have e2:(8*(i+s.1)+(j+s.2.1))%8=j+s.2.1:=dI g2 H.r1
 refine iEEEEAA _ s.2.2 _ _ (Gr.mpr ⟨s,hs,rfl⟩) (by rw[e];exact vc (x0 ▸ GW g1) (x1 ▸ GW g2) (by exact Gc ‹_› (lb rfl))) ?_
 rw[e];delta stT;rw[e1,e2]
noncomputable def newB (E:DE) (d:PV):Bool:=d.onT Gk λl=>PV.on3 l Gk λa b _=>a.onI Gk λx=>b.onI Gk λy=>!(E.lookup [x,y]).isSome
noncomputable def xT (E:DE) (d:PV):List PV:=d.onT [] λl=>PV.on3 l [] λa b _=>a.onI [] λx=>b.onI [] λy=>((E.lookup [x,y]).getD .none).onL [] λxs=>xs
noncomputable def consD (d e:PV):PV:=d.onT e λl=>PV.on3 l e λ_ _ c=>c.onI e λn=>e.onL e λxs=>.lst (.int n::xs)
theorem vp (H:Hs h0 h1) {L:List Nat} {t:Nat} (ht:t∈L):(shE h0 h1 L).lookup (kp h0 h1 t)=fm (.lst (llD (shV h0 h1 t))):=by
 delta shE;rw[yF H.inj,if_pos ht]
theorem ZV (H:Hs h0 h1) {L:List Nat} {i j:Nat} (hi:i<=(za h0).length) (hj:j<=(za h1).length) (ht:∀ t∈tgX (za h0) (za h1) (8*i+j),t∈L) :
  PV.lst []::((stD h0 h1 (8*i+j)).flatMap λd=>(xT (shE h0 h1 L) d).map (consD d))=llD (shV h0 h1 (8*i+j)):=by
 have n0:=H.n0
 have n1:=H.n1
 have x0:=H.X0.len
 have x1:=H.X1.len
 rw[shV_eq H hi hj]
 delta llD
 rw[GG]
 show _=PV.lst []::_
 congr 1
 rw[VS]
 delta stD
 rw[VT]
 rw[Kr,Kr]
 congr 1
 refine GT λs hs=>?_
 refine xAA (tg_in H hi hj hs) λe g1 g2=>?_
 have e1:(8*(i+s.1)+(j+s.2.1)) / 8=i+s.1:=dK g2 H.r1
 have e2:(8*(i+s.1)+(j+s.2.1))%8=j+s.2.1:=dI g2 H.r1
 have hk:kp h0 h1 (8*(i+s.1)+(j+s.2.1))=[(((psOf h0).getD (i+s.1) 0:Nat):Int),(((psOf h1).getD (j+s.2.1) 0:Nat):Int)]:=vc (x0 ▸ GW g1) (x1 ▸ GW g2) (by exact Gc ‹_› (lb rfl))
 have hin:=ht _ (Gr.mpr (iEA s hs rfl))
 rw[e] at hin ⊢
 have hg:=vp H hin
 replace hg:=hk ▸ hg
 delta stT
 rw[e1,e2]
 show ((((shE h0 h1 L).lookup [_,_]).getD .none).onL [] λxs=>xs).map _=_
 rw[hg]
 show (llD (shV h0 h1 _)).map _=_
 delta llD
 rw[GL,GL]
 refine GT λx Z=>rfl
end
noncomputable def lawW:List HF:=zt (lawB.getD 14 default)
noncomputable def lawP:List HF:=zt (lawW.getD 1 default)
theorem zac {h0 h1:List Int} (H:Hs h0 h1) {L:List Nat} {i j:Nat} (hi:i<=(za h0).length) (hj:j<=(za h1).length) (ht:∀ t∈tgX (za h0) (za h1) (8*i+j),t∈L):(stD h0 h1 (8*i+j)).filter (newB (shE h0 h1 L))=[]:=by
 rw[Tk]
 intro d hd
 refine yR (jV H hi hj hd) λt n x y m hk E5=>?_;subst E5
 have:=vp H (ht t m)
 replace this:=hk ▸ this
 show ¬ ((!((shE h0 h1 L).lookup [x,y]).isSome)=Gh)
 rw[this];(intro h;injection h;done)
section
variable {h0 h1:List Int} {g s S a r:Gn} {b:Bool} {L:List Nat} {rs:List (List Nat)} {x:SX} {i j:Nat}
theorem stD_at (he:Law env) (H:Hs h0 h1) (ls:ρ.loc.lookup (oS "steps")=fm (.ref s)) (os:ρ.own s=fm (.dct (stE h0 h1 (zi (za h0) (za h1))))) (lp:ρ.loc.lookup (oS "pair")=fm (keyD (kp h0 h1) (8*i+j))) (hi:i<=(za h0).length) (hj:j<=(za h1).length) {p1 p2 p3:Pos} :
  EVd w k env ρ (.Subscript (.Name (oS "steps") p1) (.Name (oS "pair") p2) p3) (.lst (stD h0 h1 (8*i+j))):=by
 have hst:=he.kL "steps"
 have hpa:=he.kL "pair"
 have r1:=H.r1
 exact dB (fq hst ls) (.inl os) (fq hpa lp) (by delta stE;rw[yF H.inj,if_pos (by rw[yw H.r1];exact AE ‹_› ‹_› ‹_›)])
theorem law_p0 (hb:k.b=Gh) (he:Law env) (H:Hs h0 h1) (lsh:ρ.loc.lookup (oS "shared")=fm (.ref a)) (ls:ρ.loc.lookup (oS "steps")=fm (.ref s)) (W:WO h0 h1 s S a r x L rs ρ.own)
  (lp:ρ.loc.lookup (oS "pair")=fm (keyD (kp h0 h1) (8*i+j))) (hi:i<=(za h0).length) (hj:j<=(za h1).length) (ht:∀ t∈tgX (za h0) (za h1) (8*i+j),t∈L) :
  EX1 w k env ρ (lawP.getD 0 default) (λp ρ'=>p=.next/\ρ'=ρ) Ψ:=by
 show let Φ':=_;let Ψ':=_;EX1 _ _ _ _ _ Φ' Ψ';intro Φ' Ψ'
 have hsh:=he.kC "shared"
 have hres:((stD h0 h1 (8*i+j)).filter (newB (shE h0 h1 L))).map id=[]:=by rw[zac H hi hj ht];rfl
 refine fI (b:=false) (fE (d1:=.lst []) (d2:=.lst []) ?_ (EVd.list .nil (lb rfl)) (λv1 v2=>xF (n:=1) (.lst 0 _ λd hd=>by cases hd) (lb rfl) (.inl ⟨_,rfl⟩))) (λh=>nomatch h) (λZ=>EX.nil ⟨rfl,rfl⟩)
 rw[←hres]
 refine fK (CO:=λZ=>True) [(oS "shared",.ref a)] (stD_at he H ls W.os lp hi hj) (Itb.lst hb) trivial rfl (dc rfl) (λy hy hfr=>?_) (λy d hy=>?_)
  (fF (newB (shE h0 h1 L)) id (.inl rfl) trivial rfl (by have:=QK h0 h1 (8*i+j);exact Gc ‹_› (lb rfl)) (λcenv hce d hd=>?_) (λcenv hce d hd Z=>fq (hce.kindIs (kd:=.local) rfl) rfl))
 .simp only[Gi,Gl,or_false] at hy
  rcases hy with rfl | rfl | rfl<;>first | (injection hfr;done) | exact hsh
 .by_cases q:y=oS "shared"
  .subst q;replace hy:=ze ▸ hy;(injection hy with E1;subst E1);exact⟨lsh,rfl⟩
  .replace hy:=zb q ▸ hy;injection hy
 .refine yR (jV H hi hj hd) λt n x y m hk E5=>?_;subst E5
  exact xI (fE (d1:=.tup (intL [x,y])) (fN (fq (hce.kindIs (kd:=.local) rfl) rfl) .none (.some EVd.int) .none vo yD (λv1 sl vl vu vs pl pu ps=>xP pl pu ps)) (fx (.inr (hce.kindIs (kd:=.free) rfl)) rfl) (λv1 v2=>qv (.inl W.oa)))
theorem law_p1 (hb:k.b=Gh) (he:Law env) (H:Hs h0 h1) (lsh:ρ.loc.lookup (oS "shared")=fm (.ref a)) (ls:ρ.loc.lookup (oS "steps")=fm (.ref s)) (W:WO h0 h1 s S a r x L rs ρ.own) (hL:L.length<=1000)
  (lp:ρ.loc.lookup (oS "pair")=fm (keyD (kp h0 h1) (8*i+j))) (hi:i<=(za h0).length) (hj:j<=(za h1).length) (ht:∀ t∈tgX (za h0) (za h1) (8*i+j),t∈L) (hn:8*i+j∉L) :
  EX1 w k env ρ (lawP.getD 1 default) (λp ρ'=>p=.next/\ρ'=⟨ρ.loc,upd ρ.own a (.dct (shE h0 h1 (L++[8*i+j])))⟩) Ψ:=by
 have hsh:=he.kC "shared"
 have hpa:=he.kL "pair"
 have hfl:=ZV H hi hj ht
 have hlen:((stD h0 h1 (8*i+j)).flatMap λd=>(xT (shE h0 h1 L) d).map (consD d)).length<=1000:=by
  have:=congrArg List.length hfl
  replace this:=GC ▸ this;rewrite [zA] at this
  have:=shV_len (h0:=h0) (h1:=h1) (8*i+j)
  lia
 rw[show shE h0 h1 (L++[8*i+j])=putT (shE h0 h1 L) (kp h0 h1 (8*i+j)) (.lst (llD (shV h0 h1 (8*i+j)))) from (jZ H.inj hn).symm,←hfl]
 refine dD (fC (d1:=.lst [.lst []]) (d2:=.lst ((stD h0 h1 (8*i+j)).flatMap λd=>(xT (shE h0 h1 L) d).map (consD d))) (EVd.list (.cons (EVd.list .nil (lb rfl)) (nst rfl) .nil) (by show 1<=100000;exact lb rfl)) ?_ (λv1 v2=>xD (by show 1+_<=100000;lia))) (fx (.inr hsh) lsh) (fq hpa lp) W.oa (by delta shE;rw[Ge];exact hL)
 refine fK (CO:=λZ=>True) [(oS "shared",.ref a)] (stD_at he H ls W.os lp hi hj) (Itb.lst hb) trivial rfl (dc rfl) (λy hy hfr=>?_) (λy d hy=>?_)
  (pz (λd=>.lst (xT (shE h0 h1 L) d)) (xT (shE h0 h1 L)) consD (.inl rfl) (.inl rfl) (dc rfl) trivial rfl rfl (by exact Gc ‹_› (lb rfl)) (λcenv hce d hd=>?_) (λZ Z=>True) (λd hd=>⟨Itb.lst hb,trivial⟩) (λcenv hce d hd e he'=>?_))
 .simp only[Gi,Gl,or_false] at hy
  rcases hy with rfl | rfl | rfl | rfl<;>first | (injection hfr;done) | exact hsh
 .by_cases q:y=oS "shared"
  .subst q;replace hy:=ze ▸ hy;(injection hy with E1;subst E1);exact⟨lsh,rfl⟩
  .replace hy:=zb q ▸ hy;injection hy
 .refine yR (jV H hi hj hd) λt n x y m hk E5=>?_;subst E5
  have hg:=vp H (ht t m)
  replace hg:=hk ▸ hg
  have hr:xT (shE h0 h1 L) (.tup [.int x,.int y,.int n])=llD (shV h0 h1 t):=by
   show ((((shE h0 h1 L).lookup [x,y]).getD .none).onL [] λxs=>xs)=_
   rw[hg];rfl
  show EVd w k cenv _ _ (.lst (xT _ _))
  rw[hr]
  exact dB (ks:=[x,y]) (fx (.inr (hce.kindIs (kd:=.free) rfl)) rfl) (.inl W.oa) (fN (fq (hce.kindIs (kd:=.local) rfl) rfl) .none (.some EVd.int) .none vo yD (λv1 sl vl vu vs pl pu ps=>xP pl pu ps)) hg
 .refine yR (jV H hi hj hd) λt n x y m hk E5=>?_;subst E5
  have hg:=vp H (ht t m)
  replace hg:=hk ▸ hg
  have hr:xT (shE h0 h1 L) (.tup [.int x,.int y,.int n])=llD (shV h0 h1 t):=by
   show ((((shE h0 h1 L).lookup [x,y]).getD .none).onL [] λxs=>xs)=_
   rw[hg];rfl
  replace he':=hr ▸ he'
  refine xEA (Gr.mp he') λl hl E5=>?_;subst E5
  have hl5:=shV_each t l hl
  refine fC (d1:=.lst [.int n]) (d2:=.lst (intL l)) (EVd.list (.cons (EVd.sub (d2:=.int 2) (fq (hce.kindIs (kd:=.local) rfl) (rfl)) EVd.int vo yD (λv1 v2=>x9 (i:=2) rfl (by show 3<=100000;exact lb rfl))) (nst rfl) .nil) (by show 1<=100000;exact lb rfl))
   (fq (hce.kindIs (kd:=.local) rfl) rfl) (λv1 v2=>xD (by show 1+(l.map _).length<=_;rw[Ge];lia))
end
theorem Q0 {r0 r1:List Int}:∀ {r:List Nat} {L:List Nat},yU (vz r0 r1) (λks c=>ks++[c]) L r=Gh->L.Nodup->(∀ c∈L,c∈zi r0 r1)->(L++r).Nodup/\∀ c∈L++r,c∈zi r0 r1
 | [],L,_,nd,hs=>by rw[Hl];exact⟨nd,hs⟩
 | c::r,L,h,nd,hs=>by
  have h:(vz r0 r1 L c&&yU (vz r0 r1) (λks c=>ks++[c]) (L++[c]) r)=Gh:=h
  rewrite [GE] at h
  obtain⟨h1,h2⟩:=h
  delta vz at h1
  simp only[GE,KP,Ki] at h1
  have hc:c∉L:=λq=>by have:=h1.1.1;replace this:=Gj (Gq (Ki.mpr q)) this;injection this
  have:=Q0 h2 (by
   rw[VE]
   refine⟨nd,by simp,λa ha b hb e=>?_⟩
   have:b=c:=LI.mp hb
   subst this;subst e;exact hc ha) (λd hd=>by
   rcases KR.mp hd with q | q
   .exact hs d q
   .have:d=c:=LI.mp q
    subst this;exact h1.2)
  rewrite [He] at this
  exact this
theorem keys_at {r0 r1:List Int} {r L:List Nat} (h:yU (vz r0 r1) (λks c=>ks++[c]) L r=Gh) {i:Nat} {c:Nat} (hi:r[i]? = fm c):c∉L++r.take i/\(∀ t∈tgX r0 r1 c,t∈L++r.take i)/\c∈zi r0 r1:=by
 have:=xY h hi
 have e:∀ (l L:List Nat),l.foldl (λks c=>ks++[c]) L=L++l:=by
  intro l
  induction l with
  | nil=>intro L;exact Gq (Hl L)
  | cons c l ih=>intro L;rw[Km,ih];exact Gq (O9 L c l)
 rewrite [e] at this
 delta vz at this
 simp only[GE,KP,Kt,Ki] at this
 refine xA this λE31 c=>?_;try clear this;(refine xA E31 λa b=>?_;clear E31)
 refine⟨λq=>?_,b,c⟩
 replace a:=Gj (Gq (Ki.mpr q)) a;injection a
structure WS (h0 h1:List Int) (s S a r:Gn) (st:Sim) (ρ:PSt):Prop where
 wl:WL h0 h1 s S a r ρ.loc
 wo:WO h0 h1 s S a r st.x st.rs.flatten st.rs ρ.own
 rd:∃ l,st.x.rd=fm l/\l.length<=1000
 len:st.rs.length<=24
 nd:st.rs.flatten.Nodup
 sub:∀ c∈st.rs.flatten,c∈zi (za h0) (za h1)
theorem codes_le {r0 r1:List Int} (h0:r0.length<=4) (h1:r1.length<=3) {L:List Nat} (nd:L.Nodup) (h:∀ c∈L,c∈zi r0 r1):L.length<=20 :=
 Gc (ST.nodup_le nd h) (Jz h0 h1)
section
variable {h0 h1:List Int} {g s S a r:Gn} {b:Bool} {L:List Nat} {rs:List (List Nat)} {x:SX} {i j:Nat}
theorem WL.set {loc:List (Str×PV)} (h:WL h0 h1 s S a r loc) (d:PV) {y:Str} (hy:y=oS "pair"):WL h0 h1 s S a r ((y,d)::loc):=by
 subst hy
 exact⟨h.l1.set d (dc rfl) (dc rfl) (dc rfl),h.st,h.so,h.sh,h.ro⟩
theorem WO.put {own:Own} (W:WO h0 h1 s S a r x L rs own) (c:Nat):WO h0 h1 s S a r x (L++[c]) rs (upd own a (.dct (shE h0 h1 (L++[c])))):=by
 obtain⟨sa,f,ad,e,J,fs,fa,fr⟩:=W
 have ra:r≠a:=λq=>by (replace fr:=q ▸ fr;replace fr:=Gj (Gq (fa)) fr);(injection fr with E1;injection E1)
 exact⟨sa,_,ad,e,J.frS fa _,(zc _ _ sa).trans fs,zd ..,(zc _ _ ra).trans fr⟩
theorem qc (he:Law env) (W:WO h0 h1 s S a r x L rs ρ.own) (ls:ρ.loc.lookup (oS "sorter")=fm (.ref S)) {l:List Nat} (hr:x.rd=fm l) (hl:l.length<=1000) {p1 p2 p3:Pos}
  (hline:(p2.endLine==p3.line)=Gh:=by rfl):EVd w k.up env ρ (.Call (.Attribute (.Name (oS "sorter") p1) (oS "is_active") p2) [] [] p3) (.bool x.active):=by
 have hso:=he.kL "sorter"
 obtain⟨sa,f,ad,e,J,fs,fa,fr⟩:=W
 subst e
 exact Aw (EVO.mono (dj (Ψo:=noO) (fq hso ls) J.S J.X rfl rfl (dc rfl) (i:=6) rfl .nil (λvs=>(uZ J hr hl).call) (hline:=hline)) (λd o h=>⟨h.1,by rw[h.2];exact OLe.refl _⟩) (λZ Z h=>h))
theorem Q8 {vs:List Gd} (W:WO h0 h1 s S a r x L rs ρ.own) (h:rs.length<=1000):PR w k ρ.own (λI=>VRs I vs [.ref r]) (call (.builtin "len") vs) (λI v=>VR I v (.int rs.length)):=by
 have e:(rdsD h0 h1 rs).length=rs.length:=Ge ..
 have:=vK (w:=w) (k:=k) (vs:=vs) W.or (by lia)
 replace this:=e ▸ this;exact this
set_option tactic.hygienic true in
theorem law_w (hb:k.b=Gh) (he:Law env) (H:Hs h0 h1) {st st':Sim} (W:WS h0 h1 s S a r st ρ) (h24:st.rs.length<24) (hst:uP (za h0) (za h1) st=fm st') :
  EX w k.up env ρ lawW (λp ρ'=>p=.next/\WS h0 h1 s S a r st' ρ') Ψ:=by
 show let Φ':=_;let Ψ':=_;EX _ _ _ _ _ Φ' Ψ';intro Φ' Ψ'
 have hso:=he.kL "sorter"
 have hro:=he.kC "rounds"
 have hpa:=he.kL "pair"
 refine xEA (W.rd) λl hrd hll=>?_
 have hrl:rdL st.x=l:=by delta rdL;rw[hrd];rfl
 delta uP at hst
 replace hst:=hrl ▸ hst
 split at hst
 case isFalse=>injection hst
 rename_i hc
 (injection hst with E1;subst E1)
 show let Φ':=_;let Ψ':=_;EX _ _ _ _ _ Φ' Ψ';intro Φ' Ψ'
 simp only[GE,decide_eq_true_eq] at hc
 refine xA hc λE32 c4=>?_;try clear hc;(refine xA E32 λE30 c3=>?_;clear E32;obtain⟨c1,c2⟩:=E30)
 refine xA (Q0 c2 W.nd W.sub) λkn ks=>?_
 have klen:=codes_le H.r0 H.r1 kn ks
 replace klen:=Gs ▸ klen
 have hin:∀ c∈l,st.x.nd.lookup c≠fp:=λc hc=>by
  have:=Kt.mp c1 c hc
  exact Option.isSome_iff_ne_none.mp this
 obtain⟨loc,own⟩:=ρ
 obtain⟨sa,f,ad,eS,J,fs,fa,fr⟩:=W.wo
 have wl:=W.wl
 simp only at wl J
 have hlw:lawW=[lawW.getD 0 default,lawW.getD 1 default,lawW.getD 2 default]:=rfl
 rw[hlw]
 have rl:(rdsD h0 h1 st.rs).length<=1000:=by show (st.rs.map _).length<=_;rw[Ge];lia
 refine dH (fU (Ψo:=noO) (EVO.append (Θ:=λd own'=>d=.tup (l.map (keyD (kp h0 h1)))/\Inv f own' ad (cont (kp h0 h1) dd (st.x.got l) ad)) (fx (.inr hro) wl.ro) (J.fr _ _ fr).1
  (dj (fq hso (eS ▸ wl.so)) J.S J.X rfl rfl (dc rfl) (i:=5) rfl .nil (λvs=>(JU hb H.inj J hrd ‹_› hin).call)) (nst rfl) (λd own1 h=>(iEA _ ((h.2.fr _ _ fr).1) (by exact Gc ‹_› (lb rfl))))) (λZ Z h=>h.elim)) λd own2 E25=>?_
 ((refine zs E25 λd1 own1 ds E33 hds E34 E35=>?_;clear E25;(refine xA E33 λE30 J1=>?_;clear E33;subst E30);subst E34;subst E35))
 have hds2:ds=rdsD h0 h1 st.rs:=by
  have:=(J1.fr _ _ fr).1
  replace this:=Gj (Gq (hds)) this;injection this with q;injection q
 subst hds2
 have ra:r≠a:=λq=>by (replace fr:=q ▸ fr;replace fr:=Gj (Gq (fa)) fr);(injection fr with E1;injection E1)
 have rs':r≠s:=λq=>by (replace fr:=q ▸ fr;replace fr:=Gj (Gq (fs)) fr);(injection fr with E1;injection E1)
 have erd:rdsD h0 h1 (st.rs++[l])=rdsD h0 h1 st.rs++[.tup (l.map (keyD (kp h0 h1)))]:=by delta rdsD;rw[GG];rfl
 have W2:WO h0 h1 s S a r (st.x.got l) st.rs.flatten (st.rs++[l]) (upd own1 r (.lst (rdsD h0 h1 st.rs++[.tup (l.map (keyD (kp h0 h1)))]))) :=
  ⟨sa,_,ad,eS,J1.frS fr _,(zc _ _ (Hk rs')).trans fs,(zc _ _ (Hk ra)).trans fa,by rw[erd];exact zd ..⟩
 generalize upd own1 r (.lst (rdsD h0 h1 st.rs++[.tup (l.map (keyD (kp h0 h1)))]))=own3 at W2
 clear J J1 hds fs fa fr f
 have hlast:∀ {ρ':PSt} {own':Own} {L:List Nat} {x:SX} {p1 p2 p3 p4:Pos} {c:Nat},WO h0 h1 s S a r x L (st.rs++[l]) own'->ρ'.own=own'->ρ'.loc.lookup (oS "rounds")=fm (.ref r) ->
   EVd w k.up env ρ' (.Subscript (.Name (oS "rounds") p1) (.UnaryOp .USub (.Constant (.int 1) c p2) p3) p4) (.tup (l.map (keyD (kp h0 h1)))):=λW ho hl =>
  EVd.sub (fx (.inr hro) hl) (dZ EVd.int) (jt (ho ▸ W.or)) zh (λv1 v2=>x5 (ho ▸ W.or) (by rw[erd,XZ]) (by rw[erd,Gs,HL];lia))
 refine fy (D:=λρ=>WL h0 h1 s S a r ρ.loc/\WO h0 h1 s S a r (st.x.got l) (st.rs.flatten++l) (st.rs++[l]) ρ.own) (f8 (CO:=λZ=>True) (ds:=l.map (keyD (kp h0 h1))) hb (hlast W2 rfl wl.ro) (Itb.tup hb) (.inl hpa)
  (λi ρ=>WL h0 h1 s S a r ρ.loc/\WO h0 h1 s S a r (st.x.got l) (st.rs.flatten++l.take i) (st.rs++[l]) ρ.own) ⟨wl,by rw[List.take_zero,Hl];exact W2⟩ (λZ Z Z=>trivial) ?_ (λρ' h=>EX.nil ⟨rfl,?_⟩)) ?_
 .intro i d ρ4 hd E9;refine xA E9 λwl4 W4=>?_;clear E9
  ac_rfl
  replace hd:=Gj (Gq (Gx)) hd;rewrite [Gz] at hd
  refine xEA hd λc hc E5=>?_;try clear hd;subst E5
  refine xAA (keys_at c2 hc) λk1 k2 k3=>?_
  rewrite [yw H.r1] at k3
  have ec:c=8*(c / 8)+c%8:=by exact Gq (Wp c 8)
  have hlp:lawP=[lawP.getD 0 default,lawP.getD 1 default]:=rfl
  show EX w k.up env _ lawP _ _
  rw[hlp]
  have wl5:=wl4.set (keyD (kp h0 h1) c) rfl
  have W5:WO h0 h1 s S a r (st.x.got l) (st.rs.flatten++l.take i) (st.rs++[l]) (ρ4.set (oS "pair") (keyD (kp h0 h1) c)).own:=W4
  have lp5:(ρ4.set (oS "pair") (keyD (kp h0 h1) c)).loc.lookup (oS "pair")=fm (keyD (kp h0 h1) (8*(c / 8)+c%8)):=by rw[←ec];exact rfl
  generalize hρ5:ρ4.set (oS "pair") (keyD (kp h0 h1) c)=ρ5 at W5 lp5
  have wl5:WL h0 h1 s S a r ρ5.loc:=by rw[←hρ5];exact wl5
  rw[ec] at k1 k2
  have tk:l.take (i+1)=l.take i++[c]:=by rw[Hx,hc];rfl
  refine EX.step (law_p0 hb he H wl5.sh wl5.st W5 lp5 k3.1 k3.2 k2) ?_
  refine fw (fS (law_p1 hb he H wl5.sh wl5.st W5 (by rw[Gs];have:=Lh i l;lia) lp5 k3.1 k3.2 k2 k1) ?_)
  refine⟨wl5,?_⟩
  rw[tk,←He]
  have:=W5.put (8*(c / 8)+c%8)
  rw[←ec] at this ⊢
  exact this
 ·(rewrite [Ge] at h;replace h:=Kq ▸ h);exact h
 .rintro⟨loc6,own6⟩ E9
  refine xA E9 λwl6 W6=>?_;clear E9
  obtain⟨_,f,ad,eS,J,fs,fa,fr⟩:=id W6
  refine fw (pZ (fU (Ψo:=noO) (pv (g:=120) (fq hso (eS ▸ wl6.so)) J.S J.X rfl rfl (dc rfl) rfl (i:=7) rfl (λvs=>ZQ hb H.inj J rfl c3 ‹_›) rfl (λf=>star_one (hlast W6 rfl wl6.ro) (.inr rfl) (by rw[Ge];assumption) f)) (λZ Z h=>h.elim)) ?_)
  intro d own' E28;(refine xA E28 λE30 J7=>?_;clear E28;subst E30)
  have fl:(st.rs++[l]).flatten=st.rs.flatten++l:=by exact List.flatten_concat
  refine⟨rfl,wl6,?_,?_,by show (st.rs++[l]).length<=24;rw[Gs,HL];exact Hi ‹_›,?_,?_⟩
  .show WO h0 h1 s S a r _ (st.rs++[l]).flatten (st.rs++[l]) own'
   rw[fl];exact⟨sa,f,ad,eS,J7,fs,fa,fr⟩
  .have:∀ (l:List Nat) (y:SX),y.rd.isSome=Gh->(l.foldl yc y).rd.isSome=Gh:=by
    intro l
    induction l with
    | nil=>intro y h;exact h
    | cons c l ih=>intro y h;exact ih _ (qz h)
   have h1:=this l (st.x.got l) rfl
   refine xE (Hz.mp h1) λl' e=>?_
   refine iEA l' e ?_
   unfold rdL at c4
   replace c4:=e ▸ c4;exact c4
  .show (st.rs++[l]).flatten.Nodup
   rw[fl];exact kn
  .show ∀ c∈(st.rs++[l]).flatten,_
   rw[fl];exact ks
end
noncomputable def chs (row:List Int):List PV:=(GH (row.length+1)).map λi=>.lst (llD (zZ (row.drop i)))
noncomputable def chD (h0 h1:List Int):List PV:=[.lst (chs (za h0)),.lst (chs (za h1))]
section
variable {h0 h1:List Int} {g s S a r:Gn} {b:Bool} {L:List Nat} {rs:List (List Nat)} {x:SX} {i j:Nat}
theorem Z4 (hb:k.b=Gh) (he:Law env) (H:Hs h0 h1) {n:Nat} {st stE:Sim} (W:WS h0 h1 s S a r st ρ) (hrun:xX (za h0) (za h1) n st=fm stE) :
  EX1 w k.up env ρ (lawB.getD 14 default) (λp ρ'=>p=.next/\WS h0 h1 s S a r stE ρ') Ψ:=by
 show let Φ':=_;let Ψ':=_;EX1 _ _ _ _ _ Φ' Ψ';intro Φ' Ψ'
 have hro:=he.kC "rounds"
 have hlen:=he.kG "len"
 refine dC (λn ρ=>∃ st,xX (za h0) (za h1) n st=fm stE/\WS h0 h1 s S a r st ρ) (λn b ρ=>∃ st,xX (za h0) (za h1) n st=fm stE/\WS h0 h1 s S a r st ρ/\b=(st.x.active&&decide (st.rs.length<24))) ?_ ?_ ?_ n (iEA st hrun W)
 .intro n ρ E9;refine xEA E9 λst hr W=>?_;clear E9
  refine xEA (W.rd) λl e1 e2=>?_
  have h24:=W.len
  have hT:TDb w k.up env ρ (exprOf (lawB.getD 14 default)) (st.x.active&&decide (((st.rs.length:Nat):Int)<24)) :=
   dY (TDb.val (qc he W.wo W.wl.so e1 e2)) (λZ=>fE (fB hlen rfl (.cons (fx (.inr hro) W.wl.ro) (nst rfl) .nil) (λvs=>Q8 W.wo (by exact Gc ‹_› (lb rfl)))) (EVd.int (i:=24)) (λv1 v2=>pr_lt))
  intro A l F I s hA X
  show let Q':=_;let E':=_;Gf _ _ _ Q' E' _;intro Q' E'
  refine Gm (pn (Ψ:=Ψ) hT A l F I s hA X) ?_ λZ Z h=>h
  rintro b s' ⟨I',ρ',q1,q2,q3,rfl,rfl⟩
  refine⟨I',ρ',q1,q2,q3,st,hr,W,?_⟩
  congr 1
  rw[decide_eq_decide];lia
 .intro n ρ E9;refine xEAA E9 λst hr W hbt=>?_;clear E9
  match n,hr with
  | n+1,hr =>
   unfold xX at hr
   replace hr:=(Gq hbt) ▸ hr;replace hr:=Gj (Gq (if_pos rfl)) hr
   rewrite [eq_comm,GE,decide_eq_true_eq] at hbt
   cases e:uP (za h0) (za h1) st with
   | none=>replace hr:=e ▸ hr;injection hr
   | some st' =>
    replace hr:=e ▸ hr
    refine EX.mono (law_w hb he H W hbt.2 e) ?_
    intro p ρ' E9
    refine E9.casesOn λE20 W'=>?_;clear E9;subst E20
    exact iEAEA n (Oa n) st' hr W'
 .intro n ρ E9;refine xEAA E9 λst hr W hbt=>?_;clear E9
  match n,hr with
  | n+1,hr =>
   unfold xX at hr
   replace hr:=(Gq hbt) ▸ hr;replace hr:=Gj (Gq (if_neg (dc rfl))) hr
   (injection hr with E1;subst E1)
   exact EX.nil ⟨rfl,W⟩
theorem law_ch (hb:k.b=Gh) (he:Law env) (H:Hs h0 h1) (J:L1 h0 h1 ρ.loc):EX1 w k.up env ρ (lawB.getD 16 default) (λp ρ'=>p=.next/\ρ'=ρ.set (oS "choices") (.lst (chD h0 h1))) Ψ:=by
 show let Φ':=_;let Ψ':=_;EX1 _ _ _ _ _ Φ' Ψ';intro Φ' Ψ'
 have hch:=he.kC "choices"
 have hpl:=he.kC "places"
 have hro:=he.kC "rows"
 have hrange:=he.kG "range"
 have r0:=H.r0
 have r1:=H.r1
 let h:Int->List Int:=λn=>if n=0 then h0 else h1
 let f:PV->PV:=λd=>d.onI d λn=>.lst (chs (za (h n)))
 have hres:((rngL 2).filter (λZ=>Gh)).map f=chD h0 h1:=rfl
 rw[←hres]
 refine fT ?_ (.inr hch) (by delta Lq Vp WW;rw[show env.scope=zf lawF from he];rfl)
 refine fK (CO:=λZ=>True) [(oS "places",.lst (zp h0 h1)),(oS "rows",.lst (llD [za h0,za h1]))] (fG hrange rfl (.cons (EVd.int (i:=2)) (nst rfl) .nil) (λvs=>zK)) (Itb.rng hb (lb rfl)) trivial rfl (dc rfl) (λy hy hfr=>?_) (λy d hy=>?_)
  (fF (λZ=>Gh) f (.inr rfl) trivial rfl (by rw[zx];exact lb rfl) (λcenv hce d hd=>z6) (λcenv hce d hd Z=>?_))
 .simp only[Gi,Gl,or_false] at hy
  rcases hy with rfl | rfl | rfl | rfl | rfl | rfl | rfl<;>first | (injection hfr;done) | exact hpl | exact hro
 .by_cases q:y=oS "places"
  .subst q;replace hy:=Gj (Gq (rfl)) hy;(injection hy with E1;subst E1);exact⟨J.places,rfl⟩
  .replace hy:=Gj (Gq (zb q)) hy
   by_cases q:y=oS "rows"
   .subst q;replace hy:=Gj (Gq (rfl)) hy;(injection hy with E1;subst E1);exact⟨J.rows,rfl⟩
   .replace hy:=Gj (Gq (zb q)) hy;injection hy
 .obtain⟨n,rfl,hn0,hpn,hrn,hln⟩:∃ n:Int,d=.int n/\0<=n/\(zp h0 h1)[n.toNat]? = fm (.lst (natL (psOf (h n))))/\(llD [za h0,za h1])[n.toNat]? = fm (.lst (intL (za (h n))))/\(psOf (h n)).length=(za (h n)).length+1/\(za (h n)).length<=4:=by
   refine xEA (Gr.mp hd) λm hm E5=>?_;subst E5
   have hm:m<2:=Hn.mp hm
   have:m=0\/m=1:=by lia
   rcases this with rfl | rfl
   .exact Q3 _ rfl (dc rfl) rfl rfl H.X0.len H.r0
   .exact Q3 _ rfl (dc rfl) rfl rfl H.X1.len (by show (za h1).length<=4;exact N2 ‹_›)
  have c1:Nm cenv (oS "places"):=.inr (hce.kindIs (kd:=.free) rfl)
  have c2:cenv.kindOf (oS "rows")=fm .cell:=hce.kindIs (kd:=.free) rfl
  have c3:cenv.kindOf (oS "k")=fm .cell:=hce.kindIs (kd:=.cell) rfl
  have c4:cenv.kindOf (oS "range")=fm .globalImplicit:=hce.kindIs (kd:=.globalImplicit) rfl
  have c5:cenv.kindOf (oS "len")=fm .globalImplicit:=hce.kindIs (kd:=.globalImplicit) rfl
  show EVd w k.up cenv _ _ (.lst (chs (za (h n))))
  let f2:PV->PV:=λd=>d.onI d λi=>.lst (llD (zZ ((za (h n)).drop i.toNat)))
  have hres2:((rngL (psOf (h n)).length).filter (λZ=>Gh)).map f2=chs (za (h n)):=by
   rw[zT,hln.1];unfold rngL chs;rw[GL];rfl
  rw[←hres2]
  refine fK (CO:=λZ=>True) [(oS "rows",.lst (llD [za h0,za h1])),(oS "k",.int n)] (fG c4 rfl (.cons (fB c5 rfl (.cons (EVd.sub (fx c1 rfl) (fx (.inr c3) rfl) zo zh (λv1 v2=>zN hn0 hpn (by show 2<=100000;exact lb rfl))) (nst rfl) .nil) (λvs=>y8 (by lia))) (nst rfl) .nil) (λvs=>zK)) (Itb.rng hb (by lia)) trivial rfl (dc rfl) (λy hy hfr=>?_) (λy d hy=>?_)
   (fF (λZ=>Gh) f2 (.inl rfl) trivial rfl (by rw[zx];lia) (λcenv2 hce2 d hd=>z6) (λcenv2 hce2 d hd Z=>?_))
  .simp only[Gi,Gl,or_false] at hy
   rcases hy with rfl | rfl | rfl | rfl | rfl<;>first | (injection hfr;done) | exact c2 | exact c3
  .by_cases q:y=oS "rows"
   .subst q;replace hy:=Gj (Gq (rfl)) hy;(injection hy with E1;subst E1);exact⟨rfl,rfl⟩
   .replace hy:=Gj (Gq (zb q)) hy
    by_cases q:y=oS "k"
    .subst q;replace hy:=Gj (Gq (rfl)) hy;(injection hy with E1;subst E1);exact⟨rfl,rfl⟩
    .replace hy:=Gj (Gq (zb q)) hy;injection hy
  .refine xE (GV.mp hd) λi hi=>?_
   obtain⟨hil,rfl⟩:=zL hi
   have e:pick (intL (za (h n))) (fm ((i:Nat):Int)) fp fp=intL ((za (h n)).drop i):=by rw[vy];delta intL;rw[LZ]
   exact fR (hce2.kindIs (kd:=.globalImplicit) rfl) rfl (i:=17) rfl (.cons (e ▸ fN (EVd.sub (fx (.inr (hce2.kindIs (kd:=.free) rfl)) rfl) (fx (.inr (hce2.kindIs (kd:=.free) rfl)) rfl) zo zh (λv1 v2=>zN hn0 hrn (by show 2<=100000;exact lb rfl))) (.some (fq (hce2.kindIs (kd:=.local) rfl) rfl)) .none .none zo zh (λv1 sl vl vu vs pl pu ps=>yr (by show ((za (h n)).map _).length<=_;rw[Ge];lia) pl pu ps (by intro h;injection h))) (nst rfl) .nil)
    (λvs=>j7 hb (by rw[Hc];lia))
end
theorem maxI_eq {ns:List Int} {M:Int} (hin:M∈ns) (hle:∀ x∈ns,x<=M):maxI ns=M:=by
 refine xA (argBest_gt (λi=>ns.getD i 0) (ns.length-1)) λh1 h2=>?_
 have hl:0<ns.length:=Tj hin
 obtain⟨j,hj,e⟩:=List.getElem_of_mem hin
 have a:=h2 j (by exact(XW hl).mpr hj)
 have b:=hle (maxI ns) (by
  delta maxI
  rw[Gt,Gu (show argBest _ _<ns.length by exact(XW hl).mp h1)]
  exact KH _)
 have c:ns.getD j 0=M:=by rw[Gt,Gu hj];exact e
 replace a:=c ▸ a
 exact Wr b a
theorem JB:∀ {l:List (List Int)},jI l=Gh->l.Nodup
 | [],_=>.nil
 | x::r,h=>by
  unfold jI at h
  rewrite [GE,KP] at h
  refine LX.mpr ⟨λq=>?_,JB h.2⟩
  replace h:=Ki.mpr q ▸ h;exact absurd h.1 (dc rfl)
noncomputable def FinC (s0 s1:List Int) (M:Nat) (sv:List (List Int)):Prop :=
 ∃ out,ym [] ltL (yi s0 s1)=fm out/\ym [] ltL sv=fm out/\(yi s0 s1).length<64/\sv.length<64/\maxI (out.map λc=>(c.length:Int))=M/\out≠[]/\(∀ l∈out,l.length<=1000)/\out.length<=1000
theorem qH {s0 s1:List Int} (h:jG s0 s1=Gh):FinC s0 s1 (lcsX 5 s0 s1) (subX 5 s0 s1):=by
 delta jG at h
 simp only[GE,decide_eq_true_eq,Kt,ga,beq_iff_eq] at h
 refine xA h λE66 h64=>?_;try clear h;(refine xAEA E66 λE41 x hx hxl=>?_;clear E66;(refine xA E41 λE30 hle=>?_;clear E41;obtain⟨hp,hn⟩:=E30))
 have hp:=Wa.mp hp
 refine xEAA (jQ (d:=([]:List Int)) (A4 (yi s0 s1)) (JB hn) hp) λout a b c=>?_
 refine zap out a b (by rw[hp.length_eq];exact h64) h64 (maxI_eq (Gr.mpr ⟨x,(c.trans hp).mem_iff.mpr hx,by rw[hxl]⟩) (λy hy=>?_)) (λe=>?_) (λl hl=>?_) (by rw[(c.trans hp).length_eq];lia)
 .refine xEA (Gr.mp hy) λz hz E5=>?_;subst E5
  have:=hle z ((c.trans hp).mem_iff.mp hz)
  exact Int.ofNat_le.mpr this
 .have:=(c.trans hp).mem_iff.mpr hx
  replace this:=e ▸ this;cases this
 .have:=uq 5 _ _ l ((c.trans hp).mem_iff.mp hl)
  exact Gc ‹_› (lb rfl)
noncomputable def decT (p0 p1:List Nat) (m:Nat):I3:=(((m / 64:Nat):Int),((p0.getD (m%64 / 8) 0:Nat):Int),((p1.getD (m%64%8) 0:Nat):Int))
theorem codes_nd:∀ a<5,∀ b<4,((GH (a+1)).flatMap λi=>(GH (b+1)).map λj=>8*i+j).Nodup:=by decide +kernel
theorem Z1 {r0 r1:List Int} (h0:r0.length<=4) (h1:r1.length<=3):(zi r0 r1).Nodup:=codes_nd _ (by exact GW ‹_›) _ (by exact GW ‹_›)
theorem QT (p0 p1:List Nat) (l:Nat) {c:Nat} (hc:c<64):decT p0 p1 (64*l+c)=((l:Int),((p0.getD (c / 8) 0:Nat):Int),((p1.getD (c%8) 0:Nat):Int)):=by
 have e1:(64*l+c) / 64=l:=by lia
 have e2:(64*l+c)%64=c:=by lia
 delta decT
 rw[e1,e2]
section
variable {h0 h1:List Int} {rs:List (List Nat)}
theorem uR {r0 r1:List Int} (h0:r0.length<=4) (h1:r1.length<=3) {c:Nat} (h:c∈zi r0 r1):c<64:=by
 rewrite [yw h1] at h;lia
noncomputable def dTr (h0 h1:List Int):List I3:=(zi (za h0) (za h1)).map λc=>(((lcsC (za h0) (za h1) c:Nat):Int),(((psOf h0).getD (c / 8) 0:Nat):Int),(((psOf h1).getD (c%8) 0:Nat):Int))
noncomputable def rTr (h0 h1:List Int) (rs:List (List Nat)):List I3:=rs.zipIdx.flatMap λp=>p.1.map λc=>(((p.2:Nat):Int),(((psOf h0).getD (c / 8) 0:Nat):Int),(((psOf h1).getD (c%8) 0:Nat):Int))
theorem dTr_eq (H:Hs h0 h1):dTr h0 h1=(trD (za h0) (za h1)).map (decT (psOf h0) (psOf h1)):=by
 unfold dTr trD
 rw[GL]
 refine GT λc hc=>(QT _ _ _ (uR H.r0 H.r1 hc)).symm
theorem rTr_eq (H:Hs h0 h1) (hs:∀ c∈rs.flatten,c∈zi (za h0) (za h1)):rTr h0 h1 rs=(trR rs).map (decT (psOf h0) (psOf h1)):=by
 unfold rTr trR
 rw[VS,Kr,Kr]
 congr 1
 refine GT λp hp=>?_
 rw[GL]
 refine GT λc hc=>(QT _ _ _ (uR H.r0 H.r1 (hs c ?_))).symm
 have:=gx hp
 have h2:p.1∈rs:=by rw[this.2.2];exact KH _
 exact VQ.mpr (iEA p.1 h2 hc)
theorem dTr_nd (H:Hs h0 h1):(dTr h0 h1).Nodup:=by
 delta dTr
 refine YR.mpr (List.Pairwise.imp_of_mem (λ{a b} ha hb hne e=>hne ?_) (Z1 H.r0 H.r1))
 simp only[Prod.mk.injEq,gG] at e
 have r1:=H.r1
 have x0:=H.X0.len
 have x1:=H.X1.len
 rw[yw H.r1] at ha hb
 have e1:=vE H.X0.inc (by lia) (by lia) e.2.1
 have e2:=vE H.X1.inc (by lia) (by lia) e.2.2
 exact gF e1 e2
theorem Zj (H:Hs h0 h1) (hs:∀ c∈rs.flatten,c∈zi (za h0) (za h1)) (hp:(trR rs).isPerm (trD (za h0) (za h1))=Gh) :
  ∃ out,ym (0,0,0) lt3 (rTr h0 h1 rs)=fm out/\ym (0,0,0) lt3 (dTr h0 h1)=fm out/\(rTr h0 h1 rs).length<64/\(dTr h0 h1).length<64:=by
 have hp:(rTr h0 h1 rs).Perm (dTr h0 h1):=by rw[rTr_eq H hs,dTr_eq H];exact(Wa.mp hp).map _
 refine xEAA (jQ (d:=((0,0,0):I3)) (Ax _) (dTr_nd H) hp.symm) λout a b c=>?_
 have hl:(dTr h0 h1).length<64:=by
  delta dTr;rw[Ge];have:=Jz H.r0 H.r1;exact HA ‹_› (dc rfl)
 exact yB out b a (by rw[hp.length_eq];exact hl) hl
theorem all_in (H:Hs h0 h1) (hs:∀ c∈rs.flatten,c∈zi (za h0) (za h1)) (hp:(trR rs).isPerm (trD (za h0) (za h1))=Gh) {c:Nat} (hc:c∈zi (za h0) (za h1)):c∈rs.flatten:=by
 have hm:64*lcsC (za h0) (za h1) c+c∈trR rs:=(Wa.mp hp).mem_iff.mpr (Gr.mpr (iEA c hc rfl))
 refine xEA (Ly.mp hm) λp hp hm=>?_
 refine xEA (Gr.mp hm) λc' hc' e=>?_
 have:=gx hp
 have h2:p.1∈rs:=by rw[this.2.2];exact KH _
 have h3:c'∈rs.flatten:=VQ.mpr (iEA p.1 h2 hc')
 have l1:=uR H.r0 H.r1 (hs _ h3)
 have l2:=uR H.r0 H.r1 hc
 have:c=c':=by lia
 rw[this];exact h3
end
noncomputable def lawD:List HF:=zt ((zt (lawB.getD 17 default)).getD 0 default)
noncomputable def FinAll (h0 h1:List Int):Prop:=∀ i j,i<=(za h0).length->j<=(za h1).length->FinC ((za h0).drop i) ((za h1).drop j) (lcsC (za h0) (za h1) (8*i+j)) (shV h0 h1 (8*i+j))
noncomputable def dueT (h0 h1:List Int) (L:List Nat):List PV:=L.map λc=>yI (((lcsC (za h0) (za h1) c:Nat):Int),(((psOf h0).getD (c / 8) 0:Nat):Int),(((psOf h1).getD (c%8) 0:Nat):Int))
structure DJ (h0 h1:List Int) (s S a r d:Gn) (x:SX) (K:List Nat) (rs:List (List Nat)) (D:List Nat) (ρ:PSt):Prop where
 wl:WL h0 h1 s S a r ρ.loc
 due:ρ.loc.lookup (oS "due")=fm (.ref d)
 ch:ρ.loc.lookup (oS "choices")=fm (.lst (chD h0 h1))
 nd:r≠d
 inv:∃ f ad,ad .S=S/\Inv f ρ.own ad (cont (kp h0 h1) dd x ad)/\f a=fm (.dct (shE h0 h1 K))/\f r=fm (.lst (rdsD h0 h1 rs))/\f d=fm (.lst (dueT h0 h1 D))
section
variable {h0 h1:List Int} {g s S a r d:Gn} {b:Bool} {K D:List Nat} {rs:List (List Nat)} {x:SX} {i j:Nat}
theorem WL.set' {loc:List (Str×PV)} (h:WL h0 h1 s S a r loc) (d:PV) {y:Str} (hy:y∈[oS "i",oS "j",oS "common",oS "due",oS "choices"]):WL h0 h1 s S a r ((y,d)::loc):=by
 simp only[Gi,Gl,or_false] at hy
 rcases hy with rfl | rfl | rfl | rfl | rfl <;>
 exact⟨h.l1.set d (dc rfl) (dc rfl) (dc rfl),h.st,h.so,h.sh,h.ro⟩
theorem DJ.set (h:DJ h0 h1 s S a r d x K rs D ρ) (e:PV) {y:Str} (hy:y∈[oS "i",oS "j",oS "common"]):DJ h0 h1 s S a r d x K rs D (ρ.set y e):=by
 have h1:=h.wl.set' e (y:=y) (by simp only[Gi,Gl,or_false] at hy ⊢;rcases hy with q | q | q<;>simp[q])
 simp only[Gi,Gl,or_false] at hy
 rcases hy with rfl | rfl | rfl<;>exact⟨h1,h.due,h.ch,h.nd,h.inv⟩
theorem DJ.oa (h:DJ h0 h1 s S a r d x K rs D ρ):ρ.own a=fm (.dct (shE h0 h1 K)):=by (refine xf (h.inv) λf ad Z J e Z Z=>?_);exact(J.fr _ _ e).1
theorem DJ.od (h:DJ h0 h1 s S a r d x K rs D ρ):ρ.own d=fm (.lst (dueT h0 h1 D)):=by (refine xf (h.inv) λf ad Z J Z Z e=>?_);exact(J.fr _ _ e).1
theorem chs_get {row:List Int} {i:Nat} (hi:i<=row.length):(chs row)[i]? = fm (.lst (llD (zZ (row.drop i)))):=by
 delta chs;rw[Gx,Ym (by exact GW ‹_›)];rfl
theorem chs_len (row:List Int):(chs row).length=row.length+1:=by delta chs;simp
theorem ch_at {p1 p2 p3 p4 p5:Pos} {c:Nat} {z:Int} {y:Str} {i:Nat} {row:List Int} (hc:Nm env (oS "choices")) (hy:Nm env y) (l1:ρ.loc.lookup (oS "choices")=fm (.lst (chD h0 h1))) (l2:ρ.loc.lookup y=fm (.int i)) (hz:0<=z) (e:(chD h0 h1)[z.toNat]? = fm (.lst (chs row))) (hi:i<=row.length) (hr:row.length<=8) (hd:(y==("__debug__" : Str))=Gk) :
  EVd w k env ρ (.Subscript (.Subscript (.Name (oS "choices") p1) (.Constant (.int z) c p2) p3) (.Name y p4) p5) (.lst (llD (zZ (row.drop i)))) :=
 EVd.sub (EVd.sub (fx hc l1) EVd.int zo zh (λv1 v2=>zN hz e (by show 2<=100000;exact lb rfl))) (fx hy l2 hd) zo zh (λv1 v2=>zn (chs_get hi) (by rw[chs_len];lia))
theorem law_d0 (hb:k.b=Gh) (he:Law env) (H:Hs h0 h1) (J:DJ h0 h1 s S a r d x K rs D ρ) (li:ρ.loc.lookup (oS "i")=fm (.int i)) (lj:ρ.loc.lookup (oS "j")=fm (.int j)) (bi:i<=(za h0).length) (bj:j<=(za h1).length)
  {out:List (List Int)} (hso:ym [] ltL (yi ((za h0).drop i) ((za h1).drop j))=fm out) (h64:(yi ((za h0).drop i) ((za h1).drop j)).length<64) :
  EX1 w k.up env ρ (lawD.getD 0 default) (λp ρ'=>p=.next/\ρ'=ρ.set (oS "common") (.lst (llD out))) Ψ:=by
 show let Φ':=_;let Ψ':=_;EX1 _ _ _ _ _ Φ' Ψ';intro Φ' Ψ'
 have hco:=he.kL "common"
 have hi:=he.kC "i"
 have hj:=he.kC "j"
 have hch:=he.kC "choices"
 have hsd:=he.kG "sorted"
 have r0:=H.r0
 have r1:=H.r1
 let p:PV->Bool:=λd=>d.onL Gk λxs=>(zZ ((za h1).drop j)).contains (xs.map λd=>d.onI 0 λn=>n)
 have hp:∀ l:List Int,p (.lst (intL l))=(zZ ((za h1).drop j)).contains l:=λl=>by
  show (zZ ((za h1).drop j)).contains _=_
  congr 1
  delta intL
  rw[GL]
  exact List.map_id' _
 have hres:((llD (zZ ((za h0).drop i))).filter p).map id=llD (yi ((za h0).drop i) ((za h1).drop j)):=by
  rw[List.map_id]
  unfold llD yi
  rw[Wc]
  congr 2
  funext l
  exact hp l
 have hcl:(zZ ((za h0).drop i)).length<=256:=by
  delta zZ
  rw[Ge]
  refine Gc (K9 ..) ?_
  rw[Lj,v8]
  exact Gc (Oh (lb rfl) (show _<=8 by rw[Hc];lia)) (lb rfl)
 refine fT (fB hsd rfl (.cons (d:=.lst (llD (yi ((za h0).drop i) ((za h1).drop j)))) ?_ (nst rfl) .nil) (λvs=>uo h64 hso)) (.inl hco) rfl
 rw[←hres]
 refine fK (CO:=λZ=>True) [(oS "choices",.lst (chD h0 h1)),(oS "j",.int j)] (ch_at (.inr hch) (.inr hi) J.ch li (dc rfl) rfl bi (by exact Gc ‹_› (lb rfl)) (Hv Gk)) (Itb.lst hb) trivial rfl (dc rfl) (λy hy hfr=>?_) (λy d hy=>?_)
  (fF p id (.inl rfl) trivial rfl (by rw[zA];exact Gc ‹_› (lb rfl)) (λcenv hce d hd=>?_) (λcenv hce d hd Z=>fq (hce.kindIs (kd:=.local) rfl) rfl))
 .simp only[Gi,Gl,or_false] at hy
  rcases hy with rfl | rfl | rfl | rfl<;>first | (injection hfr;done) | exact hch | exact hj
 .by_cases q:y=oS "choices"
  .subst q;replace hy:=ze ▸ hy;(injection hy with E1;subst E1);exact⟨J.ch,rfl⟩
  .replace hy:=zb q ▸ hy
   by_cases q:y=oS "j"
   .subst q;replace hy:=ze ▸ hy;(injection hy with E1;subst E1);exact⟨lj,rfl⟩
   .replace hy:=zb q ▸ hy;injection hy
 .refine xEA (Gr.mp hd) λl hl E5=>?_;subst E5
  rw[hp l]
  exact xI (fE (fq (hce.kindIs (kd:=.local) rfl) rfl) (ch_at (.inr (hce.kindIs (kd:=.free) rfl)) (.inr (hce.kindIs (kd:=.free) rfl)) rfl rfl (dc rfl) rfl bj (by exact Gc ‹_› (lb rfl)) (Hv Gk)) (λv1 v2=>pr_in_ll))
theorem law_d1 (hb:k.b=Gh) (he:Law env) (H:Hs h0 h1) (J:DJ h0 h1 s S a r d x K rs D ρ) (li:ρ.loc.lookup (oS "i")=fm (.int i)) (lj:ρ.loc.lookup (oS "j")=fm (.int j)) (bi:i<=(za h0).length) (bj:j<=(za h1).length)
  {out:List (List Int)} (lc:ρ.loc.lookup (oS "common")=fm (.lst (llD out))) (hso:ym [] ltL (shV h0 h1 (8*i+j))=fm out) (h64:(shV h0 h1 (8*i+j)).length<64) (hk:8*i+j∈K) :
  EX1 w k.up env ρ (lawD.getD 1 default) (λp ρ'=>p=.next/\ρ'=ρ) Ψ:=by
 show let Φ':=_;let Ψ':=_;EX1 _ _ _ _ _ Φ' Ψ';intro Φ' Ψ'
 have hco:=he.kL "common"
 have hi:=he.kC "i"
 have hj:=he.kC "j"
 have hpl:=he.kC "places"
 have hsh:=he.kC "shared"
 have hsd:=he.kG "sorted"
 have hg:((shE h0 h1 K).lookup (kp h0 h1 (8*i+j))).getD (.lst [])=.lst (llD (shV h0 h1 (8*i+j))):=by rw[vp H hk];rfl
 have hpl2:PlD 2 (.lst (llD out)):=.lst 1 _ λd hd=>by
  refine xEA (Gr.mp hd) λl Z E5=>?_;subst E5
  exact .lst 0 _ λe he=>by (refine xEA (Gr.mp he) λn Z E5=>?_;subst E5);exact .int ..
 exact fI (b:=false) (fE (d1:=.lst (llD out)) (fB hsd rfl (.cons (hg ▸ dz (fx (.inr hsh) J.wl.sh) (uK (.inl J.oa)) (.cons (v9 H (.inr hpl) J.wl.l1.places (.inr hi) (.inr hj) li lj bi bj) (nst rfl) (.cons (EVd.list .nil (lb rfl)) (nst rfl) .nil)) NJ NV W3 (λv vs=>Qq (.inl J.oa))) (nst rfl) .nil) (λvs=>uo h64 hso))
  (fq hco lc) (λv1 v2=>xF hpl2 (lb rfl) (.inl ⟨_,rfl⟩))) (λh=>nomatch h) (λZ=>EX.nil ⟨rfl,rfl⟩)
theorem law_d2 (hb:k.b=Gh) (he:Law env) (H:Hs h0 h1) (J:DJ h0 h1 s S a r d x K rs D ρ) (li:ρ.loc.lookup (oS "i")=fm (.int i)) (lj:ρ.loc.lookup (oS "j")=fm (.int j)) (bi:i<=(za h0).length) (bj:j<=(za h1).length) (hD:D.length<=1000)
  {out:List (List Int)} (lc:ρ.loc.lookup (oS "common")=fm (.lst (llD out))) (hm:maxI (out.map λc=>(c.length:Int))=lcsC (za h0) (za h1) (8*i+j)) (hne:out≠[]) (hl:∀ l∈out,l.length<=1000) (hlo:out.length<=1000) :
  EX1 w k.up env ρ (lawD.getD 2 default) (λp ρ'=>p=.next/\DJ h0 h1 s S a r d x K rs (D++[8*i+j]) ρ'/\ρ'.loc=ρ.loc) Ψ:=by
 show let Φ':=_;let Ψ':=_;EX1 _ _ _ _ _ Φ' Ψ';intro Φ' Ψ'
 have hco:=he.kL "common"
 have hdu:=he.kL "due"
 have hi:=he.kC "i"
 have hj:=he.kC "j"
 have hpl:=he.kC "places"
 have hmx:=he.kG "max"
 have r1:=H.r1
 have n0:=H.n0
 have n1:=H.n1
 have x0:=H.X0.len
 have x1:=H.X1.len
 have e1:(8*i+j) / 8=i:=by exact dK ‹_› ‹_›
 have e2:(8*i+j)%8=j:=by exact dI ‹_› ‹_›
 have hk:kp h0 h1 (8*i+j)=[(((psOf h0).getD i 0:Nat):Int),(((psOf h1).getD j 0:Nat):Int)]:=vc (by lia) (by lia) (by exact Gc ‹_› (lb rfl))
 let f:PV->PV:=λd=>d.onL d λxs=>.int xs.length
 have hres:((llD out).filter (λZ=>Gh)).map f=intL (out.map λc=>(c.length:Int)):=by
  rw[zT];unfold llD intL
  rw[GL,GL]
  refine GT λl Z=>?_
  show PV.int ((l.map _).length:Nat)=.int l.length
  rw[Ge]
 have hT:yI (((lcsC (za h0) (za h1) (8*i+j):Nat):Int),(((psOf h0).getD i 0:Nat):Int),(((psOf h1).getD j 0:Nat):Int))=.tup [.int ((lcsC (za h0) (za h1) (8*i+j):Nat):Int),.tup (intL (kp h0 h1 (8*i+j)))]:=by rw[hk];rfl
 refine EX1.mono (EX1.app (d:=.tup [.int ((lcsC (za h0) (za h1) (8*i+j):Nat):Int),.tup (intL (kp h0 h1 (8*i+j)))]) (fq hdu J.due) J.od (by show (D.map _).length<=_;rw[Ge];exact Gc ‹_› (lb rfl))
  (f7 (.cons (fB hmx rfl (.cons (d:=.lst (intL (out.map λc=>(c.length:Int)))) ?_ (nst rfl) .nil) (λvs=>hm ▸ pr_max hb (by intro q;exact hne (List.map_eq_nil_iff.mp q)))) (nst rfl) (.cons (v9 H (.inr hpl) J.wl.l1.places (.inr hi) (.inr hj) li lj bi bj) (nst rfl) .nil)) (by show 2<=100000;exact lb rfl)) (nst rfl)) ?_
 .rw[←hres]
  refine fK (CO:=λZ=>True) [] (fq hco lc) (Itb.lst hb) trivial rfl (dc rfl) (λy hy hfr=>?_) (λy d hy=>by injection hy)
   (fF (λZ=>Gh) f (.inl rfl) trivial rfl (by rw[zA];exact Gc ‹_› (lb rfl)) (λcenv hce d hd=>z6) (λcenv hce d hd Z=>?_))
  .simp only[Gi,Gl,or_false] at hy
   rcases hy with rfl | rfl | rfl<;>injection hfr
  .refine xEA (Gr.mp hd) λl hl' E5=>?_;subst E5
   exact fB (hce.kindIs (kd:=.globalImplicit) rfl) rfl (.cons (fq (hce.kindIs (kd:=.local) rfl) rfl) (nst rfl) .nil) (λvs=>yX (by show (l.map _).length<=_;rw[Ge];have:=hl l hl';exact Gc ‹_› (lb rfl)))
 .intro p ρ' E9;refine xA E9 λE5 E6=>?_;clear E9;subst E5;subst E6
  ac_rfl
  refine xf (J.inv) λf ad eS Ji fa fr fd=>?_
  have ad':a≠d:=λq=>by (replace fa:=q ▸ fa;replace fa:=fd ▸ fa);(injection fa with E1;injection E1)
  refine⟨rfl,?_,rfl⟩
  have eD:dueT h0 h1 (D++[8*i+j])=dueT h0 h1 D++[.tup [.int ((lcsC (za h0) (za h1) (8*i+j):Nat):Int),.tup (intL (kp h0 h1 (8*i+j)))]]:=by
   delta dueT;rw[GG,GF,e1,e2,hT];rfl
  exact⟨J.wl,J.due,J.ch,J.nd,_,ad,eS,Ji.frS fd _,(zc _ _ ad').trans fa,(zc _ _ J.nd).trans fr,by rw[eD];exact zd ..⟩
end
section
variable {h0 h1:List Int} {g s S a r d:Gn} {b:Bool} {K D:List Nat} {rs:List (List Nat)} {x:SX} {i j:Nat}
theorem EVd.not {e:Expr} {pos:Pos} {c:Bool} (h:EVd w k env ρ e (.bool c)):EVd w k env ρ (.UnaryOp .Not e pos) (.bool (!c)):=λA l F I s hA H L p =>
 wpAny_UnaryOp (mP (h A l F I s hA H L p) (λv s1 I1 a1 H1 r1 q1=>by
  show let Q':=_;let E':=_;Gf _ _ _ Q' E' _;intro Q' E'
  have E0:=dX r1;clear r1;subst E0
  delta unaryOp
  try with_reducible refine GD ?_
  show Gf _ _ (truthy (Tb c)>>=λb=>pure (Tb !b)) _ _ s1
  exact Ga (Kj (Gb ⟨I1,a1,H1,.bool _,q1⟩))))
theorem Zo {f:Own} {ad:Role->Gn} (he:Law env) (J:Inv f ρ.own ad (cont (kp h0 h1) dd x ad)) (ls:ρ.loc.lookup (oS "sorter")=fm (.ref (ad .S))) {l:List Nat} (hr:x.rd=fm l) (hl:l.length<=1000) {p1 p2 p3:Pos}
  (hline:(p2.endLine==p3.line)=Gh:=by rfl):EVd w k.up env ρ (.Call (.Attribute (.Name (oS "sorter") p1) (oS "is_active") p2) [] [] p3) (.bool x.active):=by
 have hso:=he.kL "sorter"
 exact Aw (EVO.mono (dj (Ψo:=noO) (fq hso ls) J.S J.X rfl rfl (dc rfl) (i:=6) rfl .nil (λvs=>(uZ J hr hl).call) (hline:=hline)) (λd o h=>⟨h.1,by rw[h.2];exact OLe.refl _⟩) (λZ Z h=>h))
noncomputable def pairK (d e:PV):PV:=d.onI d λn=>.tup [.int n,e]
noncomputable def rdAt (h0 h1:List Int) (rs:List (List Nat)) (d:PV):PV:=d.onI d λn=>(rdsD h0 h1 rs).getD n.toNat .none
noncomputable def rdEs (h0 h1:List Int) (rs:List (List Nat)) (d:PV):List PV:=d.onI [] λn=>((rs.getD n.toNat []).map (keyD (kp h0 h1)))
theorem rd_flat (H:Hs h0 h1) (hs:∀ c∈rs.flatten,c∈zi (za h0) (za h1)):((rngL rs.length).flatMap λd=>(rdEs h0 h1 rs d).map (pairK d))=(rTr h0 h1 rs).map yI:=by
 have n0:=H.n0
 have n1:=H.n1
 have x0:=H.X0.len
 have x1:=H.X1.len
 have e:rs.zipIdx=(GH rs.length).map λi=>(rs.getD i [],i):=by
  apply Y9 (by simp)
  intro i h1 h2
  simp at h1
  simp[h1]
 unfold rTr rngL
 rw[e,VS,VT,VT,Kr,Kr]
 congr 1
 refine GT λi hi=>?_
 rewrite [Hn] at hi
 show ((rs.getD i []).map (keyD (kp h0 h1))).map (pairK (.int i))=_
 rw[GL,GL]
 refine GT λc hc=>?_
 have hc':c∈rs.flatten:=by
  refine VQ.mpr ⟨rs.getD i [],?_,hc⟩
  rw[Gt,Gu hi];exact KH _
 have:=hs c hc'
 rewrite [yw H.r1] at this
 have hk:kp h0 h1 c=[(((psOf h0).getD (c / 8) 0:Nat):Int),(((psOf h1).getD (c%8) 0:Nat):Int)]:=by
  have:=vc (p0:=psOf h0) (p1:=psOf h1) (i:=c / 8) (j:=c%8) (by lia) (by lia) (by exact Gc ‹_› (lb rfl))
  replace this:=(show 8*(c / 8)+c%8=c by exact Wp c 8) ▸ this
  exact this
 show PV.tup [.int i,keyD (kp h0 h1) c]=.tup [.int i,.tup [.int _,.int _]]
 delta keyD
 rw[hk];rfl
theorem law_end (hb:k.b=Gh) (he:Law env) (H:Hs h0 h1) {st:Sim} (W:WS h0 h1 s S a r st ρ) (hact:st.x.active=Gk) (hp:(trR st.rs).isPerm (trD (za h0) (za h1))=Gh) (hF:FinAll h0 h1) :
  EX w k.up env ρ (lawB.drop 15) (λp ρ'=>p=.ret (.bool Gh)) Ψ:=by
 have hdu:=he.kL "due"
 have hi:=he.kC "i"
 have hj:=he.kC "j"
 have hro:=he.kC "rounds"
 have hpl:=he.kC "places"
 have hrange:=he.kG "range"
 have hlen:=he.kG "len"
 have hsd:=he.kG "sorted"
 have n0:=H.n0
 have n1:=H.n1
 have x0:=H.X0.len
 have x1:=H.X1.len
 have hw:lawB.drop 15=[lawB.getD 15 default,lawB.getD 16 default,lawB.getD 17 default,lawB.getD 18 default]:=rfl
 rw[hw]
 refine xEA (W.rd) λl e1 e2=>?_
 have hlen24:=W.len
 obtain⟨loc,own⟩:=ρ
 refine df (fO (Ψo:=noO) (EVO.list .nil (lb rfl)) (.inl hdu) (λZ Z h=>h.elim) rfl) λd hd=>?_
 have hd:own d=fp:=hd
 have wl:=W.wl
 have wl1:WL h0 h1 s S a r ((oS "due",.ref d)::loc):=wl.set' _ (dc rfl)
 refine EX.step (law_ch hb he H wl1.l1) ?_
 obtain⟨sa,f,ad,eS,Ji,fs,fa,fr⟩:=W.wo
 have Ji:Inv f own ad (cont (kp h0 h1) dd st.x ad):=Ji
 have hda:a≠d:=λq=>by have:=(Ji.fr _ _ fa).1;(replace this:=q ▸ this;replace this:=Gj (Gq (hd)) this);injection this
 have hdr:r≠d:=λq=>by have:=(Ji.fr _ _ fr).1;(replace this:=q ▸ this;replace this:=Gj (Gq (hd)) this);injection this
 have DJ0:DJ h0 h1 s S a r d st.x st.rs.flatten st.rs [] ((⟨(oS "due",.ref d)::loc,upd own d (.lst [])⟩:PSt).set (oS "choices") (.lst (chD h0 h1))) :=
  ⟨wl1.set' _ (dc rfl),rfl,rfl,hdr,_,ad,eS,Ji.frN hd (.lst []),(zc _ _ hda).trans fa,(zc _ _ hdr).trans fr,zd ..⟩
 generalize (⟨(oS "due",.ref d)::loc,upd own d (.lst [])⟩:PSt).set (oS "choices") (.lst (chD h0 h1))=ρ2 at DJ0
 let N1:=(psOf h1).length
 refine fy (D:=λρ=>DJ h0 h1 s S a r d st.x st.rs.flatten st.rs (zi (za h0) (za h1)) ρ) (f8 (CO:=λZ=>True) (ds:=rngL (psOf h0).length) hb (fG hrange rfl (.cons (fB hlen rfl (.cons (x4 (.inr hpl) DJ0.wl.l1.places (dc rfl) rfl) (nst rfl) .nil) (λvs=>y8 (by exact Gc ‹_› (lb rfl)))) (nst rfl) .nil) (λvs=>zK)) (Itb.rng hb (by exact Gc ‹_› (lb rfl))) (.inr hi)
  (λi ρ=>DJ h0 h1 s S a r d st.x st.rs.flatten st.rs (zP N1 i 0) ρ) DJ0 (λZ Z Z=>trivial) ?_ (λρ' J=>EX.nil ⟨rfl,?_⟩)) ?_
 .intro i d3 ρ3 hd3 J
  ((refine rPR (zL hd3) λhi3=>?_))
  show let Φ':=_;let Ψ':=_;EX _ _ _ _ _ Φ' Ψ';intro Φ' Ψ'
  have J':=J.set (.int i) (y:=oS "i") (dc rfl)
  have li:(ρ3.set (oS "i") (.int i)).loc.lookup (oS "i")=fm (.int i):=rfl
  generalize ρ3.set (oS "i") (.int i)=ρ4 at J' li
  refine fw (f8 (CO:=λZ=>True) (ds:=rngL N1) hb (fG hrange rfl (.cons (fB hlen rfl (.cons (x4 (.inr hpl) J'.wl.l1.places (dc rfl) rfl) (nst rfl) .nil) (λvs=>y8 (by exact Gc ‹_› (lb rfl)))) (nst rfl) .nil) (λvs=>zK)) (Itb.rng hb (by show (psOf h1).length<=_;exact Gc ‹_› (lb rfl))) (.inr hj)
   (λj ρ=>DJ h0 h1 s S a r d st.x st.rs.flatten st.rs (zP N1 i j) ρ/\ρ.loc.lookup (oS "i")=fm (.int i)) ⟨J',li⟩ (λZ Z Z=>trivial) ?_ (λρ' E9=>E9.elim λJ Z=>EX.nil ?_))
  .intro j d5 ρ5 hd5 E9
   show let Φ':=_;let Ψ':=_;EX _ _ _ _ _ Φ' Ψ';intro Φ' Ψ'
   refine E9.casesOn λJ5 li5=>?_;clear E9
   ac_rfl
   ((refine rPR (zL hd5) λhj5=>?_))
   have J6:=J5.set (.int j) (y:=oS "j") (dc rfl)
   have li6:(ρ5.set (oS "j") (.int j)).loc.lookup (oS "i")=fm (.int i):=li5
   have lj6:(ρ5.set (oS "j") (.int j)).loc.lookup (oS "j")=fm (.int j):=rfl
   generalize ρ5.set (oS "j") (.int j)=ρ6 at J6 li6 lj6
   have hlw:lawD=[lawD.getD 0 default,lawD.getD 1 default,lawD.getD 2 default]:=rfl
   show EX w k.up env ρ6 lawD _ _
   rw[hlw]
   have bj:j<=(za h1).length:=by have:j<(psOf h1).length:=hj5;lia
   have bi:i<=(za h0).length:=by lia
   have hL:(zP N1 i j).length<=1000:=by
    delta zP
    rw[Gs,T5]
    simp only[Ge,Lj,V8,Ti]
    have:i*N1<=5*4:=WT (by lia) n1
    have:j<(psOf h1).length:=hj5
    lia
   refine ZS (hF i j bi bj) λout o1 o2 o3 o4 o5 o6 o7 o8=>?_
   have hk:8*i+j∈st.rs.flatten:=all_in H W.sub hp (by rw[yw H.r1];have:=H.r1;exact AE ‹_› ‹_› ‹_›)
   refine EX.step (law_d0 hb he H J6 li6 lj6 bi bj o1 o3) ?_
   have J7:=J6.set (.lst (llD out)) (y:=oS "common") (dc rfl)
   have li7:(ρ6.set (oS "common") (.lst (llD out))).loc.lookup (oS "i")=fm (.int i):=li6
   have lj7:(ρ6.set (oS "common") (.lst (llD out))).loc.lookup (oS "j")=fm (.int j):=lj6
   have lc7:(ρ6.set (oS "common") (.lst (llD out))).loc.lookup (oS "common")=fm (.lst (llD out)):=rfl
   generalize ρ6.set (oS "common") (.lst (llD out))=ρ7 at J7 li7 lj7 lc7
   refine EX.step (law_d1 hb he H J7 li7 lj7 bi bj lc7 o2 o4 hk) ?_
   refine fw (EX1.mono (law_d2 hb he H J7 li7 lj7 bi bj hL lc7 o5 o6 o7 o8) ?_)
   intro p ρ' E9;refine xAA E9 λE5 J8 e8=>?_;clear E9;subst E5
   refine⟨?_,by rw[e8];exact li7⟩
   rw[jL];exact J8
  .replace J:=(show (rngL N1).length=N1 from zx _) ▸ J;rewrite [JJ] at J
   exact J
 .rewrite [zx] at J
  rw[←JL,←x0,←x1]
  exact J
 .rintro⟨loc3,own3⟩ ⟨wl3,l1,l2,l3,f3,ad3,eS3,J3,fa3,fr3,fd3⟩
  simp only at wl3 l1 l2 J3
  refine yZ (Zj H W.sub hp) λout o1 o2 o3 o4=>?_
  have hdT:dueT h0 h1 (zi (za h0) (za h1))=(dTr h0 h1).map yI:=by unfold dueT dTr;rw[GL];rfl
  refine EX.freeze (a:=r) (ds:=rdsD h0 h1 st.rs) (loc':=(oS "rounds",.lst (rdsD h0 h1 st.rs))::loc3) (J3.fr _ _ fr3).1 (λy d hy=>?_) ?_
  .by_cases q:y=oS "rounds"
   .subst q;replace hy:=Gj (Gq (rfl)) hy;(injection hy with E1;subst E1);exact .inr ⟨wl3.ro,rfl⟩
   .replace hy:=Gj (Gq (zb q)) hy;exact .inl hy
  have J4:=J3.frD fr3
  have hd4:Mine.del own3 r d=fm (.lst (dueT h0 h1 (zi (za h0) (za h1)))):=by
   show (if d=r then fp else own3 d)=_
   rw[if_neg (Hk l3)];exact(J3.fr _ _ fd3).1
  have fd4:Mine.del f3 r d=fm (.lst (dueT h0 h1 (zi (za h0) (za h1)))):=by
   show (if d=r then fp else f3 d)=_
   rw[if_neg (Hk l3)];exact fd3
  refine EX.freeze (a:=d) (ds:=dueT h0 h1 (zi (za h0) (za h1))) (loc':=(oS "due",.lst ((dTr h0 h1).map yI))::(oS "rounds",.lst (rdsD h0 h1 st.rs))::loc3) hd4 (λy e hy=>?_) ?_
  .by_cases q:y=oS "due"
   .subst q;replace hy:=Gj (Gq (rfl)) hy;(injection hy with E1;subst E1);exact .inr ⟨l1,by rw[hdT]⟩
   .replace hy:=Gj (Gq (zb q)) hy;exact .inl hy
  have J5:=J4.frD fd4
  have hres:=rd_flat H W.sub
  refine fw (EX1.mono (EX1.ret (d:=.bool Gh) ?_) (λp ρ' h=>h.1))
  have hand:EVd w k.up env ⟨(oS "due",.lst ((dTr h0 h1).map yI))::(oS "rounds",.lst (rdsD h0 h1 st.rs))::loc3,Mine.del (Mine.del own3 r) d⟩ (exprOf (lawB.getD 18 default)) (.bool (!st.x.active&&Gh)):=by
   refine AC (EVd.not (Zo he J5 (((eS3 ▸ wl3.so))) e1 e2)) (λZ=>Ad (d1:=.lst (out.map yI)) (fB hsd rfl (.cons (d:=.lst ((rTr h0 h1 st.rs).map yI)) ?_ (nst rfl) .nil) (λvs=>vd o3 o1)) (fB hsd rfl (.cons (fq hdu rfl) (nst rfl) .nil) (λvs=>vd o4 o2)) (λv1 v2=>Zm (n:=3) ?_ (lb rfl)))
   .rw[←hres]
    have hrl:(rdsD h0 h1 st.rs).length=st.rs.length:=Ge ..
    have hget:∀ i,i<st.rs.length->(rdsD h0 h1 st.rs)[i]? = fm (rdAt h0 h1 st.rs (.int i))/\rdAt h0 h1 st.rs (.int i)=.tup (rdEs h0 h1 st.rs (.int i)):=λi hi=>by
     have e1:(rdsD h0 h1 st.rs)[i]? = fm (.tup ((st.rs.getD i []).map (keyD (kp h0 h1)))):=by
      delta rdsD
      rw[Gx,Gt,Gu hi];rfl
     have e2:rdAt h0 h1 st.rs (.int i)=.tup ((st.rs.getD i []).map (keyD (kp h0 h1))):=by
      show (rdsD h0 h1 st.rs).getD i .none=_
      rw[Gt,e1];rfl
     exact⟨by rw[e2];exact e1,e2⟩
    refine fK (CO:=λZ=>True) [(oS "rounds",.lst (rdsD h0 h1 st.rs))] (fG hrange rfl (.cons (fB hlen rfl (.cons (fx (.inr hro) (rfl)) (nst rfl) .nil) (λvs=>hrl ▸ yX (by lia))) (nst rfl) .nil) (λvs=>zK)) (Itb.rng hb (by exact Gc ‹_› (lb rfl))) trivial rfl (dc rfl) (λy hy hfr=>?_) (λy d hy=>?_)
     (pz (rdAt h0 h1 st.rs) (rdEs h0 h1 st.rs) pairK (.inl rfl) (.inl rfl) (dc rfl) trivial rfl rfl ?_ (λcenv hce d hd=>?_) (λZ Z=>True) (λd hd=>?_) (λcenv hce d hd e he'=>?_))
    .simp only[Gi,Gl,or_false] at hy
     rcases hy with rfl | rfl | rfl | rfl | rfl | rfl<;>first | (injection hfr;done) | exact hro
    .by_cases q:y=oS "rounds"
     .subst q;replace hy:=Gj (Gq (rfl)) hy;(injection hy with E1;subst E1);exact⟨rfl,rfl⟩
     .replace hy:=Gj (Gq (zb q)) hy;injection hy
    .rw[hres,Ge];lia
    .refine xE (GV.mp hd) λi hi=>?_
     ((refine rPR (zL hi) λhil=>?_))
     exact EVd.sub (fx (.inr (hce.kindIs (kd:=.free) rfl)) rfl) (fq (hce.kindIs (kd:=.local) rfl) rfl) zo zh (λv1 v2=>zn (hget i ‹_›).1 (by lia))
    .refine xE (GV.mp hd) λi hi=>?_
     ((refine rPR (zL hi) λhil=>?_))
     rw[(hget i ‹_›).2]
     exact⟨Itb.tup hb,trivial⟩
    .refine xE (GV.mp hd) λi hi=>?_
     ((refine rPR (zL hi) λhil=>?_))
     exact f7 (.cons (fq (hce.kindIs (kd:=.local) rfl) (rfl)) (nst rfl) (.cons (fq (hce.kindIs (kd:=.local) rfl) rfl) (nst rfl) .nil)) (by show 2<=100000;exact lb rfl)
   .exact .lst 2 _ λd hd=>by
     refine xEA (Gr.mp hd) λt Z E5=>?_;subst E5
     exact .tup 1 _ λd hd=>by
      simp only[Gi,Gl,or_false] at hd
      rcases hd with rfl | rfl
      .exact .int ..
      .exact .tup 0 _ λd hd=>by
        simp only[Gi,Gl,or_false] at hd
        rcases hd with rfl | rfl<;>exact .int ..
  replace hand:=hact ▸ hand
  exact hand
end
theorem JC:∀ (l:List Int),(∀ c∈l,c=0\/c=1)->l∈bitsL l.length
 | [],_=>by exact dc rfl
 | c::r,h=>by
  have ih:=JC r λd hd=>h d (Go _ hd)
  show c::r∈(bitsL r.length).flatMap λt=>[0::t,1::t]
  refine Ly.mpr ⟨r,ih,?_⟩
  rcases h c Gp with rfl | rfl<;>simp
theorem xU {l:List Int} {n:Nat} (h:∀ c∈l,c=0\/c=1) (hl:l.length<=n):l∈ye n :=
 Ly.mpr (iEA l.length (Hn.mpr (by exact GW ‹_›)) (JC l h))
structure Dec:Prop where
 a:∀ r0∈ye 4,∀ r1∈ye 3,jw r0 r1=Gh
 b:∀ r0∈ye 4,∀ r1∈ye 3,jG r0 r1=Gh
theorem Dec.fin (T:Dec) {h0 h1:List Int} (H:Hs h0 h1):FinAll h0 h1:=λi j hi hj=>by
 have r0:=H.r0
 have r1:=H.r1
 have e1:(8*i+j) / 8=i:=by exact dK ‹_› ‹_›
 have e2:(8*i+j)%8=j:=by exact dI ‹_› ‹_›
 have:=qH (T.b _ (xU (l:=(za h0).drop i) (λc hc=>H.X0.bit c (Nq hc)) (by rw[Hc];lia)) _ (xU (l:=(za h1).drop j) (n:=3) (λc hc=>H.X1.bit c (Nq hc)) (by rw[Hc];lia)))
 unfold lcsC shV
 rw[e1,e2]
 exact this
theorem Dec.run (T:Dec) {h0 h1:List Int} (H:Hs h0 h1):gsz (yT (za h0) (za h1))<=500 /\
  (∃ se,xj (yL (x0 (za h0) (za h1))) (λc=>((x0 (za h0) (za h1)).nd.lookup c).isSome) 1000 ((x0 (za h0) (za h1)).nd.map (·.1)) []=fm se) /\
  ∃ st,xX (za h0) (za h1) 24 ⟨(x0 (za h0) (za h1)).setRd (yV (x0 (za h0) (za h1))),[]⟩=fm st/\st.x.active=Gk/\(trR st.rs).isPerm (trD (za h0) (za h1))=Gh:=by
 have:=T.a _ (xU H.X0.bit H.r0) _ (xU H.X1.bit H.r1)
 unfold jw at this
 rewrite [GE,GE,decide_eq_true_eq] at this
 refine xA this λE67 c=>?_;try clear this;(refine xA E67 λa b=>?_;clear E67)
 refine⟨a,Hz.mp b,?_⟩
 show ∃ st,runX _ _=fm st/\_
 cases e:runX (za h0) (za h1) with
 | none=>replace c:=e ▸ c;injection c
 | some st =>
  replace c:=e ▸ c
  simp only[GE,KP] at c
  exact iEAA st rfl c.1 c.2
section
theorem ZK (xs:List Int):(yH xs).length=7:=by delta yH;rfl
theorem law_body (T:Dec) (hb:k.b=Gh) (he:Law env) {xs:List Int} (hx:xs.length<=1048576) :
  EX w k.up.up.up.up.up.up env ⟨[(oS "script",.lst (intL xs))],own⟩ lawB (λp ρ'=>p=.ret (.bool Gh)) Ψ:=by
 have hw:lawB=lawB.getD 0 default::lawB.getD 1 default::lawB.getD 2 default::lawB.getD 3 default::lawB.drop 4:=rfl
 rw[hw]
 have hcl:=ZK xs
 have l0:((yH xs).take 4).length=4:=by rw[O7,hcl];rfl
 have l1:((yH xs).drop 4).length=3:=by rw[Hc,hcl]
 have H:Hs ((yH xs).take 4) ((yH xs).drop 4):=⟨jW (.inr l0),jW (.inl l1),l0,l1⟩
 refine EX.step (law_s0 hb he rfl hx) ?_
 refine EX.step (law_s1 he rfl (by rw[hcl];exact lb rfl)) ?_
 refine EX.step (law_s2 he) ?_
 refine EX.step (law_s3 (hs:=[(yH xs).take 4,(yH xs).drop 4]) hb he (rfl) (by show 2<=1000;exact lb rfl) (λh hh=>by
  simp only[Gi,Gl,or_false] at hh
  rcases hh with rfl | rfl
  .rw[l0];exact lb rfl
  .rw[l1];exact lb rfl)) ?_
 generalize (yH xs).take 4=h0 at *
 generalize (yH xs).drop 4=h1 at *
 refine xAAEAA (T.run H) λa1 E32 st a3 a4 a5=>?_;(refine xE E32 λse a2=>?_;clear E32)
 refine ZZ (k:=k.up.up) hb he (by lia) (by lia) H.X0 H.X1 ((rfl)) (rfl) rfl (λloc J1=>?_)
 refine ZA (k:=k.up.up.up.up.up.up) hb he H J1 (λloc g s gs hg hs J2=>?_)
 refine Zf hb he H gs a1 a2 J2 (λρ S a r wl wo=>?_)
 have hw2:lawB.drop 14=lawB.getD 14 default::lawB.drop 15:=rfl
 rw[hw2]
 refine fy (Z4 (k:=k.up.up.up.up.up) hb he H (st:=⟨_,[]⟩) ⟨wl,wo,⟨_,rfl,?_⟩,by show 0<=24;exact lb rfl,.nil,λc hc=>by cases hc⟩ a3) (λρ2 W2=>?_)
 .have:=(JI a1).2
  delta yV
  refine Gc (K9 ..) ?_
  rw[Ge];exact this
 .exact law_end (k:=k.up.up.up.up.up) hb he H W2 a4 a5 (T.fin H)
theorem call_law (T:Dec) (hb:k.b=Gh) {xs:List Int} {v:Gd} (hx:xs.length<=1048576) :
  CALL w k.up.up.up.up.up.up.up own (λI=>VR I v (.lst (intL xs))) (call (.ref 220) [v]) (λI v own'=>∃ d,VR I v d/\d=.bool Gh) noO:=by
 refine QN (w:=w) (i:=18) (own:=own) (P:=λI=>VR I v (.lst (intL xs))) (ds:=[(oS "script",.lst (intL xs))]) (Θ:=λd Z=>d=.bool Gh) (b0:=default) (bs0:=[]) rfl AH ⟨rfl,rfl,rfl⟩ (λfd h1 h2 h3=>?_) ?_ (λenv eok=>?_)
 .refine zO h1 h2 h3 (bs:=[(oS "script",v)]) (λfd h1 h2 h3=>?_) λI h=>.cons h .nil
  obtain⟨⟩:=fd
  simp only at h1 h2 h3
  subst h1 h2 h3
  rfl
 .intro x hx
  simp only[Gi,Gl,or_false] at hx
  subst hx;exact .inr rfl
 .refine EX.mono (law_body T hb (show env.scope=zf lawF from eok.scope) hx) ?_
  rintro p ρ' rfl;rfl
end
section
open PySem.W
structure Hold (p:LH):Prop where mk ::
noncomputable def pick2 {F:(String->Str)->LH}:(∀ f,Hold (F f)->((String->Str)->LH)):=λZ Z=>F
noncomputable def bodyF:(String->Str)->LH:=by
 have x:Hold Hu:=⟨⟩
 revert x
 delta Hu
 generalize G7=f
 revert f
 exact pick2
theorem bodyF_eq:prg=bodyF G7:=by kernel_rfl
noncomputable def fastOf (s:String):Str:=⟨⟨(S.toListS s).map Char.toNat⟩⟩
theorem zah:G7=fastOf:=by
 funext s
 delta fastOf
 rw[←S.toListS_eq,Str.ofString_eq_byList]
 rfl
noncomputable def PW:LH:=bodyF fastOf
theorem pw_eq:prg=PW:=by rw[bodyF_eq,zah];rfl
noncomputable def Kof (h:Kf):Frag:=(GH h.objs.size).filterMap λa=>(h.get? a).map λo=>(a,o)
theorem Jo {f:Gn->Option Obj} {a:Gn} {o:Obj}:∀ {l:List Gn},(l.filterMap λa=>(f a).map λo=>(a,o)).lookup a=fm o->f a=fm o
 | [],e=>by injection e
 | b::l,e=>by
  cases q:f b with
  | none=>rewrite [List.filterMap_cons_none (by rw[q];rfl)] at e;exact Jo e
  | some p =>
   rewrite [List.filterMap_cons_some (by rw[q];rfl),Hd] at e
   by_cases n:a=b
   .subst n;rewrite [beq_self_eq_true] at e;rw[q];exact e
   .replace e:=beq_eq_false_iff_ne.mpr n ▸ e;exact Jo e
theorem kof_in (h:Kf):(Kof h).In h:=λZ Z e=>Jo e
noncomputable def getO (K:Frag) (a:Gn):Obj:=(K.lookup a).getD { cls:=.none }
noncomputable def entD (o:Obj):Array KY:=match o.data with | .dict es _=>es | _ => #[]
noncomputable def epD (o:Obj):Nat:=match o.data with | .dict _ n=>n | _=>0
noncomputable def funD (o:Obj):Option LS:=match o.data with | .func fd=>fm fd | _=>fp
noncomputable def isDct (o:Obj):Bool:=match o.data with | .dict _ _=>Gh | _=>Gk
noncomputable def pvOf:Gd->Option PV
 | .int i _=>fm (.int i)
 | .ref a=>fm (.ref a)
 | _=>fp
noncomputable def strV:Option Gd->Option Str
 | some (.str q _)=>fm q
 | _=>fp
noncomputable def q1Of (o:Obj):Option Str:=match o.data with | .fields vs=>strV vs[1]? | _=>fp
noncomputable def but (K:Frag):Frag:=K.filter λp=>p.1 != tabP
noncomputable def keysB (es:Array KY):Bool:=es.toList.all λe=>match e.key with | .str _ _=>Gh | _=>Gk
noncomputable def tops (p:LH) (i:Nat):HF:=p.main.body.getD i default
noncomputable def qA (p:LH):List (Gn×HF×String×Gd×Gn) :=
 [(36,zz (tops p 4) 1,"_NodeInfo.__init__",.none,35),(73,zz (tops p 6) 0,"TopologicalSorter.__init__",.ref 66,72),(80,zz (tops p 6) 1,"TopologicalSorter._get_nodeinfo",.none,79),
  (87,zz (tops p 6) 2,"TopologicalSorter.add",.none,86),(92,zz (tops p 6) 3,"TopologicalSorter.prepare",.none,91),(99,zz (tops p 6) 4,"TopologicalSorter.get_ready",.none,98),
  (106,zz (tops p 6) 5,"TopologicalSorter.is_active",.none,105),(120,zz (tops p 6) 7,"TopologicalSorter.done",.none,119),(127,zz (tops p 6) 8,"TopologicalSorter._find_cycle",.none,126),
  (148,tops p 8,"_get_sep",.none,147),(168,tops p 11,"skip_chars",.none,167),(175,tops p 12,"skip_until",.none,174),(182,tops p 13,"suffixed_err",.none,181),
  (189,tops p 15,"_law_path",.none,188),(196,tops p 16,"_law_read",.none,195),(203,tops p 17,"_law_leaps",.none,202),(210,tops p 18,"_law_due",.none,209),(215,tops p 19,"_law_choices",.none,214),(220,tops p 20,"law",.none,219)]
theorem fnTab_eq:fnTab=qA prg:=rfl
noncomputable def fnAsk (K:Frag) (e:Gn×HF×String×Gd×Gn) :=
 ((getO K e.1).cls,(funD (getO K e.1)).map λfd=>(fd.params,fd.body,fd.scope,fd.closure,fd.globals,fd.builtins,fd.qualname,fd.defaults,fd.kwdefaults,fd.code),q1Of (getO K e.2.2.2.2))
noncomputable def fnAns (e:Gn×HF×String×Gd×Gn) :=
 (HH "function",fm (zE e.2.1,FuncBody.stmts (zt e.2.1),zf e.2.1,([]:List (Str×Gn)),HX,NF,G7 e.2.2.1,e.2.2.2.1,Value.none,Hg e.2.2.2.2),fm (G7 e.2.2.1))
noncomputable def qM:Obj:={ cls:=.type "code",data:=.fields #[.str (oS "suffixed_err") 426,.str (oS "suffixed_err") 427,.str (oS "/claim/cut.py") 428,.int 150 0,.int 3 0,.int 0 0,.int 0 0,.int 3 0,.ref 176,.bool Gh,.int 181 0,.ref 177,.none,.ref 178,.ref 179,.ref 180,.int 433 0,.int 150 0,.str (oS "/claim/cut.py") 434] }
noncomputable def obj158:Obj:=Lu (oS "TOMLDecodeError") (oS "TOMLDecodeError") 158 157 [.type "ValueError"] [.type "ValueError",.type "Exception",.type "BaseException",.type "object"] Gh [] [] Gk fp fp (fm (.ref 149)) fp (fm (.str (oS "TOMLDecodeError") 387)) (fm (.str (oS "TOMLDecodeError") 395)) (fm (.bool Gh)) "ValueError.__new__"
noncomputable def ask (p:LH) (K:Frag) :=
 ((K.lookup tabP,K.lookup 181,K.lookup 158,K.lookup 66,(K.lookup VX).isSome,isDct (getO K 157),keysB (entD (getO K 157)),Kn (entD (getO K 157)) "__init__",Kn (entD (getO K 157)) "__str__",isDct (getO K HX)),
  (Vi (but K) 137,Vi (but K) 40,Vc (but K) 137,Vc (but K) 40,(Vk (but K) 137).map (·.hasDict),(Vk (but K) 40).map (·.hasDict)),
  (findTab.map λe=>NB (but K) (.ref e.1.1) e.1.2),(takeTab.map λe=>XN (but K) e.1.1 e.1.2),
  (NQ (but K) 41 40,NQ (but K) 42 40,NQ (but K) 43 40),([41,42,43].map λa=>Ny (but K) (.ref a)),([36,73,80,87,92,99,106,120,127].map λa=>Ny (but K) (.ref a)),
  (qA p).map (fnAsk K),(globTab.map λe=>(Kn (entD (getO K HX)) e.1).bind pvOf),(bltTab.map λe=>Kn (entD (getO K HX)) e.1))
noncomputable def ans (p:LH) :=
 ((fm ({ cls:=.none,data:=.fields #[] }:Obj),fm qM,fm obj158,fm ({ cls:=.type "tuple",data:=.seq #[.none] 0 }:Obj),Gh,Gh,Gh,(fp:Option Gd),(fp:Option Gd),Gh),
  (Gh,Gh,Gh,Gh,fm Gh,fm Gk),(findTab.map λe=>fm e.2),(takeTab.map λe=>fm e.2),(fm 0,fm 1,fm 2),([41,42,43].map λZ=>fm (HH "member_descriptor")),([36,73,80,87,92,99,106,120,127].map λZ=>fm (HH "function")),
  (qA p).map fnAns,(globTab.map λe=>fm e.2),(bltTab.map λZ=>(fp:Option Gd)))
noncomputable def jR:List Str:=(["_wall","_NODE_OUT","_NODE_DONE","_NodeInfo","CycleError","TopologicalSorter","_get_sep","TOMLDecodeError","skip_chars","skip_until","suffixed_err","_law_path","_law_read","_law_leaps","_law_due","_law_choices"]:List Str)
noncomputable def run1 {α:Type} (Y:Frag->α) (p:LH) (H:Params->Kf) (w:K6) (os:OsState) :=
 (topFrom treeTable p w 3260 ⟨H w.params,Array.mk [],boot_drawn,boot_toks,os⟩).map λs=>(openSeen (view p [20]) jR (importedModules p.main.body) (recOk []) Gh s,Y (Kof s.heap),s.heap.objs.size)
noncomputable def res2 (p:LH):=fm (openGood (view p [20]) jR,ans p,221)
lay_quick Mine.run1
theorem run_ok:run1 (ask PW) PW boot_heap=λZ Z=>res2 PW:=by
 rw[PySem.W.Fast.te7744639918733259693]
 kernel_rfl
end
section
open PySem PySem.W PySem.W.X PyProof.Rows
theorem run_all:run1 (ask prg) prg boot_heap=λZ Z=>res2 prg:=by
 show run1 (ask Hu) Hu boot_heap=λZ Z=>res2 Hu
 rw[show Hu=PW from pw_eq];exact run_ok
theorem left:LeftO prg (view prg [20]) jR (recOk []) (λs=>(ask prg (Kof s.heap),s.heap.objs.size)) (λZ=>(ans prg,221)) 3260:=by
 intro w
 refine xEA (Gz.mp (boot_open (p:=prg) (N:=3260) (by kernel_rfl) (Hv Gh) (λs=>rfl) w)) λE33 hs hv=>?_;obtain⟨h,g,d,t,os⟩:=E33
 cases(hv)
 delta openEnds
 rw[hs,HT]
 have:=congrFun (congrFun run_all w) os
 unfold run1 res2 at this
 exact this
noncomputable def lawRec:DefRec:=⟨oS "law",zE (top 20),zt (top 20),zf (top 20),posOf (top 20)⟩
theorem law_said:PySem.Challenge.rw_op0171_01.wellSaid=Gh:=by
 delta gS
 rw[show Hu=PW from pw_eq,PySem.W.Fast.te9446332074065402090]
 kernel_rfl
theorem jC {α β:Type} {f g:α->β} {l:List α} (h:l.map f=l.map g) {i:Nat} {e:α} (q:l[i]? = fm e):f e=g e:=OP.mp h e (GS q)
theorem vN {α β γ:Type} [BEq α] [LawfulBEq α] {f:α×β->γ} {g:α×β->γ} {x:α} {d:β} {l:List (α×β)} (h:l.map f=l.map g) (q:l.lookup x=fm d):f (x,d)=g (x,d):=by
 refine OP.mp h _ ?_
 refine xEEA (Xl.mp q) λl1 l2 e Z=>?_
 rw[e];exact WU
theorem keysB_ok {es:Array KY} (h:keysB es=Gh):Nv es:=λe he=>by
 have:=Kt.mp h e (Array.mem_toList_iff.mpr he)
 cases q:e.key with
 | str x t=>exact iEE x t rfl
 | _=>replace this:=q ▸ this;injection this
theorem qi {K:Frag} {a:Gn} {o:Obj} (e:(but K).lookup a=fm o):a≠tabP/\K.lookup a=fm o:=by
 induction K with
 | nil=>injection e
 | cons p K ih =>
  obtain⟨b,q⟩:=p
  delta but at e
  replace e:=Ks ▸ e
  by_cases n:b=tabP
  .rewrite [if_neg (by simp[n])] at e
   refine xA (ih e) λh1 h2=>?_
   exact⟨h1,by rw[Hd,beq_eq_false_iff_ne.mpr (λx=>h1 (x.trans n))];exact h2⟩
  .replace e:=(if_pos (by exact bne_iff_ne.mpr n)) ▸ e
   rw[Hd] at e ⊢
   by_cases m:a=b
   .subst m;rw[beq_self_eq_true] at e ⊢;exact⟨n,e⟩
   .rw[beq_eq_false_iff_ne.mpr m] at e ⊢;exact ih e
theorem ut {a:Gn} (h:a≠tabP):∀ K:Frag,(but K).lookup a=K.lookup a
 | []=>rfl
 | (b,o)::K=>by
  delta but
  rw[Ks]
  by_cases q:b=tabP
  .rw[if_neg (by simp[q]),Hd,beq_eq_false_iff_ne.mpr (λx=>h (x.trans q))]
   exact ut h K
  .rw[if_pos (by exact bne_iff_ne.mpr q)]
   simp only[Hd]
   split
   .rfl
   .exact ut h K
theorem jn {K:Frag} {a:Gn} (h:isDct (getO K a)=Gh):K.lookup a=fm (getO K a)/\(getO K a).data=.dict (entD (getO K a)) (epD (getO K a)):=by
 delta getO at h ⊢
 cases q:K.lookup a with
 | none=>replace h:=q ▸ h;injection h
 | some o =>
  replace h:=q ▸ h
  refine⟨rfl,?_⟩
  obtain⟨c,d,da,sl⟩:=o
  cases da<;>first | rfl | injection h
theorem zag {K:Frag} {a:Gn} (h:(K.lookup a).isSome=Gh):∃ o,K.lookup a=fm o:=Hz.mp h
section
variable {loose:List Str} {mean:ExcName->Option Gd} {mg mb:Str->Option Gd} {h:Kf} {K:Frag}
theorem kok_of (S:ask prg K=ans prg):KOk (but K):=by
 have n:=jn (congrArg (λx=>x.1.2.2.2.2.2.1) S)
 refine xEA (Gz.mp (congrArg (λx=>x.2.1.2.2.2.2.1) S)) λcd b5 b6=>?_
 refine xEA (Gz.mp (congrArg (λx=>x.2.1.2.2.2.2.2) S)) λcd' b7 b8=>?_
 have d4:[41,42,43].map (λa=>Ny (but K) (.ref a))=[41,42,43].map λZ=>fm (HH "member_descriptor"):=congrArg (λx=>x.2.2.2.2.2.1) S
 exact {
  code:=(uj _ _ _ _ _ _ _ _ _ ((ut (dc rfl) K).trans (congrArg (λx=>x.1.2.1) S:K.lookup 181=fm qM)) rfl rfl rfl rfl rfl rfl rfl rfl)
  toml:=⟨_,_,_,_,_,_,_,_,_,_,_,_,_,_,_,(ut (dc rfl) K).trans (congrArg (λx=>x.1.2.2.1) S:K.lookup 158=fm obj158),_,_,_,(ut (dc rfl) K).trans n.1,n.2,keysB_ok (congrArg (λx=>x.1.2.2.2.2.2.2.1) S),congrArg (λx=>x.1.2.2.2.2.2.2.2.1) S,congrArg (λx=>x.1.2.2.2.2.2.2.2.2.1) S⟩
  made:=⟨congrArg (λx=>x.2.1.1) S,congrArg (λx=>x.2.1.2.1) S,congrArg (λx=>x.2.1.2.2.1) S,congrArg (λx=>x.2.1.2.2.2.1) S⟩
  cls:=(vn cd cd' b5 b6 b7 b8)
  find:=λC m r e=>vN (f:=λe:(Gn×Str)×Option Gd=>NB (but K) (.ref e.1.1) e.1.2) (g:=λe=>fm e.2) (congrArg (λx=>x.2.2.1) S) e
  take:=λC m r e=>vN (f:=λe:(Gn×Str)×Option Gd=>XN (but K) e.1.1 e.1.2) (g:=λe=>fm e.2) (congrArg (λx=>x.2.2.2.1) S) e
  slot:=⟨congrArg (λx=>x.2.2.2.2.1.1) S,congrArg (λx=>x.2.2.2.2.1.2.1) S,congrArg (λx=>x.2.2.2.2.1.2.2) S,jC d4 (i:=0) rfl,jC d4 (i:=1) rfl,jC d4 (i:=2) rfl⟩
  fns:=λf hf=>OP.mp (congrArg (λx=>x.2.2.2.2.2.2.1) S:O6 (λa=>Ny (but K) (.ref a)) _=O6 (λZ=>fm (HH "function")) _) f hf }
theorem getO_at {a:Gn} {v:Gd} (h:(getO K a).cls=v) (n:v≠.none):K.lookup a=fm (getO K a):=by
 delta getO at h ⊢
 cases q:K.lookup a with
 | none=>replace h:=q ▸ h;exact absurd h.symm n
 | some o=>rfl
set_option tactic.hygienic true in
theorem ZY {a:Gn} {q:Str} (h:q1Of (getO K a)=fm q):∃ vs t,K.lookup a=fm (getO K a)/\(getO K a).data=.fields vs/\vs[1]? = fm (.str q t):=by
 delta getO at h ⊢
 cases e:K.lookup a with
 | none=>replace h:=e ▸ h;injection h
 | some o =>
  replace h:=e ▸ h
  obtain⟨c,d,da,sl⟩:=o
  cases da<;>try injection h
  rename_i vs
  have h:strV vs[1]? = fm q:=h
  generalize hv:vs[1]? = v at h
  cases v with
  | none=>injection h
  | some x=>cases x<;>(first | (injection h;done) | (injection h with E1;subst E1));exact xk _ _ rfl rfl hv
noncomputable def Iof (h:Kf):PH:=λa=>if a=tabP then fp else h.get? a
theorem y9 {h:Kf} {a:Gn} (e:a≠tabP):Iof h a=h.get? a:=if_neg e
theorem nsIof {h:Kf} {a:Gn} {m:Str->Option Gd} (n:h.Ns a m) (e:a≠tabP):NsP (Iof h) a m:=by
 refine zs n λo es ep h1 h2 h3 h4=>?_;try clear n
 exact⟨o,es,ep,(y9 e).trans h1,h2,h3,h4⟩
theorem fn_ne:∀ {i:Nat} {e:Gn×HF×String×Gd×Gn},fnTab[i]? = fm e->e.1≠tabP/\e.2.2.2.2≠tabP:=by
 have:∀ e∈fnTab.map (λe=>(e.1,e.2.2.2.2)),e.1≠tabP/\e.2≠tabP:=by exact dc rfl
 intro i e h
 exact this _ (Gr.mpr (iEA e (GS h) rfl))
theorem boot_ok:(bltTab.map λe=>(YL e.1,e.1==("__name__" : Str)))=bltTab.map λe=>(fm e.2,Gk):=by kernel_rfl
theorem QQ {p:LH} (KX:K.In h) (S:ask prg K=ans prg) (T:Top p loose mean mg mb h):(∀ x,Kn (entD (getO K HX)) x=mg x)/\∀ {x:Str} {d:PV},(x,d)∈globTab->(mg x).bind pvOf=fm d:=by
 have n:=jn (congrArg (λx=>x.1.2.2.2.2.2.2.2.2.2) S)
 have hmg:∀ x,Kn (entD (getO K HX)) x=mg x:=by
  refine zs (T.g) λo es ep h1 h2 h3 h4=>?_
  have e:=h2.symm.trans ((congrArg Obj.data (K5 (h1.symm.trans (KX _ _ n.1)))).trans n.2)
  injection e with e
  exact λx=>e ▸ h4 x
 exact⟨hmg,λ{x d} hx=>hmg x ▸ (OP (f:=λe:Str×PV=>(Kn (entD (getO K HX)) e.1).bind pvOf) (g:=λe=>fm e.2)).mp (congrArg (λx=>x.2.2.2.2.2.2.2.2.1) S) (x,d) hx⟩
theorem look_mem {α β:Type} [BEq α] [LawfulBEq α] {x:α} {d:β} {l:List (α×β)} (q:l.lookup x=fm d):(x,d)∈l:=by
 refine xEEA (Xl.mp q) λl1 l2 e Z=>?_
 rw[e];exact WU
theorem jH {a b:Gn} {o o':Obj} (h1:h.get? a=fm o) (h2:h.get? b=fm o') (n:o.data≠o'.data):a≠b:=λe=>n (congrArg Obj.data (K5 (h1.symm.trans (e ▸ h2))))
theorem fn_at (KX:K.In h) {i:Nat} {a c:Gn} {st:HF} {q:String} {dfl:Gd} (e:fnTab[i]? = fm (a,st,q,dfl,c)) (f:fnAsk K (a,st,q,dfl,c)=fnAns (a,st,q,dfl,c)):FnAt (Iof h) a st (G7 q) dfl c:=by
 refine xA (fn_ne e) λn1 n2=>?_
 refine xEA (Gz.mp (congrArg (λx=>x.2.1) f)) λfd f2 g=>?_
 refine zy (ZY (congrArg (λx=>x.2.2) f)) λvs t g1 g2 g3=>?_
 have d:(getO K a).data=.func fd:=by
  unfold funD at f2
  generalize (getO K a).data=dd at f2 ⊢
  cases dd<;>(first | (injection f2;done) | (injection f2 with E1;subst E1))
  rfl
 have c1:(getO K a).cls=.type "function" := congrArg (λx=>x.1) f
 exact⟨⟨_,fd,(y9 n1).trans (KX _ _ (getO_at c1 (dc rfl))),c1,d,congrArg (λx=>x.1) g,congrArg (λx=>x.2.1) g,congrArg (λx=>x.2.2.1) g,congrArg (λx=>x.2.2.2.1) g,congrArg (λx=>x.2.2.2.2.1) g,congrArg (λx=>x.2.2.2.2.2.1) g,
  congrArg (λx=>x.2.2.2.2.2.2.1) g,congrArg (λx=>x.2.2.2.2.2.2.2.1) g,congrArg (λx=>x.2.2.2.2.2.2.2.2.1) g,congrArg (λx=>x.2.2.2.2.2.2.2.2.2) g⟩,⟨_,_,_,_,rfl,(y9 n2).trans (KX _ _ g1),g2,g3⟩⟩
theorem base_of {p:LH} (KX:K.In h) (S:ask prg K=ans prg) (T:Top p loose mean mg mb h):Base (Iof h) where
 stat:=xEA (T.nolimit) λmc hn e=>(iEA mc (nsIof hn (dc rfl)) e)
 glob:=by
  refine xA (QQ KX S T) λhmg hg=>?_
  refine yB mg (nsIof T.g (dc rfl)) (λx d e=>?_) (λx v e=>(hmg x).symm.trans (vN (f:=λe:Str×Gd=>Kn (entD (getO K HX)) e.1) (g:=λZ=>fp) (congrArg (λx=>x.2.2.2.2.2.2.2.2.2) S) e)) ?_
  .refine xEA (WR.mp (hg (look_mem e))) λv q r=>?_
   refine iEA v q ?_
   cases v<;>(first | (injection r;done) | (injection r with E1;subst E1))
   .exact .int ..
   .exact .ref _
  .refine xEEAAAAA (T.bmain) λbm ob h1 h2 h3 h4 h5 h6=>?_
   have n:=jn (congrArg (λx=>x.1.2.2.2.2.2.2.2.2.2) S)
   have n2:bm≠tabP:=jH h3 (KX _ _ (congrArg (λx=>x.1.1) S)) (by rw[h6];nofun)
   exact jF bm ob h1 h2 (jH h3 (KX _ _ n.1) (by rw[h6,n.2];nofun)) n2 ((y9 n2).trans h3) h4 h5 h6
 frag:=(iEA (but K) (λa o e=>(y9 (qi e).1).trans (KX _ _ (qi e).2)) (kok_of S))
 bltn:=⟨mb,nsIof T.b (dc rfl),λx v e=>by
  have q:(YL x,x==("__name__" : Str))=(fm v,Gk):=vN (f:=λe:Str×Gd=>(YL e.1,e.1==("__name__" : Str))) (g:=λe=>(fm e.2,Gk)) boot_ok e
  exact(T.builtins x (beq_eq_false_iff_ne.mp (congrArg Prod.snd q))).trans (congrArg Prod.fst q)⟩
 fns i a st q dfl c e:=fn_at KX e (jC (congrArg (λx=>x.2.2.2.2.2.2.2.1) S) (fnTab_eq ▸ e))
 sysm:=(zag (congrArg (λx=>x.1.2.2.2.2.1) S)).elim λo e=>⟨o,(y9 (dc rfl)).trans (KX _ _ e)⟩
 dfl:=⟨_,(y9 (dc rfl)).trans (KX _ _ (congrArg (λx=>x.1.2.2.2.1) S))⟩
theorem ints_vrs {I:PH} {vs:List Gd} {ns:List Int} (q:Ni vs ns):VRs I vs (intL ns) :=
 IntsAre.rec (motive:=λvs ns _=>VRs I vs (intL ns)) .nil (λn t _ _ _ ih=>.cons (.int n t) ih) q
theorem law_ref {p:LH} (KX:K.In h) (S:ask prg K=ans prg) (T:Top p loose mean mg mb h):mg (oS "law")=fm (.ref 220):=by
 refine xEA (WR.mp ((QQ KX S T).2 (GV.mpr ⟨15,rfl⟩))) λv q r=>?_
 cases v<;>(first | (injection r;done) | (injection r with E1;injection E1;done) | (injection r with E1;injection E1 with E1;subst E1))
 exact q
theorem finish {p:LH} {s:Gg} {vs:List Gd} {ns:List Int} {Q:Gd->Gg->Prop} {E:Gd->Gg->Prop} (KX:K.In s.heap) (S:ask prg K=ans prg) (T:Top p loose mean mg mb s.heap) (D:Dec)
  (ho:s.heap.get? 221=fm { cls:=.type "list",data:=.seq vs.toArray }) (hi:Ni vs ns) (hl:ns.length<=1048576)
  (hQ:∀ s',OldK s.heap s'.heap->s'.os=s.os->s'.gens=s.gens->Q (.bool Gh) s'):Gf (mdl w) callerA (call (.ref 220) [.ref 221]) Q E s:=by
 have a1:K.lookup tabP=fm { cls:=.none,data:=.fields #[] }:=congrArg (λx=>x.1.1) S
 have a2:K.lookup 181=fm qM:=congrArg (λx=>x.1.2.1) S
 have H:HP w [] (λZ=>fp) (Iof s.heap) (λZ=>fp) s.heap:={
  fr:=λa o e=>by injection e
  fz:=λa o e=>by
   delta Iof at e
   split at e
   .injection e
   .exact e
  ow:=λa mo e=>by injection e
  fi:=λa o e=>by injection e
  oa:=λa mo e=>by injection e
  tf:=rfl
  ti:=if_pos rfl
  tab:=.inl (KX _ _ a1)
  base:=base_of KX S T
  stk:=λe he=>by cases he }
 have hv:VR (Iof s.heap) (.ref 221) (.lst (intL ns)):=.lst (n:=0) ((y9 (dc rfl)).trans ho) (ints_vrs hi)
 have hA:OkA (⟨0,Gh,fp⟩:Lv).up.up.up.up.up.up.up callerA []:=⟨rfl,λZ=>rfl,λe q=>(by injection q),by exact lb rfl,by exact lb rfl⟩
 refine Gm (call_law (k:=⟨0,Gh,fp⟩) D rfl hl callerA [] _ _ s hA H hv) ?_ λe s' ⟨_,_,_,_,_,_,_,x⟩=>x.elim
 rintro v s' ⟨I',own',a,H',⟨d,r,rfl⟩,q⟩
 have E0:=dX r;clear r;subst E0
 have keep:∀ b o,b≠tabP->s.heap.get? b=fm o->s'.heap.get? b=fm o:=λb o n e=>H'.fz _ _ (a _ _ ((y9 n).trans e))
 refine hQ s' ⟨λb o e=>?_,λb o e=>?_⟩ q.2 q.1
 .by_cases n:b=tabP
  .subst n
   have:=KX _ _ a1
   replace this:=e ▸ this;injection this with this;subst this
   rcases H'.tab with g | E92
   .exact .inl g
   .refine xEA E92 λc g Z=>?_;clear E92
    exact .inr (.inl (iAAEEA ⟨181,_,_,KX _ _ a2,rfl,rfl,rfl⟩ rfl (#[]) _ rfl (by rw[g,Array.empty_append])))
  .exact .inl (keep b o n e)
 .by_cases n:b=tabP
  .subst n
   rcases H'.tab with g | ⟨c,g,_⟩<;>exact⟨_,g⟩
  .exact⟨o,keep b o n e⟩
end
end
section
set_option maxHeartbeats 0
noncomputable abbrev QA (r:List Int):Prop:=∀ s∈ye 3,jw r s=Gh
noncomputable def ck (n:Nat):List Int:=(ye 4).getD n []
theorem cA0:QA (ck 0):=by decide +kernel
theorem cA1:QA (ck 1):=by decide +kernel
theorem cA2:QA (ck 2):=by decide +kernel
theorem cA3:QA (ck 3):=by decide +kernel
theorem cA4:QA (ck 4):=by decide +kernel
theorem cA5:QA (ck 5):=by decide +kernel
theorem cA6:QA (ck 6):=by decide +kernel
theorem cA7:QA (ck 7):=by decide +kernel
theorem cA8:QA (ck 8):=by decide +kernel
theorem cA9:QA (ck 9):=by decide +kernel
theorem cA10:QA (ck 10):=by decide +kernel
theorem cA11:QA (ck 11):=by decide +kernel
theorem cA12:QA (ck 12):=by decide +kernel
theorem cA13:QA (ck 13):=by decide +kernel
theorem cA14:QA (ck 14):=by decide +kernel
theorem cA15:QA (ck 15):=by decide +kernel
theorem cA16:QA (ck 16):=by decide +kernel
theorem cA17:QA (ck 17):=by decide +kernel
theorem cA18:QA (ck 18):=by decide +kernel
theorem cA19:QA (ck 19):=by decide +kernel
theorem cA20:QA (ck 20):=by decide +kernel
theorem cA21:QA (ck 21):=by decide +kernel
theorem cA22:QA (ck 22):=by decide +kernel
theorem cA23:QA (ck 23):=by decide +kernel
theorem cA24:QA (ck 24):=by decide +kernel
theorem cA25:QA (ck 25):=by decide +kernel
theorem cA26:QA (ck 26):=by decide +kernel
theorem cA27:QA (ck 27):=by decide +kernel
theorem cA28:QA (ck 28):=by decide +kernel
theorem cA29:QA (ck 29):=by decide +kernel
theorem cA30:QA (ck 30):=by decide +kernel
theorem cS (n:Nat) (h:∀ r∈(ye 4).take n,QA r) (k:QA (ck n)):∀ r∈(ye 4).take (n+1),QA r:=λr m =>
 (KR.mp (Hx ▸ m)).elim (h r) λq=>by
  have e:(ye 4)[n]? = fm r:=Option.mem_toList.mp q
  have:ck n=r:=by delta ck;rw[Gt,e];rfl
  exact this ▸ k
theorem allA:∀ r0∈ye 4,∀ r1∈ye 3,jw r0 r1=Gh :=
 (KW (show (ye 4).length<=31 by decide +kernel)) ▸ (cS 30 (cS 29 (cS 28 (cS 27 (cS 26 (cS 25 (cS 24 (cS 23 (cS 22 (cS 21 (cS 20 (cS 19 (cS 18 (cS 17 (cS 16 (cS 15 (cS 14 (cS 13 (cS 12 (cS 11 (cS 10 (cS 9 (cS 8 (cS 7 (cS 6 (cS 5 (cS 4 (cS 3 (cS 2 (cS 1 (cS 0 (λr h=>nomatch h) cA0) cA1) cA2) cA3) cA4) cA5) cA6) cA7) cA8) cA9) cA10) cA11) cA12) cA13) cA14) cA15) cA16) cA17) cA18) cA19) cA20) cA21) cA22) cA23) cA24) cA25) cA26) cA27) cA28) cA29) cA30)
theorem allB:∀ r0∈ye 4,∀ r1∈ye 3,jG r0 r1=Gh:=by decide +kernel
end
theorem dec:Dec:=⟨allA,allB⟩
end Mine
open PySem PySem.W PySem.W.X PyProof.Rows Mine
theorem PySem.Challenge.cw_op0171_01_holds : PySem.Challenge.rw_op0171_01.Holds := by
  refine holds_law law_said fun said => ?_
  refine holds_openX (q := view prg [20]) (loose := jR) (Xt := recOk []) (XP := fun _ _ => True) (d := lawRec) (kwd := []) (N := 3260) left (fun _ _ => trivial) (fun _ _ _ _ _ => trivial) (by kernel_rfl) (by kernel_rfl) (by kernel_rfl) (fun s e => recFacts_of e) rfl said (by decide +kernel) ⟨rfl, rfl, rfl, rfl, rfl, by decide +kernel⟩ ?hw ?hc
  case hw => w_witness2
  intro w s₀ s₁ mg mb G Y fa o pm cd doc dV kV ho hd hcd hD hmg hg args vals as L hpre hlay hrd hwl hlo
  refine Ground.open G ?_
  intro T B D' TE TW
  wrow_args hpre hlay hrd hwl hlo
  obtain ⟨hat, hsz⟩ := script_at L
  have S := congrArg Prod.fst Y
  have z := congrArg Prod.snd Y
  have KX : (Kof s₀.heap).In s₁.heap := fun a o e => L.keeps _ _ (kof_in _ _ _ e)
  have hat := hat.trans z
  subst hat
  have e : mg (oS "law") = some (.ref 220) := law_ref KX S T
  have e := hmg.symm.trans e
  cases e
  refine Mine.finish KX S T dec (script_obj L (by assumption)) (by assumption) (by omega) ?Q
  case Q =>
    intro s' K1 K2 K3
    refine ⟨.inl ⟨_, .bool true, [], rfl, fun _ => rfl, .bool true, ?_, fun h => ?_⟩, K1, K2, .of_eq (K3.trans hg)⟩
    · first | rfl | kernel_rfl
    · exact ⟨List.nodup_nil, fun a h => by cases h⟩

