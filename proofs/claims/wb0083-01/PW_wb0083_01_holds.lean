import PyProof.Rows.All
import Wide.All
import OpenK.AllK
import Wide.FinOn
import PySem.Challenge.RW_wb0083_01
set_option Elab.async false
set_option maxRecDepth 100000
set_option maxHeartbeats 0
set_option linter.all false
set_option genSizeOf false
set_option genInjectivity false
set_option bootstrap.genMatcherCode false
set_option tactic.hygienic false
set_option genCtorIdx false
open Array renaming ext'→ACx,getElem?_eq_getElem→ty,getElem?_eq_none→zq,getElem?_eq_some_iff→rm,getElem?_toList→ts,length_toList→rC,size_setIfInBounds→zc,toList_append→AAc,toList_push→yK,toList_setIfInBounds→zK
open Bool renaming and_eq_true→pl,and_eq_true_iff→nM,and_self→rt,casesOn→qV,false→fG,false_eq_true→ui,false_ne_true→sR,false_or→ACX,noConfusion→ABq,not_eq_true'→qI,or_eq_true→vJ,true→er
open Exists renaming elim→yY
open ForInStep renaming yield→AAg
open Inhabited renaming default→ABe
open Int renaming add_comm→wf,add_lt_add→x3,add_lt_add_right→AAw,add_mul→y8,add_sub_assoc→ABi,add_zero→AC5,casesOn→wO,compare_eq_gt→ABm,compare_eq_lt→ABl,eq_ofNat_of_zero_le→z4,fdiv_eq_ediv_of_nonneg→tw,fmod_lt_of_pos→ABg,fmod_nonneg_of_pos→AAZ,le_natAbs→zo,le_of_lt→yS,le_trans→wg,lt_of_le_of_lt→vP,lt_trans→uk,max_eq_left→zD,max_eq_right→ym,max_le→ADo,min_eq_left→zE,mul_add→zB,mul_assoc→xK,mul_comm→AC3,mul_eq_zero→ACI,mul_one→ADi,mul_zero→AC4,natAbs_add_le→yZ,natAbs_mul→ACb,natAbs_natCast→vS,natAbs_neg→x0,natAbs_pow→zd,natAbs_sub_le→ABv,natCast_eq_zero→AA8,natCast_mul→xm,natCast_nonneg→pP,natCast_pos→sT,ne_of_gt→ya,ne_of_lt→AC2,negSucc→wU,negSucc_lt_zero→x',neg_add→y7,neg_le_neg→ACK,neg_lt_neg→ACL,neg_lt_of_neg_lt→AAk,neg_mul→ADh,neg_neg→uH,neg_neg_of_pos→yN,neg_sub→AAm,not_le→ADl,not_lt→u6,ofNat→wn,ofNat_le→tD,ofNat_lt→sG,ofNat_sub→th,one_mul→tj,pow_succ→vw,pow_zero→yc,sub_add_cancel→ABR,sub_eq_add_neg→yD,sub_le_sub_right→wN,sub_lt_sub_right→AAv,sub_self→ACv,sub_sub→AAn,toNat_le→yT,toNat_natCast→p7,toNat_of_nonneg→ABL,toNat_sub→zp
open LawfulBEq renaming eq_of_beq→qy
open LawfulMonad renaming pure_bind→yQ
open List renaming all_eq_true→mH,any_cons→wI,append_assoc→uz,append_nil→AB3,casesOn→lz,cons→ADy,cons_append→xN,contains_eq_mem→AAi,drop→ADq,drop_drop→tR,drop_eq_getElem_cons→w3,drop_eq_nil_of_le→vg,drop_zero→sY,eq_nil_of_length_eq_zero→tP,filterMap_cons→wX,filterMap_nil→ABM,find?_cons→ABx,findIdx?_cons→ABH,flatten_cons→yP,forIn_cons→AB2,forIn_nil→zP,getElem?_cons_succ→vU,getElem?_eq_getElem→uP,getElem?_eq_none_iff→tI,getElem?_eq_some_iff→qR,getElem?_map→uF,getElem?_of_mem→u5,getElem?_reverse→AAN,getElem?_zip_eq_some→w5,isEmpty_eq_false_iff→zh,isEmpty_iff→ABt,length→ug,length_append→vN,length_cons→pJ,length_drop→rH,length_map→px,length_range→ABT,length_reverse→sW,length_take→tM,lookup_append→wm,lookup_cons→ua,map→AD9,map_cons→pj,map_drop→zm,map_fst_zip→ABs,map_nil→ACo,map_replicate→ABA,map_reverse→xM,map_set→ACq,mem_append→tH,mem_append_left→u4,mem_append_right→tK,mem_cons→md,mem_cons_of_mem→oP,mem_cons_self→pg,mem_map→u8,mem_of_getElem?→qk,mem_of_mem_drop→xy,mem_of_mem_take→xz,mem_reverse→yh,mem_singleton→qw,nil_append→sg,nodup_cons→vK,not_mem_nil→r4,range→ADV,range'→tg,range'_succ→yi,replicate→uY,replicate_succ→wW,reverse_cons→yO,tail_drop→ACE,take_of_length_le→xT,take_zero→ACH,toList_toArray→AA4,zip_nil_right→ABO
open List.Pairwise renaming nil→zQ
open List.cons renaming inj→xk,injEq→w9
open Nat renaming add→si,add_assoc→wM,add_comm→rZ,add_eq_zero_iff→AA9,add_le_add→ACN,add_le_add_left→qf,add_le_add_right→sn,add_lt_add_left→we,add_mul→x7,add_mul_div_right→xw,add_mul_mod_self_right→zf,add_right_comm→vV,add_sub_cancel'→vF,add_sub_cancel_left→z9,beq→lf,beq_refl→xh,ble→ph,ble_eq→ze,ble_eq_true_of_le→mK,blt→pq,blt_eq→yM,casesOn→uK,div→xZ,div_add_mod→zN,div_div_eq_div_mul→AAE,div_eq_of_lt→y0,div_le_of_le_mul→x6,div_le_self→ACG,div_lt_iff_lt_mul→AAj,div_lt_of_lt_mul→AAr,eq_of_beq_eq_true→lk,eq_of_testBit_eq→AA3,le_add_right→tN,le_antisymm→vM,le_div_iff_mul_le→wB,le_of_ble_eq_true→nY,le_of_eq→uJ,le_of_lt→nV,le_of_lt_succ→yb,le_of_succ_le→ABo,le_refl→qF,le_sub_of_add_le→AA6,le_succ→y9,le_total→AAD,le_trans→mE,log2→AAs,log2_lt→ADe,lt_add_of_pos_right→z6,lt_irrefl→vH,lt_of_le_of_lt→mJ,lt_of_le_of_ne→vT,lt_of_lt_of_le→nR,lt_of_succ_lt→rb,lt_succ_of_le→ABu,lt_succ_of_lt→vj,lt_succ_self→rn,lt_trans→qS,min_eq_left→uo,min_eq_right→yk,min_le_right→to,mod→xa,mod_eq_of_lt→y6,mod_lt→qY,mod_mod→ADf,mod_mod_of_dvd→ABh,mod_mul_right_div_self→wz,mod_two_eq_zero_or_one→zg,mul→rF,mul_add→xC,mul_assoc→ACu,mul_comm→uI,mul_le_mul→vi,mul_le_mul_left→yB,mul_le_mul_right→u7,mul_lt_mul_right→AA5,mul_one→AA1,mul_pos→ADg,mul_succ→AC8,mul_two→xB,ne_of_beq_eq_false→mP,ne_of_gt→um,ne_of_lt→sU,not_le→uQ,not_lt→ABX,not_lt_zero→zC,one_mul→AAp,pos_of_ne_zero→w0,pow→uX,pow_add→xD,pow_le_pow_left→ABP,pow_le_pow_right→rv,pow_lt_pow_right→qJ,pow_pos→ADc,pow_succ→ACw,strongRecOn→ACF,sub→so,sub_add_sub_cancel→AAV,sub_eq_zero_iff_le→vh,sub_eq_zero_of_le→wG,sub_le→sX,sub_le_iff_le_add→AAh,sub_le_of_le_add→AA2,sub_ne_zero_of_lt→AAa,sub_pos_of_lt→yR,sub_self→AAH,sub_zero→AAS,succ→uM,succ_le_succ→xO,succ_lt_succ→AB8,succ_mul→ADA,succ_ne_self→AB0,succ_ne_zero→ABy,succ_pos→tG,succ_pred_eq_of_pos→z8,testBit_div_two_pow→AAA,testBit_mul_two_pow→z',two_mul→zA,two_pow_pos→xj,zero_add→tZ,zero_le→qd,zero_lt_succ→yw,zero_mul→AC9
open Nat.succ renaming inj→ABp
open Ne renaming symm→ub
open Option renaming casesOn→m8,isSome_iff_exists→vC,none→eu,some→dD
open Option.some renaming inj→dE,injEq→ADw
open Ord renaming compare→ACd
open Ordering renaming casesOn→AAb
open Prod renaming ext→AD3
open Prod.mk renaming inj→qP,injEq→vz
open Pure renaming pure→tS
open UInt64 renaming ofNat→AB9
open PySem PyProof.Rows
open PyProof renaming noPylong_of_log2→zI
open PyProof.Rows renaming Assign_Tuple→ABZ,Subscript_→AAP,assignInOrder_cons→vp,assignInOrder_nil→zJ,callWith_type→r9,eq_int→ADJ,eq_str→ADL,evalArgs_nil3→AD4,excClass_ZeroDivisionError→AAY,exec_Assign→AB6,ge_int→ADS,gt_int→ADR,invert_int→ADa,le_int→ADQ,lt_int→ADP,ne_int→ADK,ne_str→ADM,neg_int→ADZ,recsOf→yu,subscriptTail→xc,tail_any→ADU
open PySem renaming Addr→ls,Arguments→t7,Around→mx,BoolOp→zr,CmpOp→xG,Comprehension→rc,Const→ABG,Env→t8,ExcName→z7,Expr→f0,Flow→xg,GenState→xv,Heap→qX,IsEnum→AAL,IsPair→ue,IsRange→ABW,IsZip→x9,NameKind→qE,Obj→xE,Operator→qp,Params→yz,Pos→tE,Program→qK,Protocol→AAT,PyData→vD,ReadsAll→ADk,Result→yJ,Scope→o5,Seg→zR,Sem→xL,Shared→lb,Stmt→pt,Str→pw,Tok→yE,UnaryOp→zY,Value→gx,World→sO,ZipApart→AB1,again→AAO,annTrees→ADx,arm_eval_Call_Name'→sZ,assign→uT,assignEach→vo,assignInOrder→xf,backTo→wZ,behindInMarks→AD2,binaryOp→yF,bindArgs→xu,bootBuiltins→w8,builtinsNs→yj,cLine→AAC,call→t9,call_meets→yo,cellsFrom→ru,clipAt→vE,closureFor→yt,codeAny→tv,codeAny_mono→uV,codeAny_of_tree→u3,compTurn→xo,compareOp→vI,comprehension→AAy,constantsAlone→uE,eval→tW,evalArgs→ADs,exec→yL,exec_Assign_Name_used→ABr,execs→uO,field→yd,firstArgMember→ul,foldedForSure→uf,foldedSetIterable→wL,forTurn→z5,holding→zy,interactive→uv,isSubtype→AC6,isSubtype_stop→AAM,isSubtype_type→AAX,letOwnedTupleGo→rA,mainGlobals→sf,model→qQ,newExc→AAJ,newFunctionEnv→ADr,newTuple→AAK,noteFrame→wY,numAt→ABC,pushCells→xq,pushCells_keeps→zt,pyIter→wK,pyNext→tb,qualnameIn→yx,raiseNew→ABz,rawInt→uC,recursionLimit→uj,seg_execs_cons→tX,seg_execs_nil→vZ,seg_wrap→xJ,seqIndex?→tY,setItem→z0,sizeLine→wH,sizeLine_eq→uq,sliceBounds→vy,slicePicked→yG,sliceRange→ACP,slot_gen_next→AD7,slot_list_getitem→xS,slot_list_setitem→ACl,spliced→ABY,standAt→xV,starEach→uD,startupNames→ABc,storeName→t5,stored→AAQ,strIterType→uw,strKind→qW,strKind_is→ACO,swappedStores→yg,swapsWith→xr,swapsWithSole→yf,sysModules→ux,theTreesLotGoes→tc,typeIs_int→ACM,typeIs_str→xH,valueAt→zv,whileTurn→ABJ,wpAny→qH,wpAny_Assign_Subscript→ABa,wpAny_BinOp→AB5,wpAny_Call_method_lateS→v',wpAny_Constant_float→AB4,wpAny_Constant_int→ACY,wpAny_Dict_empty→AC0,wpAny_For→ABK,wpAny_If→AAR,wpAny_IfExp→zl,wpAny_Name→yr,wpAny_Return_some→xX,wpAny_Try_except→AC7,wpAny_Tuple→w4,wpAny_UnaryOp→AAz,wpAny_allTrue_And_cons→x5,wpAny_allTrue_Or_cons→yA,wpAny_assign_Name→uU,wpAny_assign_Tuple→ACW,wpAny_attempt→AAx,wpAny_bind→fX,wpAny_call→ACZ,wpAny_callSpecial?_slot→sS,wpAny_call_entry→tz,wpAny_execs_cons→pz,wpAny_execs_nil→td,wpAny_field→ut,wpAny_getItem_list→ACQ,wpAny_getItem_list_slice→AAu,wpAny_handled→ye,wpAny_holding→tU,wpAny_isInstance→zW,wpAny_isTrue_BoolOp→ACC,wpAny_letGo→zk,wpAny_list_append_plain→ABI,wpAny_loadName_cell→tJ,wpAny_loadName_free→yX,wpAny_loadName_local→wh,wpAny_mono→pF,wpAny_newObj_type→sP,wpAny_noted→xW,wpAny_of_eq→yI,wpAny_onRaise→xd,wpAny_pure→mM,wpAny_pyIter_enum→xU,wpAny_pyIter_gen→AC1,wpAny_pyIter_list→ACi,wpAny_pyIter_tuple→uA,wpAny_pyIter_zip→ACz,wpAny_rule→x4,wpAny_seqItems→AAI,wpAny_setField→yH,wpAny_standAt→rj,wpAny_throw→zj,wpAny_toks→AAW,wpAny_truthy_bool→ACf
open PySem.Around renaming frames_deeper→AAB
open PySem.AutoFloatOps renaming eq_0→ADN,gt_0→ADW,le_0→ADT,lt_0→zT,mod_1→ADC,mod_fi_2→ADE,mod_if_2→ADG,ne_0→ADO,truediv_1→ADB,truediv_fi_2→ADD,truediv_if_2→ADF
open PySem.AutoIntOps renaming iadd_0→AD5,isub_0→AD6,truediv_2→ADz
open PySem.AutoListH renaming list___mul___list_int_3→AEB
open PySem.AutoSeq1 renaming wpAny_loadPart'→wl
open PySem.Builtin renaming bitAnd→ABS,bitNot→sH,bitOr→zG,bitXor→yn
open PySem.Builtin.Generator renaming genWake→xx
open PySem.Builtin.Int renaming intBits→po,intTooBig→ADm
open PySem.Builtin.List renaming listFitsIndex→ADH,listSubscript?→ADb,listTooLong→ADI
open PySem.Builtin.Range renaming rangeFitsLong→x8,rangeSize→qC,small→ACy
open PySem.Builtin.SmallTypes renaming nextOf→qT
open PySem.Builtin.SmallTypes.calledThroughType renaming match_1→yC
open PySem.Builtin.Str renaming occurrences→ADn,strSliceIndices→tT,tooLong→zO
open PySem.Calls renaming Constant_str→wj,Name_function_global→wi,callWith_builtin→uh,callWith_function→vO,call_len_list→ADp,docDef→sF,evalArgs_plain→sQ,loadGlobal_builtin→zZ,spliced_cons→qM,spliced_nil→rq
open PySem.Challenge renaming pw_wb0083_01→ACa,rw_wb0083_01→uN
open PySem.CmpOp renaming casesOn→zS
open PySem.Const renaming casesOn→wF
open PySem.Data renaming casesOn→ABF
open PySem.Data.func renaming inj→AEC
open PySem.Env renaming blockKind→ACm
open PySem.Expr renaming Name→ADu,casesOn→ur
open PySem.Expr.Attribute renaming elim→vW
open PySem.Expr.BinOp renaming elim→wa
open PySem.Expr.BoolOp renaming elim→wP
open PySem.Expr.Call renaming elim→wu
open PySem.Expr.Compare renaming elim→wD
open PySem.Expr.Constant renaming elim→vm
open PySem.Expr.Dict renaming elim→wt
open PySem.Expr.IfExp renaming elim→wb
open PySem.Expr.List renaming elim→wx
open PySem.Expr.ListComp renaming elim→vk
open PySem.Expr.Name renaming elim→ww
open PySem.Expr.Slice renaming elim→wc
open PySem.Expr.Subscript renaming elim→vX
open PySem.Expr.Tuple renaming elim→vB
open PySem.Expr.UnaryOp renaming elim→wC
open PySem.F renaming args_tuple_iterator_next_1→zV,entry_tuple_iterator_next→zi,plainAttrs_int→zU,plainAttrs_list→tQ,plainAttrs_str→sp,slot_enumerate_next→ABN,slot_int_bit_length→ABD,slot_int_rmul→ACe,slot_list_count→yq,slot_list_index→yp,slot_list_reverse→y',slot_str_ascii_iterator_next→zM,slot_str_getitem→yU,slot_str_iterator_next→AAU,slot_str_join→ACg,slot_str_lower→ACR,slot_str_upper→ACT,slot_tuple_iterator_next→vA,slot_zip_next→ACk,type_int_bit_length→ABE,type_list_count→ACB,type_list_index→ACA,type_str_join→ACh,type_str_lower→ACS,type_str_upper→ACU
open PySem.Float64 renaming add→uy,align→ABk,cmp→uW,cmpInt→ABQ,copysign→AAq,decode→vQ,div→tx,divmod→xY,fmod→tV,halfEven→AAl,infMag→yl,isInf→ABn,isZero→uS,lt→xF,mul→vG,nan→zu,ofBin→ABj,ofFrac→uR,ofInt→zF,pack→vR,roundMag→AAo,sgn→su,shift→wo,sub→xb,truncOf→ABB,zero→uc
open PySem.Flow renaming next→u9,ret→AD8
open PySem.GenState renaming casesOn→ACp
open PySem.Heap renaming ExtBut→sm,IsTuple→ACj,SameBut→uG,dictOf_iff→wV,get?_push_of_some→lh,get?_push_size→mA,get?_update_self→uu,lt_size→rR,size_push→rx
open PySem.Heap.DictOf renaming new→ADv
open PySem.Heap.FunFrames renaming cons→yy
open PySem.Heap.IsTuple renaming push→ADY
open PySem.Heap.SameBut renaming refl→ADd,update→tO
open PySem.Heap.UpToSlots renaming of_keeps→ACs
open PySem.NameKind renaming cell→tL,free→rX,globalImplicit→w7,noConfusion→qj
open PySem.Obj renaming cls_mapFields→yW,data→zX,data_mapFields→wq,isFreed_of_fields→xn,mapSeq→ADt
open PySem.Operator renaming casesOn→uZ
open PySem.P renaming getItem_str→zw
open PySem.PyData renaming canLayAll0→wp,depthAll→ABV,eqv→sr,eqvAll→ABw,int→sV,list→ACc
open PySem.Sem renaming bind_eq_wrap→AB7,bind_eq_wrap'→uL,wrap→AA0,wrap_wrap→vL
open PySem.SeqAt renaming canLay_of_shaped→rL,depth_of_shaped→zx,items_eqAt→ABU,readOf→xQ,room_of_shaped→AAF,shaped→ACJ
open PySem.Shared renaming heap→ACV
open PySem.Stmt.Assign renaming elim→wR
open PySem.Stmt.AugAssign renaming elim→vY
open PySem.Stmt.Expr renaming elim→wy
open PySem.Stmt.For renaming elim→xA
open PySem.Stmt.If renaming elim→xR
open PySem.Stmt.Return renaming elim→wQ
open PySem.Stmt.While renaming elim→wd
open PySem.Str renaming append→ADj,join→yV,ofString→sj
open PySem.Txt renaming lower→AD0,upper→AD1
open PySem.Value renaming bool→AAt,casesOn→AAf,isStrOf→ACD,isStrOf_shape→AAd,none→wA,ref→ADX,str→ABb
open PySem.Value.ref renaming inj→vf
open PySem.Value.type renaming inj→AAe
open PySem.W renaming CodeHd→yv,LooseAre→ABd,WData→w6,WellAll→ACt,canon→zL,fnMade→ABf,hideAll→ACr,tabObj→vt
open PySem.W.ReadsW renaming casesOn→ACn
open PySem.W.WData renaming bool→AA7,float→xI
open PySem.W.WTm renaming value→AEA
open PySem.Walks renaming tuple→AAG
local macro_rules |`(tactic|nofun)=>`(tactic|decide+kernel)
namespace Mine.Internal
theorem NW{i m:Nat}(h:i<m):m-i=(m-(i+1))+1:=by rw[Nat.sub_add_eq,Nat.sub_add_cancel (yR h)]
theorem AO{P:Nat->Prop}{n t:Nat}(a:P n)(k:t<n->P t)(h:t<n+1):P t:=(Nat.lt_succ_iff_lt_or_eq.mp h).elim k λe=>e.symm▸a
theorem Q6{P:Nat->Prop}{t:Nat}(h:t<0):P t:=absurd h (zC t)
theorem BO{a b c:Prop}{C:Prop}(h:a/\b/\c)(k:a->b->c->C):C:=by obtain⟨d,e,f⟩:=h;exact k d e f
theorem D1{a b c P3:Prop}{C:Prop}(h:a/\b/\c/\P3)(k:a->b->c->P3->C):C:=by obtain⟨d,e,f,g⟩:=h;exact k d e f g
theorem JG{a b c P3 d:Prop}{C:Prop}(h:a/\b/\c/\P3/\d)(k:a->b->c->P3->d->C):C:=by obtain⟨e,f,g,i,j⟩:=h;exact k e f g i j
theorem pC{a b c P3 d e:Prop}{C:Prop}(h:a/\b/\c/\P3/\d/\e)(k:a->b->c->P3->d->e->C):C:=by obtain⟨f,g,i,j,l,m⟩:=h;exact k f g i j l m
theorem A2{d:Sort _}{b c:d->Prop}{C:Prop}(h:∃a,b a/\c a)(k:∀a,b a->c a->C):C:=by obtain⟨a,e,f⟩:=h;exact k a e f
theorem AW{e:Sort _}{b c d:e->Prop}{C:Prop}(h:∃a,b a/\c a/\d a)(k:∀a,b a->c a->d a->C):C:=by obtain⟨a,f,g,i⟩:=h;exact k a f g i
theorem LN{e:Sort _}{b c d P3:e->Prop}{C:Prop}(h:∃a,b a/\c a/\d a/\P3 a)(k:∀a,b a->c a->d a->P3 a->C):C:=by obtain⟨a,f,g,i,j⟩:=h;exact k a f g i j
theorem OR{g:Sort _}{b c d P3 e f:g->Prop}{C:Prop}(h:∃a,b a/\c a/\d a/\P3 a/\e a/\f a)(k:∀a,b a->c a->d a->P3 a->e a->f a->C):C:=by obtain⟨a,i,j,l,m,n,o⟩:=h;exact k a i j l m n o
theorem T5{d:Sort _}{e:Sort _}{c:d->e->Prop}{C:Prop}(h:∃a b,c a b)(k:∀a b,c a b->C):C:=by obtain⟨a,b,f⟩:=h;exact k a b f
theorem AE{e:Sort _}{f:Sort _}{c d:e->f->Prop}{C:Prop}(h:∃a b,c a b/\d a b)(k:∀a b,c a b->d a b->C):C:=by obtain⟨a,b,g,i⟩:=h;exact k a b g i
theorem BJ{f:Sort _}{g:Sort _}{c d e:f->g->Prop}{C:Prop}(h:∃a b,c a b/\d a b/\e a b)(k:∀a b,c a b->d a b->e a b->C):C:=by obtain⟨a,b,i,j,l⟩:=h;exact k a b i j l
theorem HI{f:Sort _}{g:Sort _}{c d e P3:f->g->Prop}{C:Prop}(h:∃a b,c a b/\d a b/\e a b/\P3 a b)(k:∀a b,c a b->d a b->e a b->P3 a b->C):C:=by obtain⟨a,b,i,j,l,m⟩:=h;exact k a b i j l m
theorem dg{g:Sort _}{i:Sort _}{c d e P3 f:g->i->Prop}{C:Prop}(h:∃a b,c a b/\d a b/\e a b/\P3 a b/\f a b)(k:∀a b,c a b->d a b->e a b->P3 a b->f a b->C):C:=by obtain⟨a,b,j,l,m,n,o⟩:=h;exact k a b j l m n o
theorem fY{i:Sort _}{j:Sort _}{c d e P3 f g:i->j->Prop}{C:Prop}(h:∃a b,c a b/\d a b/\e a b/\P3 a b/\f a b/\g a b)(k:∀a b,c a b->d a b->e a b->P3 a b->f a b->g a b->C):C:=by obtain⟨a,b,l,m,n,o,p,q⟩:=h;exact k a b l m n o p q
theorem pR{j:Sort _}{l:Sort _}{c d e P3 f g i:j->l->Prop}{C:Prop}(h:∃a b,c a b/\d a b/\e a b/\P3 a b/\f a b/\g a b/\i a b)(k:∀a b,c a b->d a b->e a b->P3 a b->f a b->g a b->i a b->C):C:=by obtain⟨a,b,m,n,o,p,q,r,s⟩:=h;exact k a b m n o p q r s
theorem iQ{l:Sort _}{m:Sort _}{c d e P3 f g i j:l->m->Prop}{C:Prop}(h:∃a b,c a b/\d a b/\e a b/\P3 a b/\f a b/\g a b/\i a b/\j a b)(k:∀a b,c a b->d a b->e a b->P3 a b->f a b->g a b->i a b->j a b->C):C:=by obtain⟨a,b,n,o,p,q,r,s,t,u⟩:=h;exact k a b n o p q r s t u
theorem Xt{e:Sort _}{f:Sort _}{g:Sort _}{d:e->f->g->Prop}{C:Prop}(h:∃a b c,d a b c)(k:∀a b c,d a b c->C):C:=by obtain⟨a,b,c,i⟩:=h;exact k a b c i
theorem BU{f:Sort _}{g:Sort _}{i:Sort _}{d e:f->g->i->Prop}{C:Prop}(h:∃a b c,d a b c/\e a b c)(k:∀a b c,d a b c->e a b c->C):C:=by obtain⟨a,b,c,j,l⟩:=h;exact k a b c j l
theorem M9{g:Sort _}{i:Sort _}{j:Sort _}{d e f:g->i->j->Prop}{C:Prop}(h:∃a b c,d a b c/\e a b c/\f a b c)(k:∀a b c,d a b c->e a b c->f a b c->C):C:=by obtain⟨a,b,c,l,m,n⟩:=h;exact k a b c l m n
theorem L6{g:Sort _}{i:Sort _}{j:Sort _}{d e f P3:g->i->j->Prop}{C:Prop}(h:∃a b c,d a b c/\e a b c/\f a b c/\P3 a b c)(k:∀a b c,d a b c->e a b c->f a b c->P3 a b c->C):C:=by obtain⟨a,b,c,l,m,n,o⟩:=h;exact k a b c l m n o
theorem Je{i:Sort _}{j:Sort _}{l:Sort _}{d e f P3 g:i->j->l->Prop}{C:Prop}(h:∃a b c,d a b c/\e a b c/\f a b c/\P3 a b c/\g a b c)(k:∀a b c,d a b c->e a b c->f a b c->P3 a b c->g a b c->C):C:=by obtain⟨a,b,c,m,n,o,p,q⟩:=h;exact k a b c m n o p q
theorem eZ{m:Sort _}{n:Sort _}{o:Sort _}{d e f P3 g i j l:m->n->o->Prop}{C:Prop}(h:∃a b c,d a b c/\e a b c/\f a b c/\P3 a b c/\g a b c/\i a b c/\j a b c/\l a b c)(k:∀a b c,d a b c->e a b c->f a b c->P3 a b c->g a b c->i a b c->j a b c->l a b c->C):C:=by obtain⟨a,b,c,p,q,r,s,t,u,v,w⟩:=h;exact k a b c p q r s t u v w
theorem DC{g:Sort _}{i:Sort _}{j:Sort _}{l:Sort _}{e f:g->i->j->l->Prop}{C:Prop}(h:∃a b c d,e a b c d/\f a b c d)(k:∀a b c d,e a b c d->f a b c d->C):C:=by obtain⟨a,b,c,d,m,n⟩:=h;exact k a b c d m n
theorem Jo{i:Sort _}{j:Sort _}{l:Sort _}{m:Sort _}{e f g:i->j->l->m->Prop}{C:Prop}(h:∃a b c d,e a b c d/\f a b c d/\g a b c d)(k:∀a b c d,e a b c d->f a b c d->g a b c d->C):C:=by obtain⟨a,b,c,d,n,o,p⟩:=h;exact k a b c d n o p
theorem OP{i:Sort _}{j:Sort _}{l:Sort _}{m:Sort _}{e f g P3:i->j->l->m->Prop}{C:Prop}(h:∃a b c d,e a b c d/\f a b c d/\g a b c d/\P3 a b c d)(k:∀a b c d,e a b c d->f a b c d->g a b c d->P3 a b c d->C):C:=by obtain⟨a,b,c,d,n,o,p,q⟩:=h;exact k a b c d n o p q
theorem UO{j:Sort _}{l:Sort _}{m:Sort _}{n:Sort _}{e f g P3 i:j->l->m->n->Prop}{C:Prop}(h:∃a b c d,e a b c d/\f a b c d/\g a b c d/\P3 a b c d/\i a b c d)(k:∀a b c d,e a b c d->f a b c d->g a b c d->P3 a b c d->i a b c d->C):C:=by obtain⟨a,b,c,d,o,p,q,r,s⟩:=h;exact k a b c d o p q r s
theorem pG{l:Sort _}{m:Sort _}{n:Sort _}{o:Sort _}{e f g P3 i j:l->m->n->o->Prop}{C:Prop}(h:∃a b c d,e a b c d/\f a b c d/\g a b c d/\P3 a b c d/\i a b c d/\j a b c d)(k:∀a b c d,e a b c d->f a b c d->g a b c d->P3 a b c d->i a b c d->j a b c d->C):C:=by obtain⟨a,b,c,d,p,q,r,s,t,u⟩:=h;exact k a b c d p q r s t u
theorem gq{i:Sort _}{j:Sort _}{l:Sort _}{m:Sort _}{n:Sort _}{f g:i->j->l->m->n->Prop}{C:Prop}(h:∃a b c d e,f a b c d e/\g a b c d e)(k:∀a b c d e,f a b c d e->g a b c d e->C):C:=by obtain⟨a,b,c,d,e,o,p⟩:=h;exact k a b c d e o p
theorem nh{j:Sort _}{l:Sort _}{m:Sort _}{n:Sort _}{o:Sort _}{f g i:j->l->m->n->o->Prop}{C:Prop}(h:∃a b c d e,f a b c d e/\g a b c d e/\i a b c d e)(k:∀a b c d e,f a b c d e->g a b c d e->i a b c d e->C):C:=by obtain⟨a,b,c,d,e,p,q,r⟩:=h;exact k a b c d e p q r
theorem cZ{j:Sort _}{l:Sort _}{m:Sort _}{n:Sort _}{o:Sort _}{f g i P3:j->l->m->n->o->Prop}{C:Prop}(h:∃a b c d e,f a b c d e/\g a b c d e/\i a b c d e/\P3 a b c d e)(k:∀a b c d e,f a b c d e->g a b c d e->i a b c d e->P3 a b c d e->C):C:=by obtain⟨a,b,c,d,e,p,q,r,s⟩:=h;exact k a b c d e p q r s
theorem eg{n:Sort _}{o:Sort _}{p:Sort _}{q:Sort _}{r:Sort _}{f g i P3 j l m:n->o->p->q->r->Prop}{C:Prop}(h:∃a b c d e,f a b c d e/\g a b c d e/\i a b c d e/\P3 a b c d e/\j a b c d e/\l a b c d e/\m a b c d e)(k:∀a b c d e,f a b c d e->g a b c d e->i a b c d e->P3 a b c d e->j a b c d e->l a b c d e->m a b c d e->C):C:=by obtain⟨a,b,c,d,e,s,t,u,v,w,x,y⟩:=h;exact k a b c d e s t u v w x y
theorem fP{i:Sort _}{j:Sort _}{l:Sort _}{m:Sort _}{n:Sort _}{o:Sort _}{g:i->j->l->m->n->o->Prop}{C:Prop}(h:∃a b c d e f,g a b c d e f)(k:∀a b c d e f,g a b c d e f->C):C:=by obtain⟨a,b,c,d,e,f,p⟩:=h;exact k a b c d e f p
set_option genCtorIdx true in
inductive V where
 |none
 |bool (b:Bool)
 |int (i:Int)
 |str (s:List Nat)
 |fl (b:UInt64)
 |l (xs:List V)
 |t (xs:List V)
 |d (ks:List (List Nat)) (xs:List V)
 deriving Inhabited
noncomputable def AP(l:List Nat):pw:=⟨l.toArray⟩
set_option genCtorIdx true in
inductive BI|len|list|tuple|sum|abs|min|max|int|divmod
set_option genCtorIdx true in
inductive MI|join|replace|lower|upper|index|count|bitLength
noncomputable abbrev Ev:=List (Nat×V)
noncomputable def Ev.get:Ev->Nat->Option V
 |[],_=>.none
 |(j,v)::r,i=>match lf j i with
  |true=>dD v
  |false=>Ev.get r i
theorem DN{x:Nat}:Ev.get [] x=eu:=rfl
theorem AC{x j:Nat}{v:V}{r:List (Nat×V)}:Ev.get ((j,v)::r) x=
  match j.beq x with
  |true=>dD v
  |false=>Ev.get r x:=rfl
noncomputable def Ev.put:Ev->Nat->V->Ev
 |[],i,v=>[(i,v)]
 |(j,u)::r,i,v=>match lf j i with
  |true=>(j,v)::r
  |false=>(j,u)::Ev.put r i v
theorem GV{x:Nat}{a:V}:Ev.put [] x a=[(x,a)]:=rfl
theorem FO{x:Nat}{a:V}{j:Nat}{u:V}{r:List (Nat×V)}:Ev.put ((j,u)::r) x a=
  match j.beq x with
  |true=>(j,a)::r
  |false=>(j,u)::Ev.put r x a:=rfl
noncomputable def FW:List Nat->List Nat->Bool
 |[],b=>b.casesOn er λz z=>fG
 |x::r,b=>b.casesOn fG λy t=>(lf x y).casesOn fG (FW r t)
theorem DM(a:List Nat):∀b:List Nat,FW a b=er↔a=b:=by
 induction a with
 |nil=>intro b;induction b using lz with
  |nil=>exact⟨λz=>rfl,λz=>rfl⟩
  |cons y t=>exact⟨λh=>(nomatch h),λh=>(nomatch h)⟩
 |cons x r c=>
  intro b;induction b using lz with
  |nil=>exact⟨λh=>(nomatch h),λh=>(nomatch h)⟩
  |cons y t=>
   show(lf x y).casesOn (motive:=λz=>Bool) fG (FW r t)=er↔_;cases h:lf x y with
   |true=>rw[w9];exact⟨λe=>⟨lk h,(c t).mp e⟩,λe=>(c t).mpr e.2⟩
   |false=>simp only[w9];exact⟨λe=>(nomatch e),λe=>absurd e.1 (mP h)⟩
theorem HU(a b:List Nat):FW a b=decide (a=b):=by
 cases h:FW a b with
 |true=>exact(decide_eq_true ((DM a b).mp h)).symm
 |false=>exact(decide_eq_false λe=>by exact nomatch (((DM a b).mpr e).symm.trans h)).symm
mutual
noncomputable def EB:V->Option vD
 |.none=>dD .none
 |.bool b=>dD (.bool b)
 |.int i=>dD (.int i)
 |.str s=>dD (.str (AP s))
 |.fl _=>.none
 |.l a=>(CJ a).map .list
 |.t a=>(CJ a).map .tuple
 |.d _ _=>.none
noncomputable def CJ:List V->Option (List vD)
 |[]=>dD []
 |x::r=>match EB x with
  |some d=>(CJ r).map (d:: ·)
  |.none=>.none
end
mutual
noncomputable def DT:V->V->Bool
 |.none,y=>y.casesOn er (λz=>fG) (λz=>fG) (λz=>fG) (λz=>fG) (λz=>fG) (λz=>fG) λz z=>fG
 |.bool a,y=>y.casesOn fG (λb=>a==b) (λj=>(if a then 1 else 0)==j) (λz=>fG) (λz=>fG) (λz=>fG) (λz=>fG) λz z=>fG
 |.int i,y=>y.casesOn fG (λb=>i==(if b then 1 else 0)) (λj=>i==j) (λz=>fG) (λz=>fG) (λz=>fG) (λz=>fG) λz z=>fG
 |.str s,y=>y.casesOn fG (λz=>fG) (λz=>fG) (λt=>FW s t) (λz=>fG) (λz=>fG) (λz=>fG) λz z=>fG
 |.fl _,_=>fG
 |.l c,y=>y.casesOn fG (λz=>fG) (λz=>fG) (λz=>fG) (λz=>fG) (λd=>Jr c d) (λz=>fG) λz z=>fG
 |.t c,y=>y.casesOn fG (λz=>fG) (λz=>fG) (λz=>fG) (λz=>fG) (λz=>fG) (λd=>Jr c d) λz z=>fG
 |.d _ _,_=>fG
noncomputable def Jr:List V->List V->Bool
 |[],a=>a.casesOn er λz z=>fG
 |x::r,a=>a.casesOn fG λy t=>(DT x y).casesOn fG (Jr r t)
end
theorem OK{x:List V}:Jr [] x=lz x er λx a=>fG:=rfl
theorem Oa{x:List V}{a:V}{r:List V}:Jr (a::r) x=lz x fG λy t=>qV (DT a y) fG (Jr r t):=rfl
theorem Rt{x:V}:DT V.none x=
  x.casesOn er (λx=>fG) (λx=>fG) (λx=>fG) (λx=>fG) (λx=>fG) (λx=>fG)
   λx a=>fG:=rfl
theorem Uj{x:V}{a:Bool}:DT (V.bool a) x=
  x.casesOn fG (λb=>a==b) (λj=>(if a=er then 1 else 0)==j) (λx=>fG) (λx=>fG)
   (λx=>fG) (λx=>fG) λx c=>fG:=rfl
theorem Tl{x:V}{i:Int}:DT (V.int i) x=
  x.casesOn fG (λb=>i==if b=er then 1 else 0) (λj=>i==j) (λx=>fG) (λx=>fG)
   (λx=>fG) (λx=>fG) λx a=>fG:=rfl
theorem Vo{x:V}{s:List Nat}:DT (V.str s) x=
  x.casesOn fG (λx=>fG) (λx=>fG) (λt=>FW s t) (λx=>fG) (λx=>fG)
   (λx=>fG) λx a=>fG:=rfl
theorem Ro{x:V}{b:UInt64}:DT (V.fl b) x=fG:=rfl
theorem Sz{x:V}{a:List V}:DT (V.l a) x=
  x.casesOn fG (λx=>fG) (λx=>fG) (λx=>fG) (λx=>fG) (λb=>Jr a b)
   (λx=>fG) λx c=>fG:=rfl
theorem SM{x:V}{a:List V}:DT (V.t a) x=
  x.casesOn fG (λx=>fG) (λx=>fG) (λx=>fG) (λx=>fG) (λx=>fG)
   (λb=>Jr a b) λx c=>fG:=rfl
theorem Up{x:V}{ks:List (List Nat)}{a:List V}:DT (V.d ks a) x=fG:=rfl
theorem J5(a b:List Nat):AP a=AP b↔a=b:=by
 constructor
 ·intro h;have:=congrArg (λs:pw=>s.cps.toList) h;simpa[AP]using this
 ·intro h;rw[h]
theorem HA{c d:Type}{o:Option c}{f:c->d}{b:d}{C:Prop}(e:o.map f=dD b)(k:∀a,o=dD a->b=f a->C):C:=by
 induction o using m8 with
 |none=>cases e
 |some a=>exact k a rfl (dE e).symm
theorem CT{x:V}{b:List V}{d:List vD}{C:Prop}(e:CJ (x::b)=dD d)(k:∀a r,EB x=dD a->CJ b=dD r->d=a::r->C):C:=by
 change (match EB x with|some d=>(CJ b).map (d:: ·)|.none=>.none)=dD d at e;generalize EB x=p,CJ b=q at e k;induction p using m8 with
 |none=>cases e
 |some a=>induction q using m8 with
  |none=>cases e
  |some r=>exact k a r rfl rfl (dE e).symm
def ja(b:V)(e:vD):Prop:=b.casesOn (e=.none) (λp=>e=.bool p) (λp=>e=.int p) (λp=>e=.str (AP p)) (λz=>False) (λa=>∃l,CJ a=dD l/\e=.list l) (λa=>∃l,CJ a=dD l/\e=.tuple l) λz z=>False
theorem FM{b:V}{e:vD}(h:EB b=dD e):ja b e:=by
 induction b using V.casesOn with
 |none=>exact(dE h).symm
 |bool p=>exact(dE h).symm
 |int p=>exact(dE h).symm
 |str p=>exact(dE h).symm
 |fl p=>cases h
 |l a=>exact HA h λl q r=>⟨l,q,r⟩
 |t a=>exact HA h λl q r=>⟨l,q,r⟩
 |d ks a=>cases h
theorem dQ(s t:List Nat):(AP s==AP t)=FW s t:=by
 rw[HU];by_cases h:s=t
 ·subst h;simp
 ·have:AP s≠AP t:=λe=>h ((J5 s t).mp e);simp[h,this]
theorem R'{a b:V}{d e:vD}(f:ja b e)(g:b=.none->sr d .none=DT a .none)(h:∀q,sr d (.bool q)=DT a (.bool q))(i:∀q,sr d (.int q)=DT a (.int q))(j:∀q,sr d (.str (AP q))=DT a (.str q))
  (k:∀c l,CJ c=dD l->sr d (.list l)=DT a (.l c)) (m:∀c l,CJ c=dD l->sr d (.tuple l)=DT a (.t c)):sr d e=DT a b:=by
 induction b using V.casesOn with
 |none=>exact f▸g rfl
 |bool q=>exact f▸h q
 |int q=>exact f▸i q
 |str q=>exact f▸j q
 |fl _=>exact False.elim f
 |l c=>obtain⟨l,q,r⟩:=f;exact r▸k c l q
 |t c=>obtain⟨l,q,r⟩:=f;exact r▸m c l q
 |d _ _=>exact False.elim f
theorem U7(a:V):∀{b:V} {d e:vD},EB a=dD d->EB b=dD e->sr d e=DT a b:=
 V.rec (motive_1:=λa=>∀{b:V} {d e:vD},EB a=dD d->EB b=dD e->sr d e=DT a b) (motive_2:=λa=>∀{b:List V} {d e:List vD},CJ a=dD d->CJ b=dD e->ABw d e=Jr a b)
  (λf c=>dE f▸R' (FM c) (λx=>rfl) (λx=>rfl) (λx=>rfl) (λx=>rfl) (λx x x=>rfl) λx x x=>rfl)
  (λx x x x f c=>dE f▸R' (FM c) (λx=>rfl) (λx=>rfl) (λx=>rfl) (λx=>rfl) (λx x x=>rfl) λx x x=>rfl)
  (λx x x x f c=>dE f▸R' (FM c) (λx=>rfl) (λx=>rfl) (λx=>rfl) (λx=>rfl) (λx x x=>rfl) λx x x=>rfl)
  (λs x x x f c=>dE f▸R' (FM c) (λx=>rfl) (λx=>rfl) (λx=>rfl) (λt=>dQ s t) (λx x x=>rfl) λx x x=>rfl)
  (λx x x x f x=>nomatch f)
  (λx g x x x f c=>HA f λx q r=>r▸R' (FM c) (λx=>rfl) (λx=>rfl) (λx=>rfl) (λx=>rfl) (λx x q2=>g q q2) λx x x=>rfl)
  (λx g x x x f c=>HA f λx q r=>r▸R' (FM c) (λx=>rfl) (λx=>rfl) (λx=>rfl) (λx=>rfl) (λx x x=>rfl) λx x q2=>g q q2)
  (λx x x x x x f x=>nomatch f)
  (λ{b} x x f c=>dE f▸(match b,c with
   |[],c=>dE c▸rfl
   |_::_,c=>CT c λx x x x y=>y▸rfl))
  (λx x i1 i2 {b} x x f c=>CT f λx x q1 q2 y=>y▸(match b,c with
   |[],c=>dE c▸rfl
   |_::_,c=>CT c λx x q3 q4 z=>z▸by
    show(sr _ _&&ABw _ _)=_;simp only[i1 q1 q3,i2 q2 q4];show _=qV (motive:=λx=>Bool) (DT _ _) fG (Jr _ _);cases DT _ _<;>simp)) a
theorem Ut{a b:V}{d e:vD}(c:EB a=dD d)(f:EB b=dD e):sr d e=DT a b:=U7 a c f
noncomputable def GA(a:V):Bool:=match EB a with
 |some d=>ACJ d
 |.none=>fG
noncomputable def KP(a b:V):Option Bool:=a.casesOn eu
 (λp=>b.casesOn eu (λq=>dD (p==q)) (λz=>eu) (λz=>eu) (λz=>eu) (λz=>eu) (λz=>eu) λz z=>eu)
 (λi=>b.casesOn eu (λz=>eu) (λj=>dD (i==j)) (λz=>eu) (λy=>dD (ABQ y i==dD .eq)) (λz=>eu) (λz=>eu) λz z=>eu)
 (λs=>b.casesOn eu (λz=>eu) (λz=>eu) (λt=>dD (FW s t)) (λz=>eu) (λz=>eu) (λz=>eu) λz z=>eu)
 (λx=>b.casesOn eu (λz=>eu) (λj=>dD (ABQ x j==dD .eq)) (λz=>eu) (λy=>dD (uW x y==dD .eq)) (λz=>eu) (λz=>eu) λz z=>eu)
 (λc=>b.casesOn eu (λz=>eu) (λz=>eu) (λz=>eu) (λz=>eu) (λd=>if GA (.l c)&&GA (.l d)then dD (DT (.l c) (.l d))else eu) (λz=>eu) λz z=>eu)
 (λc=>b.casesOn eu (λz=>eu) (λz=>eu) (λz=>eu) (λz=>eu) (λz=>eu) (λd=>if GA (.t c)&&GA (.t d)then dD (DT (.t c) (.t d))else eu) λz z=>eu)
 λz z=>eu
theorem HF{a:V}(h:GA a=er):∃d,EB a=dD d/\ACJ d=er:=by
 unfold GA at h;generalize EB a=p at h;induction p using m8 with
 |none=>cases h
 |some d=>exact⟨d,rfl,h⟩
noncomputable def ic:Data->Bool
 |.fields _=>er
 |_=>fG
noncomputable def iW:gx->Bool
 |.none=>er
 |_=>fG
noncomputable def AB(o:xE):Bool:=ic o.data&&iW o.cls
theorem C9{o:xE}{d:Data}(h:o.data=d)(k:ic d=fG):AB o=fG:=by unfold AB;rw[h,k];rfl
theorem H5{o:xE}{c:gx}(h:o.cls=c)(k:iW c=fG):AB o=fG:=by unfold AB;rw[h,k];exact Bool.and_false _
mutual
inductive VR(j:qK)(w:sO)(ok:ls->Prop)(h:qX):gx->V->Prop
 |none:VR j w ok h .none .none
 |bool (b):VR j w ok h (.bool b) (.bool b)
 |int (i t):VR j w ok h (.int i t) (.int i)
 |str (s t):VR j w ok h (.str (AP s) t) (.str s)
 |fl (b t):VR j w ok h (.float b t) (.fl b)
 |l {a vs n xs}:ok a->h.get? a=dD ⟨.type "list",.none,.seq vs n,#[]⟩->VRs j w ok h vs.toList xs->VR j w ok h (.ref a) (.l xs)
 |t {a vs n xs}:ok a->h.get? a=dD ⟨.type "tuple",.none,.seq vs n,#[]⟩->VRs j w ok h vs.toList xs->VR j w ok h (.ref a) (.t xs)
 |d {a o kvs ks xs}:ok a->(a==ux)=fG->h.get? a=dD o->o.IsDictOf (qW j w) kvs->kvs.map (·.1)=ks.map AP->VRs j w ok h (kvs.map (·.2)) xs->VR j w ok h (.ref a) (.d ks xs)
inductive VRs(j:qK)(w:sO)(ok:ls->Prop)(h:qX):List gx->List V->Prop
 |nil:VRs j w ok h [] []
 |cons {v vs x xs}:VR j w ok h v x->VRs j w ok h vs xs->VRs j w ok h (v::vs) (x::xs)
end
theorem Ci{j:qK}{w:sO}{o:xE}{a:List (pw×gx)}(d:o.IsDictOf (qW j w) a):AB o=fG:=by refine AE d λz z b z=>?_;exact H5 b.1 rfl
section
variable{j:qK}{w:sO}{ok:ls->Prop}{h:qX}{v:gx}{vs:List gx}
def fM(j:qK)(w:sO)(ok:ls->Prop)(h:qX)(v:gx)(x:V):Prop:=x.casesOn (v=.none) (λb=>v=.bool b) (λi=>∃t,v=.int i t) (λs=>∃t,v=.str (AP s) t) (λb=>∃t,v=.float b t)
 (λe=>∃a vs n,v=.ref a/\ok a/\h.get? a=dD ⟨.type "list",.none,.seq vs n,#[]⟩/\VRs j w ok h vs.toList e) (λe=>∃a vs n,v=.ref a/\ok a/\h.get? a=dD ⟨.type "tuple",.none,.seq vs n,#[]⟩/\VRs j w ok h vs.toList e)
 (λks e=>∃a o d,v=.ref a/\ok a/\(a==ux)=fG/\h.get? a=dD o/\o.IsDictOf (qW j w) d/\d.map (·.1)=ks.map AP/\VRs j w ok h (d.map (·.2)) e)
theorem VR.inv{x:V}(r:VR j w ok h v x):fM j w ok h v x:=
 VR.casesOn (motive_1:=λv x z=>fM j w ok h v x) r rfl (λz=>rfl) (λz z=>⟨_,rfl⟩) (λz z=>⟨_,rfl⟩) (λz z=>⟨_,rfl⟩) (λa b c=>⟨_,_,_,rfl,a,b,c⟩) (λa b c=>⟨_,_,_,rfl,a,b,c⟩) (λa b c d e f=>⟨_,_,_,rfl,a,b,c,d,e,f⟩)
theorem VR.of_bool{b:Bool}(r:VR j w ok h v (.bool b)):v=.bool b:=r.inv
theorem VR.of_int{i:Int}(r:VR j w ok h v (.int i)):∃t,v=.int i t:=r.inv
theorem VR.of_str{x:List Nat}(r:VR j w ok h v (.str x)):∃t,v=.str (AP x) t:=r.inv
theorem VR.of_flt{x:UInt64}(r:VR j w ok h v (.fl x)):∃t,v=.float x t:=r.inv
theorem VR.of_lst{b:List V}(r:VR j w ok h v (.l b)):∃a vs n,v=.ref a/\ok a/\h.get? a=dD ⟨.type "list",.none,.seq vs n,#[]⟩/\VRs j w ok h vs.toList b:=r.inv
theorem VR.of_tup{b:List V}(r:VR j w ok h v (.t b)):∃a vs n,v=.ref a/\ok a/\h.get? a=dD ⟨.type "tuple",.none,.seq vs n,#[]⟩/\VRs j w ok h vs.toList b:=r.inv
theorem VR.of_none(r:VR j w ok h v .none):v=.none:=r.inv
theorem VR.of_dct{ks:List (List Nat)}{d:List V}(r:VR j w ok h v (.d ks d)):∃a o b,v=.ref a/\ok a/\(a==ux)=fG/\h.get? a=dD o/\o.IsDictOf (qW j w) b/\b.map (·.1)=ks.map AP/\VRs j w ok h (b.map (·.2)) d:=r.inv
theorem ba{a b:Bool}(h:(a&&b)=er):a=er/\b=er:=(pl a b).mp h
theorem ab{a b:Bool}(h:a=er)(h':b=er):(a&&b)=er:=(pl a b).mpr ⟨h,h'⟩
theorem Jj{D:Type}(o:Option D){C:Prop}(n:o=eu->C)(k:∀a,o=dD a->C):C:=o.casesOn (motive:=λp=>o=p->C) n k rfl
theorem CB{G:Prop}(h:∀C:Prop,(G->C)->C):G:=h G id
theorem nS{D:Type _}{a:D}{P:Prop}(h:eu=dD a):P:=by cases h
theorem sN{D:Type _}{a:D}{P:Prop}(h:dD a=eu):P:=by cases h
theorem fT{P:Prop}(h:fG=er):P:=by cases h
theorem tF{P:Prop}(h:er=fG):P:=by cases h
theorem VRs.of_nil(r:VRs j w ok h vs []):vs=[]:=by cases r;rfl
theorem iK{c:Prop} [Decidable c] {a:Type}{x:Option a}{z:a}{C:Prop}(h:(if c then x else eu)=dD z)(k:c->x=dD z->C):C:=by
 by_cases q:c
 ·rw[if_pos q]at h;exact k q h
 ·rw[if_neg q]at h;exact nS h
theorem VRs.of_cons{x:V}{d:List V}(r:VRs j w ok h vs (x::d)):∃u e,vs=u::e/\VR j w ok h u x/\VRs j w ok h e d:=by cases r with|cons a b=>exact⟨_,_,rfl,a,b⟩
@[elab_as_elim] theorem VR.kBool {P:gx->Prop} {b:Bool} (r:VR j w ok h v (.bool b)) (k:P (.bool b)):P v:=by rw[r.of_bool];exact k
@[elab_as_elim] theorem VR.kInt {P:gx->Prop} {i:Int} (r:VR j w ok h v (.int i)) (k:∀t,P (.int i t)):P v:=by obtain⟨t,rfl⟩:=r.of_int;exact k t
@[elab_as_elim] theorem VR.kStr {P:gx->Prop} {x:List Nat} (r:VR j w ok h v (.str x)) (k:∀t,P (.str (AP x) t)):P v:=by obtain⟨t,rfl⟩:=r.of_str;exact k t
@[elab_as_elim] theorem VR.kFlt {P:gx->Prop} {x:UInt64} (r:VR j w ok h v (.fl x)) (k:∀t,P (.float x t)):P v:=by obtain⟨t,rfl⟩:=r.of_flt;exact k t
@[elab_as_elim] theorem VR.kNone {P:gx->Prop} (r:VR j w ok h v .none) (k:P .none):P v:=by rw[r.of_none];exact k
@[elab_as_elim] theorem VR.kLst {P:gx->Prop} {b:List V} (r:VR j w ok h v (.l b)) (k:∀a vs n,ok a->h.get? a=dD ⟨.type "list",.none,.seq vs n,#[]⟩->VRs j w ok h vs.toList b->P (.ref a)):P v:=by obtain⟨a,vs,n,rfl,x,y,z⟩:=r.of_lst;exact k a vs n x y z
@[elab_as_elim] theorem VR.kTup {P:gx->Prop} {b:List V} (r:VR j w ok h v (.t b)) (k:∀a vs n,ok a->h.get? a=dD ⟨.type "tuple",.none,.seq vs n,#[]⟩->VRs j w ok h vs.toList b->P (.ref a)):P v:=by obtain⟨a,vs,n,rfl,x,y,z⟩:=r.of_tup;exact k a vs n x y z
@[elab_as_elim] theorem VR.kDct {P:gx->Prop} {ks:List (List Nat)} {d:List V} (r:VR j w ok h v (.d ks d)) (k:∀a o b,ok a->(a==ux)=fG->h.get? a=dD o->o.IsDictOf (qW j w) b->b.map (·.1)=ks.map AP->VRs j w ok h (b.map (·.2)) d->P (.ref a)):P v:=by obtain⟨a,o,b,rfl,x,y,z,u,v,w⟩:=r.of_dct;exact k a o b x y z u v w
@[elab_as_elim] theorem VRs.kNil {P:List gx->Prop} (r:VRs j w ok h vs []) (k:P []):P vs:=by rw[r.of_nil];exact k
@[elab_as_elim] theorem VRs.kCons {P:List gx->Prop} {x:V} {b:List V} (r:VRs j w ok h vs (x::b)) (k:∀u a,VR j w ok h u x->VRs j w ok h a b->P (u::a)):P vs:=by obtain⟨u,a,rfl,x,y⟩:=r.of_cons;exact k u a x y
end
section
variable{j:qK}{w:sO}{ok ok':ls->Prop}{h h':qX}
theorem VRs.ind{P:List gx->List V->Prop}{v:List gx}{x:List V}(r:VRs j w ok h v x)(n:P [] [])(c:∀u y b d,VR j w ok h u y->VRs j w ok h b d->P b d->P (u::b) (y::d)):P v x:=
 VRs.rec (motive_1:=λz z z=>True) (motive_2:=λv x z=>P v x) trivial (λz=>trivial) (λz z=>trivial) (λz z=>trivial) (λz z=>trivial) (λz z z z=>trivial) (λz z z z=>trivial) (λz z z z z z z=>trivial) n (λa r z e=>c _ _ _ _ a r e) r
theorem VRs.consL{v:gx}{vs:List gx}{d:List V}(r:VRs j w ok h (v::vs) d){C:Prop}(k:∀x r,VR j w ok h v x->VRs j w ok h vs r->d=x::r->C):C:=by cases r with|cons a b=>exact k _ _ a b rfl
theorem VR.mono(f:∀b o,ok b->h.get? b=dD o->AB o=fG->h'.get? b=dD o)(g:∀b o,ok b->h.get? b=dD o->ok' b){v:gx}{x:V}(r:VR j w ok h v x):VR j w ok' h' v x:=
 VR.rec (motive_1:=λv x z=>VR j w ok' h' v x) (motive_2:=λv x z=>VRs j w ok' h' v x) .none .bool .int .str .fl (λa e z r=>.l (g _ _ a e) (f _ _ a e rfl) r) (λa e z r=>.t (g _ _ a e) (f _ _ a e rfl) r)
  (λa i e d k z r=>.d (g _ _ a e) i (f _ _ a e (Ci d)) d k r) .nil (λz z a r=>.cons a r) r
theorem VRs.mono(d:∀b o,ok b->h.get? b=dD o->AB o=fG->h'.get? b=dD o)(e:∀b o,ok b->h.get? b=dD o->ok' b){v:List gx}{x:List V}(r:VRs j w ok h v x):VRs j w ok' h' v x:=
 r.ind (P:=λv x=>VRs j w ok' h' v x) .nil λz z z z a z f=>.cons (a.mono d e) f
theorem VRs.length{v:List gx}{x:List V}(r:VRs j w ok h v x):v.length=x.length:=
 r.ind (P:=λv x=>v.length=x.length) rfl λz z z z z z a=>congrArg (·+1) a
theorem VRs.append{v u:List gx}{x y:List V}(r:VRs j w ok h v x)(s:VRs j w ok h u y):VRs j w ok h (v++u) (x++y):=
 r.ind (P:=λv x=>VRs j w ok h (v++u) (x++y)) s λz z z z a z b=>.cons a b
theorem VRs.get{v:List gx}{x:List V}(r:VRs j w ok h v x){i:Nat}{y:V}(e:x[i]?=dD y):∃u,v[i]?=dD u/\VR j w ok h u y:=
 r.ind (P:=λv x=>∀i,x[i]?=dD y->∃u,v[i]?=dD u/\VR j w ok h u y) (λz e=>nS e) (λu z z z a z b i e=>i.casesOn (λe=>⟨u,rfl,dE e▸a⟩) (λi e=>b i e) e) i e
theorem VRs.get'{v:List gx}{x:List V}(r:VRs j w ok h v x){i:Nat}{u:gx}(e:v[i]?=dD u):∃y,x[i]?=dD y/\VR j w ok h u y:=
 r.ind (P:=λv x=>∀i,v[i]?=dD u->∃y,x[i]?=dD y/\VR j w ok h u y) (λz e=>nS e) (λz y z z a z b i e=>i.casesOn (λe=>⟨y,rfl,dE e▸a⟩) (λi e=>b i e) e) i e
theorem VRs.take(n:Nat){v:List gx}{x:List V}(r:VRs j w ok h v x):VRs j w ok h (v.take n) (x.take n):=
 r.ind (P:=λv x=>∀n,VRs j w ok h (v.take n) (x.take n)) (λn=>n.casesOn .nil λz=>.nil) (λz z z z a z b n=>n.casesOn .nil λn=>.cons a (b n)) n
theorem VRs.drop(n:Nat){v:List gx}{x:List V}(r:VRs j w ok h v x):VRs j w ok h (v.drop n) (x.drop n):=
 r.ind (P:=λv x=>∀n,VRs j w ok h (v.drop n) (x.drop n)) (λn=>n.casesOn .nil λz=>.nil) (λz z z z a r b n=>n.casesOn (.cons a r) λn=>b n) n
theorem VRs.reverse{v:List gx}{x:List V}(r:VRs j w ok h v x):VRs j w ok h v.reverse x.reverse:=
 r.ind (P:=λv x=>VRs j w ok h v.reverse x.reverse) .nil λz z z z a z b=>by
  simp only[yO,yO];exact b.append (.cons a .nil)
end
theorem AU(l:List Nat):(AP l).length=l.length:=by first|rfl|simp[AP,Str.length]
theorem LH{a b:List Nat}(h:AP a=AP b):a=b:=(J5 a b).mp h
theorem GB(a b:List Nat):AP a++AP b=AP (a++b):=by first|rfl|(show ADj _ _=_;simp[AP,ADj])|(apply congrArg Str.mk;simp)
section
variable{j:qK}{w:sO}{ok:ls->Prop}{h:qX}
theorem Ij{v:gx}{x:V}(r:VR j w ok h v x):∀d,EB x=dD d->∃f,Reads h v d f/\∀a∈f,ok a:=
 VR.rec (motive_1:=λv x m=>∀d,EB x=dD d->∃f,Reads h v d f/\∀a∈f,ok a) (motive_2:=λv x m=>∀d,CJ x=dD d->∃f,ADk h v d f/\∀a∈f,ok a)
  (λm e=>dE e▸⟨[],.none,λm q=>nomatch q⟩) (λb m e=>dE e▸⟨[],.bool b,λm q=>nomatch q⟩) (λi t m e=>dE e▸⟨[],.int i t,λm q=>nomatch q⟩) (λs t m e=>dE e▸⟨[],.str _ t,λm q=>nomatch q⟩)
  (λm m m e=>nS e)
  (λa g m n m e=>HA e λo q y=>A2 (n o q) λf k l=>y▸⟨_,.list g rfl rfl k,λm p=>(md.mp p).elim (λq=>q▸a) (l _)⟩)
  (λm g m n m e=>HA e λo q y=>A2 (n o q) λf k l=>y▸⟨_,.tuple g rfl rfl k,l⟩)
  (λm m m m m m m m e=>nS e)
  (λm e=>dE e▸⟨[],.nil,λm q=>nomatch q⟩)
  (λm m i1 i2 m e=>CT e λa r q1 q2 y=>A2 (i1 a q1) λf k l=>A2 (i2 r q2) λu z B=>y▸⟨f++u,.cons k z,λb p=>(tH.mp p).elim (l b) (B b)⟩) r
theorem VRs.reads{v:List gx}{x:List V}{d:List vD}(r:VRs j w ok h v x)(e:CJ x=dD d):∃f,ADk h v d f/\∀a∈f,ok a:=
 r.ind (P:=λv x=>∀d,CJ x=dD d->∃f,ADk h v d f/\∀a∈f,ok a) (λz e=>dE e▸⟨[],.nil,λz q=>nomatch q⟩)
  (λz z z z i1 z i2 z e=>CT e λa r q1 q2 y=>A2 (Ij i1 a q1) λf g i=>A2 (i2 r q2) λk l n=>y▸⟨f++k,.cons g l,λb o=>(tH.mp o).elim (i b) (n b)⟩) d e
theorem VR.reads{v:gx}{x:V}{d:vD}(r:VR j w ok h v x)(e:EB x=dD d):∃b,Reads h v d b/\∀a∈b,ok a:=Ij r d e
end
structure Bs where
 prog:qK
 w:sO
 B:lb
 TI:qX->Prop
 mg:pw->Option gx
 mb:pw->Option gx
structure Inv(Z:Bs)(s:lb):Prop where
 keep:∀b o,Z.B.heap.get? b=dD o->AB o=fG->s.heap.get? b=dD o
 there:∀b o,Z.B.heap.get? b=dD o->∃o',s.heap.get? b=dD o'
 bare:AllBare s.gens
 os:s.os=Z.B.os
 ti:Z.TI s.heap
def CE(o:xE):Prop:=(o.cls=.none\/o.cls=.type "code")/\∃vs,o.data=.fields vs
structure Bs.Ok(Z:Bs):Prop where
 ti:∀h h',Z.TI h->(∀b o,h.get? b=dD o->CE o->h'.get? b=dD o)->Z.TI h'
 g:Z.B.heap.Ns sf Z.mg
 b:Z.B.heap.Ns yj Z.mb
 nolimit:Z.B.heap.NoLimit
structure Same(Z:Bs)(s m:lb):Prop where
 heap:∀b o,s.heap.get? b=dD o->AB o=fG->m.heap.get? b=dD o
 gens:∀(i:Nat) x,s.gens[i]?=dD x->m.gens[i]?=dD x
 inv:Inv Z s->Inv Z m
 live:∀b,m.heap.get? b=eu->s.heap.get? b=eu
theorem PZ{h h':qX}(a:∀b o,h.get? b=dD o->h'.get? b=dD o)(b:ls)(e:h'.get? b=eu):h.get? b=eu:=by
 cases q:h.get? b with
 |none=>rfl
 |some o=>exact nomatch ((a b o q).symm.trans e)
section
variable{Z:Bs}{s m E:lb}
theorem Same.refl:Same Z s s:=⟨λz z e z=>e,λz z e=>e,λi=>i,λz e=>e⟩
theorem Same.trans(x:Same Z s m)(y:Same Z m E):Same Z s E:=
 ⟨λb o e t=>y.heap b o (x.heap b o e t) t,λi g e=>y.gens i g (x.gens i g e),λi=>y.inv (x.inv i),λb e=>x.live b (y.live b e)⟩
theorem Same.of_keep(O:Z.Ok){h':qX}{tk:Nat}(a:∀b o,s.heap.get? b=dD o->h'.get? b=dD o):Same Z s {s with heap:=h',toks:=tk}:=
 ⟨λb o e z=>a b o e,λz z e=>e,λi=>⟨λb o e t=>a b o (i.keep b o e t),λb o e=>(i.there b o e).imp λd f=>a b d f,i.bare,i.os,O.ti _ _ i.ti λb o e z=>a b o e⟩,PZ a⟩
theorem Same.tok(O:Z.Ok){a:Nat}:Same Z s {s with toks:=a}:=Same.of_keep O λz z e=>e
theorem Same.push(O:Z.Ok){o:xE}{tk:Nat}:Same Z s {s with heap:=s.heap.push o,toks:=tk}:=Same.of_keep O λz z e=>lh _ e
theorem VR.same{ok:ls->Prop}{v:gx}{x:V}(r:VR Z.prog Z.w ok s.heap v x)(S:Same Z s m):VR Z.prog Z.w ok m.heap v x:=
 r.mono (λb o z e t=>S.heap b o e t) λz z a z=>a
theorem VRs.same{ok:ls->Prop}{v:List gx}{x:List V}(r:VRs Z.prog Z.w ok s.heap v x)(S:Same Z s m):VRs Z.prog Z.w ok m.heap v x:=
 r.mono (λb o z e t=>S.heap b o e t) λz z a z=>a
end
noncomputable def li:gx->lb->Prop:=λz z=>False
noncomputable def Gv(Z:Bs)(ok:ls->Prop)(s:lb)(x:V):gx->lb->Prop:=λv m=>VR Z.prog Z.w ok m.heap v x/\Same Z s m
abbrev WP(Z:Bs)(A:mx){D:Type}(t:xL D)(Q:D->lb->Prop)(s:lb):Prop:=qH (qQ Z.prog Z.w) A t Q li s
section
variable{Z:Bs}{A:mx}{D:Type}{t:xL D}{c:D}{P Q:D->lb->Prop}{R:lb->Prop}{s:lb}
theorem A1(h:WP Z A t P s)(k:∀r m,P r m->Q r m):WP Z A t Q s:=pF h k λz z f=>f
theorem GH(h:WP Z A t (λr m=>r=c/\R m) s)(k:∀m,R m->Q c m):WP Z A t Q s:=A1 h λz m g=>g.1▸k m g.2
theorem Ce(h:WP Z A t (λr m=>r=c/\m=s) s)(k:Q c s):WP Z A t Q s:=A1 h λz z g=>g.1▸g.2▸k
theorem ON{B:D->Prop}(h:WP Z A t (λr m=>B r/\m=s) s)(k:∀r,B r->Q r s):WP Z A t Q s:=A1 h λr z g=>g.2▸k r g.1
end
def OkA(n:Nat)(A:mx):Prop:=A.handled=eu/\A.depth+n+20<=uj/\A.units+64+8*n+200<=AAC
theorem OkA.u{n:Nat}{A:mx}(h:OkA n A){k:Nat}(a:k<264):A.units+k<AAC:=by have:=h.2.2;clear h;omega
theorem Nz{k:Int}(h:k.natAbs<2^62):k<2^63:=uk (vP zo (sG.mpr h)) (by decide)
theorem TH{k:Int}(h:k.natAbs<2^62): -(2^63)<=k:=yS (AAk (Nz ((x0 k).symm▸h)))
theorem Uc{k:Int}(h:k.natAbs<2^62):(decide (k< -(2^63:Int))||decide (k>=2^63))=fG:=by rw[decide_eq_false (u6.mpr (TH h)),decide_eq_false (ADl.mpr (Nz h))];rfl
theorem QA{a:Nat}(h:a<1000000):a<=wH:=mE (nV h) (by decide)
namespace FF
noncomputable def Hi(n d:Nat):Nat:=
 let q:=n/d
 let r:=n%d
 match pq d (2*r)with
 |true=>q+1
 |false=>match lf (2*r) d with
  |true=>match lf (q%2) 1 with
   |true=>q+1
   |false=>q
  |false=>q
theorem Iv(n d:Nat):Hi n d=AAl n d:=by
 unfold Hi AAl;simp only;cases c:pq d (2*(n%d))with
 |true=>have:d<2*(n%d):=nY c;rw[if_pos (by simp[this])]
 |false=>
  have a:¬d<2*(n%d):=λh=>by
   have:pq d (2*(n%d))=er:=mK h;exact nomatch (c.symm.trans this)
  cases e:lf (2*(n%d)) d with
  |false=>have:=mP e;rw[if_neg (by simp[a,this])]
  |true=>
   have b:=lk e;cases f:lf (n/d%2) 1 with
   |true=>have:=lk f;rw[if_pos (by simp[b,this])]
   |false=>have:=mP f;rw[if_neg (by simp[a,this])]
noncomputable def Ei(a b:Nat):Nat:=match ph a b with
 |true=>a
 |false=>b
theorem DF(a b:Nat):Ei a b=min a b:=by
 unfold Ei;cases h:ph a b with
 |true=>exact(uo (nY h)).symm
 |false=>
  have:¬a<=b:=λq=>by exact nomatch ((mK q).symm.trans h)
  show b=min a b;exact(yk (by lia)).symm
noncomputable def OU(b:Bool):Nat:=match b with
 |true=>52
 |false=>53
noncomputable def Dw(n d:Nat):Nat:=match lf n 0 with
 |true=>0
 |false=>match ph d.log2 n.log2 with
  |true=>
   let L:=n.log2-d.log2
   let t:=OU (ph (d*2^L) n)
   match ph t L with
   |true=>Ei yl ((L-t+1074)*2^52+Hi n (d*2^(L-t)))
   |false=>Ei yl ((1074-(t-L))*2^52+Hi (n*2^(t-L)) d)
  |false=>
   let L:=d.log2-n.log2
   let K:=Ei (L+OU (ph d (n*2^L))) 1074
   Ei yl ((1074-K)*2^52+Hi (n*2^K) d)
theorem FN(n d K:Nat):wo n d (-(K:Int))=(if K=0 then(n,d)else(n,d*2^K)):=by
 unfold wo;by_cases h:K=0
 ·subst h;simp
 ·rw[if_neg (by lia),if_neg h];have:(- -(K:Int)).toNat=K:=by rw[uH,p7]
  rw[this]
theorem Dd(n d K:Nat):wo n d (K:Int)=(n*2^K,d):=by unfold wo;simp
theorem ble_dec(a b:Nat):ph a b=decide (a<=b):=by
 cases h:ph a b with
 |true=>exact(decide_eq_true (nY h)).symm
 |false=>exact(decide_eq_false λq=>by exact nomatch ((mK q).symm.trans h)).symm
theorem SJ{a b:Nat}(h:b<=a):(a:Int)-b=((a-b:Nat):Int):=(th h).symm
theorem Rw{a b:Nat}(h:a<=b):(a:Int)-b= -((b-a:Nat):Int):=by rw[th h,AAm]
theorem i7(a b c:Int):(a-c)-(b-c)=a-b:=by rw[AAn,wf c,ABR]
theorem rl(L:Nat):max ((L:Int)-52) (-1074)=(L:Int)-((52:Nat):Int):=zD (wg (by decide:(-1074:Int)<=0-52) (wN (pP L) 52))
theorem rh(L:Nat):max ((L:Int)-53) (-1074)=(L:Int)-((53:Nat):Int):=zD (wg (by decide:(-1074:Int)<=0-53) (wN (pP L) 53))
theorem mn(L t:Nat):max (-((L+t:Nat):Int)) (-1074)= -((min (L+t) 1074:Nat):Int):=by
 rcases AAD (L+t) 1074 with h|h
 ·rw[uo h];exact zD (ACK (tD.mpr h))
 ·rw[yk h];exact ym (ACK (tD.mpr h))
theorem re{L t:Nat}(h:t<=L):L-t+1074=((L:Int)-t+1074).toNat:=by rw[SJ h];rfl
theorem qe(K:Nat):1074-K=(-(K:Int)+1074).toNat:=by rw[wf,<-yD];exact(zp 1074 K).symm
theorem rS{L t:Nat}(h:L<=t):1074-(t-L)=((L:Int)-t+1074).toNat:=by rw[Rw h];exact qe _
theorem gM{e:Nat}(h:e≠0):(e:Int)-1075=((e-1:Nat):Int)-1074:=by
 cases e with
 |zero=>exact absurd rfl h
 |succ k=>exact(ABi (k:Int) 1 1075)
theorem Ll{a b:Nat}(h:ph a b=fG):b<a:=uQ.mp λq=>by rw[mK q]at h;cases h
theorem DZ(n d:Nat):Dw n d=AAo n d:=by
 unfold Dw AAo;cases l:lf n 0 with
 |true=>have:=lk l;simp[this]
 |false=>
  rw[if_neg (by simpa using(mP l))];cases m:ph d.log2 n.log2 with
  |true=>
   have c:d.log2<=n.log2:=nY m;simp only;generalize e:n.log2-d.log2=L;have g:((n.log2:Int)-(d.log2:Int))=(L:Int):=by rw[SJ c,e]
   rw[g,FN];have h:∀{r:Type} (f:Nat×Nat->r),f (if L=0 then(n,d)else(n,d*2^L))=f (n,d*2^L):=λf=>by
    by_cases q:L=0
    ·rw[q];simp
    ·rw[if_neg q]
   rw[show(if L=0 then(n,d)else(n,d*2^L))=(n,d*2^L)from h id];simp only;generalize b:OU (ph (d*2^L) n)=t;have i:max (if n>=d*2^L then(L:Int)-52 else(L:Int)-53) (-1074)=(L:Int)-t:=by
    rw[ble_dec]at b;by_cases q:d*2^L<=n
    ·rw[if_pos q];rw[decide_eq_true q]at b;subst b;exact rl L
    ·rw[if_neg q];rw[decide_eq_false q]at b;subst b;exact rh L
   have o:t<=53:=by refine b▸?_;unfold OU;split<;>lia
   refine i▸?_;cases p:ph t L with
   |true=>
    have a:t<=L:=nY p;have j: -((L:Int)-(t:Int))= -((L-t:Nat):Int):=by rw[SJ a]
    rw[j,FN,show(if L-t=0 then(n,d)else(n,d*2^(L-t)))=(n,d*2^(L-t))from by
     by_cases q:L-t=0
     ·rw[if_pos q,q];simp
     ·rw[if_neg q]]
    simp only;simp only[DF,Iv];congr 3;exact re a
   |false=>
    have a:L<t:=Ll p;have j: -((L:Int)-(t:Int))=((t-L:Nat):Int):=by rw[AAm,SJ (nV a)]
    rw[j,Dd];simp only;rw[DF,Iv];congr 3;exact rS (nV a)
  |false=>
   have k:n.log2<d.log2:=Ll m;simp only;generalize e:d.log2-n.log2=L;have g:((n.log2:Int)-(d.log2:Int))= -(L:Int):=by rw[Rw (nV k),e]
   rw[g,uH,Dd];simp only;generalize b:OU (ph d (n*2^L))=t;have i:(if n*2^L>=d then -(L:Int)-52 else -(L:Int)-53)= -((L+t:Nat):Int):=by
    rw[ble_dec]at b;by_cases q:d<=n*2^L
    ·rw[if_pos q];rw[decide_eq_true q]at b;subst b;exact(y7 (a:=L) (b:=52)).symm
    ·rw[if_neg q];rw[decide_eq_false q]at b;subst b;exact(y7 (a:=L) (b:=53)).symm
   rw[i,DF (L+t) 1074,mn];have s:min (L+t) 1074<=1074:=to _ _;generalize min (L+t) 1074=K at s;rw[uH,Dd];simp only;simp only[DF,Iv];congr 3;exact qe K
noncomputable def aS(n:Nat):Nat:=match lf (n/2^52%2048) 0 with
 |true=>n%2^52
 |false=>2^52+n%2^52
noncomputable def fin{a:Type}(x:UInt64)(k:Bool->Nat->Nat->a)(d:a):a:=
 match lf (x.toNat/2^52%2048) 2047 with
 |true=>d
 |false=>k (lf (x.toNat/2^63) 1) (aS x.toNat) (x.toNat/2^52%2048-1)
theorem beq_dec(a b:Nat):lf a b=decide (a=b):=by
 cases h:lf a b with
 |true=>exact(decide_eq_true (lk h)).symm
 |false=>exact(decide_eq_false (mP h)).symm
theorem Xo(x:UInt64)(h:lf (x.toNat/2^52%2048) 2047=fG):vQ x=.fin (lf (x.toNat/2^63) 1) (aS x.toNat) (((x.toNat/2^52%2048-1:Nat):Int)-1074):=by
 have c:=mP h;unfold vQ aS;simp only;rw[if_neg (by simpa using c)];have e:lf (x.toNat/2^63) 1=(x.toNat/2^63==1):=by rw[beq_dec];rfl
 refine e▸?_;cases b:lf (x.toNat/2^52%2048) 0 with
 |true=>have a:=lk b;rw[if_pos (by simpa using a),a];rfl
 |false=>have a:=mP b;rw[if_neg (by simpa using a),gM a]
theorem CR{b:Type}{x:UInt64}{k:Bool->Nat->Nat->b}{d r:b}(hd:d=r)(c:∀(a:Bool) (m E:Nat),vQ x=.fin a m ((E:Int)-1074)->k a m E=r):fin x k d=r:=by
 unfold fin;cases h:lf (x.toNat/2^52%2048) 2047 with
 |true=>exact hd
 |false=>exact c _ _ _ (Xo x h)
noncomputable def xorB(a b:Bool):Bool:=match a,b with
 |true,er=>fG
 |true,fG=>er
 |false,er=>er
 |false,fG=>fG
theorem xorB_eq(a b:Bool):xorB a b=(a != b):=by induction a using qV<;>induction b using qV<;>rfl
noncomputable def OA(a:Bool)(m g o:Nat):UInt64:=match ph o g with
 |true=>vR a (Dw (m*2^(g-o)) 1)
 |false=>vR a (Dw m (2^(o-g)))
theorem ID(a:Bool)(m g o:Nat):OA a m g o=ABj a m ((g:Int)-o):=by
 unfold OA ABj;rw[ble_dec];by_cases h:o<=g
 ·rw[decide_eq_true h,SJ h,Dd];simp only[uR,DZ]
 ·rw[decide_eq_false h,Rw (nV (uQ.mp h)),FN,if_neg (AAa (uQ.mp h))];simp only[uR,DZ,AAp]
noncomputable def kB(x y:UInt64):UInt64:=fin x (λa m E=>fin y (λb k F=>OA (xorB a b) (m*k) (E+F) 2148) (vG x y)) (vG x y)
theorem YB:kB=vG:=by
 funext x y;refine CR rfl λa m E c=>CR rfl λb k F d=>?_;rw[ID,xorB_eq];unfold vG;rw[c,d];simp only;congr 1
 lia
noncomputable def gK(x y:UInt64):UInt64:=fin x (λa m E=>fin y (λb k F=>match lf k 0 with
  |true=>tx x y
  |false=>match ph F E with
   |true=>vR (xorB a b) (Dw (m*2^(E-F)) k)
   |false=>vR (xorB a b) (Dw m (k*2^(F-E)))) (tx x y)) (tx x y)
theorem Y6:gK=tx:=by
 funext x y;refine CR rfl λa m E f=>CR rfl λb k F g=>?_;cases i:lf k 0 with
 |true=>rfl
 |false=>
  have c:=mP i;have e:tx x y=(let (n,d):=wo m k (((E:Int)-1074)-((F:Int)-1074));uR (a != b) n d):=by unfold tx;rw[f,g];simp only;rw[if_neg (by simpa using c)]
  rw[e,xorB_eq,ble_dec];by_cases h:F<=E
  ·simp only[decide_eq_true h,i7,SJ h,Dd];simp only[uR,DZ]
  ·rw[decide_eq_false h,i7,Rw (nV (uQ.mp h)),FN,if_neg (AAa (uQ.mp h))];simp only[uR,DZ]
noncomputable def SN(a:Bool)(p:Nat)(b:Bool)(q:Nat)(k:Bool->Nat->UInt64)(z:UInt64):UInt64:=match xorB a b with
 |false=>match lf (p+q) 0 with
  |true=>z
  |false=>k a (p+q)
 |true=>match lf p q with
  |true=>z
  |false=>match ph q p with
   |true=>k a (p-q)
   |false=>k b (q-p)
noncomputable def Jf(k:Bool->Nat->UInt64)(z:UInt64)(i:Int):UInt64:=if i==0 then z else k (decide (i<0)) i.natAbs
theorem NA{k:Bool->Nat->UInt64}{z:UInt64}{n:Nat}(h:n≠0):Jf k z n=k fG n:=by unfold Jf;rw[if_neg (λq=>h (AA8.mp (qy q))),decide_eq_false (u6.mpr (pP n)),vS]
theorem ML{k:Bool->Nat->UInt64}{z:UInt64}{n:Nat}(h:n≠0):Jf k z (-(n:Int))=k er n:=by unfold Jf;rw[if_neg (λq=>h (AA8.mp (Int.neg_eq_zero.mp (qy q)))),decide_eq_true (by lia),x0,vS]
theorem KQ{k:Bool->Nat->UInt64}{z:UInt64}(p q:Nat):Jf k z ((p:Int)-q)=match lf p q with
  |true=>z
  |false=>match ph q p with
   |true=>k fG (p-q)
   |false=>k er (q-p):=by
 cases h:lf p q with
 |true=>simp only[lk h,ACv];rfl
 |false=>
  cases a:ph q p with
  |true=>have a:=nY a;rw[SJ a,NA λe=>(mP h) (vM (vh.mp e) a)]
  |false=>have a:=Ll a;rw[Rw (nV a),ML λe=>uQ.mpr a (vh.mp e)]
theorem Pl(a:Bool)(p:Nat)(b:Bool)(q:Nat)(k:Bool->Nat->UInt64)(z:UInt64):SN a p b q k z=(if su a p+su b q==0 then z else k (decide (su a p+su b q<0)) (su a p+su b q).natAbs):=by
 show SN a p b q k z=Jf k z (su a p+su b q);cases a<;>cases b
 ·show _=Jf k z ((p+q:Nat):Int);show(match lf (p+q) 0 with|true=>z|false=>k fG (p+q))=_;cases h:lf (p+q) 0 with
  |true=>rw[lk h];rfl
  |false=>exact(NA (mP h)).symm
 ·exact(KQ p q).symm
 ·show _=Jf k z (-(p:Int)+q);rw[wf,<-yD,KQ];show(match lf p q with|true=>z|false=>match ph q p with|true=>k er (p-q)|false=>k fG (q-p))=_;simp only[beq_dec,beq_dec,ble_dec,ble_dec];by_cases h:p=q
  ·simp only[decide_eq_true h,decide_eq_true h.symm]
  ·simp only[decide_eq_false h,decide_eq_false (ub h)];by_cases c:q<=p
   ·rw[decide_eq_true c,decide_eq_false λe=>h (vM e c)]
   ·rw[decide_eq_false c,decide_eq_true (nV (uQ.mp c))]
 ·show _=Jf k z (-(p:Int)+ -(q:Int));rw[<-y7];show(match lf (p+q) 0 with|true=>z|false=>k er (p+q))=Jf k z (-((p+q:Nat):Int));cases h:lf (p+q) 0 with
  |true=>rw[lk h];rfl
  |false=>exact(ML (mP h)).symm
noncomputable def bI(a b:Bool):Bool:=match a with
 |true=>b
 |false=>fG
noncomputable def Xx(x y:UInt64):UInt64:=fin x (λa m E=>fin y (λb k F=>
  let g:=Ei E F
  SN a (m*2^(E-g)) b (k*2^(F-g)) (λs n=>OA s n g 1074) (uc (bI a b))) (uy x y)) (uy x y)
theorem Ge(a:Bool)(m E:Nat)(b:Bool)(k F:Nat):ABk a m ((E:Int)-1074) b k ((F:Int)-1074)=(su a (m*2^(E-min E F)),su b (k*2^(F-min E F)),((min E F:Nat):Int)-1074):=by
 unfold ABk;have c:min ((E:Int)-1074) ((F:Int)-1074)=((min E F:Nat):Int)-1074:=by
  rcases AAD E F with h|h
  ·rw[uo h,zE (wN (tD.mpr h) _)]
  ·rw[yk h,Int.min_eq_right (wN (tD.mpr h) _)]
 rw[c];have d:(((E:Int)-1074)-(((min E F:Nat):Int)-1074)).toNat=E-min E F:=by rw[i7,zp]
 have e:(((F:Int)-1074)-(((min E F:Nat):Int)-1074)).toNat=F-min E F:=by rw[i7,zp]
 simp only[d,e]
theorem IC:Xx=uy:=by funext x y;refine CR rfl λa m E c=>CR rfl λb k F d=>?_;rw[DF];rw[Pl];unfold uy;simp only[c,d];rw[Ge,ID];induction a using qV<;>induction b using qV<;>rfl
noncomputable def Yw(p q:Nat):Ordering:=match lf p q with
 |true=>.eq
 |false=>match ph p q with
  |true=>.lt
  |false=>.gt
noncomputable def eA(a:Bool)(p:Nat)(b:Bool)(q:Nat):Ordering:=match a,b with
 |false,fG=>Yw p q
 |true,er=>Yw q p
 |false,er=>match lf (p+q) 0 with
  |true=>.eq
  |false=>.gt
 |true,fG=>match lf (p+q) 0 with
  |true=>.eq
  |false=>.lt
theorem PH(p q:Nat)(i j:Int)(a:p=q->i=j)(b:p<q->i<j)(c:q<p->j<i):Yw p q=ACd i j:=by
 unfold Yw;cases h:lf p q with
 |true=>exact(Int.compare_eq_eq.mpr (a (lk h))).symm
 |false=>cases g:ph p q with
  |true=>exact(ABl.mpr (b (vT (nY g) (mP h)))).symm
  |false=>exact(ABm.mpr (c (Ll g))).symm
theorem pe{p q:Nat}(h:p+q≠0): -(q:Int)<p:=by lia
theorem Wg(a:Bool)(p:Nat)(b:Bool)(q:Nat):eA a p b q=ACd (su a p) (su b q):=by
 cases a<;>cases b
 ·exact PH p q _ _ (λh=>h▸rfl) (λh=>sG.mpr h) λh=>sG.mpr h
 ·show(match lf (p+q) 0 with|true=>.eq|false=>.gt)=ACd (p:Int) (-(q:Int));cases h:lf (p+q) 0 with
  |true=>have h:=AA9.mp (lk h);rw[h.1,h.2];rfl
  |false=>exact(ABm.mpr (pe (mP h))).symm
 ·show(match lf (p+q) 0 with|true=>.eq|false=>.lt)=ACd (-(p:Int)) (q:Int);cases h:lf (p+q) 0 with
  |true=>have h:=AA9.mp (lk h);rw[h.1,h.2];rfl
  |false=>exact(ABl.mpr (pe (p:=q) (q:=p) λe=>mP h (rZ p q▸e))).symm
 ·exact PH q p _ _ (λh=>h▸rfl) (λh=>ACL (sG.mpr h)) λh=>ACL (sG.mpr h)
noncomputable def eo(x y:UInt64):Option Ordering:=fin x (λa m E=>fin y (λb k F=>
  let g:=Ei E F
  dD (eA a (m*2^(E-g)) b (k*2^(F-g)))) (uW x y)) (uW x y)
theorem P0:eo=uW:=by funext x y;refine CR rfl λa m E c=>CR rfl λb k F d=>?_;simp only[DF,Wg];unfold uW;simp only[c,d];rw[Ge]
noncomputable def L8(x:UInt64):Bool:=fin x (λz m z=>lf m 0) (uS x)
theorem Fq:L8=uS:=by funext x;refine CR rfl λa m E b=>?_;unfold uS;refine b▸?_;cases m<;>rfl
noncomputable def Rz(x y:UInt64):UInt64:=fin x (λa m E=>fin y (λz k F=>match lf k 0 with
  |true=>tV x y
  |false=>
   let g:=Ei E F
   OA a ((m*2^(E-g))% (k*2^(F-g))) g 1074) (tV x y)) (tV x y)
theorem IU:Rz=tV:=by
 funext x y;refine CR rfl λa m E d=>CR rfl λb k F e=>?_;cases f:lf k 0 with
 |true=>rfl
 |false=>have c:=mP f;simp only[DF,ID];unfold tV;rw[d,e];simp only;rw[if_neg (by simpa using c)];rw[Ge];rfl
noncomputable def Wl(x y:UInt64):Bool:=match eo x y with
 |some .lt=>er
 |_=>fG
theorem PS(x y:UInt64):Wl x y=xF x y:=by
 unfold Wl xF;rw[P0];cases uW x y with
 |none=>rfl
 |some o=>induction o using AAb<;>rfl
noncomputable def c0(x y:UInt64):UInt64:=
 let m:=Rz x y
 match L8 m with
 |true=>AAq (uc fG) y
 |false=>match xorB (Wl y (uc fG)) (Wl m (uc fG))with
  |true=>Xx m y
  |false=>m
theorem Xd(x y:UInt64):c0 x y=(xY x y).snd:=by
 unfold c0 xY;simp only[IU,Fq,IC,xorB_eq,PS];cases h:uS (tV x y)with
 |true=>simp
 |false=>
  cases a:(xF y (uc fG) != xF (tV x y) (uc fG))with
  |true=>simp[a]
  |false=>simp[a]
noncomputable def IE(a:Bool)(n d:Nat):UInt64:=vR a (Dw n d)
theorem Il:IE=uR:=by funext a n d;unfold IE uR;rw[DZ]
noncomputable def negI(i:Int):Bool:=match i with
 |.ofNat _=>fG
 |.negSucc _=>er
theorem negI_eq(i:Int):negI i=decide (i<0):=by
 induction i using wO with
 |ofNat n=>exact(decide_eq_false (by simp)).symm
 |negSucc n=>exact(decide_eq_true (x' n)).symm
theorem Mm(s:Nat):∀n:Nat,2^s<=n->n.log2=(n/2^s).log2+s:=by
 induction s with
 |zero=>intro n _;simp
 |succ s b=>
  intro n h;have d:1<=2^s:=Nat.one_le_two_pow;have c:2<=n:=mE (rv (by decide) (xO (qd s)):2^1<=2^(s+1)) h;have e:n.log2=(n/2).log2+1:=by rw[Nat.log2_def];rw[if_pos c]
  have a:2^s<=n/2:=(wB (by decide)).mpr h;simp only[e,b _ a,AAE,ACw,uI (2^s) 2,wM]
noncomputable def Yx(s:Nat)(p:Nat)(k:Nat->Nat->Nat)(n a:Nat):Nat:=match ph p n with
 |true=>k (xZ n p) (si a s)
 |false=>k n a
theorem Gq{s p:Nat}(c:p=2^s){k:Nat->Nat->Nat}(d:∀n a,n<p->k n a=n.log2+a)(n a:Nat)(e:n<p*p):Yx s p k n a=n.log2+a:=by
 unfold Yx;cases h:ph p n with
 |true=>
  have b:p<=n:=nY h;show k (n/p) (a+s)=_;rw[d _ _ (AAr e),Mm s n (c▸b),c]
  lia
 |false=>
  have b:n<p:=by rw[ble_dec]at h;have:=of_decide_eq_false h;lia
  exact d n a b
noncomputable def o4(n a:Nat):Nat:=match ph 2 n with
 |true=>si a 1
 |false=>a
def rD(a n:Nat):Prop:=o4 n a=n.log2+a
theorem kg(n a:Nat):n<4->rD a n:=Mine.Internal.AO (n:=3) (show a+1=AAs 3+a by exact rZ _ _) (Mine.Internal.AO (n:=2) (show a+1=AAs 2+a by exact rZ _ _) (Mine.Internal.AO (n:=1) (show a=AAs 1+a by exact(tZ _).symm) (Mine.Internal.AO (n:=0) (show a=AAs 0+a by exact(tZ _).symm) Mine.Internal.Q6)))
theorem dm(n a:Nat)(h:n<4):o4 n a=n.log2+a:=kg n a h
noncomputable def lg(n:Nat):Nat:=match ph 340282366920938463463374607431768211456 n with
 |true=>n.log2
 |false=>Yx 64 18446744073709551616 (Yx 32 4294967296 (Yx 16 65536 (Yx 8 256 (Yx 4 16 (Yx 2 4 o4))))) n 0
theorem Q3(n:Nat):lg n=n.log2:=by
 unfold lg;cases h:ph 340282366920938463463374607431768211456 n with
 |true=>rfl
 |false=>
  have a:n<340282366920938463463374607431768211456:=by rw[ble_dec]at h;have:=of_decide_eq_false h;lia
  show Yx 64 18446744073709551616 _ n 0=_;rw[Gq (by decide) (Gq (by decide) (Gq (by decide) (Gq (by decide) (Gq (by decide) (Gq (by decide) dm))))) n 0 a,Nat.add_zero]
noncomputable def O'(n d ld:Nat):Nat:=match lf n 0 with
 |true=>0
 |false=>match ph ld (lg n)with
  |true=>
   let L:=so (lg n) ld
   let t:=OU (ph (rF d (uX 2 L)) n)
   match ph t L with
   |true=>Ei 9218868437227405312 (si (rF (si (so L t) 1074) 4503599627370496) (Hi n (rF d (uX 2 (so L t)))))
   |false=>Ei 9218868437227405312 (si (rF (so 1074 (so t L)) 4503599627370496) (Hi (rF n (uX 2 (so t L))) d))
  |false=>
   let L:=so ld (lg n)
   let K:=Ei (si L (OU (ph d (rF n (uX 2 L))))) 1074
   Ei 9218868437227405312 (si (rF (so 1074 K) 4503599627370496) (Hi (rF n (uX 2 K)) d))
theorem GZ{n d ld:Nat}(h:ld=d.log2):O' n d ld=Dw n d:=by subst h;unfold O' Dw;rw[Q3];rfl
noncomputable def pk(a:Bool)(m:Nat):UInt64:=match a with
 |true=>AB9 (si 9223372036854775808 m)
 |false=>AB9 m
theorem Ms(a:Bool)(m:Nat):pk a m=vR a m:=by
 unfold vR;induction a using qV with
 |true=>rfl
 |false=>rw[if_neg (by decide),tZ];rfl
noncomputable def lR(n:Nat):Nat:=match lf (xa (xZ n 4503599627370496) 2048) 0 with
 |true=>xa n 4503599627370496
 |false=>si 4503599627370496 (xa n 4503599627370496)
noncomputable def GY{a:Type}(x:UInt64)(k:Bool->Nat->Nat->a)(d:a):a:=
 match lf (xa (xZ x.toNat 4503599627370496) 2048) 2047 with
 |true=>d
 |false=>k (lf (xZ x.toNat 9223372036854775808) 1) (lR x.toNat) (so (xa (xZ x.toNat 4503599627370496) 2048) 1)
theorem EH{a:Type}(x:UInt64)(k:Bool->Nat->Nat->a)(d:a):GY x k d=fin x k d:=rfl
noncomputable def Qq(a:Bool)(m g o:Nat):UInt64:=match ph o g with
 |true=>pk a (O' (rF m (uX 2 (so g o))) 1 0)
 |false=>pk a (O' m (uX 2 (so o g)) (so o g))
theorem Hy(a:Bool)(m g o:Nat):Qq a m g o=OA a m g o:=by
 unfold Qq OA;cases ph o g with
 |true=>simp only[Ms];exact congrArg _ (GZ (by decide))
 |false=>simp only[Ms];exact congrArg _ (GZ ((Nat.log2_two_pow).symm))
noncomputable def mul(x y:UInt64):UInt64:=GY x (λa m E=>GY y (λb k F=>Qq (xorB a b) (rF m k) (si E F) 2148) (vG x y)) (vG x y)
theorem mul_eq:mul=vG:=by refine YB▸?_;funext x y;simp only[mul,kB,EH,Hy];rfl
theorem Ke(k j:Nat)(a:k≠0):(k*2^j).log2=k.log2+j:=by rw[Mm j _ (Nat.le_mul_of_pos_left _ (by lia)),Nat.mul_div_cancel _ (xj j)]
noncomputable def div(x y:UInt64):UInt64:=GY x (λa m E=>GY y (λb k F=>match lf k 0 with
  |true=>tx x y
  |false=>match ph F E with
   |true=>pk (xorB a b) (O' (rF m (uX 2 (so E F))) k (lg k))
   |false=>pk (xorB a b) (O' m (rF k (uX 2 (so F E))) (si (lg k) (so F E)))) (tx x y)) (tx x y)
theorem div_eq:div=tx:=by
 refine Y6▸?_;funext x y;simp only[div,gK,EH];congr 1;funext a m E;congr 1;funext b k F;cases d:lf k 0 with
 |true=>rfl
 |false=>
  have c:=mP d;cases ph F E with
  |true=>simp only[Ms];exact congrArg _ (GZ (Q3 k))
  |false=>simp only[Ms];rw[GZ (show si (lg k) (so F E)=(rF k (uX 2 (so F E))).log2 from by rw[Q3];exact(Ke k (F-E) c).symm)];rfl
noncomputable def add(x y:UInt64):UInt64:=GY x (λa m E=>GY y (λb k F=>
  let g:=Ei E F
  SN a (rF m (uX 2 (so E g))) b (rF k (uX 2 (so F g))) (λs n=>Qq s n g 1074) (uc (bI a b))) (uy x y)) (uy x y)
theorem add_eq:add=uy:=by refine IC▸?_;funext x y;simp only[add,Xx,EH,Hy];rfl
noncomputable def df(b:Bool):Bool:=match b with
 |true=>fG
 |false=>er
noncomputable def sub(x y:UInt64):UInt64:=GY x (λa m E=>GY y (λb k F=>
  let g:=Ei E F
  SN a (rF m (uX 2 (so E g))) (df b) (rF k (uX 2 (so F g))) (λs n=>Qq s n g 1074) (uc (bI a (df b)))) (xb x y)) (xb x y)
theorem sub_eq:sub=xb:=by
 funext x y;unfold sub;simp only[EH,Hy];refine CR rfl λa m E c=>CR rfl λb k F d=>?_;rw[DF];rw[Pl];unfold xb uy;rw[c,Float64.neg_decode d];have e:df b=!b:=by induction b using qV<;>rfl
 show(if su a (m*2^(E-min E F))+su (!b) (k*2^(F-min E F))==0 then _ else _)=_;simp only[Ge,ID];induction a using qV<;>induction b using qV<;>rfl
noncomputable def q(x y:UInt64):Option Ordering:=GY x (λa m E=>GY y (λb k F=>
  let g:=Ei E F
  dD (eA a (rF m (uX 2 (so E g))) b (rF k (uX 2 (so F g))))) (uW x y)) (uW x y)
theorem cmp_eq:q=uW:=by rw[<-P0];funext x y;simp only[q,eo,EH];rfl
noncomputable def isZero(x:UInt64):Bool:=GY x (λz m z=>lf m 0) (uS x)
theorem isZero_eq:isZero=uS:=by rw[<-Fq];funext x;simp only[isZero,L8,EH]
noncomputable def fmod(x y:UInt64):UInt64:=GY x (λa m E=>GY y (λz k F=>match lf k 0 with
  |true=>tV x y
  |false=>
   let g:=Ei E F
   Qq a (xa (rF m (uX 2 (so E g))) (rF k (uX 2 (so F g)))) g 1074) (tV x y)) (tV x y)
theorem fmod_eq:fmod=tV:=by refine IU▸?_;funext x y;simp only[fmod,Rz,EH,Hy];rfl
noncomputable def ll(x y:UInt64):Bool:=match q x y with
 |some .lt=>er
 |_=>fG
theorem aY(x y:UInt64):ll x y=xF x y:=by
 unfold ll xF;rw[cmp_eq];cases uW x y with
 |none=>rfl
 |some o=>induction o using AAb<;>rfl
noncomputable def mod(x y:UInt64):UInt64:=
 let m:=fmod x y
 match isZero m with
 |true=>AAq (uc fG) y
 |false=>match xorB (ll y 0) (ll m 0)with
  |true=>add m y
  |false=>m
theorem mod_eq(x y:UInt64):mod x y=(xY x y).snd:=by rw[<-Xd];unfold mod c0;rw[fmod_eq,isZero_eq,add_eq,aY,IU,Fq,IC,PS];rfl
noncomputable def ofFrac(a:Bool)(n d:Nat):UInt64:=pk a (O' n d (lg d))
theorem ofFrac_eq:ofFrac=uR:=by rw[<-Il];funext a n d;unfold ofFrac IE;rw[Ms,GZ (Q3 d)]
noncomputable def ofInt(i:Int):UInt64:=ofFrac (negI i) i.natAbs 1
theorem ofInt_eq:ofInt=zF:=by funext i;unfold ofInt zF;rw[ofFrac_eq,negI_eq]
end FF
section
set_option backward.eqns.nonrecursive false
set_option backward.eqns.deepRecursiveSplit false
noncomputable def FP(i:Int):Bool:=pq i.natAbs (2^4000)
theorem eJ{i:Int}(h:FP i=er):i.natAbs<2^4000:=nY h
theorem Ek{i:Int}(h:FP i=er):po i<=4000:=intBits_le (eJ h)
theorem Pb{i:Int}(h:FP i=er):i.natAbs.log2<9000:=by
 have a:=Ek h;unfold po at a;by_cases b:i=0
 ·rw[b];decide
 ·rw[if_neg (by simpa using b)]at a;lia
theorem Mq:bitsLine=2^27:=rfl
theorem Xa{i j:Int}(h:FP i=er)(k:FP j=er):IntMulOk i j:=by
 have b:=Ek h;have c:=Ek k;unfold IntMulOk ADm;have a:¬((po i:Int)+(po j:Int)>(bitsLine:Int)):=by simp only[Mq];lia
 rw[decide_eq_false a];simp
noncomputable def A5{a:Type}(l:List a):Bool:=pq l.length 1000000
theorem AQ{a:Type}{l:List a}(h:A5 l=er):l.length<1000000:=nY h
noncomputable def rep{a:Type}(l:List a)(n:Int):List a:=(uY n.toNat l).flatten
noncomputable def binI(o:qp)(i j:Int):Option V:=match o with
 |.Add=>dD (.int (i+j))
 |.Sub=>dD (.int (i-j))
 |.Mult=>if FP i&&FP j then dD (.int (i*j))else eu
 |.FloorDiv=>if j != 0&&FP j then dD (.int (i.fdiv j))else eu
 |.Mod=>if j != 0 then dD (.int (i.fmod j))else eu
 |.Pow=>if FP i&&decide (0<=j)&&decide (j<=1000)then dD (.int (i^j.toNat))else eu
 |.LShift=>if FP i&&decide (0<=j)&&decide (j<=1000000)then dD (.int (i*2^j.toNat))else eu
 |.RShift=>if decide (0<=j)then dD (.int (i.fdiv (2^j.toNat)))else eu
 |.BitAnd=>dD (.int (ABS i j))
 |.BitOr=>dD (.int (zG i j))
 |.BitXor=>dD (.int (yn i j))
 |.Div=>if j != 0&&!ABn (FF.ofFrac (FF.xorB (FF.negI i) (FF.negI j)) i.natAbs j.natAbs)then dD (.fl (FF.ofFrac (FF.xorB (FF.negI i) (FF.negI j)) i.natAbs j.natAbs))else eu
 |.MatMult=>eu
noncomputable def ew(i:Int):Bool:=pq i.natAbs (2^1023)
theorem Fv{i:Int}(h:ew i=er):i.natAbs<2^1023:=nY h
theorem I3{i:Int}(h:ew i=er):¬ABn (zF i)=er:=Float64.ofInt_fits (Fv h)
noncomputable def ZF(o:qp)(x y:UInt64):Option V:=match o with
 |.Add=>dD (.fl (uy x y))
 |.Sub=>dD (.fl (xb x y))
 |.Mult=>dD (.fl (vG x y))
 |.Div=>if uS y then eu else dD (.fl (tx x y))
 |.Mod=>if uS y then eu else dD (.fl (xY x y).snd)
 |_=>eu
noncomputable def MZ(o:qp)(x y:UInt64):Option V:=match o with
 |.Add=>dD (.fl (FF.add x y))
 |.Sub=>dD (.fl (FF.sub x y))
 |.Mult=>dD (.fl (FF.mul x y))
 |.Div=>if FF.isZero y then eu else dD (.fl (FF.div x y))
 |.Mod=>if FF.isZero y then eu else dD (.fl (FF.mod x y))
 |_=>eu
theorem Lg(o:qp)(x y:UInt64):MZ o x y=ZF o x y:=by unfold MZ ZF;simp only[FF.add_eq,FF.sub_eq,FF.mul_eq,FF.div_eq,FF.isZero_eq,FF.mod_eq]
noncomputable def on(c o:qp)(x:Option V):Option V:=if o=c then x else eu
theorem m7{c o:qp}{x:Option V}{z:V}{C:Prop}(h:on c o x=dD z)(k:o=c->x=dD z->C):C:=iK h k
noncomputable def AD(o:qp)(a b:V):Option V:=a.casesOn eu (λz=>eu)
 (λi=>b.casesOn eu (λz=>eu) (λj=>binI o i j) (λz=>eu) (λy=>if ew i then MZ o (FF.ofInt i) y else eu) (λz=>eu) (λz=>eu) λz z=>eu)
 (λs=>b.casesOn eu (λz=>eu) (λn=>on .Mult o (if pq s.length 1000&&decide (0<=n)&&decide (n<=1000)then dD (.str (rep s n))else eu)) (λt=>on .Add o (if A5 s&&A5 t then dD (.str (s++t))else eu)) (λz=>eu) (λz=>eu) (λz=>eu) λz z=>eu)
 (λx=>b.casesOn eu (λz=>eu) (λj=>if ew j then MZ o x (FF.ofInt j)else eu) (λz=>eu) (λy=>MZ o x y) (λz=>eu) (λz=>eu) λz z=>eu)
 (λs=>b.casesOn eu (λz=>eu) (λn=>on .Mult o (if pq s.length 1000&&decide (0<=n)&&decide (n<=1000)then dD (.l (rep s n))else eu)) (λz=>eu) (λz=>eu) (λt=>on .Add o (if A5 s&&A5 t then dD (.l (s++t))else eu)) (λz=>eu) λz z=>eu)
 (λz=>eu) λz z=>eu
theorem nK{b:Bool}{a:Type}{x:Option a}{z:a}{C:Prop}(h:(if b then eu else x)=dD z)(k:¬b=er->x=dD z->C):C:=by
 induction b using qV with
 |true=>exact nS h
 |false=>exact k sR h
theorem ny{b:Nat}{j:Int}(a:b<=4000)(c:j<=1000000):(b:Int)+j<=2^27:=by lia
theorem jI{b:Nat}{j:Int}(c:b<=4000)(a:0<=j)(d:j<=1000):(b:Int)*j<=2^27:=by
 have e:(b:Int)*j<=4000*j:=Int.mul_le_mul_of_nonneg_right (by lia) a
 lia
section
variable{Z:Bs}(O:Z.Ok){A:mx}{ok:ls->Prop}{s:lb}
include O
theorem BQ{i:Int}{t a:Nat}:Gv Z ok s (.int i) (.int i t) {s with toks:=a}:=⟨.int _ _,Same.tok O⟩
theorem Bc{i:UInt64}{t a:Nat}:Gv Z ok s (.fl i) (.float i t) {s with toks:=a}:=⟨.fl _ _,Same.tok O⟩
theorem EA{x:List Nat}{t a:Nat}{y:pw}(e:y=AP x):Gv Z ok s (.str x) (.str y t) {s with toks:=a}:=⟨e▸.str _ _,Same.tok O⟩
theorem Na{o:qp}{i j:Int}{z:V}(h:binI o i j=dD z)(t u:yE):
  WP Z A (yF o (.int i t) (.int j u)) (Gv Z ok s z) s:=by
 induction o using uZ with
 |Add=>(replace h:=dE h;subst h);exact wpAny_add_int (BQ O)
 |Sub=>(replace h:=dE h;subst h);exact sub_int (BQ O)
 |Mult=>
  refine iK h λc h=>?_
  (replace h:=dE h;subst h)
  exact mul_int (BQ O) (Xa (ba c).1 (ba c).2)
 |FloorDiv=>
  refine iK h λc h=>?_
  (replace h:=dE h;subst h)
  exact floordiv_int (by simpa using(ba c).1) (BQ O) (Or.inl (zI (Pb (ba c).2)))
 |Mod=>
  refine iK h λc h=>?_
  (replace h:=dE h;subst h)
  exact mod_int' (by simpa using c) (BQ O)
 |Pow=>
  refine iK h λc h=>?_
  (replace h:=dE h;subst h)
  have a:=of_decide_eq_true (ba (ba c).1).2;refine pow_int a ?_ (BQ O);exact jI (Ek (ba (ba c).1).1) a (of_decide_eq_true (ba c).2)
 |LShift=>
  refine iK h λc h=>?_
  (replace h:=dE h;subst h)
  refine lshift_int (of_decide_eq_true (ba (ba c).1).2) ?_ (BQ O);exact ny (Ek (ba (ba c).1).1) (of_decide_eq_true (ba c).2)
 |RShift=>
  refine iK h λc h=>?_
  (replace h:=dE h;subst h)
  exact rshift_int (of_decide_eq_true c) (BQ O)
 |BitAnd=>(replace h:=dE h;subst h);exact and_int (BQ O)
 |BitOr=>(replace h:=dE h;subst h);exact or_int (BQ O)
 |BitXor=>(replace h:=dE h;subst h);exact xor_int (BQ O)
 |Div=>
  refine iK h λc h=>?_
  (replace h:=dE h;subst h)
  rw[FF.ofFrac_eq,FF.xorB_eq,FF.negI_eq,FF.negI_eq]at c⊢;exact ADz (by simpa using(ba c).1) (by simpa using(ba c).2) (Bc O)
 |MatMult=>exact nS h
theorem O0{o:qp}{x y:UInt64}{z:V}(h:MZ o x y=dD z)(t u:yE):
  WP Z A (yF o (.float x t) (.float y u)) (Gv Z ok s z) s:=by
 rw[Lg]at h;induction o using uZ with
 |Add=>(replace h:=dE h;subst h);exact add_float (Bc O)
 |Sub=>(replace h:=dE h;subst h);exact sub_float (Bc O)
 |Mult=>(replace h:=dE h;subst h);exact mul_float (Bc O)
 |Div=>refine nK h λc h=>?_;(replace h:=dE h;subst h);exact ADB c (Bc O)
 |Mod=>refine nK h λc h=>?_;(replace h:=dE h;subst h);exact ADC c (Bc O)
 |_=>exact nS h
theorem MK{o:qp}{x:UInt64}{j:Int}{z:V}(a:ew j=er)(h:MZ o x (FF.ofInt j)=dD z)(t u:yE):
  WP Z A (yF o (.float x t) (.int j u)) (Gv Z ok s z) s:=by
 rw[FF.ofInt_eq,Lg]at h;induction o using uZ with
 |Add=>(replace h:=dE h;subst h);exact add_fi_fits (Fv a) (Bc O)
 |Sub=>(replace h:=dE h;subst h);exact sub_fi_fits (Fv a) (Bc O)
 |Mult=>(replace h:=dE h;subst h);exact mul_fi_fits (Fv a) (Bc O)
 |Div=>refine nK h λc h=>?_;(replace h:=dE h;subst h);exact ADD (I3 a) c (Bc O)
 |Mod=>refine nK h λc h=>?_;(replace h:=dE h;subst h);exact ADE (I3 a) c (Bc O)
 |_=>exact nS h
theorem MR{o:qp}{y:UInt64}{i:Int}{z:V}(a:ew i=er)(h:MZ o (FF.ofInt i) y=dD z)(t u:yE):
  WP Z A (yF o (.int i t) (.float y u)) (Gv Z ok s z) s:=by
 rw[FF.ofInt_eq,Lg]at h;induction o using uZ with
 |Add=>(replace h:=dE h;subst h);exact add_if_fits (Fv a) (Bc O)
 |Sub=>(replace h:=dE h;subst h);exact sub_if_fits (Fv a) (Bc O)
 |Mult=>(replace h:=dE h;subst h);exact mul_if_fits (Fv a) (Bc O)
 |Div=>refine nK h λc h=>?_;(replace h:=dE h;subst h);exact ADF (I3 a) c (Bc O)
 |Mod=>refine nK h λc h=>?_;(replace h:=dE h;subst h);exact ADG (I3 a) c (Bc O)
 |_=>exact nS h
omit O in
theorem GU{b:Type}(l:List (Array b)):∀a:Array b,(l.foldl (·++ ·) a).toList=a.toList++(l.map Array.toList).flatten:=by
 induction l with
 |nil=>intro a;simp
 |cons x r c=>intro a;simp only[List.foldl_cons,c];simp
omit O in
theorem aI{x:List Nat}{n:Int}(d:0<=n):Txt.mul (AP x) n=AP (rep x n):=by
 unfold Txt.mul;by_cases a:n<1
 ·have:n=0:=Int.le_antisymm (Int.le_of_lt_add_one a) d;subst this;simp[rep,AP,Str.empty]
 ·rw[if_neg a];by_cases b:n=1
  ·subst b;simp[rep,AP]
  ·by_cases c:x=[]
   ·subst c;have:(AP ([]:List Nat)).length=0:=by nofun
    simp[this,rep]
   ·have e:((AP x).length==0)=fG:=by rw[AU];simpa using c
    have f:(n==1)=fG:=by simpa using b
    rw[e,f];simp only[Bool.or_self,ui,if_false];unfold AP rep;congr 1;apply ACx;rw[GU];simp[ABA]
end
theorem RE{x:List Nat}{n:Int}(b:x.length<1000)(d:0<=n)(c:n<=1000):MulOk (AP x) n:=by
 have a:(AP x).length=x.length:=AU x;refine⟨?_,λe z=>?_,λe z=>?_⟩
 ·simp;lia
 ·rw[a];have f:0<n:=by lia
  have g:(x.length:Int)*n<=1000*1000:=Int.mul_le_mul (tD.mpr (nV b)) c d (by decide);exact u6.mpr (Int.le_ediv_of_mul_le f (by lia))
 ·rw[a];have h:x.length*n.toNat<=1000*1000:=vi (nV b) (yT.mpr c)
  (unfold zO;exact decide_eq_false (by rw[uq];lia))
theorem Cg{h:qX}{ok:ls->Prop}(b:∀a,h.get? a=eu->ok a):ok h.objs.size:=b _ (by
 cases e:h.get? h.objs.size with
 |none=>rfl
 |some o=>exact absurd (rR e) (vH _))
theorem QY(a:Array gx)(n:Int):(List.foldl (λc d=>c++d) #[] (uY (if a.isEmpty=er then 0 else n.toNat) a)).toList=(uY n.toNat a.toList).flatten:=by
 rw[GU];by_cases b:a.isEmpty=er
 ·rw[if_pos b];have:a= #[]:=by simpa using b
  subst this;simp
 ·rw[if_neg b];simp
theorem VRs.rep{a:qK}{w:sO}{ok:ls->Prop}{h:qX}{b:List gx}{c:List V}(r:VRs a w ok h b c):∀k:Nat,VRs a w ok h (uY k b).flatten (uY k c).flatten
 |0=>.nil
 |k+1=>by rw[wW,wW,yP,yP];exact r.append (VRs.rep r k)
theorem XR{Z:Bs}(O:Z.Ok){A:mx}{ok:ls->Prop}{s:lb}(d:∀a,s.heap.get? a=eu->ok a){l:ls}{b:Array gx}{k:Nat}{e:List V}(o:ok l)
  (c:s.heap.get? l=dD ⟨.type "list",.none,.seq b k,#[]⟩) (f:VRs Z.prog Z.w ok s.heap b.toList e) {n:Int} {t:yE} (i:e.length<1000) (j:0<=n) (g:n<=1000):
  WP Z A (yF .Mult (.ref l) (.int n t)) (Gv Z ok s (.l (Mine.Internal.rep e n))) s:=by
 have h:=f.length;simp only[rC]at h;have p:b.size*n.toNat<=1000*1000:=vi (nV (h▸i)) (yT.mpr g);have q:(decide (n< -(2^63:Int))||decide (n>=2^63))=fG:=Uc (sG.mp (by rw[Int.natAbs_of_nonneg j];exact vP g (by decide)));refine wpAny_binaryOp_repeat_ref (T:="list") (U:="int") (by decide) ⟨_,c,rfl⟩ (λm=>ACM m n t) noFill_list_mul F.fills_int_mul ACe repeat_list F.slot_int_index.lookup ?_;refine yo ACe (ACM s n t) F.entry_int_rmul (F.args_int_rmul_2 _ _) (int___rmul___int_list n t _ b k) ⟨c,rfl,⟨_,c,rfl⟩,?_⟩;refine yo F.slot_list_mul ⟨_,c,rfl⟩ F.entry_list_mul (F.args_list_mul_2 _ _) (AEB _ b k n t (by simp[ADH];lia) (by lia) (by simp[ADI,wH];lia)) ⟨c,?_⟩;refine⟨.l (Cg d) (mA _ rfl) ?_,Same.push O⟩;simp only[QY];exact(f.rep n.toNat).same (Same.push O (tk:=s.toks))
theorem Xh{Z:Bs}(O:Z.Ok){A:mx}{ok:ls->Prop}{s:lb}(g:∀a,s.heap.get? a=eu->ok a){l b:ls}{c d:Array gx}{k m:Nat}{e f:List V}
  (p:s.heap.get? l=dD ⟨.type "list",.none,.seq c k,#[]⟩) (q:s.heap.get? b=dD ⟨.type "list",.none,.seq d m,#[]⟩) (i:VRs Z.prog Z.w ok s.heap c.toList e) (j:VRs Z.prog Z.w ok s.heap d.toList f)
  (r:e.length<1000000) (t:f.length<1000000):WP Z A (yF .Add (.ref l) (.ref b)) (Gv Z ok s (.l (e++f))) s:=by
 have n:=i.length;have o:=j.length;simp only[rC]at n o;have h:c.size+d.size<=wH:=mE (ACN (nV (n▸r)) (nV (o▸t))) (by decide);have u:VRs Z.prog Z.w ok (s.heap.push {cls:=.type "list",data:=.seq (c++d)}) (c++d).toList (e++f):=by rw[AAc];exact(i.same (Same.push O (tk:=s.toks))).append (j.same (Same.push O (tk:=s.toks)))
 exact PySem.P.add_list (items:=c) (items2:=d) p q ⟨VR.l (Cg g) (mA _ rfl) u,Same.push O⟩ h
section
variable{Z:Bs}(O:Z.Ok){A:mx}{ok:ls->Prop}{s:lb}
include O
theorem G7{o:qp}{a b:V}{z:V}(h:AD o a b=dD z){v u:gx}(l:∀a,s.heap.get? a=eu->ok a)
  (f:VR Z.prog Z.w ok s.heap v a) (d:VR Z.prog Z.w ok s.heap u b):WP Z A (yF o v u) (Gv Z ok s z) s:=by
 refine CB λY g=>?_;induction a using V.casesOn with
 |int i=>
  induction b using V.casesOn with
  |int j=>refine g ?_;(refine VR.kInt f λY=>?_;clear f);(refine VR.kInt d λY=>?_;clear d);exact Na O h _ _
  |fl y=>refine g ?_;(refine VR.kInt f λY=>?_;clear f);(refine VR.kFlt d λY=>?_;clear d);exact iK h λc h=>MR O c h _ _
  |_=>exact nS h
 |fl x=>
  induction b using V.casesOn with
  |fl y=>refine g ?_;(refine VR.kFlt f λY=>?_;clear f);(refine VR.kFlt d λY=>?_;clear d);exact O0 O h _ _
  |int j=>refine g ?_;(refine VR.kFlt f λY=>?_;clear f);(refine VR.kInt d λY=>?_;clear d);exact iK h λc h=>MK O c h _ _
  |_=>exact nS h
 |str x=>
  induction b using V.casesOn with
  |str y=>
   refine m7 (c:=.Add) (x:=if A5 x&&A5 y then dD (.str (x++y))else eu) h λe h=>?_;refine iK h λc h=>g ?_
   (replace h:=dE h;rw[<-h]);rw[e];(refine VR.kStr f λY=>?_;clear f);(refine VR.kStr d λY=>?_;clear d)
   have C:=AQ (ba c).1;have D:=AQ (ba c).2;exact add_str (λt E=>EA O (GB _ _)) (by rw[AU,AU,uq];lia)
  |int n=>
   refine m7 (c:=.Mult) (x:=if pq x.length 1000&&decide (0<=n)&&decide (n<=1000)then dD (.str (rep x n))else eu) h λe h=>?_;refine iK h λc h=>g ?_
   (replace h:=dE h;rw[<-h]);rw[e];(refine VR.kStr f λY=>?_;clear f);(refine VR.kInt d λY=>?_;clear d)
   have q:=of_decide_eq_true (ba (ba c).1).2;exact SB.mul (RE (nY (ba (ba c).1).1) q (of_decide_eq_true (ba c).2)) λt k=>EA O (aI q)
  |_=>exact nS h
 |l x=>
  induction b using V.casesOn with
  |l y=>
   refine m7 (c:=.Add) (x:=if A5 x&&A5 y then dD (.l (x++y))else eu) h λe h=>?_;refine iK h λc h=>g ?_
   (replace h:=dE h;rw[<-h]);rw[e]
   refine VR.kLst f λY Y Y r m p=>?_;refine VR.kLst d λY Y Y G w B=>?_;exact Xh O l m w p B (AQ (ba c).1) (AQ (ba c).2)
  |int n=>
   refine m7 (c:=.Mult) (x:=if pq x.length 1000&&decide (0<=n)&&decide (n<=1000)then dD (.l (rep x n))else eu) h λe h=>?_;refine iK h λc h=>g ?_
   (replace h:=dE h;subst h);rw[e]
   refine VR.kLst f λY Y Y r m p=>?_
   (refine VR.kInt d λY=>?_;clear d)
   exact XR O l r m p (nY (ba (ba c).1).1) (of_decide_eq_true (ba (ba c).1).2) (of_decide_eq_true (ba c).2)
  |_=>exact nS h
 |_=>exact nS h
end
end
section
set_option backward.eqns.nonrecursive false
set_option backward.eqns.deepRecursiveSplit false
noncomputable def C4:List V->Option (List (List Nat))
 |[]=>dD []
 |.str s::r=>(C4 r).map (s:: ·)
 |_::_=>eu
noncomputable def BX:List V->Option (List Int)
 |[]=>dD []
 |.int s::r=>(BX r).map (s:: ·)
 |_::_=>eu
theorem TM{s:Int}{r:List V}:BX (.int s::r)=(BX r).map (s:: ·):=rfl
noncomputable def MA(s:List Nat):List (List Nat)->Bool
 |[]=>fG
 |k::r=>match FW k s with
  |true=>er
  |false=>MA s r
theorem dh{s k:List Nat}{r:List (List Nat)}:MA s (k::r)=
  match FW k s with
  |true=>er
  |false=>MA s r:=rfl
noncomputable def Kx(c:Nat):List Nat->Bool
 |[]=>fG
 |k::r=>match lf c k with
  |true=>er
  |false=>Kx c r
theorem cU{c k:Nat}{r:List Nat}:Kx c (k::r)=
  match c.beq k with
  |true=>er
  |false=>Kx c r:=rfl
noncomputable def o7(a b:V):Option Bool:=a.casesOn eu (λz=>eu)
 (λi=>b.casesOn eu (λz=>eu) (λz=>eu) (λz=>eu) (λz=>eu) (λz=>eu) (λd=>(BX d).casesOn eu λl=>dD (l.any (·==i))) λz z=>eu)
 (λs=>b.casesOn eu (λz=>eu) (λz=>eu) (λt=>s.casesOn eu λc r=>r.casesOn (dD (Kx c t)) λz z=>eu) (λz=>eu) (λd=>(C4 d).casesOn eu λl=>dD (MA s l)) (λz=>eu) λks z=>dD (MA s ks))
 (λz=>eu) (λz=>eu) (λz=>eu) λz z=>eu
noncomputable def oh(a b:V):Option Bool:=a.casesOn
 (b.casesOn (dD er) (λz=>eu) (λz=>eu) (λz=>eu) (λz=>eu) (λz=>eu) (λz=>eu) λz z=>eu)
 (λp=>b.casesOn eu (λq=>dD (p==q)) (λz=>eu) (λz=>eu) (λz=>eu) (λz=>eu) (λz=>eu) λz z=>eu)
 (λz=>b.casesOn (dD fG) (λz=>eu) (λz=>eu) (λz=>eu) (λz=>eu) (λz=>eu) (λz=>eu) λz z=>eu)
 (λz=>eu) (λz=>eu) (λz=>eu) (λz=>eu) λz z=>eu
noncomputable def Nx(o:xG)(i j:Int):Option Bool:=match o with
 |.Lt=>dD (decide (i<j))
 |.LtE=>dD (decide (i<=j))
 |.Gt=>dD (decide (j<i))
 |.GtE=>dD (decide (j<=i))
 |_=>eu
noncomputable def mj(o:xG)(x y:UInt64):Option Bool:=match o with
 |.Lt=>dD (FF.q x y==dD .lt)
 |.LtE=>dD (FF.q x y==dD .lt||FF.q x y==dD .eq)
 |_=>eu
noncomputable def Mk(o:xG)(a b:V):Option Bool:=a.casesOn eu (λz=>eu)
 (λi=>b.casesOn eu (λz=>eu) (λj=>Nx o i j) (λz=>eu) (λz=>eu) (λz=>eu) (λz=>eu) λz z=>eu)
 (λz=>eu)
 (λx=>b.casesOn eu (λz=>eu) (λz=>eu) (λz=>eu) (λy=>mj o x y) (λz=>eu) (λz=>eu) λz z=>eu)
 (λz=>eu) (λz=>eu) λz z=>eu
noncomputable def Cd(o:xG)(a b:V):Option Bool:=match o with
 |.Eq=>KP a b
 |.NotEq=>(KP a b).map (!·)
 |.Is=>oh a b
 |.IsNot=>(oh a b).map (!·)
 |.In=>o7 a b
 |.NotIn=>(o7 a b).map (!·)
 |o=>Mk o a b
noncomputable def AI:V->Option Bool
 |.none=>dD fG
 |.bool b=>dD b
 |.int i=>dD (i != 0)
 |.str s=>if A5 s then dD (!s.isEmpty)else eu
 |.l s=>if A5 s then dD (!s.isEmpty)else eu
 |_=>eu
theorem I1(x y:List Nat):(AP x==AP y)=FW x y:=by
 rw[HU];by_cases h:x=y
 ·subst h;simp
 ·have:AP x≠AP y:=λe=>h (LH e);simp[h,this]
theorem Kw(s:List Nat):∀l,MA s l=(l.map AP).any (·==AP s)
 |[]=>rfl
 |k::r=>by
  rewrite [dh]
  rw[pj,wI,<-Kw s r];rw[I1];cases FW k s<;>rfl
theorem PJ(c:Nat):∀l,Kx c l=decide (c∈l)
 |[]=>rfl
 |k::r=>by
  rewrite [cU]
  refine(PJ c r)▸?_;cases h:lf c k with
  |true=>have:=lk h;refine this▸?_;simp
  |false=>have:=mP h;simp[this]
theorem Hp{x:V}{c:List V}{l:List (List Nat)}{C:Prop}(e:C4 (x::c)=dD l)(k:∀s r,x=.str s->C4 c=dD r->l=s::r->C):C:=by
 induction x using V.casesOn with
 |str s=>exact HA e λr=>k s r rfl
 |_=>exact nS e
theorem MP{x:V}{c:List V}{l:List Int}{C:Prop}(e:BX (x::c)=dD l)(k:∀s r,x=.int s->BX c=dD r->l=s::r->C):C:=by
 induction x using V.casesOn with
 |int s=>exact HA e λr=>k s r rfl
 |_=>exact nS e
theorem IP{g:qK}{w:sO}{f:ls->Prop}{h:qX}{c:List V}{l:List (List Nat)}{d:List gx}(e:C4 c=dD l)(r:VRs g w f h d c):StrsAre d (l.map AP):=
 r.ind (P:=λd c=>∀l,C4 c=dD l->StrsAre d (l.map AP)) (λz e=>dE e▸.nil) (λz z z z a z i z e=>Hp e λz r q1 q2 y=>by subst q1 y;exact VR.kStr a λz=>.cons _ _ (i r q2)) l e
theorem IS{g:qK}{w:sO}{f:ls->Prop}{h:qX}{c:List V}{l:List Int}{d:List gx}(e:BX c=dD l)(r:VRs g w f h d c):IntsAre d l:=
 r.ind (P:=λd c=>∀l,BX c=dD l->IntsAre d l) (λz e=>dE e▸.nil) (λz z z z a z i z e=>MP e λz r q1 q2 y=>by subst q1 y;exact VR.kInt a λz=>.cons _ _ (i r q2)) l e
section
variable{Z:Bs}(O:Z.Ok){A:mx}{f:ls->Prop}{s:lb}{v u:gx}{a b:V}
theorem J8{c:List (pw×gx)}{k:pw}:(zv c k).isSome=(c.map (·.1)).any (·==k):=by
 induction c with
 |nil=>rfl
 |cons p r d=>
  unfold zv at d⊢;simp only[ABx,pj,wI];by_cases h:p.1=k
  ·simp[h]
  ·simp only[h,decide_false,d];simp[h]
theorem PF{d e:V}{c:Bool}(h:(if GA d&&GA e then dD (DT d e)else eu)=dD c)(k:A.units+64<AAC)(p:VR Z.prog Z.w f s.heap v d)(q:VR Z.prog Z.w f s.heap u e):
  WP Z A (vI .Eq v u) (λr j=>r=.bool c/\j=s) s/\WP Z A (vI .NotEq v u) (λr j=>r=.bool (!c)/\j=s) s:=by
 refine iK h λl h=>?_
 (replace h:=dE h;refine h▸?_)
 refine A2 (HF (ba l).1) λd hd g=>?_;refine A2 (HF (ba l).2) λe m i=>?_;refine A2 (p.reads hd) λt n z=>?_;refine A2 (q.reads m) λw o z=>?_;refine(Ut hd m)▸?_;exact⟨SeqAt.compareEq_reads n o (rL g) (rL i) (AAF g k) ⟨rfl,rfl⟩,
  SeqAt.compareNe_reads n o (rL g) (rL i) (AAF g k) ⟨rfl,rfl⟩⟩
theorem KJ{c:Bool}(h:KP a b=dD c)(l:A.units+64<AAC)(d:VR Z.prog Z.w f s.heap v a)(e:VR Z.prog Z.w f s.heap u b):
  WP Z A (vI .Eq v u) (λr k=>r=.bool c/\k=s) s/\WP Z A (vI .NotEq v u) (λr k=>r=.bool (!c)/\k=s) s:=by
 refine CB λz g=>?_;induction a using V.casesOn with
 |bool p=>induction b using V.casesOn with
  |bool q=>refine g ?_;(replace h:=dE h;refine h▸?_);(refine VR.kBool d ?_;clear d);(refine VR.kBool e ?_;clear e);exact⟨eq_bool ⟨rfl,rfl⟩,ne_bool ⟨rfl,rfl⟩⟩
  |_=>exact nS h
 |int i=>induction b using V.casesOn with
  |int j=>refine g ?_;(replace h:=dE h;subst h);(refine VR.kInt d λz=>?_;clear d);(refine VR.kInt e λz=>?_;clear e);exact⟨ADJ ⟨rfl,rfl⟩,ADK ⟨rfl,rfl⟩⟩
  |fl y=>refine g ?_;(replace h:=dE h;subst h);(refine VR.kInt d λz=>?_;clear d);(refine VR.kFlt e λz=>?_;clear e);exact⟨eq_if ⟨rfl,rfl⟩,ne_if ⟨rfl,rfl⟩⟩
  |_=>exact nS h
 |str x=>induction b using V.casesOn with
  |str y=>refine g ?_;(replace h:=dE h;subst h);(refine VR.kStr d λz=>?_;clear d);(refine VR.kStr e λz=>?_;clear e);exact⟨ADL ⟨by rw[I1],rfl⟩,ADM ⟨by rw[bne,I1],rfl⟩⟩
  |_=>exact nS h
 |fl x=>induction b using V.casesOn with
  |int j=>refine g ?_;(replace h:=dE h;subst h);(refine VR.kFlt d λz=>?_;clear d);(refine VR.kInt e λz=>?_;clear e);exact⟨eq_fi ⟨rfl,rfl⟩,ne_fi ⟨rfl,rfl⟩⟩
  |fl y=>refine g ?_;(replace h:=dE h;subst h);(refine VR.kFlt d λz=>?_;clear d);(refine VR.kFlt e λz=>?_;clear e);exact⟨ADN ⟨rfl,rfl⟩,ADO ⟨rfl,rfl⟩⟩
  |_=>exact nS h
 |l x=>induction b using V.casesOn with
  |l y=>refine g ?_;exact PF h l d e
  |_=>exact nS h
 |t x=>induction b using V.casesOn with
  |t y=>refine g ?_;exact PF h l d e
  |_=>exact nS h
 |_=>exact nS h
theorem Jx{c:Bool}(h:o7 a b=dD c)(d:VR Z.prog Z.w f s.heap v a)(m:VR Z.prog Z.w f s.heap u b):
  WP Z A (vI .In v u) (λr w=>r=.bool c/\∃z,w={s with toks:=z}) s/\WP Z A (vI .NotIn v u) (λr w=>r=.bool (!c)/\∃z,w={s with toks:=z}) s:=by
 refine CB λY p=>?_;induction a using V.casesOn with
 |int i=>induction b using V.casesOn with
  |t j=>
   refine p ?_
   (refine VR.kInt d λY=>?_;clear d)
   refine VR.kTup m λY Y Y B k t=>?_;change (BX j).casesOn (motive:=λY=>Option Bool) eu (λl=>dD (l.any (·==i)))=dD c at h;cases g:BX j with
   |none=>rw[g]at h;exact nS h
   |some l=>rw[g]at h;refine dE h▸?_;have n:=IS g t;exact⟨in_tuple_ints ⟨_,k,rfl,_,rfl⟩ n ⟨rfl,s.toks,rfl⟩,notin_tuple_ints ⟨_,k,rfl,_,rfl⟩ n ⟨rfl,s.toks,rfl⟩⟩
  |_=>exact nS h
 |str x=>induction b using V.casesOn with
  |str y=>
   induction x using lz with
   |nil=>exact nS h
   |cons q r=>induction r using lz with
    |nil=>
     refine p ?_;refine dE h▸?_;(refine VR.kStr d λY=>?_;clear d);(refine VR.kStr m λY=>?_;clear m);have e:(!(ADn (AP y) (AP [q]) 0 (AP y).length 1).isEmpty)=Kx q y:=by rw[PJ];exact StrLaws.found_one (AP y) q
     exact⟨PySem.P.in_str ⟨by rw[e],s.toks,rfl⟩,PySem.P.notIn_str ⟨by rw[e],s.toks,rfl⟩⟩
    |cons _ _=>exact nS h
  |l j=>
   refine p ?_
   (refine VR.kStr d λY=>?_;clear d)
   refine VR.kLst m λY D Y B k t=>?_;change (C4 j).casesOn (motive:=λY=>Option Bool) eu (λl=>dD (MA x l))=dD c at h;cases g:C4 j with
   |none=>rw[g]at h;exact nS h
   |some l=>
    rw[g]at h;(replace h:=dE h;refine h▸?_);have n:=IP g t;have o:s.heap.IsList _ D.toList.toArray:=⟨_,k,rfl,_,rfl⟩
    rw[Kw];exact⟨in_list_strs o n ⟨rfl,s.toks,rfl⟩,notin_list_strs o n ⟨rfl,s.toks,rfl⟩⟩
  |d ks j=>
   refine p ?_;refine dE h▸?_;(refine VR.kStr d λY=>?_;clear d);refine VR.kDct m λY Y Y B C k E G t=>?_;have hd:s.heap.DictOf (qW Z.prog Z.w) _ _:=T5 E λH I x=>⟨_,H,I,k,x⟩
   rw[Kw,<-G,<-J8];exact⟨wpAny_in_of (ACO Z.prog Z.w _ _) C hd.mapOf ⟨rfl,_,rfl⟩,wpAny_notIn_of (ACO Z.prog Z.w _ _) C hd.mapOf ⟨rfl,_,rfl⟩⟩
  |_=>exact nS h
 |_=>exact nS h
theorem KI{c:Bool}(h:oh a b=dD c)(d:VR Z.prog Z.w f s.heap v a)(g:VR Z.prog Z.w f s.heap u b):
  WP Z A (vI .Is v u) (λr j=>r=.bool c/\j=s) s/\WP Z A (vI .IsNot v u) (λr j=>r=.bool (!c)/\j=s) s:=by
 refine CB λz k=>?_;induction a using V.casesOn with
 |none=>induction b using V.casesOn with
  |none=>refine k ?_;(replace h:=dE h;(replace h:=h.symm;refine h▸?_));(refine VR.kNone d ?_;clear d);(refine VR.kNone g ?_;clear g);exact⟨wpAny_is_self rfl ⟨rfl,rfl⟩,wpAny_isNot_self rfl ⟨rfl,rfl⟩⟩
  |_=>exact nS h
 |int i=>induction b using V.casesOn with
  |none=>refine k ?_;(replace h:=dE h;refine h▸?_);(refine VR.kInt d λz=>?_;clear d);(refine VR.kNone g ?_;clear g);exact⟨wpAny_is_other rfl (λe=>nomatch e) ⟨rfl,rfl⟩,wpAny_isNot_other rfl (λe=>nomatch e) ⟨rfl,rfl⟩⟩
  |_=>exact nS h
 |bool p=>induction b using V.casesOn with
  |bool q=>
   refine k ?_;refine dE h▸?_;(refine VR.kBool d ?_;clear d);(refine VR.kBool g ?_;clear g);have e:(AAt p==AAt q)=(p==q):=by cases p<;>cases q<;>decide
   exact⟨wpAny_is_plain rfl ⟨by rw[e],rfl⟩,wpAny_isNot_plain rfl ⟨by rw[e],rfl⟩⟩
  |_=>exact nS h
 |_=>exact nS h
theorem E'{o:xG}{c:Bool}(h:Mk o a b=dD c)(d:VR Z.prog Z.w f s.heap v a)(e:VR Z.prog Z.w f s.heap u b):
  WP Z A (vI o v u) (λr k=>r=.bool c/\k=s) s:=by
 refine CB λz g=>?_;induction a using V.casesOn with
 |int i=>induction b using V.casesOn with
  |int j=>
   induction o using zS with
   |Lt=>refine g ?_;(refine VR.kInt d λz=>?_;clear d);(refine VR.kInt e λz=>?_;clear e);refine dE h▸?_;exact ADP ⟨rfl,rfl⟩
   |LtE=>refine g ?_;(refine VR.kInt d λz=>?_;clear d);(refine VR.kInt e λz=>?_;clear e);(replace h:=dE h;refine h▸?_);exact ADQ ⟨rfl,rfl⟩
   |Gt=>refine g ?_;(refine VR.kInt d λz=>?_;clear d);(refine VR.kInt e λz=>?_;clear e);(replace h:=dE h;subst h);exact ADR ⟨rfl,rfl⟩
   |GtE=>refine g ?_;(refine VR.kInt d λz=>?_;clear d);(refine VR.kInt e λz=>?_;clear e);(replace h:=dE h;subst h);exact ADS ⟨rfl,rfl⟩
   |_=>exact nS h
  |_=>exact nS h
 |fl x=>induction b using V.casesOn with
  |fl y=>
   induction o using zS with
   |Lt=>refine g ?_;(refine VR.kFlt d λz=>?_;clear d);(refine VR.kFlt e λz=>?_;clear e);refine dE h▸?_;exact FF.cmp_eq▸zT ⟨rfl,rfl⟩
   |LtE=>refine g ?_;(refine VR.kFlt d λz=>?_;clear d);(refine VR.kFlt e λz=>?_;clear e);(replace h:=dE h;refine h▸?_);exact FF.cmp_eq▸ADT ⟨rfl,rfl⟩
   |_=>exact nS h
  |_=>exact nS h
 |_=>exact nS h
include O in
theorem Nq{o:xG}{c:Bool}(h:Cd o a b=dD c)(l:A.units+64<AAC)(i:VR Z.prog Z.w f s.heap v a)(j:VR Z.prog Z.w f s.heap u b):
  WP Z A (vI o v u) (λr g=>r=.bool c/\Same Z s g) s:=by
 have k:∀{c:Bool} {t:xL gx},WP Z A t (λr g=>r=.bool c/\g=s) s->WP Z A t (λr g=>r=.bool c/\Same Z s g) s:=λx=>A1 x (λr g q=>⟨q.1,by exact q.2▸Same.refl⟩)
 have m:∀{c:Bool} {t:xL gx},WP Z A t (λr g=>r=.bool c/\∃n,g={s with toks:=n}) s->WP Z A t (λr g=>r=.bool c/\Same Z s g) s:=λx=>A1 x (λr g q=>⟨q.1,by obtain⟨_,n,rfl⟩:=q;exact Same.tok O⟩)
 induction o using zS with
 |Eq=>exact k (KJ h l i j).1
 |NotEq=>exact HA h λd q e=>e▸k (KJ q l i j).2
 |Is=>exact k (KI h i j).1
 |IsNot=>exact HA h λd q e=>e▸k (KI q i j).2
 |In=>exact m (Jx h i j).1
 |NotIn=>exact HA h λd q e=>e▸m (Jx q i j).2
 |Lt=>exact k (E' h i j)
 |LtE=>exact k (E' h i j)
 |Gt=>exact k (E' h i j)
 |GtE=>exact k (E' h i j)
include O in
theorem E0{c:Bool}(h:AI a=dD c)(d:VR Z.prog Z.w f s.heap v a):WP Z A (truthy v) (λr l=>r=c/\Same Z s l) s:=by
 refine CB λz j=>?_;induction a using V.casesOn with
 |none=>refine j ?_;(replace h:=dE h;(replace h:=h.symm;subst h));(refine VR.kNone d ?_;clear d);exact truthy_none ⟨rfl,Same.refl⟩
 |bool b=>refine j ?_;(replace h:=dE h;subst h);(refine VR.kBool d ?_;clear d);exact ACf ⟨rfl,Same.refl⟩
 |int i=>refine j ?_;(replace h:=dE h;subst h);(refine VR.kInt d λz=>?_;clear d);exact PySem.P.truthy_int ⟨rfl,Same.refl⟩
 |str x=>
  refine j ?_;refine iK h λq h=>?_;refine dE h▸?_;(refine VR.kStr d λz=>?_;clear d);have m:=AQ q;have g:=AU x;refine PySem.P.truthy_str (by rw[g];lia) ⟨?_,Same.tok O⟩;rw[g];cases x<;>simp
  lia
 |l x=>
  refine j ?_;refine iK h λq h=>?_
  (replace h:=dE h;refine h▸?_)
  refine VR.kLst d λz k n t o p=>?_;have m:=AQ q;have g:=p.length;simp only[rC]at g;refine wpAny_truthy_list ⟨_,o,rfl,_,rfl⟩ (by lia) ⟨?_,Same.tok O⟩;induction x using lz with
  |nil=>have:k= #[]:=Array.eq_empty_of_size_eq_zero g;refine this▸?_;rfl
  |cons y r=>
   have:k≠ #[]:=λe=>by subst e;simp at g
   simp[this]
 |_=>exact nS h
end
end
section
set_option backward.eqns.nonrecursive false
set_option backward.eqns.deepRecursiveSplit false
noncomputable def VM(k:Int):Bool:=pq k.natAbs (2^62)
theorem Kk{k:Int}(h:VM k=er):k.natAbs<2^62:=nY h
noncomputable def EQ(k:List Nat):List (List Nat)->List V->Option V
 |q::ks,x::c=>match FW q k with
  |true=>dD x
  |false=>EQ k ks c
 |_,_=>eu
noncomputable def C0(o i:V):Option V:=match o,i with
 |.str s,.int k=>if VM k then match(tY k s.length).bind (s[·]?)with
  |some c=>dD (.str [c])
  |none=>eu
  else eu
 |.l s,.int k=>if VM k then(tY k s.length).bind (s[·]?)else eu
 |.t s,.int k=>if VM k then(tY k s.length).bind (s[·]?)else eu
 |.d ks e,.str k=>EQ k ks e
 |_,_=>eu
noncomputable def Ej{e:Type}(c:List e)(lo g:Option Int):List e:=
 (c.drop (lo.elim 0 (vE c.length))).take (g.elim c.length (vE c.length)-lo.elim 0 (vE c.length))
noncomputable def Hm{g:Type}(c:List g)(lo e st:Option Int):List g:=
 (ACP (vy lo e st c.length).1 (vy lo e st c.length).2.1 (vy lo e st c.length).2.2).filterMap (c[·]?)
noncomputable def R6(o:V)(l u st:Option Int):Option V:=match o with
 |.str s=>match st with
  |none=>if A5 s then dD (.str (Ej s l u))else eu
  |some _=>eu
 |.l s=>match st with
  |none=>if A5 s then dD (.l (Ej s l u))else eu
  |some k=>if A5 s&&k != 0 then dD (.l (Hm s l u (dD k)))else eu
 |_=>eu
section
variable{Z:Bs}(O:Z.Ok){A:mx}{ok:ls->Prop}{s:lb}{v u:gx}{a b z:V}{f d:f0}
theorem CG{o i:gx}{T id:String}{Q:gx->lb->Prop}(g:s.TypeIs o T)
  (h:typeLookup (.type T) "__getitem__" =tS (dD (.builtin id))) (j:WP Z A (getItem o i) Q s):WP Z A (xc f d o i) Q s:=by
 have e:∃c,subscripted d fG o i=operate c (getItem o i):=by
  induction d using ur with
  |Slice l u st p=>cases st<;>exact⟨_,rfl⟩
  |_=>exact⟨_,rfl⟩
 obtain⟨c,e⟩:=e;exact ADU g h j e
theorem Lr{k:Int}{n j:Nat}(h:tY k n=dD j):(0<=k->k.toNat=j)/\(k<0-> -(n:Int)<=k/\(k+n).toNat=j):=by
 unfold tY at h;simp only[pl,decide_eq_true_eq]at h;by_cases c:k<0
 ·simp only[c,if_true]at h;split at h
  ·rename_i e;injection h with h;exact⟨λ_=>by lia,λ_=>⟨by lia,h⟩⟩
  ·exact absurd h (by simp)
 ·simp only[c,if_false]at h;split at h
  ·injection h with h;exact⟨λ_=>h,λ_=>by lia⟩
  ·exact absurd h (by simp)
theorem VRs.getq{c:qK}{w:sO}{ok:ls->Prop}{h:qX}{g:Array gx}{i:List V}(r:VRs c w ok h g.toList i){j:Nat}{x:V}(e:i[j]?=dD x):∃u,g[j]?=dD u/\VR c w ok h u x:=by refine A2 (r.get e) λu k l=>?_;exact⟨u,by rw[<-k];simp,l⟩
theorem Li{p:pw×gx}{c:List (pw×gx)}{k:pw}:zv (p::c) k=if p.1=k then dD p.2 else zv c k:=by unfold zv;simp only[ABx];by_cases h:p.1=k<;>simp[h]
theorem Jp{k:List Nat}{c:List (pw×gx)}:∀{ks:List (List Nat)} {g:List V} {x:V},c.map (·.1)=ks.map AP->VRs Z.prog Z.w ok s.heap (c.map (·.2)) g->EQ k ks g=dD x->
  ∃u,zv c (AP k)=dD u/\VR Z.prog Z.w ok s.heap u x:=by
 induction c with
 |nil=>
  intro ks g x e r h;induction ks using lz with
  |nil=>exact nS h
  |cons q ks=>exact(nomatch e)
 |cons p c j=>
  intro ks g x e r h;induction ks using lz with
  |nil=>exact(nomatch e)
  |cons q ks=>
   have l:p.1=AP q:=(xk e).1;refine VRs.consL r λy m a n o=>?_;subst o;rw[Li,l];change (match FW q k with|true=>dD y|false=>EQ k ks m)=dD x at h;by_cases i:q=k
   ·rw[if_pos (congrArg AP i)];rw[(DM _ _).mpr i]at h;exact⟨_,rfl,dE h▸a⟩
   ·rw[if_neg λe=>i (LH e)];rw[HU,decide_eq_false i]at h;exact j (xk e).2 n h
include O in
theorem OZ(h:C0 a b=dD z)(r:VR Z.prog Z.w ok s.heap v a)(i:VR Z.prog Z.w ok s.heap u b):
  WP Z A (xc f d v u) (Gv Z ok s z) s:=by
 refine CB λY y=>?_;induction a using V.casesOn with
 |str x=>induction b using V.casesOn with
  |int k=>
   refine iK h λg h=>?_;refine Jj ((tY k x.length).bind (x[·]?)) (λe=>by rw[e]at h;exact nS h) λc B=>?_;replace h:=B▸h;(replace h:=dE h;subst h);refine y ?_;have g:=Kk g
   (refine VR.kStr r λY=>?_;clear r);(refine VR.kInt i λY=>?_;clear i)
   exact CG (xH _ _ _) yU.lookup (zw (c:=c) (Uc g) (by rw[AU];simpa[AP]using B) (EA O rfl))
  |_=>exact nS h
 |l x=>induction b using V.casesOn with
  |int k=>
   refine iK h λg h=>?_;refine Jj (tY k x.length) (λe=>by rw[e]at h;exact nS h) λj t=>?_;rw[t]at h;refine y ?_;have g:=Kk g
   (refine VR.kInt i λY=>?_;clear i)
   refine VR.kLst r λY Y Y C w l=>?_;refine A2 (l.getq h) λu n o=>?_;have p:=l.length;simp only[rC]at p;have⟨E,D⟩:=Lr t;have q:s.heap.IsList _ _:=⟨_,w,rfl,_,rfl⟩
   refine CG q.typeIs xS.lookup ?_;by_cases m:0<=k
   ·exact ACQ q m (Nz g) (by exact(congrArg _ (E m)).trans (n)) ⟨o,Same.refl⟩
   ·have m:=ADl.mp m;exact wpAny_getItem_list_neg q m (by rw[p];exact(D m).1) (TH g) (by rw[p,(D m).2];exact n) ⟨o,Same.refl⟩
  |_=>exact nS h
 |t x=>induction b using V.casesOn with
  |int k=>
   refine iK h λg h=>?_;refine Jj (tY k x.length) (λe=>by rw[e]at h;exact nS h) λj t=>?_;rw[t]at h;refine y ?_;have g:=Kk g
   (refine VR.kInt i λY=>?_;clear i)
   refine VR.kTup r λY Y Y C w l=>?_;refine A2 (l.getq h) λu n o=>?_;have p:=l.length;simp only[rC]at p;have q:IsTup s.heap _ _:=⟨_,w,rfl,_,rfl⟩
   exact CG q.typeIs slot_tuple_getitem.lookup (getItem_tuple q (TH g) (Nz g) (by exact(congrArg _ p).trans (t)) n ⟨o,Same.refl⟩)
  |_=>exact nS h
 |d ks L=>induction b using V.casesOn with
  |str k=>
   refine y ?_
   (refine VR.kStr i λY=>?_;clear i)
   refine VR.kDct r λY Y Y C M w G H l=>?_;refine A2 (Jp H l h) λu n o=>?_;have hd:s.heap.DictOf (qW Z.prog Z.w) _ _:=T5 G λI J x=>⟨_,I,J,w,x⟩
   exact CG hd.typeIs slot_dict_getitem.lookup (wpAny_getItem_of (ACO Z.prog Z.w _ _) hd.mapOf n ⟨o,Same.tok O⟩)
  |_=>exact nS h
 |_=>exact nS h
theorem VRs.filterMap{j:qK}{w:sO}{ok:ls->Prop}{h:qX}{c:List gx}{g:List V}(r:VRs j w ok h c g):∀l:List Nat,VRs j w ok h (l.filterMap (c[·]?)) (l.filterMap (g[·]?))
 |[]=>.nil
 |i::l=>by
  simp only[wX,wX];cases e:g[i]? with
  |none=>
   have:c[i]?=eu:=by rw[tI]at e⊢;rw[r.length];exact e
   rw[this];exact VRs.filterMap r l
  |some x=>refine A2 (r.get e) λu k m=>?_;refine k▸?_;exact .cons m (VRs.filterMap r l)
inductive PartR:gx->Option Int->Prop
 |none:PartR .none eu
 |int (i t):PartR (.int i t) (dD i)
theorem PartR.isPart{v:gx}{k:Option Int}(p:PartR v k):IsPart v k:=by cases p<;>constructor
theorem PartR.part{v:gx}{k:Option Int}(p:PartR v k):∃q:Option (Int×yE),v=partValue q/\q.map (·.1)=k:=by
 cases p with
 |none=>exact⟨eu,rfl,rfl⟩
 |int i t=>exact⟨dD (i,t),rfl,rfl⟩
theorem Gf(lo c:Option Int)(n:Nat):tT lo c 1 n=(ADV (c.elim n (vE n)-lo.elim 0 (vE n))).map (lo.elim 0 (vE n)+ ·):=by
 have e:tT lo c 1 n=ACP (vy lo c eu n).1 (vy lo c eu n).2.1 1:=by cases lo<;>cases c<;>simp[tT,vy]
 simp only[e,sliceBounds_plain,sliceRange_one]
theorem Ba{h l n:Nat}(c:h<=n)(e:h-l=n):l=0\/n=0:=by
 cases l with
 |zero=>exact .inl rfl
 |succ l=>
  cases h with
  |zero=>exact .inr (e.symm.trans (Nat.zero_sub _))
  |succ m=>exact absurd (mE c (mE (uJ (e.symm.trans (Nat.succ_sub_succ m l))) (sX m l))) (Nat.not_succ_le_self m)
theorem RP(n:Nat)(k:Int):vE n k<=n:=yT.mpr (ADo.mpr ⟨pP n,Int.min_le_right _ _⟩)
include O in
theorem Y5{l r:Option Int}{x:List Nat}(o:A5 x=er)(t:VR Z.prog Z.w ok s.heap v (.str x)){w:ls}{y B C:gx}(E:s.heap.IsSliceOf w y B C)
  (G:PartR y l) (H:PartR B r) (I:PartR C eu):WP Z A (xc f d v (.ref w)) (Gv Z ok s (.str (Ej x l r))) s:=by
 (refine VR.kStr t λ_=>?_;clear t)
 have o:=AQ o
 (refine A2 G.part λg i j=>?_;subst i;subst j)
 (refine A2 H.part λc k m=>?_;subst k;subst m)
 cases I;refine CG (xH _ _ _) yU.lookup (wpAny_getItem_str_slice (l:=g) (u:=c) (st:=eu) E rfl ?_);have e:=AU x;have p:(yG (AP x) g c eu).filterMap ((AP x).cps[·]?)=Ej x (g.map (·.1)) (c.map (·.1)):=by unfold yG Ej;show(tT _ _ 1 _).filterMap _=_;simp only[Gf,pick_run,e];simp[AP]
 unfold sliceMade;split
 ·rename_i D;simp only[pl]at D;have h:(yG (AP x) g c eu).length=x.length:=by refine e▸?_;simpa using D.2
  have:Ej x (g.map (·.1)) (c.map (·.1))=x:=by
   have J:yG (AP x) g c eu=(ADV ((c.map (·.1)).elim x.length (vE x.length)-(g.map (·.1)).elim 0 (vE x.length))).map ((g.map (·.1)).elim 0 (vE x.length)+ ·):=by unfold yG;show tT _ _ 1 _=_;simp only[Gf,e]
   rw[J,px,ABT]at h;unfold Ej;have L:(c.map (·.1)).elim x.length (vE x.length)<=x.length:=by
    induction c using m8 with
    |none=>exact qF _
    |some q=>show vE x.length q.1<=x.length;exact RP _ _
   have n:=Ba L h;rcases n with n|n
   ·rw[n]at h⊢;simp only[h,sY,List.take_length]
   ·have:x=[]:=tP n;refine this▸?_;simp
  rw[this];exact⟨.str _ _,Same.refl⟩
 ·rw[p];refine⟨?_,EA O rfl⟩;have:=AU (Ej x (g.map (·.1)) (c.map (·.1)));show(AP _).length<=_;simp only[this,uq];have:(Ej x (g.map (·.1)) (c.map (·.1))).length<=x.length:=by
   unfold Ej;exact mE (List.length_take_le' _ _) (by rw[rH];exact sX _ _)
  exact mE this (uq▸QA o)
include O in
theorem O3{l w st:Option Int}(h:R6 a l w st=dD z)(e:∀a,s.heap.get? a=eu->ok a)(m:VR Z.prog Z.w ok s.heap v a){sl:ls}{vl vu vs:gx}(n:s.heap.IsSliceOf sl vl vu vs)
  (o:PartR vl l) (p:PartR vu w) (q:PartR vs st):WP Z A (xc f d v (.ref sl)) (Gv Z ok s z) s:=by
 refine CB λu r=>?_;induction a using V.casesOn with
 |str x=>induction st using m8 with
  |none=>
   refine iK h λc h=>?_
   (replace h:=dE h;subst h)
   exact r (Y5 O c m n o p q)
  |some k=>exact nS h
 |l x=>induction st using m8 with
  |none=>
   refine iK h λc h=>?_
   (replace h:=dE h;(replace h:=h.symm;subst h))
   refine r ?_;have c:=AQ c;refine VR.kLst m λu u u y t g=>?_;have i:s.heap.IsList _ _:=⟨_,t,rfl,_,rfl⟩
   have j:=g.length;rw[rC]at j;refine CG i.typeIs xS.lookup (AAu i n o.isPart p.isPart q.isPart (by decide) ⟨?_,Same.push O⟩ (by rw[uq];lia));refine .l (Cg e) (mA _ rfl) ?_;rw[slicePick_plain,j];exact((g.drop _).take _).same (Same.push O (tk:=s.toks))
  |some k=>
   refine iK h λc h=>?_
   (replace h:=dE h;subst h)
   refine r ?_;have B:=AQ (ba c).1;refine VR.kLst m λu u u y t g=>?_;have i:s.heap.IsList _ _:=⟨_,t,rfl,_,rfl⟩
   have j:=g.length;rw[rC]at j;refine CG i.typeIs xS.lookup (AAu i n o.isPart p.isPart q.isPart (by simpa using(ba c).2) ⟨?_,Same.push O⟩ (by rw[uq];lia));refine .l (Cg e) (mA _ rfl) ?_;refine VRs.same ?_ (Same.push O (tk:=s.toks));unfold slicePick Hm;refine j▸?_;simpa using g.filterMap _
 |_=>exact nS h
end
end
section
set_option backward.eqns.nonrecursive false
set_option backward.eqns.deepRecursiveSplit false
noncomputable def sumZ:List Int->Int
 |[]=>0
 |i::r=>i+sumZ r
theorem Vz{i:Int}{r:List Int}:sumZ (i::r)=i+sumZ r:=rfl
noncomputable def Er(a b c:V)(d:V->V->Bool):V:=if d b a then(if d c b then c else b)else if d c a then c else a
noncomputable def ly(x y:V):Bool:=match x,y with|.int i,.int j=>decide (j<i)|_,_=>fG
noncomputable def mI(x y:V):Bool:=match x,y with|.int i,.int j=>decide (i<j)|_,_=>fG
noncomputable def lx(x y:V):Bool:=match x,y with|.fl i,.fl j=>FF.q i j==dD .gt|_,_=>fG
noncomputable def mF(x y:V):Bool:=match x,y with|.fl i,.fl j=>FF.q i j==dD .lt|_,_=>fG
noncomputable def Ju(f:BI)(d:List V):Option V:=d.casesOn eu λa r=>r.casesOn
 (f.casesOn
  (a.casesOn eu (λz=>eu) (λz=>eu) (λs=>if A5 s then dD (.int s.length)else eu) (λz=>eu) (λs=>if A5 s then dD (.int s.length)else eu) (λz=>eu) λz z=>eu)
  (a.casesOn eu (λz=>eu) (λz=>eu) (λz=>eu) (λz=>eu) (λs=>if A5 s then dD (.l s)else eu) (λz=>eu) λks z=>if A5 ks then dD (.l (ks.map .str))else eu)
  (a.casesOn eu (λz=>eu) (λz=>eu) (λz=>eu) (λz=>eu) (λs=>if A5 s then dD (.t s)else eu) (λz=>eu) λz z=>eu)
  (a.casesOn eu (λz=>eu) (λz=>eu) (λz=>eu) (λz=>eu) (λs=>match BX s with|some l=>dD (.int (sumZ l))|none=>eu) (λz=>eu) λz z=>eu)
  (a.casesOn eu (λz=>eu) (λi=>dD (.int (if i<0 then -i else i))) (λz=>eu) (λz=>eu) (λz=>eu) (λz=>eu) λz z=>eu)
  eu eu
  (a.casesOn eu (λz=>eu) (λi=>dD (.int i)) (λz=>eu) (λx=>match vQ x with|.fin g m e=>dD (.int (ABB g m e))|_=>eu) (λz=>eu) (λz=>eu) λz z=>eu)
  eu)
 λb r=>r.casesOn
 (f.casesOn eu eu eu eu eu
  (match a,b with|.int i,.int j=>dD (.int (if j<i then j else i))|_,_=>eu)
  eu eu
  (match a,b with|.int i,.int j=>if j != 0&&FP j then dD (.t [.int (i.fdiv j),.int (i.fmod j)])else eu|_,_=>eu))
 λc r=>r.casesOn
 (f.casesOn eu eu eu eu eu
  (match a,b,c with|.int a,.int b,.int c=>dD (Er (.int a) (.int b) (.int c) mI)|.fl a,.fl b,.fl c=>dD (Er (.fl a) (.fl b) (.fl c) mF)|_,_,_=>eu)
  (match a,b,c with|.int a,.int b,.int c=>dD (Er (.int a) (.int b) (.int c) ly)|.fl a,.fl b,.fl c=>dD (Er (.fl a) (.fl b) (.fl c) lx)|_,_,_=>eu)
  eu eu)
 λz z=>eu
noncomputable def BI.val:BI->gx
 |.len=>.builtin "len"
 |.list=>.type "list"
 |.tuple=>.type "tuple"
 |.sum=>.builtin "sum"
 |.abs=>.builtin "abs"
 |.min=>.builtin "min"
 |.max=>.builtin "max"
 |.int=>.type "int"
 |.divmod=>.builtin "divmod"
section
variable{Z:Bs}(O:Z.Ok){A:mx}{B:ls->Prop}{s:lb}{v u:gx}{a b z:V}
theorem Kn{g:qK}{w:sO}{B:ls->Prop}{h:qX}:∀{d:List V} {l:List Int} {f:List gx},BX d=dD l->VRs g w B h f d->∃c:List (Int×yE),f=c.map (λp=>Value.int p.1 p.2)/\c.map (·.1)=l
 |d,l,f,e,r=>by
  have q:=IS e r;clear e r;induction q with
  |nil=>exact⟨[],rfl,rfl⟩
  |cons n t _ i=>refine A2 i λc j k=>?_;exact⟨(n,t)::c,by exact congrArg _ j,by refine k▸?_;rfl⟩
theorem Yl{x y q:V}{h i f:gx}(d:V->V->Bool)(e:Nat->Nat->Bool)(o:VR Z.prog Z.w B s.heap h x)(p:VR Z.prog Z.w B s.heap i y)(m:VR Z.prog Z.w B s.heap f q)
  (j:e 1 0=d y x) (k:e 2 1=d q y) (l:e 2 0=d q x) {v:gx} (c:(#[h,i,f]:Array gx)[argBest e 2]?=dD v):VR Z.prog Z.w B s.heap v (Er x y q d):=by
 unfold Er;change (#[h,i,f]:Array gx)[if e 2 (if e 1 0=er then 1 else 0)=er then 2 else(if e 1 0=er then 1 else 0)]?=dD v at c;rw[j]at c;cases n:d y x with
 |true=>
  rw[n]at c;simp only[if_true,k]at c⊢;cases g:d q y with
  |true=>
   rw[g]at c;have:f=v:=by simpa using c
   exact this▸m
  |false=>
   rw[g]at c;have:i=v:=by simpa using c
   exact this▸p
 |false=>
  rw[n]at c;simp only[ui,if_false,l]at c⊢;cases g:d q x with
  |true=>
   rw[g]at c;have:f=v:=by simpa using c
   exact this▸m
  |false=>
   rw[g]at c;have:h=v:=by simpa using c
   exact this▸o
include O in
theorem AK{c f g:gx}{x y q:V}(k:V->V->Bool)(H:A.handled=eu)(I:VR Z.prog Z.w B s.heap c x)(J:VR Z.prog Z.w B s.heap f y)(L:VR Z.prog Z.w B s.heap g q)(j:Nat->Nat->Bool)
  (r:j 1 0=k y x) (t:j 2 1=k q y) (w:j 2 0=k q x):
  (CmpOf Z.prog Z.w A.in1 .Gt (λi v=>(#[c,f,g]:Array gx)[i]?=dD v) j->WP Z A (t9 (.builtin "max") [c,f,g]) (Gv Z B s (Er x y q k)) s)/\
  (CmpOf Z.prog Z.w A.in1 .Lt (λi v=>(#[c,f,g]:Array gx)[i]?=dD v) j->WP Z A (t9 (.builtin "min") [c,f,g]) (Gv Z B s (Er x y q k)) s):=by
 have p:(s.heap.push {cls:=.type "tuple",data:=.seq #[c,f,g]}).IsTuple s.heap.objs.size #[c,f,g]:=⟨_,mA _ rfl,rfl,0,rfl⟩
 have h:(s.heap.push {cls:=.type "tuple",data:=.seq #[c,f,g]}).objs.size=s.heap.objs.size+1:=rx ..;have l:∀d∈ [(s.heap.push {cls:=.type "tuple",data:=.seq #[c,f,g]}).objs.size,s.heap.objs.size],d<((s.heap.push {cls:=.type "tuple",data:=.seq #[c,f,g]}).push {cls:=.type "tuple_iterator",data:=.fields #[.ref s.heap.objs.size,.int 0 0]}).objs.size:=by
  intro d hd;simp only[rx,h]
  (rcases md.mp hd with C|hd<;>try rw[C])
  ·rw[h];exact rn _
  ·(rcases md.mp hd with C|hd<;>try rw[C])
   ·exact vj (rn _)
   ·cases hd
 have fin:∀(v:gx) (m:qX) (D:Nat),(#[c,f,g]:Array gx)[argBest j ((#[c,f,g]:Array gx).size-1)]?=dD v->
   (∀b o,b∉ [(s.heap.push {cls:=.type "tuple",data:=.seq #[c,f,g]}).objs.size]->((s.heap.push {cls:=.type "tuple",data:=.seq #[c,f,g]}).push {cls:=.type "tuple_iterator",data:=.fields #[.ref s.heap.objs.size,.int 0 0]}).get? b=dD o->m.get? b=dD o)->
   Gv Z B s (Er x y q k) v {s with heap:=m,toks:=D}:=by
  intro v m D M N;have n:∀d o,s.heap.get? d=dD o->m.get? d=dD o:=λd o e=>by
   refine N d o (λE=>?_) (lh _ (lh _ e));rcases md.mp E with Q|E
   ·have:=rR e;rw[Q,h]at this;exact vH _ (rb this)
   ·cases E
  have S:Same Z s {s with heap:=m,toks:=D}:=Same.of_keep O n;exact⟨(Yl k j I J L r t w M).same S,S⟩
 constructor
 ·intro G;refine call_max_three (uA p ?_);exact⟨_,[_,s.heap.objs.size],[_],_,_,_,j,rfl,AAG (A:=A.in1) H _ s.heap.objs.size (by rw[h];exact sU (rn _)) #[c,f,g],
   ⟨⟨_,mA _ rfl,rfl,rfl⟩,p.push _⟩,l,by simp,G,fin⟩
 ·intro G;refine call_min_three (uA p ?_);exact⟨_,[_,s.heap.objs.size],[_],_,_,_,j,rfl,AAG (A:=A.in1) H _ s.heap.objs.size (by rw[h];exact sU (rn _)) #[c,f,g],
   ⟨⟨_,mA _ rfl,rfl,rfl⟩,p.push _⟩,l,by simp,G,fin⟩
theorem cS{d e f v:gx}{i:Nat}{P:Nat->gx->Prop}(h:(#[d,e,f]:Array gx)[i]?=dD v)(a:P 0 d)(b:P 1 e)(c:P 2 f):P i v:=by
 match i with
 |0=>exact dE h▸a
 |1=>exact dE h▸b
 |2=>exact dE h▸c
 |i+3=>simp at h
noncomputable def f8(a b c:UInt64)(i:Nat):UInt64:=if i=0 then a else if i=1 then b else c
theorem bY{c:qK}{w:sO}{A:mx}{E:gx->lb->Prop}{s:lb}{x y:UInt64}{t u:yE}{Q:gx->lb->Prop}(h:Q (.bool (FF.q x y==dD .gt)) s):
  qH (qQ c w) A (richCompare .Gt (.float x t) (.float y u)) Q E s:=by rw[FF.cmp_eq]at h;exact ADW (A:=A) h
theorem bo{c:qK}{w:sO}{A:mx}{E:gx->lb->Prop}{s:lb}{x y:UInt64}{t u:yE}{Q:gx->lb->Prop}(h:Q (.bool (FF.q x y==dD .lt)) s):
  qH (qQ c w) A (richCompare .Lt (.float x t) (.float y u)) Q E s:=by rw[FF.cmp_eq]at h;exact zT (A:=A) h
theorem PT:∀l:List Int,sumZ l=l.sum
 |[]=>rfl
 |i::r=>by rw[Vz,PT r,List.sum_cons]
include O in
theorem Tr{ks:List (List Nat)}{w:List V}(y:A.handled=eu)(i:∀a,s.heap.get? a=eu->B a)(hn:ks.length<1000000)(C:VR Z.prog Z.w B s.heap v (.d ks w)):
  WP Z A (t9 (.type "list") [v]) (Gv Z B s (.l (ks.map .str))) s:=by
 refine VR.kDct C λ_ _ _ a1 D E G q r1=>?_;rename_i d;refine T5 G λH ep I=>?_;have r:d.length=ks.length:=by have:=congrArg ug q;simpa using this
 refine PySem.W.kdl_call (PySem.W.kdl_dict D) y (⟨_,H,E,I⟩) (by rw[uq];lia) λJ tk l c L M m=>?_;refine⟨.l (Cg i) M ?_,Same.of_keep O L⟩;obtain⟨N,m⟩:=m;have n:∀(ks:List (List Nat)) (d:List (pw×gx)) (e:List gx),d.map (·.1)=ks.map AP->e.length=d.length->(∀(j:Nat) (v:gx),e[j]?=dD v->∃k x,d[j]?=dD (k,x)/\(qW Z.prog Z.w).is k v=er)->VRs Z.prog Z.w B J e (ks.map .str):=by
  intro ks;induction ks with
  |nil=>
   intro d e f g _;have:d=[]:=by simpa using f
   subst this;have:e=[]:=tP g;exact this▸.nil
  |cons k ks Q=>
   intro d e f g h
   match d,e,f,g,h with
   |[],_,f,_,_=>simp at f
   |_::_,[],_,g,_=>simp at g
   |p::d,v::e,f,g,h=>
    injection f with U Y;refine .cons ?_ (Q d e Y (by simpa using g) λj=>h (j+1));refine AE (h 0 v rfl) λk' x o h2=>?_;have o:p=(k',x):=by simpa using o
    subst o;subst U
    (obtain⟨t,qz⟩:=AAd h2<;>try refine qz▸?_)
    exact .str _ _
 exact n ks d l.toList q (by simp only[rC,N]) λj v hj=>m j v (by refine ts▸?_;exact hj)
include O in
theorem e7{f:V}(h:Ju .len [f]=dD z)(d:VR Z.prog Z.w B s.heap u f):WP Z A (t9 (.builtin "len") [u]) (Gv Z B s z) s:=by
 refine CB λy g=>?_;induction f using V.casesOn with
 |str x=>
  refine iK h λc h=>?_
  (replace h:=dE h;subst h)
  refine g ?_
  (refine VR.kStr d λy=>?_;clear d)
  have c:=AQ c;have e:=AU x;exact PySem.P.len_str (by lia) (by exact e▸BQ O)
 |l x=>
  refine iK h λc h=>?_
  (replace h:=dE h;subst h)
  refine g ?_;refine VR.kLst d λy y y k i j=>?_;have c:=AQ c;have e:=j.length;simp only[rC]at e;exact ADp ⟨_,i,rfl,_,rfl⟩ (by lia) (by exact e▸BQ O)
 |_=>exact nS h
include O in
theorem Yb{f:V}(h:Ju .list [f]=dD z)(k:A.handled=eu)(c:∀a,s.heap.get? a=eu->B a)(g:VR Z.prog Z.w B s.heap u f):WP Z A (t9 (.type "list") [u]) (Gv Z B s z) s:=by
 refine CB λy i=>?_;induction f using V.casesOn with
 |l x=>
  refine iK h λd h=>?_
  (replace h:=dE h;subst h)
  refine i ?_;refine VR.kLst g λy y y p l j=>?_;have d:=AQ d;have e:=j.length;simp only[rC]at e;refine call_list_seq _ (.inl rfl) l rfl rfl (λm q n o=>?_) (by refine uq▸?_;lia);have S:Same Z s {s with heap:=m,toks:=s.toks}:=Same.of_keep O n;exact⟨.l (Cg c) o (j.same S),S⟩
 |d ks r=>
  refine iK h λd h=>?_
  (replace h:=dE h;subst h)
  exact i (Tr O k c (AQ d) g)
 |_=>exact nS h
include O in
theorem VK{f:V}(h:Ju .tuple [f]=dD z)(d:∀a,s.heap.get? a=eu->B a)(l:VR Z.prog Z.w B s.heap u f):WP Z A (t9 (.type "tuple") [u]) (Gv Z B s z) s:=by
 refine CB λy m=>?_;induction f using V.casesOn with
 |l x=>
  refine iK h λg h=>?_
  (replace h:=dE h;subst h)
  refine m ?_;refine VR.kLst l λy y y p n i=>?_;have g:=AQ g;have e:=i.length;simp only[rC]at e;refine call_tuple_list ⟨_,n,rfl,_,rfl⟩ (λj k=>?_) (by refine uq▸?_;lia);have c:∀(q:xE),Same Z s {s with heap:=j.push q,toks:=s.toks}:=λq=>Same.of_keep O λb o e=>lh _ (k b o e);refine⟨.t (d _ ?_) (mA _ rfl) (i.same (c _)),c _⟩;exact Jj (s.heap.get? j.objs.size) id λo q=>absurd (rR (k _ _ q)) (vH _)
 |_=>exact nS h
include O in
theorem ed{f:V}(h:Ju .sum [f]=dD z)(g:A.handled=eu)(i:VR Z.prog Z.w B s.heap u f):WP Z A (t9 (.builtin "sum") [u]) (Gv Z B s z) s:=by
 refine CB λv j=>?_;induction f using V.casesOn with
 |l x=>
  refine Jj (BX x) (λe=>?_) λl d=>?_
  ·change (match BX x with|some l=>dD (.int (sumZ l))|none=>eu)=dD z at h;rw[e]at h;exact nS h
  ·change (match BX x with|some l=>dD (.int (sumZ l))|none=>eu)=dD z at h;rw[d]at h;(replace h:=dE h;subst h);refine j ?_;refine VR.kLst i λv k v t m n=>?_;refine A2 (Kn d n) λc o p=>?_;have q:k=intItems c.toArray:=by
    apply ACx;rw[o];simp[intItems]
   refine sum_intListG (xs:=c.toArray) g ⟨_,q▸m,rfl,_,rfl⟩ λw y C r=>?_;rw[preSum_eq,xT (by simp)];rw[show(c.toArray.toList.map (·.1)).sum=sumZ l by rw[PT,<-p]];exact⟨.int _ _,Same.of_keep O r⟩
 |_=>exact nS h
include O in
theorem cI{f:V}(h:Ju .abs [f]=dD z)(c:VR Z.prog Z.w B s.heap u f):WP Z A (t9 (.builtin "abs") [u]) (Gv Z B s z) s:=by
 refine CB λy d=>?_;induction f using V.casesOn with
 |int x=>(replace h:=dE h;subst h);refine d ?_;(refine VR.kInt c λy=>?_;clear c);exact call_abs_int λu e=>BQ O
 |_=>exact nS h
include O in
theorem aF{f:V}(h:Ju .int [f]=dD z)(c:VR Z.prog Z.w B s.heap u f):WP Z A (t9 (.type "int") [u]) (Gv Z B s z) s:=by
 refine CB λy d=>?_;induction f using V.casesOn with
 |int x=>(replace h:=dE h;subst h);refine d ?_;(refine VR.kInt c λy=>?_;clear c);exact call_int_int ⟨.int _ _,Same.refl⟩
 |fl x=>
  change (match vQ x with|.fin g m e=>dD (.int (ABB g m e))|_=>eu)=dD z at h;cases hd:vQ x with
  |fin g m e=>rw[hd]at h;(replace h:=dE h;subst h);refine d ?_;(refine VR.kFlt c λy=>?_;clear c);exact call_int_float hd (BQ O)
  |_=>rw[hd]at h;exact nS h
 |_=>exact nS h
theorem Rg{a b:V}{f:Int->Int->Option V}(h:(match a,b with|.int i,.int j=>f i j|_,_=>eu)=dD z){C:Prop}(k:∀i j,a=.int i->b=.int j->f i j=dD z->C):C:=by
 induction a using V.casesOn with
 |int i=>induction b using V.casesOn with
  |int j=>exact k i j rfl rfl h
  |_=>exact nS h
 |_=>exact nS h
theorem ND{a b c:V}{f:Int->Int->Int->Option V}{g:UInt64->UInt64->UInt64->Option V}(h:(match a,b,c with|.int i,.int j,.int l=>f i j l|.fl i,.fl j,.fl l=>g i j l|_,_,_=>eu)=dD z){C:Prop}
  (k:∀i j l,a=.int i->b=.int j->c=.int l->f i j l=dD z->C) (q:∀i j l,a=.fl i->b=.fl j->c=.fl l->g i j l=dD z->C):C:=by
 induction a using V.casesOn with
 |int i=>induction b using V.casesOn with
  |int j=>induction c using V.casesOn with
   |int l=>exact k i j l rfl rfl rfl h
   |_=>exact nS h
  |_=>exact nS h
 |fl i=>induction b using V.casesOn with
  |fl j=>induction c using V.casesOn with
   |fl l=>exact q i j l rfl rfl rfl h
   |_=>exact nS h
  |_=>exact nS h
 |_=>exact nS h
include O in
theorem Pa{d e f:gx}{a b c:Int}(h:A.handled=eu)(k:VR Z.prog Z.w B s.heap d (.int a))(l:VR Z.prog Z.w B s.heap e (.int b))(m:VR Z.prog Z.w B s.heap f (.int c)):
  WP Z A (t9 (.builtin "max") [d,e,f]) (Gv Z B s (Er (.int a) (.int b) (.int c) ly)) s/\WP Z A (t9 (.builtin "min") [d,e,f]) (Gv Z B s (Er (.int a) (.int b) (.int c) mI)) s:=by
 (refine VR.kInt k λz=>?_;clear k);(refine VR.kInt l λz=>?_;clear l);(refine VR.kInt m λz=>?_;clear m)
 constructor
 ·refine(AK O ly h (.int _ _) (.int _ _) (.int _ _) (λi j=>decide (ABC #[(_,0),(_,0),(_,0)] i>ABC #[(_,0),(_,0),(_,0)] j)) rfl rfl rfl).1 (CmpOf.ints_gt (ABC #[(_,0),(_,0),(_,0)]) λi v g=>?_);exact cS (P:=λi v=>∃t,v=.int (ABC #[(_,0),(_,0),(_,0)] i) t) g ⟨_,rfl⟩ ⟨_,rfl⟩ ⟨_,rfl⟩
 ·refine(AK O mI h (.int _ _) (.int _ _) (.int _ _) (λi j=>decide (ABC #[(_,0),(_,0),(_,0)] i<ABC #[(_,0),(_,0),(_,0)] j)) rfl rfl rfl).2 (CmpOf.ints_lt (ABC #[(_,0),(_,0),(_,0)]) λi v g=>?_);exact cS (P:=λi v=>∃t,v=.int (ABC #[(_,0),(_,0),(_,0)] i) t) g ⟨_,rfl⟩ ⟨_,rfl⟩ ⟨_,rfl⟩
theorem lr{a b c:UInt64}{t u w:yE}{i:Nat}{v:gx}(h:(#[.float a t,.float b u,.float c w]:Array gx)[i]?=dD v):∃t,v=.float (f8 a b c i) t:=cS (P:=λi v=>∃t,v=.float (f8 a b c i) t) h ⟨t,rfl⟩ ⟨u,rfl⟩ ⟨w,rfl⟩
include O in
theorem PE{d f g:gx}{a b c:UInt64}(m:A.handled=eu)(n:VR Z.prog Z.w B s.heap d (.fl a))(o:VR Z.prog Z.w B s.heap f (.fl b))(p:VR Z.prog Z.w B s.heap g (.fl c)):
  WP Z A (t9 (.builtin "max") [d,f,g]) (Gv Z B s (Er (.fl a) (.fl b) (.fl c) lx)) s/\WP Z A (t9 (.builtin "min") [d,f,g]) (Gv Z B s (Er (.fl a) (.fl b) (.fl c) mF)) s:=by
 (refine VR.kFlt n λz=>?_;clear n);(refine VR.kFlt o λz=>?_;clear o);(refine VR.kFlt p λz=>?_;clear p)
 constructor
 ·refine(AK O lx m (.fl _ _) (.fl _ _) (.fl _ _) (λi j=>FF.q (f8 a b c i) (f8 a b c j)==dD .gt) rfl rfl rfl).1 ?_;intro i j r w s Q E h k l;refine(lr h).elim λt e=>(lr k).elim λu q=>?_;rw[e,q];exact bY l
 ·refine(AK O mF m (.fl _ _) (.fl _ _) (.fl _ _) (λi j=>FF.q (f8 a b c i) (f8 a b c j)==dD .lt) rfl rfl rfl).2 ?_;intro i j r w s Q E h k l;refine(lr h).elim λt e=>(lr k).elim λu q=>?_;rw[e,q];exact bo l
include O in
theorem R8{f:BI}{D:List V}{E:List gx}(h:Ju f D=dD z)(o:A.handled=eu)(p:∀a,s.heap.get? a=eu->B a)(t:VRs Z.prog Z.w B s.heap E D):
  WP Z A (t9 f.val E) (Gv Z B s z) s:=by
 refine CB λv g=>?_;induction D using lz with
 |nil=>induction f using BI.casesOn with|_=>exact nS h
 |cons a r=>induction r using lz with
  |nil=>
   refine g ?_;refine VRs.kCons t λu C e r=>?_
   (refine VRs.kNil r ?_;clear r)
   refine CB λv g=>?_;induction f using BI.casesOn with
   |len=>exact g (e7 O h e)
   |list=>exact g (Yb O h o p e)
   |tuple=>exact g (VK O h p e)
   |sum=>exact g (ed O h o e)
   |abs=>exact g (cI O h e)
   |int=>exact g (aF O h e)
   |_=>exact nS h
  |cons b r=>induction r using lz with
   |nil=>induction f using BI.casesOn with
    |min=>
     refine Rg (f:=λi j=>dD (.int (if j<i then j else i))) h λi j m n h=>g ?_
     (replace h:=dE h;refine h▸?_);subst m n
     refine VRs.kCons t λu C e r=>?_;refine VRs.kCons r λw v k r=>?_
     (refine VRs.kNil r ?_;clear r);(refine VR.kInt e λv=>?_;clear e);(refine VR.kInt k λv=>?_;clear k)
     refine min_two_ints o λI J H=>?_;refine⟨?_,Same.of_keep O H⟩;split<;>exact .int _ _
    |divmod=>
     refine Rg (f:=λi j=>if j != 0&&FP j then dD (.t [.int (i.fdiv j),.int (i.fmod j)])else eu) h λi j m n h=>?_;refine iK h λG h=>g ?_
     (replace h:=dE h;(replace h:=h.symm;refine h▸?_));subst m n
     refine VRs.kCons t λu C e r=>?_;refine VRs.kCons r λw v k r=>?_
     (refine VRs.kNil r ?_;clear r);(refine VR.kInt e λv=>?_;clear e);(refine VR.kInt k λv=>?_;clear k)
     exact divmod_int (by simpa using(ba G).1) ⟨.t (Cg p) (mA _ rfl) (.cons (.int _ _) (.cons (.int _ _) .nil)),Same.push O⟩ (Or.inl (zI (Pb (ba G).2)))
    |_=>exact nS h
   |cons c r=>induction r using lz with
    |nil=>induction f using BI.casesOn with
     |min=>
      refine ND (f:=λa b c=>dD (Er (.int a) (.int b) (.int c) mI)) (g:=λa b c=>dD (Er (.fl a) (.fl b) (.fl c) mF)) h (λi j l m n x h=>g ?_) λi j l m n x h=>g ?_
      ·(replace h:=dE h;subst h);subst m n x
       refine VRs.kCons t λu C e r=>?_;refine VRs.kCons r λw v k r=>?_;refine VRs.kCons r λq v y r=>?_
       (refine VRs.kNil r ?_;clear r)
       exact(Pa O o e k y).2
      ·(replace h:=dE h;subst h);subst m n x
       refine VRs.kCons t λu C e r=>?_;refine VRs.kCons r λw v k r=>?_;refine VRs.kCons r λq v y r=>?_
       (refine VRs.kNil r ?_;clear r)
       exact(PE O o e k y).2
     |max=>
      refine ND (f:=λa b c=>dD (Er (.int a) (.int b) (.int c) ly)) (g:=λa b c=>dD (Er (.fl a) (.fl b) (.fl c) lx)) h (λi j l m n x h=>g ?_) λi j l m n x h=>g ?_
      ·(replace h:=dE h;subst h);subst m n x
       refine VRs.kCons t λu C e r=>?_;refine VRs.kCons r λw v k r=>?_;refine VRs.kCons r λq v y r=>?_
       (refine VRs.kNil r ?_;clear r)
       exact(Pa O o e k y).1
      ·(replace h:=dE h;subst h);subst m n x
       refine VRs.kCons t λu C e r=>?_;refine VRs.kCons r λw v k r=>?_;refine VRs.kCons r λq v y r=>?_
       (refine VRs.kNil r ?_;clear r)
       exact(PE O o e k y).1
     |_=>exact nS h
    |cons d r=>induction f using BI.casesOn with|_=>exact nS h
end
end
section
set_option backward.eqns.nonrecursive false
set_option backward.eqns.deepRecursiveSplit false
noncomputable def Fg(c:List Nat):List (List Nat)->List Nat
 |[]=>[]
 |x::r=>match r with
  |[]=>x
  |_::_=>x++c++Fg c r
noncomputable def CD(n:Nat):List (List Nat)->Nat->Nat
 |[],a=>a
 |x::r,a=>CD n r (a+x.length+n)
noncomputable def IW(c:Nat):Nat:=if 65<=c/\c<=90 then c+32 else c
noncomputable def FY(c:Nat):Nat:=if 97<=c/\c<=122 then c-32 else c
noncomputable def Ku(x:V):List V->Nat->Option Nat
 |[],_=>eu
 |y::r,i=>match DT y x with
  |true=>dD i
  |false=>Ku x r (i+1)
noncomputable def Mz(x:V):List V->Nat
 |[]=>0
 |y::r=>match DT y x with
  |true=>Mz x r+1
  |false=>Mz x r
noncomputable def Qt(m:MI)(o:V)(f:List V):Option V:=match m,o,f with
 |.join,.str e,[.l d]=>match C4 d with
  |some l=>if pq (CD e.length l 0) 1000000 then dD (.str (Fg e l))else eu
  |none=>eu
 |.lower,.str [c],[]=>if pq c 128 then dD (.str [IW c])else eu
 |.upper,.str [c],[]=>if pq c 128 then dD (.str [FY c])else eu
 |.index,.l d,[x]=>if GA (.l d)&&GA x&&A5 d then match Ku x d 0 with
  |some j=>dD (.int j)
  |none=>eu
  else eu
 |.count,.l d,[x]=>if GA (.l d)&&GA x then dD (.int (Mz x d))else eu
 |.bitLength,.int i,[]=>dD (.int (po i))
 |_,_,_=>eu
noncomputable def MI.name:MI->pw
 |.join=>"join"
 |.replace=>"replace"
 |.lower=>"lower"
 |.upper=>"upper"
 |.index=>"index"
 |.count=>"count"
 |.bitLength=>"bit_length"
theorem Ot(c:List Nat)(l:List (List Nat)):Txt.join (AP c) (l.map AP)=AP (Fg c l):=by
 unfold Txt.join;rw[StrLaws.glued_eq_join];induction l with
 |nil=>rfl
 |cons x r d=>
  induction r using lz with
  |nil=>rfl
  |cons y r=>show AP x++AP c++yV (AP c) (AP y::r.map AP)=_;simp only[show yV (AP c) (AP y::r.map AP)=AP (Fg c (y::r))from d,GB,GB];rfl
theorem JP(c:List Nat):∀(l:List (List Nat)) (a:Nat),(l.map AP).foldl (λb x=>b+x.length+(AP c).length) a=CD c.length l a
 |[],_=>rfl
 |x::r,a=>by
  have:=JP c r (a+x.length+c.length);exact this
theorem bw:∀c:Fin 128,AD0 (AP [c.val])=AP [IW c.val]:=by nofun
theorem aL:∀c:Fin 128,AD1 (AP [c.val])=AP [FY c.val]:=by nofun
theorem strsAre_values{d:List gx}{e:List pw}(h:StrsAre d e):∃c:List (pw×yE),d=strValues c/\c.map (·.1)=e:=by
 induction h with
 |nil=>exact⟨[],rfl,rfl⟩
 |cons x t r f=>exact A2 f λc g i=>⟨(x,t)::c,by rw[g];rfl,by rw[<-i];rfl⟩
section
variable{Z:Bs}(O:Z.Ok){A:mx}{ok:ls->Prop}{s:lb}{v u:gx}{a b z:V}
noncomputable def MI.tid:MI->String
 |.join=>"str.join"
 |.replace=>"str.replace"
 |.lower=>"str.lower"
 |.upper=>"str.upper"
 |.index=>"list.index"
 |.count=>"list.count"
 |.bitLength=>"int.bit_length"
def RL(Z:Bs)(A:mx)(m:MI)(c:gx)(d:List gx)(Q:gx->lb->Prop)(s:lb):Prop:=
 ∃(T id:String),id=m.tid/\PlainAttrs T/\Slot T m.name id/\typeOf (.builtin id)=tS (.type "method_descriptor")/\WP Z A (t9 (.builtin id) (c::d)) Q s
def aO(m:MI)(c:gx)(s:lb):Prop:=
 ∃(T id:String),id=m.tid/\PlainAttrs T/\Slot T m.name id/\typeOf (.builtin id)=tS (.type "method_descriptor")/\s.TypeIs c T/\(∀a,c=.ref a->∃d,s.heap.get? a=dD d/\d.dict=eu)
theorem RH{x y:V}{r:List V}{i j:Nat}{C:Prop}(h:Ku x (y::r) i=dD j)(c:DT y x=er->j=i->C)(d:DT y x=fG->Ku x r (i+1)=dD j->C):C:=by
 change (match DT y x with|true=>dD i|false=>Ku x r (i+1))=dD j at h;cases q:DT y x with
 |true=>rw[q]at h;exact c q (dE h).symm
 |false=>rw[q]at h;exact d q h
theorem Qz(x:V)(d:List V):∀(i j:Nat),Ku x d i=dD j->i<=j/\(∃y,d[j-i]?=dD y/\DT y x=er)/\∀m,i<=m->m<j->∀y,d[m-i]?=dD y->DT y x=fG:=by
 induction d with
 |nil=>exact λz z h=>nS h
 |cons y r o=>
  intro i j h;refine RH h (λq e=>?_) λq h=>?_
  ·rw[e];exact⟨qF _,⟨y,by simp,q⟩,λm f l=>absurd f (uQ.mpr l)⟩
  ·(refine BO (o (i+1) j h) λf c p=>?_;obtain⟨t,l,w⟩:=c)
   have e:∀m,i+1<=m->m-i=(m-(i+1))+1:=λm h=>NW h;refine⟨ABo f,⟨t,by rw[e _ f];exact l,w⟩,λm B C n g=>?_⟩;rcases Nat.eq_or_lt_of_le B with k|k
   ·subst k;rw[AAH]at g;exact dE g▸q
   ·rw[e m k]at g;exact p m k C n g
theorem QT(x:V)(f:gx->Bool)(d:List V):∀(c:List gx),d.length=c.length->(∀(j:Nat) (y:V) (v:gx),d[j]?=dD y->c[j]?=dD v->f v=DT y x)->c.countP f=Mz x d:=by
 induction d with
 |nil=>intro c h _;exact congrArg _ (tP h.symm)
 |cons y r g=>
  intro c h e;induction c using lz with
  |nil=>exact absurd h (ABy _)
  |cons v c=>
   rw[List.countP_cons,g c (ABp h) λj=>e (j+1),e 0 y v rfl rfl];show _=(match DT y x with|true=>Mz x r+1|false=>Mz x r)
   cases DT y x<;>rfl
theorem R5{c:List V}:∀{f:List vD},CJ c=dD f->∀{j:Nat} {y:V},c[j]?=dD y->∃d,EB y=dD d/\f[j]?=dD d:=by
 induction c with
 |nil=>exact λz z z h=>nS h
 |cons x r g=>
  intro f e j y h;refine CT e λd i q1 q2 k=>?_;refine k▸?_;induction j using uK with
  |zero=>exact⟨d,dE h▸q1,rfl⟩
  |succ j=>exact g q2 (j:=j) h
theorem Nw{e:List vD}:∀{j:Nat} {d:vD},wp e=er->e[j]?=dD d->d.canLay0=er:=by
 induction e with
 |nil=>exact λz=>nS
 |cons x r f=>
  intro j d g h;have c:x.canLay0=er/\wp r=er:=by simpa[wp]using g
  induction j using uK with
  |zero=>exact dE h▸c.1
  |succ j=>exact f c.2 h
theorem Pn{d:List V}{x:V}{e:Array gx}{f:List vD}{g:vD}(j:VRs Z.prog Z.w ok s.heap e.toList d)(q1:CJ d=dD f)(q2:EB x=dD g)(k:wp f=er){m:Nat}{y:V}{u:gx}(l:e.toList[m]?=dD u)(h:d[m]?=dD y):
  sr (xQ s.heap u) g=DT y x:=by
 refine A2 (R5 q1 h) λq i n=>?_;refine A2 (j.get h) λr c o=>?_;refine A2 (o.reads i) λt p z=>?_;rw[l]at c;(replace c:=dE c;rw[c]);rw[SeqAt.readOf_eq (h:=s.heap) (Nw k n) p];exact Ut i q2
theorem di{c:Nat}{t:yE}{d:List gx}(O:Z.Ok)(g:c<128)(f:VRs Z.prog Z.w ok s.heap d []):RL Z A .lower (.str (AP [c]) t) d (Gv Z ok s (.str [IW c])) s:=by
 (refine VRs.kNil f ?_;clear f)
 have e:AD0 (AP [c])=AP [IW c]:=bw ⟨c,g⟩;refine⟨"str","str.lower",rfl,sp,ACR,ACS,?_⟩;refine SC.lower ?_ (by exact e▸EA O rfl);rw[e,AU];rfl
theorem cJ{c:Nat}{t:yE}{d:List gx}(O:Z.Ok)(g:c<128)(f:VRs Z.prog Z.w ok s.heap d []):RL Z A .upper (.str (AP [c]) t) d (Gv Z ok s (.str [FY c])) s:=by
 (refine VRs.kNil f ?_;clear f)
 have e:AD1 (AP [c])=AP [FY c]:=aL ⟨c,g⟩;refine⟨"str","str.upper",rfl,sp,ACT,ACU,?_⟩;refine SC.upper ?_ (by exact e▸EA O rfl);rw[e,AU];rfl
theorem YD{c:List Nat}{h:List V}{l:List (List Nat)}{d:List gx}(O:Z.Ok)(j:C4 h=dD l)(q:CD c.length l 0<1000000)(i:VR Z.prog Z.w ok s.heap v (.str c))(e:VRs Z.prog Z.w ok s.heap d [.l h]):RL Z A .join v d (Gv Z ok s (.str (Fg c l))) s:=by
 (refine VR.kStr i λz=>?_;clear i)
 refine VRs.kCons e λu t e r=>?_
 (refine VRs.kNil r ?_;clear r)
 refine VR.kLst e λz d z w m n=>?_;refine A2 (strsAre_values (IP j n)) λf o p=>?_;have g:s.heap.IsList _ (strValues f).toArray:=⟨_,m,rfl,_,by rw[<-o]⟩
 refine⟨"str","str.join",rfl,sp,ACg,ACh,?_⟩;refine SC.join g p ?_ λx k=>EA O (Ot _ _);unfold JoinOk;rw[<-Array.foldl_toList];rw[JP];unfold zO;rw[decide_eq_false (by rw[uq];lia)];rfl
theorem VW{c:List V}{x:V}{j:Nat}{vs:List gx}(O:Z.Ok)(U:A.units+80<AAC)(G:GA (.l c)=er)(H:GA x=er)(w:A5 c=er)(I:Ku x c 0=dD j)(J:VR Z.prog Z.w ok s.heap v (.l c))(o:VRs Z.prog Z.w ok s.heap vs [x]):RL Z A .index v vs (Gv Z ok s (.int j)) s:=by
 have w:=AQ w;refine VRs.kCons o λu Y o r=>?_
 (refine VRs.kNil r ?_;clear r)
 refine VR.kLst J λz vs n a1 B p=>?_;refine A2 (HF G) λd1 q1 C=>?_;refine A2 (HF H) λk q2 D=>?_;refine HA q1 λL q3 e=>?_;subst e;refine A2 (p.reads q3) λbs M z=>?_;refine A2 (o.reads q2) λcs N z=>?_;have E:=p.length;simp only[rC]at E;have Q:=ABU (A:=A) (vs:=vs) M N (rL C) (rL D) (by
  have:=zx D;have h2:min (ABV L) k.depth<=k.depth:=to _ _
  lia)
 refine BO (Qz x c 0 j I) λz f q=>?_;refine A2 f λy f t=>?_;have ev:∀(m:Nat) (y:V) (l:m<vs.size),c[m]?=dD y->sr (xQ s.heap vs[m]) k=DT y x:=λm y l f=>Pn p q3 q2 (rL C) (by simp[l]) f;have g:j<c.length:=(qR.mp f).1;have d:j<vs.size:=E▸g;refine⟨"list","list.index",rfl,tQ,yp,ACA,?_⟩;refine yo yp ⟨_,B,rfl⟩ F.entry_list_index (F.args_list_index_2 _ _) (SeqAt.list_indexAt _ vs n eu #[] _ (λy=>sr (xQ s.heap y) k) j d (by lia)
  (by exact(ev j y d f).trans (t)) (λm l h=>?_)) ⟨B,Q,BQ O⟩
 have i:m<c.length:=qS h g;rw[ev m c[m] l (by simp[i])];exact q m (qd _) h c[m] (by simp[i])
theorem Tb{c:List V}{x:V}{vs:List gx}(O:Z.Ok)(D:A.units+80<AAC)(l:GA (.l c)=er)(o:GA x=er)(p:VR Z.prog Z.w ok s.heap v (.l c))(f:VRs Z.prog Z.w ok s.heap vs [x]):RL Z A .count v vs (Gv Z ok s (.int (Mz x c))) s:=by
 refine VRs.kCons f λu E f r=>?_
 (refine VRs.kNil r ?_;clear r)
 refine VR.kLst p λz vs n G i g=>?_;refine A2 (HF l) λH q1 j=>?_;refine A2 (HF o) λd q2 k=>?_;refine HA q1 λq q3 e=>?_;subst e;refine A2 (g.reads q3) λI t z=>?_;refine A2 (f.reads q2) λJ w z=>?_;have B:=ABU (A:=A) (vs:=vs) t w (rL j) (rL k) (by
  have:=zx k;have L:min (ABV q) d.depth<=d.depth:=to _ _
  lia)
 refine⟨"list","list.count",rfl,tQ,yq,ACB,?_⟩;refine yo yq ⟨_,i,rfl⟩ F.entry_list_count (F.args_list_count_2 _ _) (SeqAt.list_countAt _ vs n eu #[] _ (λy=>sr (xQ s.heap y) d)) ⟨i,B,?_⟩;rw[QT x (λy=>sr (xQ s.heap y) d) c vs.toList g.length.symm λm y v C h=>Pn g q3 q2 (rL j) h C];exact BQ O
inductive Wx:MI->V->List V->V->Prop
 |join {sep xs l}:C4 xs=dD l->CD sep.length l 0<1000000->Wx .join (.str sep) [.l xs] (.str (Fg sep l))
 |lower {c}:c<128->Wx .lower (.str [c]) [] (.str [IW c])
 |upper {c}:c<128->Wx .upper (.str [c]) [] (.str [FY c])
 |index {xs x j}:GA (.l xs)=er->GA x=er->A5 xs=er->Ku x xs 0=dD j->Wx .index (.l xs) [x] (.int (j:Nat))
 |count {xs x}:GA (.l xs)=er->GA x=er->Wx .count (.l xs) [x] (.int (Mz x xs))
 |bits {i}:Wx .bitLength (.int i) [] (.int (po i))
theorem VC{m:MI}{d:List V}(h:Qt m a d=dD z):Wx m a d z:=by
 refine CB λy f=>?_;induction m using MI.casesOn with
 |join=>induction a using V.casesOn with
  |str g=>induction d using lz with
   |cons b r=>induction b using V.casesOn with
    |l k=>induction r using lz with
     |nil=>
      change (match C4 k with|some l=>if pq (CD g.length l 0) 1000000 then dD (V.str (Fg g l))else eu|none=>eu)=dD z at h;refine Jj (C4 k) (λe=>by rw[e]at h;exact nS h) λl e=>?_;rw[e]at h;refine iK h λc h=>f ?_
      (replace h:=dE h;refine h▸?_)
      exact .join e (nY c)
     |cons _ _=>exact nS h
    |_=>exact nS h
   |nil=>exact nS h
  |_=>exact nS h
 |lower=>induction a using V.casesOn with
  |str s=>induction s using lz with
   |cons c r=>induction r using lz with
    |nil=>induction d using lz with
     |nil=>refine iK h λq h=>f ?_;(replace h:=dE h;rw[<-h]);exact .lower (nY q)
     |cons _ _=>exact nS h
    |cons _ _=>exact nS h
   |nil=>exact nS h
  |_=>exact nS h
 |upper=>induction a using V.casesOn with
  |str s=>induction s using lz with
   |cons c r=>induction r using lz with
    |nil=>induction d using lz with
     |nil=>refine iK h λq h=>f ?_;(replace h:=dE h;rw[<-h]);exact .upper (nY q)
     |cons _ _=>exact nS h
    |cons _ _=>exact nS h
   |nil=>exact nS h
  |_=>exact nS h
 |index=>induction a using V.casesOn with
  |l k=>induction d using lz with
   |cons x r=>induction r using lz with
    |nil=>refine iK h λc h=>?_;refine Jj (Ku x k 0) (λe=>by rw[e]at h;exact nS h) λj e=>f ?_;rw[e]at h;(replace h:=dE h;rw[<-h]);exact .index (ba (ba c).1).1 (ba (ba c).1).2 (ba c).2 e
    |cons _ _=>exact nS h
   |nil=>exact nS h
  |_=>exact nS h
 |count=>induction a using V.casesOn with
  |l k=>induction d using lz with
   |cons x r=>induction r using lz with
    |nil=>refine iK h λc h=>f ?_;(replace h:=dE h;refine h▸?_);exact .count (ba c).1 (ba c).2
    |cons _ _=>exact nS h
   |nil=>exact nS h
  |_=>exact nS h
 |bitLength=>induction a using V.casesOn with
  |int i=>induction d using lz with
   |nil=>(replace h:=dE h;subst h);exact f .bits
   |cons _ _=>exact nS h
  |_=>exact nS h
 |_=>exact nS h
include O in
theorem Q8{m:MI}{i:List V}{j:List gx}(h:Qt m a i=dD z)(k:A.units+80<AAC)(c:VR Z.prog Z.w ok s.heap v a)(d:VRs Z.prog Z.w ok s.heap j i):
  RL Z A m v j (Gv Z ok s z) s:=by
 induction VC h using Wx.casesOn with
 |join l n=>exact YD O l n c d
 |lower e=>(refine VR.kStr c λy=>?_;clear c);exact di O e d
 |upper e=>(refine VR.kStr c λy=>?_;clear c);exact cJ O e d
 |index f g o p=>exact VW O k f g o p c d
 |count f g=>exact Tb O k f g c d
 |bits=>
  (refine VR.kInt c λy=>?_;clear c);(refine VRs.kNil d ?_;clear d)
  exact⟨"int","int.bit_length",rfl,zU,ABD,ABE,call_int_bit_length (BQ O)⟩
theorem dT{m:MI}{f:List V}(h:Qt m a f=dD z)(c:VR Z.prog Z.w ok s.heap v a):aO m v s:=by
 induction VC h using Wx.casesOn with
 |join=>(refine VR.kStr c λy=>?_;clear c);exact⟨"str","str.join",rfl,sp,ACg,ACh,xH _ _ _,λy e=>nomatch e⟩
 |lower=>(refine VR.kStr c λy=>?_;clear c);exact⟨"str","str.lower",rfl,sp,ACR,ACS,xH _ _ _,λy e=>nomatch e⟩
 |upper=>(refine VR.kStr c λy=>?_;clear c);exact⟨"str","str.upper",rfl,sp,ACT,ACU,xH _ _ _,λy e=>nomatch e⟩
 |index=>exact VR.kLst c λy y y y d y=>⟨"list","list.index",rfl,tQ,yp,ACA,⟨_,d,rfl⟩,λy e=>vf e▸⟨_,d,rfl⟩⟩
 |count=>exact VR.kLst c λy y y y d y=>⟨"list","list.count",rfl,tQ,yq,ACB,⟨_,d,rfl⟩,λy e=>vf e▸⟨_,d,rfl⟩⟩
 |bits=>(refine VR.kInt c λy=>?_;clear c);exact⟨"int","int.bit_length",rfl,zU,ABD,ABE,ACM _ _ _,λy e=>nomatch e⟩
end
end
structure Ch(Z:Bs)(fp:ls->Prop)(gp:Nat->Prop)(s j:lb):Prop where
 heap:∀b o,s.heap.get? b=dD o->AB o=fG->¬fp b->j.heap.get? b=dD o
 gens:∀(i:Nat) x,s.gens[i]?=dD x->¬gp i->j.gens[i]?=dD x
 size:s.gens.size<=j.gens.size
 inv:Inv Z s->Inv Z j
 live:∀b,¬fp b->j.heap.get? b=eu->s.heap.get? b=eu
section
variable{Z:Bs}{fp fp':ls->Prop}{gp m:Nat->Prop}{s j l:lb}
theorem Go(h:∀(i:Nat) x,s.gens[i]?=dD x->j.gens[i]?=dD x):s.gens.size<=j.gens.size:=by
 cases a:s.gens.size with
 |zero=>exact qd _
 |succ n=>have:=h n _ (ty (a▸rn n));have:=(rm.mp this).1;assumption
theorem Same.ch(x:Same Z s j):Ch Z fp gp s j:=⟨λb o e t z=>x.heap b o e t,λi g e z=>x.gens i g e,Go x.gens,x.inv,λb z=>x.live b⟩
theorem Ch.refl:Ch Z fp gp s s:=Same.refl.ch
theorem Ch.trans(x:Ch Z fp gp s j)(y:Ch Z fp gp j l):Ch Z fp gp s l:=
 ⟨λb o e t f=>y.heap b o (x.heap b o e t f) t f,λi g e f=>y.gens i g (x.gens i g e f) f,mE x.size y.size,λi=>y.inv (x.inv i),λb f e=>x.live b f (y.live b f e)⟩
theorem Ch.mono(x:Ch Z fp gp s j)(h:∀b o,s.heap.get? b=dD o->fp b->fp' b)(a:∀i,i<s.gens.size->gp i->m i):Ch Z fp' m s j:=
 ⟨λb o e t f=>x.heap b o e t λq=>f (h b o e q),λi g e f=>x.gens i g e λq=>f (a i (rm.mp e).1 q),x.size,x.inv,λb f e=>by
  cases q:s.heap.get? b with
  |none=>rfl
  |some o=>rw[<-q];exact x.live b (λg=>f (h b o q g)) e⟩
theorem Ch.same(x:Ch Z fp gp s j)(h:∀b o,s.heap.get? b=dD o->¬fp b)(a:∀i,i<s.gens.size->¬gp i):Same Z s j:=
 ⟨λb o e t=>x.heap b o e t (h b o e),λi g e=>x.gens i g e (a i (rm.mp e).1),x.inv,λb e=>by
  cases q:s.heap.get? b with
  |none=>rfl
  |some o=>rw[<-q];exact x.live b (h b o q) e⟩
theorem Ch.of_keep'(O:Z.Ok){d:qX}{tk:Nat}(g:∀b,fp b->Z.B.heap.get? b=eu)(h:∀b o,fp b->s.heap.get? b=dD o->¬CE o)
  (a:∀b o,¬fp b->s.heap.get? b=dD o->d.get? b=dD o):Ch Z fp gp s {s with heap:=d,toks:=tk}:=
 ⟨λb o e z f=>a b o f e,λz z e z=>e,qF _,λi=>⟨λb o e t=>a b o (λf=>by rw[g b f]at e;exact nS e) (i.keep b o e t),λb o e=>(i.there b o e).imp λk n=>a b k (λf=>by rw[g b f]at e;exact nS e) n,i.bare,i.os,
  O.ti _ _ i.ti λb o e c=>a b o (λf=>h b o f e c) e⟩,λb f e=>by
  cases q:s.heap.get? b with
  |none=>rfl
  |some o=>rw[show d.get? b=_ from a b o f q]at e;exact sN e⟩
theorem Ch.of_keep(O:Z.Ok){a:qX}{tk:Nat}(g:∀b,fp b->Z.B.heap.get? b=eu)(d:∀b o,fp b->s.heap.get? b=dD o->o.cls≠.none/\o.cls≠.type "code")
  (h:∀b o,¬fp b->s.heap.get? b=dD o->a.get? b=dD o):Ch Z fp gp s {s with heap:=a,toks:=tk}:=
 Ch.of_keep' O g (λb o f e c=>c.1.elim (d b o f e).1 (d b o f e).2) h
theorem Ch.hok{ok:ls->Prop}(c:Ch Z fp gp s j)(h:∀a,s.heap.get? a=eu->ok a)(d:∀b,fp b->∃o,j.heap.get? b=dD o)(a:ls)(e:j.heap.get? a=eu):ok a:=
 h a (c.live a (λf=>by obtain⟨o,q⟩:=d a f;rw[q]at e;exact sN e) e)
theorem Same.hok{ok:ls->Prop}(c:Same Z s j)(h:∀a,s.heap.get? a=eu->ok a)(a:ls)(e:j.heap.get? a=eu):ok a:=h a (c.live a e)
theorem VR.ch{ok:ls->Prop}{v:gx}{x:V}(r:VR Z.prog Z.w ok s.heap v x)(c:Ch Z fp gp s j)(h:∀b,ok b->¬fp b):VR Z.prog Z.w ok j.heap v x:=
 r.mono (λb o k e t=>c.heap b o e t (h b k)) λz z a z=>a
theorem VRs.ch{ok:ls->Prop}{v:List gx}{x:List V}(r:VRs Z.prog Z.w ok s.heap v x)(c:Ch Z fp gp s j)(h:∀b,ok b->¬fp b):VRs Z.prog Z.w ok j.heap v x:=
 r.mono (λb o k e t=>c.heap b o e t (h b k)) λz z a z=>a
end
structure Trn(Z:Bs)(A:mx)(target:f0)(I:gx)(fp:ls->Prop)(gp:Nat->Prop)(J:(ls->Prop)->List V->lb->Prop):Prop where
 item:∀ok x xs s,J ok (x::xs) s->Inv Z s->(∀a,s.heap.get? a=eu->ok a)->(∀b,fp b->¬ok b)->WP Z A (tb I) (λr j=>∃v,r=dD v/\Ch Z fp gp s j/\WP Z A (rA target I v) (λz l=>VR Z.prog Z.w ok l.heap v x/\J ok xs l/\Ch Z fp gp j l) j) s
 done:∀ok s,J ok [] s->Inv Z s->WP Z A (tb I) (λr j=>r=eu/\Ch Z fp gp s j) s
 self:∀ok xs s,J ok xs s->WP Z A (wK I) (λv j=>v=I/\j=s) s
 keep:∀ok xs s j,J ok xs s->(∀b o,ok b\/fp b->s.heap.get? b=dD o->AB o=fG->j.heap.get? b=dD o)->(∀(i:Nat) x,gp i->s.gens[i]?=dD x->j.gens[i]?=dD x)->J ok xs j
 goal:∀ok ok' xs s,J ok xs s->(∀b o,s.heap.get? b=dD o->ok b->ok' b)->J ok' xs s
 live:∀ok xs s b,J ok xs s->fp b->∃o,s.heap.get? b=dD o
theorem RO{Z:Bs}{A:mx}{a:Type}{t:xL a}{b:a->lb->Prop}{s:lb}(h:∀Q:a->lb->Prop,(∀r j,b r j->Q r j)->WP Z A t Q s):WP Z A t b s:=h _ λz z g=>g
theorem dS{Z:Bs}{A:mx}{a:Type}{t:xL a}{Q:a->lb->Prop}{E:gx->lb->Prop}{s:lb}{c:a}(h:WP Z A t (λr j=>r=c/\j=s) s)(k:Q c s):qH (qQ Z.prog Z.w) A t Q E s:=pF h (λz z g=>g.1▸g.2▸k) λz z f=>f.elim
theorem Yg{Z:Bs}{A:mx}{a:Type}{t:xL a}{Q:a->lb->Prop}{E:gx->lb->Prop}{s:lb}{B:a->Prop}(h:WP Z A t (λr j=>B r/\j=s) s)(k:∀r,B r->Q r s):qH (qQ Z.prog Z.w) A t Q E s:=pF h (λr z g=>g.2▸k r g.1) λz z f=>f.elim
theorem Ub{Z:Bs}{A:mx}{a:Type}{t:xL a}{Q:a->lb->Prop}{E:gx->lb->Prop}{s:lb}{c:a}{R:lb->Prop}(h:WP Z A t (λr j=>r=c/\R j) s)(k:∀j,R j->Q c j):qH (qQ Z.prog Z.w) A t Q E s:=pF h (λz j g=>g.1▸k j g.2) λz z f=>f.elim
theorem fL{Z:Bs}{A:mx}{a b:Type}{t:xL a}{f:b->a}{Q:a->lb->Prop}{E:gx->lb->Prop}{s:lb}{R:b->lb->Prop}(h:WP Z A t (λr j=>∃u,r=f u/\R u j) s)(k:∀u j,R u j->Q (f u) j):qH (qQ Z.prog Z.w) A t Q E s:=pF h (λz j g=>A2 g λu q g=>q▸k u j g) λz z f=>f.elim
theorem P4{h:qX}{a b:ls}{o c:xE}{T:String}(e:h.get? a=dD c)(f:b=a)(q:h.get? b=dD o)(d:c.cls=.type T)(g:T≠"code"):o.cls≠.none/\o.cls≠.type "code" :=by subst f;have e:=dE (e.symm.trans q);refine e▸?_;exact⟨λq=>Value.noConfusion (d.symm.trans q),λq=>g (AAe (d.symm.trans q))⟩
theorem Oe{h:qX}{a b:ls}{o:xE}(e:∃c T,h.get? a=dD c/\c.cls=.type T/\T≠"code")(d:b=a)(q:h.get? b=dD o):o.cls≠.none/\o.cls≠.type "code" :=BJ e λz z e f g=>P4 e d q f g
@[elab_as_elim] theorem NE {a:Type} {x b:a} {P:a->Prop} (h:b∈ [x]) (p:P x):P b:=(qw.mp h)▸p
@[elab_as_elim] theorem NP {a:Type} {x y b:a} {P:a->Prop} (h:b∈ [x,y]) (p:P x) (q:P y):P b:=(md.mp h).elim (λe=>e▸p) λh=>(qw.mp h)▸q
theorem sI{a:Type}{x y b:a}(h:b∈ [x,y]):b=x\/b=y:=(md.mp h).imp_right qw.mp
theorem em{c:Type}{a b:c}{P:c->Prop}(d:P a)(f:P b)(y:c)(h:y=a\/y=b):P y:=h.elim (λe=>e▸d) λe=>e▸f
noncomputable def Dr:List String:=["enumerate","zip","dict_itemiterator","dict_reverseitemiterator","odict_iterator","itertools.zip_longest","itertools.pairwise"]
section
variable{M:Model}{A:mx}{E:gx->lb->Prop}{s:lb}{I:ls}{v:gx}{o:xE}{T:String}{Q:Unit->lb->Prop}
theorem Iu{es:List f0}{k:_}{p:_}(b:s.heap.get? I=dD o)(e:o.cls=.type T)(f:Dr.contains T=fG)(h:Q () s):qH M A (rA (.Tuple es k p) (.ref I) v) Q E s:=by
 induction v using AAf with
 |ref a=>
  refine fX (wpAny_load b ?_);induction o using Obj.casesOn with
  |mk c x d g=>
   subst e;induction d using ABF with
   |fields i=>show qH M A (if(Dr.contains T&&i[0]?==dD (uC a))=er then _ else tS ()) Q E s;rw[f,Bool.false_and,if_neg sR];exact mM h
   |_=>exact mM h
 |_=>exact mM h
theorem Eh{a:f0}(b:s.heap.get? I=dD o)(c:o.cls=.type T)(d:Dr.contains T=fG)
  (h:Q () s):qH M A (rA a (.ref I) v) Q E s:=by
 induction a using ur with
 |Tuple e k p=>exact Iu b c d h
 |List e k=>exact Iu (es:=e) (k:=0) (p:=k) b c d h
 |_=>exact mM h
end
section
variable{Z:Bs}(O:Z.Ok){A:mx}{ok:ls->Prop}
include O
theorem Trn.ofWalks{k:f0}{I:ls}{y z:List ls}{n:Nat}{P:Nat->gx->Prop}{St:Nat->qX->Prop}(W:Walks Z.prog Z.w A I y z n P St){all:List V}(hn:n=all.length)
  (p:∀i h,St i h->∀b∈z,∃o T,h.get? b=dD o/\o.cls=.type T/\Dr.contains T=fG/\T≠"code" /\(T="list_iterator" \/T="tuple_iterator" \/T="range_iterator" \/T="dict_keyiterator" \/T="list_reverseiterator")) (hI:I∈z)
  (R:(ls->Prop)->qX->Prop)
  (a1:∀ok h,R ok h->∀b∈y,b∈z\/ok b) (a2:∀b∈z,Z.B.heap.get? b=eu) (a4:∀i h,St i h->∀b∈y,∀o,h.get? b=dD o->AB o=fG)
  (hR:∀ok B h C,R ok h->(∀b o,ok b->h.get? b=dD o->AB o=fG->C.get? b=dD o)->(∀b o,h.get? b=dD o->ok b->B b)->R B C)
  (hP:∀ok i v x h,R ok h->P i v->all[i]?=dD x->VR Z.prog Z.w ok h v x):
  Trn Z A k (.ref I) (λb=>b∈z) (λm=>False) (λok D s=>R ok s.heap/\∃i,i+D.length=n/\D=all.drop i/\St i s.heap) where
 item:=λok x D s f m m a5=>by
  (obtain⟨r,G⟩:=f;refine AW G λi g u c=>?_)
  have hi:i<n:=by rw[<-g];simp
  refine W.item i s _ _ hi c λv C tk a6 w H=>?_;have ch:Ch Z (λb=>b∈z) (λm=>False) s {s with heap:=C,toks:=tk}:=Ch.of_keep O a2 (λb o d e=>by
   refine dg (p i _ c b d) λo' T e' J m hT hh=>?_;rw[e']at e;(replace e:=dE e;subst e);exact⟨(by rw[J];intro q;cases q),(by rw[J];intro q;injection q with q;exact hT q)⟩) λb o d e=>H b o d e
  refine⟨v,rfl,ch,?_⟩;refine HI (p _ _ w I hI) λo T e J hT m=>?_;refine Eh e J hT ?_;have a3:R ok C:=hR _ _ _ _ r (λb o d e m=>H b o (λhm=>a5 b hm d) e) λm m m a=>a;have hx:all[i]?=dD x:=by
   have:(all.drop i)[0]?=dD x:=by rw[<-u];rfl
   simpa using this
  refine⟨hP ok i v x C a3 a6 hx,⟨a3,i+1,by rw[<-g];simp;lia,?_,w⟩,Ch.refl⟩;have:all.drop (i+1)=(all.drop i).tail:=by simp
  rw[this,<-u];rfl
 done:=λok s f m=>by
  (obtain⟨r,L⟩:=f;refine AW L λi g u c=>?_)
  have hi:i=n:=by simpa using g
  (replace hi:=hi.symm;subst hi)
  refine W.done s _ _ c λC tk H=>⟨rfl,Ch.of_keep O a2 (λb o d e=>by
   refine dg (p _ _ c b d) λo' T e' J m hT hh=>?_;rw[e']at e;(replace e:=dE e;subst e);exact⟨(by rw[J];intro q;cases q),(by rw[J];intro q;injection q with q;exact hT q)⟩) λb o d e=>H b o d e⟩
 self:=λok D s f=>by
  (obtain⟨r,N⟩:=f;refine AW N λi g u c=>?_)
  exact W.self i s _ _ c ⟨rfl,rfl⟩
 keep:=λok D s j f H m=>by
  (obtain⟨r,U⟩:=f;refine AW U λi g u c=>?_)
  refine⟨hR _ _ _ _ r (λb o d e t=>H b o (.inl d) e t) λm m m a=>a,i,g,u,W.frame _ _ _ c λb d o e=>?_⟩;exact H b o ((a1 ok _ r b d).elim .inr .inl) e (a4 _ _ c b d o e)
 goal:=λok B D s f hg=>by
  (obtain⟨r,Y⟩:=f;refine AW Y λi g u c=>?_)
  exact⟨hR _ _ _ _ r (λm m m e m=>e) hg,i,g,u,c⟩
 live:=λok D s b f d=>by
  (obtain⟨r,a0⟩:=f;refine AW a0 λi g u c=>?_)
  refine AE (p _ _ c b d) λo T e m=>?_;exact⟨o,e⟩
end
theorem A9{o:xE}{T:String}(h:o.cls=.type T):AB o=fG:=by exact H5 h rfl
def Its(Z:Bs)(A:mx)(target:f0)(p:ls->Prop)(s:lb)(f:List V)(g:gx)(c:lb):Prop:=
 ∃d e J,Trn Z A target g d e J/\J (λa=>p a/\¬d a) f c/\Same Z s c/\(∀b,d b->s.heap.get? b=eu/\∃o,c.heap.get? b=dD o/\AB o=fG)/\∀i,e i->s.gens.size<=i
section
variable{Z:Bs}(O:Z.Ok){A:mx}{p:ls->Prop}{target:f0}{s:lb}{v:gx}
theorem Inv.fresh(i:Inv Z s){b:ls}(h:s.heap.get? b=eu):Z.B.heap.get? b=eu:=by
 cases e:Z.B.heap.get? b with
 |none=>rfl
 |some o=>obtain⟨c,a⟩:=i.there b o e;rw[h]at a;exact nS a
theorem A6(h:qX):h.get? h.objs.size=eu:=by
 cases e:h.get? h.objs.size with
 |none=>rfl
 |some o=>exact absurd (rR e) (vH _)
theorem Ar{h:qX}{a:ls}{o:xE}(e:h.get? a=dD o):a≠h.objs.size:=sU (rR e)
include O in
theorem Mi{q:List V}(D:Inv Z s)(E:A.handled=eu)(G:VR Z.prog Z.w p s.heap v (.l q)):WP Z A (wK v) (Its Z A target p s q) s:=by
 refine VR.kLst G λ_ _ _ H w z=>?_;rename_i l u n;have C:s.heap.IsList l u:=⟨_,w,rfl,_,rfl⟩
 refine ACi C ?_;have j:l≠s.heap.objs.size:=Ar w;have f:Same Z s {s with heap:=s.heap.push {cls:=.type "list_iterator",data:=.fields #[.ref l,.int 0 0]},toks:=s.toks}:=Same.push O;refine⟨_,_,_,Trn.ofWalks O (all:=q) (Walks.list (A:=A) E s.heap.objs.size l j u) (by rw[<-z.length];simp)
  (λi h st b c=>?_) (by simp) (λp h=>p l/\(∃o,h.get? l=dD o/\AB o=fG)/\VRs Z.prog Z.w p h u.toList q) (λp h I b c=>?_) (λb c=>?_) (λi h st b c o e=>?_)
  (λp ok' h h' r k g=>⟨(A2 r.2.1 λo e _=>g l o e r.1),(A2 r.2.1 λo e t=>⟨o,k l o r.1 e t,t⟩),(r.2.2.mono (h':=h) (ok':=λb=>p b/\ok' b) (λ_ _ _ e _=>e) λb o a e=>⟨a,g b o e a⟩).mono (λb o a=>k b o a.1) λ_ _ a _=>a.2⟩) (λp i v x h r J L=>?_),?_,f,?_,λi M=>M.elim⟩
 ·refine NE c ?_;refine AW st.1 λo d m _=>?_;exact⟨o,_,d,m,by decide,by decide,.inl rfl⟩
 ·exact NP c (.inl (qw.mpr rfl)) (.inr I.1)
 ·exact NE c (D.fresh (A6 _))
 ·revert e
  refine NP c (λe=>?_) λe=>?_
  ·refine AW st.1 λN d m _=>?_;rw[e]at d;(replace d:=dE d;rw[d]);exact A9 m
  ·refine AW st.2 λN d m _=>?_
   (replace d:=(dE (e.symm.trans d)).symm;rw[<-d])
   exact A9 m
 ·refine A2 (r.2.2.get' (show u.toList[i]?=dD v by refine J▸?_;simp)) λy B Q=>?_
  (replace B:=dE (L.symm.trans B);refine B▸?_)
  exact Q
 ·refine⟨⟨⟨H,by simpa using j⟩,⟨_,lh _ w,rfl⟩,?_⟩,0,by simp[<-z.length],rfl,⟨_,mA _ rfl,rfl,rfl⟩,C.push _⟩;exact z.mono (λb o _ e _=>lh _ e) λb o k e=>⟨k,by simpa using Ar e⟩
 ·intro b c;have c:b=s.heap.objs.size:=by simpa using c
  subst c;exact⟨A6 _,_,mA _ rfl,rfl⟩
include O in
theorem R7{q:List V}(D:Inv Z s)(E:A.handled=eu)(G:VR Z.prog Z.w p s.heap v (.t q)):WP Z A (wK v) (Its Z A target p s q) s:=by
 refine VR.kTup G λ_ _ _ H w z=>?_;rename_i l u n;have C:s.heap.IsTuple l u:=⟨_,w,rfl,_,rfl⟩
 refine uA C ?_;have j:l≠s.heap.objs.size:=Ar w;have f:Same Z s {s with heap:=s.heap.push {cls:=.type "tuple_iterator",data:=.fields #[.ref l,.int 0 0]},toks:=s.toks}:=Same.push O;refine⟨_,_,_,Trn.ofWalks O (all:=q) (AAG (A:=A) E s.heap.objs.size l j u) (by rw[<-z.length];simp)
  (λi h st b c=>?_) (by simp) (λp h=>p l/\(∃o,h.get? l=dD o/\AB o=fG)/\VRs Z.prog Z.w p h u.toList q) (λp h I b c=>?_) (λb c=>?_) (λi h st b c o e=>?_)
  (λp ok' h h' r k g=>⟨(A2 r.2.1 λo e _=>g l o e r.1),(A2 r.2.1 λo e t=>⟨o,k l o r.1 e t,t⟩),(r.2.2.mono (h':=h) (ok':=λb=>p b/\ok' b) (λ_ _ _ e _=>e) λb o a e=>⟨a,g b o e a⟩).mono (λb o a=>k b o a.1) λ_ _ a _=>a.2⟩) (λp i v x h r J L=>?_),?_,f,?_,λi M=>M.elim⟩
 ·refine NE c ?_;refine AW st.1 λo d m _=>?_;exact⟨o,_,d,m,by decide,by decide,.inr (.inl rfl)⟩
 ·exact NP c (.inl (qw.mpr rfl)) (.inr I.1)
 ·exact NE c (D.fresh (A6 _))
 ·revert e
  refine NP c (λe=>?_) λe=>?_
  ·refine AW st.1 λN d m _=>?_;rw[e]at d;(replace d:=dE d;rw[d]);exact A9 m
  ·refine AW st.2 λN d m _=>?_
   (replace d:=(dE (e.symm.trans d)).symm;rw[<-d])
   exact A9 m
 ·refine A2 (r.2.2.get' (show u.toList[i]?=dD v by refine J▸?_;simp)) λy B Q=>?_
  (replace B:=dE (L.symm.trans B);refine B▸?_)
  exact Q
 ·refine⟨⟨⟨H,by simpa using j⟩,⟨_,lh _ w,rfl⟩,?_⟩,0,by simp[<-z.length],rfl,⟨_,mA _ rfl,rfl,rfl⟩,C.push _⟩;exact z.mono (λb o _ e _=>lh _ e) λb o k e=>⟨k,by simpa using Ar e⟩
 ·intro b c;have c:b=s.heap.objs.size:=by simpa using c
  subst c;exact⟨A6 _,_,mA _ rfl,rfl⟩
include O in
theorem Va{ks:List (List Nat)}{G:List V}(H:Inv Z s)(I:A.handled=eu)(J:VR Z.prog Z.w p s.heap v (.d ks G)):WP Z A (wK v) (Its Z A target p s (ks.map .str)) s:=by
 refine VR.kDct J λ_ _ _ L M B N C r1=>?_;rename_i l od c;refine T5 N λD z f=>?_;have E:s.heap.DictAt (qW Z.prog Z.w) l c z:=⟨_,D,B,f⟩
 refine wpAny_pyIter_dict M E ?_;have u:l≠s.heap.objs.size:=Ar B;have n:Same Z s {s with heap:=s.heap.push {cls:=.type "dict_keyiterator",data:=.fields #[.ref l,.int 0 0,.int c.length 0,.int z 0]},toks:=s.toks}:=Same.push O;have j:c.length=ks.length:=by have:=congrArg ug C;simpa using this
 refine⟨_,_,_,Trn.ofWalks O (all:=ks.map .str) (Walks.dictKeys (A:=A) (knd:=qW Z.prog Z.w) I s.heap.objs.size l u c z) (by rw[px];exact j)
  (λi h st b d=>?_) (by simp) (λp h=>p l/\(∃o,h.get? l=dD o/\AB o=fG)) (λp h Q b d=>?_) (λb d=>?_) (λi h st b d o e=>?_)
  (λp U h h' r k g=>⟨(A2 r.2 λo e _=>g l o e r.1),(A2 r.2 λo e t=>⟨o,k l o r.1 e t,t⟩)⟩) (λp i v x h r Y f=>?_),?_,n,?_,λi hf=>hf.elim⟩
 ·refine NE d ?_;refine AW st.1 λo a w _=>?_;exact⟨o,_,a,w,by decide,by decide,.inr (.inr (.inr (.inl rfl)))⟩
 ·exact NP d (.inl (qw.mpr rfl)) (.inr Q.1)
 ·exact NE d (H.fresh (A6 _))
 ·revert e
  refine NP d (λe=>?_) λe=>?_
  ·refine AW st.1 λo' a w _=>?_;rw[e]at a;(replace a:=dE a;(replace a:=a.symm;rw[<-a]));exact A9 w
  ·refine BJ st.2 λo' a0 a w _=>?_;rw[e]at a;(replace a:=dE a;rw[a]);exact A9 w.1
 ·refine AE Y λk y h1 h2=>?_
  (obtain⟨t,qz⟩:=AAd h2<;>try refine qz▸?_)
  have m:(c.map (·.1))[i]?=dD k:=by rw[uF,h1];rfl
  replace m:=uF▸C▸m;rw[uF]at f;cases q:ks[i]? with
  |none=>rw[q]at m;exact nS m
  |some kk=>
   rw[q]at m f
   (replace m:=dE m;refine m▸?_);(replace f:=dE f;subst f)
   exact .str _ _
 ·exact⟨⟨⟨L,by simpa using u⟩,_,lh _ B,Ci ⟨D,z,f⟩⟩,0,by simp[j],rfl,⟨_,mA _ rfl,rfl,rfl⟩,E.push _⟩
 ·intro b d;have d:b=s.heap.objs.size:=by simpa using d
  subst d;exact⟨A6 _,_,mA _ rfl,rfl⟩
noncomputable def Hu(a c:Int):Nat->List V
 |0=>[]
 |n+1=>.int a::Hu (a+c) c n
theorem Vh{a c:Int}:Hu a c 0=[]:=rfl
theorem Oi{a c:Int}{n:Nat}:Hu a c n.succ=V.int a::Hu (a+c) c n:=rfl
theorem N5(c:Int):∀(n:Nat) (a:Int) (i:Nat),i<n->(Hu a c n)[i]?=dD (.int (a+i*c))
 |0,_,_,h=>absurd h (zC _)
 |n+1,a,0,_=>by simp[Vh,Oi]
 |n+1,a,i+1,h=>by
  have:=N5 c n (a+c) i (by lia);simp only[Oi,vU,this];have e:(((i+1:Nat):Int))*c=i*c+c:=by push_cast;simp only[y8,tj]
  rw[e];congr 2
  lia
theorem GW(c:Int):∀(n:Nat) (a:Int),(Hu a c n).length=n
 |0,_=>rfl
 |n+1,a=>by simp[Vh,Oi,GW c n]
noncomputable def Io(v:V):Option Int:=match v with
 |.int i=>dD i
 |_=>eu
theorem Cu{v:V}{i:Int}(h:Io v=dD i):v=.int i:=by
 induction v using V.casesOn with
 |int j=>exact dE h▸rfl
 |_=>exact nS h
theorem EY{b c:Type}{o:Option b}{f:b->Option c}{z:c}{C:Prop}(h:o.bind f=dD z)(k:∀a,o=dD a->f a=dD z->C):C:=by
 induction o using m8 with
 |none=>exact nS h
 |some a=>exact k a rfl h
noncomputable def L3(v:V):Option (List Nat):=match v with
 |.str t=>dD t
 |_=>eu
theorem FE{v:V}{t:List Nat}(h:L3 v=dD t):v=.str t:=by
 induction v using V.casesOn with
 |str j=>exact dE h▸rfl
 |_=>exact nS h
noncomputable def O2(v:V):Option Nat:=(Io v).bind λi=>match i with
 |.ofNat n=>dD n
 |.negSucc _=>eu
theorem FG{v:V}{n:Nat}(h:O2 v=dD n):v=.int (.ofNat n):=EY h λi e q=>by
 refine(Cu e)▸?_;induction i using wO with
 |ofNat m=>exact dE q▸rfl
 |negSucc m=>exact nS q
noncomputable def oT{b:Type}(o:Option b)(f:b->Bool):Bool:=match o with
 |some a=>f a
 |none=>fG
theorem E1{b:Type}{o:Option b}{f:b->Bool}{C:Prop}(h:oT o f=er)(k:∀a,o=dD a->f a=er->C):C:=by
 induction o using m8 with
 |none=>exact fT h
 |some a=>exact k a rfl h
noncomputable def LG(v:V):Option (List V):=match v with
 |.l t=>dD t
 |_=>eu
theorem F9{v:V}{t:List V}(h:LG v=dD t):v=.l t:=by
 induction v using V.casesOn with
 |l j=>exact dE h▸rfl
 |_=>exact nS h
noncomputable def Xp(v:V):Option (List (List Nat)×List V):=match v with
 |.d k x=>dD (k,x)
 |_=>eu
theorem LQ{v:V}{t:List (List Nat)×List V}(h:Xp v=dD t):v=.d t.1 t.2:=by
 induction v using V.casesOn with
 |d k x=>exact dE h▸rfl
 |_=>exact nS h
theorem bO{b c:Type}{o:Option c}{f:c->Option b}{g:b->c}(d:∀{v t},f v=dD t->v=g t){a:b}(h:o.bind f=dD a):o=dD (g a):=EY h λz e q=>e.trans (congrArg dD (d q))
noncomputable def QK{c:Type}(d:List V)(f:V->V->Option c):Option c:=match d with
 |[]=>eu
 |b::r=>match r with
  |[]=>eu
  |a::r=>match r with
   |[]=>f b a
   |_::_=>eu
theorem Np{d:Type}{c:List V}{f:V->V->Option d}{r:d}{P:List V->Prop}(h:QK c f=dD r)(k:∀b a,f b a=dD r->P [b,a]):P c:=by
 induction c using lz with
 |nil=>exact nS h
 |cons b c=>induction c using lz with
  |nil=>exact nS h
  |cons a c=>induction c using lz with
   |nil=>exact k _ _ h
   |cons _ _=>exact nS h
theorem Ui{d:Type}{c:List V}{f:V->V->Option d}{r:d}{C:Prop}(h:QK c f=dD r)(k:∀b a,c=[b,a]->f b a=dD r->C):C:=Np (P:=λx=>c=x->C) h (λb a h e=>k b a e h) rfl
noncomputable def Ez(d:List V):Option (Int×Int×Int):=match d with
 |[]=>eu
 |x::r=>(Io x).bind λa=>match r with
  |[]=>dD (0,a,1)
  |y::r=>(Io y).bind λb=>match r with
   |[]=>dD (a,b,1)
   |z::r=>(Io z).bind λc=>match r with
    |[]=>if c != 0 then dD (a,b,c)else eu
    |_::_=>eu
theorem Q7{d:List V}{z:Int×Int×Int}{P:List V->Int×Int×Int->Prop}(h:Ez d=dD z)(f:∀a,P [.int a] (0,a,1))(g:∀a b,P [.int a,.int b] (a,b,1))(i:∀a b c,(c != 0)=er->P [.int a,.int b,.int c] (a,b,c)):P d z:=by
 induction d using lz with
 |nil=>exact nS h
 |cons x r=>
  refine EY h λa e h=>?_;rw[Cu e];induction r using lz with
  |nil=>exact dE h▸f a
  |cons y r=>
   refine EY h λb e h=>?_;refine(Cu e)▸?_;induction r using lz with
   |nil=>exact dE h▸g a b
   |cons w r=>
    refine EY h λc e h=>?_;refine(Cu e)▸?_;induction r using lz with
    |nil=>
     by_cases q:(c != 0)=er
     ·exact dE ((if_pos q).symm.trans h)▸i a b c q
     ·exact nS ((if_neg q).symm.trans h)
    |cons _ _=>exact nS h
noncomputable def Nr(i:Int):Bool:=pq i.natAbs 1000000
theorem Fw{i:Int}(h:Nr i=er):i.natAbs<1000000:=nY h
noncomputable def JW(d:List V):Option (List V):=match Ez d with
 |some (a,b,c)=>if Nr a&&Nr b&&Nr c then dD (Hu a c (qC a b c).toNat)else eu
 |none=>eu
theorem WJ{x c:Int}(a:0<=x)(g:x<1999999)(f:0<=c):0<=x/c+1/\x/c+1<=2000000:=by
 have b:=Int.ediv_nonneg a f;have e:=Int.ediv_le_self c a
 revert b e
 generalize x/c=d;intro b e
 lia
theorem IH{a:Int}(h:a.natAbs<1000000): -1000000<a/\a<1000000:=
 ⟨AAk (vP zo (sG.mpr ((x0 a).symm▸h))),vP zo (sG.mpr h)⟩
theorem ED{a b c:Int}(d:a.natAbs<1000000)(e:b.natAbs<1000000):0<=qC a b c/\qC a b c<=2000000:=by
 have⟨g,h⟩:=IH d;have⟨i,j⟩:=IH e;clear d e;unfold qC;split
 ·rename_i f;split
  ·exact WJ (by lia) (by lia) (by lia)
  ·exact⟨by decide,by decide⟩
 ·rename_i f;split
  ·exact WJ (by lia) (by lia) (by lia)
  ·exact⟨by decide,by decide⟩
include O in
theorem OM{g:List V}{i:List gx}{a b c:Int}(h:Ez g=dD (a,b,c))(e:Nr c=er)(d:VRs Z.prog Z.w p s.heap i g):
  WP Z A (t9 (.type "range") i) (λv f=>∃r t u w,v=.ref r/\ABW f.heap r a b c t u w/\Same Z s f/\s.heap.get? r=eu) s:=by
 have e:=Fw e;refine Q7 (P:=λg z=>z.2.2.natAbs<1000000->VRs Z.prog Z.w p s.heap i g->WP Z A (t9 (.type "range") i) (λv f=>∃r t u w,v=.ref r/\ABW f.heap r z.1 z.2.1 z.2.2 t u w/\Same Z s f/\s.heap.get? r=eu) s) h (λa e d=>?_) (λa b e d=>?_) (λa b c k e d=>?_) e d
 ·refine VRs.kCons d λy y d r=>VRs.kNil r (VR.kInt d λy=>?_);exact call_range_1 ⟨_,_,_,_,rfl,mA _ rfl,Same.push O,A6 _⟩
 ·refine VRs.kCons d λy y d r=>VRs.kCons r λy y j r=>VRs.kNil r (VR.kInt d λy=>VR.kInt j λy=>?_);exact call_range_2 ⟨_,_,_,_,rfl,mA _ rfl,Same.push O,A6 _⟩
 ·refine VRs.kCons d λy y d r=>VRs.kCons r λy y j r=>VRs.kCons r λy y l r=>VRs.kNil r (VR.kInt d λy=>VR.kInt j λy=>VR.kInt l λy=>?_);exact call_range_3 (by simpa using k) ⟨_,_,_,_,rfl,mA _ rfl,Same.push O,A6 _⟩ (Or.inl (PyProof.noPylong_small (by lia)))
theorem Qh{x:Int}(a: -3000000<x)(b:x<3000000):x8 x=er:=
 nM.mpr ⟨decide_eq_true (wg (by decide) (yS a)),decide_eq_true (uk b (by decide))⟩
theorem RG{x:Int}(h:x.natAbs<1000000):x8 x=er:=Qh (uk (by decide) (IH h).1) (uk (IH h).2 (by decide))
theorem Hh{a b c:Int}(i:a.natAbs<1000000)(g:b.natAbs<1000000)(j:c.natAbs<1000000):ACy a b c=er:=by
 have f:=ED (c:=c) i g;have d:=IH g;have e:=IH j;refine nM.mpr ⟨nM.mpr ⟨nM.mpr ⟨nM.mpr ⟨RG i,RG g⟩,RG j⟩,Qh (Int.lt_of_lt_of_le (by decide) f.1) (vP f.2 (by decide))⟩,(vJ _ _).mpr (.inr ?_)⟩;by_cases h:c>0
 ·rw[if_pos h];exact Qh (uk (by decide) (x3 d.1 (AAv e.1 1))) (uk (x3 d.2 (AAv e.2 1)) (by decide))
 ·rw[if_neg h];exact Qh (uk (by decide) (x3 d.1 (AAw e.1 1))) (uk (x3 d.2 (AAw e.2 1)) (by decide))
include O in
theorem RI{a b c:Int}{r:ls}{t u q:yE}(w:Inv Z s)(y:A.handled=eu)(k:Nr a=er)(d:Nr b=er)(l:Nr c=er)(n:ABW s.heap r a b c t u q):
  WP Z A (wK (.ref r)) (Its Z A target p s (Hu a c (qC a b c).toNat)) s:=by
 have k:=Fw k;have d:=Fw d;have l:=Fw l;have z:=ED (c:=c) k d;refine wpAny_pyIter_range n ?_ ?_
 ·exact Hh k d l
 ·have g:Same Z s {s with heap:=s.heap.push {cls:=.type "range_iterator",data:=.fields #[uC a,uC (qC a b c),uC c]},toks:=s.toks}:=Same.push O;refine⟨_,_,_,Trn.ofWalks O (all:=Hu a c (qC a b c).toNat) (Walks.range (A:=A) y s.heap.objs.size a c (qC a b c).toNat) (by simp only[GW])
   (λi h st b d=>?_) (by simp) (λp h=>True) (λp h n b d=>.inl d) (λb d=>?_) (λi h st b d o e=>?_)
   (λY Y Y Y Y Y Y=>trivial) (λp i v x h r B j=>?_),?_,g,?_,λi C=>C.elim⟩
  ·have d:b=s.heap.objs.size:=by simpa using d
   refine d▸?_;exact⟨_,_,st,rfl,by decide,by decide,.inr (.inr (.inl rfl))⟩
  ·have d:b=s.heap.objs.size:=by simpa using d
   subst d;exact w.fresh (A6 _)
  ·have d:b=s.heap.objs.size:=by simpa using d
   subst d;have f:h.get? _=dD _:=st;rw[e]at f;(replace f:=dE f;subst f);rfl
  ·obtain⟨t,rfl⟩:=B;have m:i<(qC a b c).toNat:=by
    have:=(qR.mp j).1;rwa [GW]at this
   rw[N5 c _ a i m]at j
   (replace j:=dE j;subst j)
   exact .int _ _
  ·refine⟨trivial,0,by simp[GW],rfl,?_⟩;have D:a+((0:Nat):Int)*c=a:=by simp
   have E:(((qC a b c).toNat:Nat):Int)-((0:Nat):Int)=qC a b c:=by lia
   simp only[D,E];exact mA _ rfl
  ·intro b d;have d:b=s.heap.objs.size:=by simpa using d
   subst d;exact⟨A6 _,_,mA _ rfl,rfl⟩
include O in
theorem OT{a b c:Int}{r:ls}{t u q:yE}(i:∀a,s.heap.get? a=eu->p a)(x:A.handled=eu)(f:Nr a=er)(g:Nr b=er)(k:Nr c=er)(y:ABW s.heap r a b c t u q):
  WP Z A (t9 (.type "list") [.ref r]) (Gv Z p s (.l (Hu a c (qC a b c).toNat))) s:=by
 have f:=Fw f;have g:=Fw g;have k:=Fw k;have z:=ED (c:=c) f g;have l:qC a b c=((qC a b c).toNat:Int):=by lia
 refine call_list_range x y ?_ l (by lia) λB Q m U C D E=>?_
 ·exact Hh f g k
 ·refine⟨.l (Cg i) D ?_,Same.of_keep O C⟩;obtain⟨G,H⟩:=E;have:∀(n:Nat) (a:Int) (d:List gx),d.length=n->(∀(j:Nat) (v:gx),d[j]?=dD v->∃t,v=.int (a+j*c) t)->VRs Z.prog Z.w p B d (Hu a c n):=by
   intro n;induction n with
   |zero=>intro a d e _;have:d=[]:=tP e;exact this▸.nil
   |succ n I=>
    intro a d e h
    match d,e,h with
    |[],e,_=>simp at e
    |v::d,e,h=>
     obtain⟨t,w⟩:=h 0 v rfl;have J:a+((0:Nat):Int)*c=a:=by simp
     rw[J]at w;refine w▸?_;refine .cons (.int _ _) (I (a+c) d (by simpa using e) λj v o=>?_);obtain⟨L,M⟩:=h (j+1) v o;refine⟨L,?_⟩;refine M▸?_;have N:(((j+1:Nat):Int))*c=j*c+c:=by push_cast;simp only[y8,tj]
     rw[N];congr 1
     lia
  exact this _ a m.toList (by exact G) λj v o=>H j v (by refine ts▸?_;exact o)
end
section
variable{prog:qK}{w:sO}{A:mx}{E:gx->lb->Prop}{s:lb}
theorem Gk{f l:ls}{i:Nat}{b:Array gx}{x:gx}{Q:gx->lb->Prop}(e:s.heap.IsTupleIter f l i)
  (p:s.heap.IsTuple l b) (q:b[i]?=dD x) (r:∀k,k.IsTupleIter f l (i+1)->uG f s.heap k->Q x {s with heap:=k}):
  qH (qQ prog w) A (qT (.ref f)) Q E s:=by
 refine AW (id e) λo j u hd=>?_
 (refine AW p λv m z g=>?_;obtain⟨y,n⟩:=g)
 unfold qT;refine fX (sS (name:=sj "__next__") e.typeIs vA
  (tz vA e.typeIs zi ?_ (zV _)))
 show qH _ _ (yd (.ref f) 0 >>= _) _ _ s;refine fX (ut j hd (x:=.ref l) rfl ?_);rw[if_neg (show¬((ADX l==wA)=er)from sR)];show qH _ _ (yd (.ref f) 1 >>= _) _ _ s;refine fX (ut j hd (x:=.int i 0) rfl ?_);refine fX (AAI m n ?_);simp only[p7,q];refine fX (yH j hd (by simp) (mM ⟨x,rfl,mM (r _ ?_ (tO ..))⟩));exact⟨_,uu _ j (xn (wq hd _)),(yW ..).trans u,by
  rw[wq hd];simp[uC]⟩
theorem HD{g l:ls}{i:Nat}{b:Array gx}{Q:gx->lb->Prop}(q:A.handled=eu)
  (f:s.heap.IsTupleIter g l i) (r:s.heap.IsTuple l b) (u:b[i]?=eu)
  (v:∀k e,sm g s.heap k->(∃o,k.get? e=dD o/\o.cls=.type "StopIteration")->E (.ref e) {s with heap:=k}):
  qH (qQ prog w) A (qT (.ref g)) Q E s:=by
 refine AW (id f) λo m y hd=>?_
 (refine AW r λz n t j=>?_;obtain⟨B,p⟩:=j)
 unfold qT;refine fX (sS (name:=sj "__next__") f.typeIs vA
  (tz vA f.typeIs zi ?_ (zV _)))
 show qH _ _ (yd (.ref g) 0 >>= _) _ _ s;refine fX (ut m hd (x:=.ref l) rfl ?_);rw[if_neg (show¬((ADX l==wA)=er)from sR)];show qH _ _ (yd (.ref g) 1 >>= _) _ _ s;refine fX (ut m hd (x:=.int i 0) rfl ?_);refine fX (AAI n p ?_);simp only[p7,u];refine fX (x4 (fX (yH m hd (by simp) ?_)));refine fX ?_;simp only[AAJ,AAK];refine fX (sP ?_ (by size_fits));refine fX (m:=ul _ _) (yI (a:=wA) (by first|rfl|(simp only[ul];rfl)) ?_);refine sP ?_ (by size_fits);rw[ABz];refine fX (ye ?_)
 first|rw[show A.in1.handled=eu from q]|rw[q]
 refine fX (mM (zj ?_));exact v _ _ (((tO ..).extBut.push _).push _) ⟨_,mA _ rfl,rfl⟩
end
theorem sA{prog:qK}{w:sO}{A:mx}(n:A.handled=eu)(g l:ls)(j:l≠g)(f:Array gx):
  Draws prog w A g [g,l] f.size (λi v=>f[i]?=dD v) (λi h=>h.IsTupleIter g l i/\h.IsTuple l f) where
 live:=λz z st=>st.1.elim λo q=>⟨o,q.1⟩
 frame:=λz z z st k=>⟨st.1.at λo e=>k g pg o e,st.2.at λo e=>k l (oP _ pg) o e⟩
 item:=λi s z z m st p=>Gk st.1 st.2 (ty m) λr a b=>p _ r s.toks (ty m) ⟨a,st.2.extBut b.extBut j⟩ b
 done:=λz z z st u=>HD n st.1 st.2 (zq (qF _)) u
structure Inn(prog:qK)(w:sO)(A:mx)(it l:ls)(items:Array gx)(J:Nat->qX->Prop):Prop where
 D:Draws prog w A it [it,l] items.size (λi v=>items[i]?=dD v) J
 stop:∀i (s:lb) (Q:gx->lb->Prop) (E:gx->lb->Prop),J i s.heap->items[i]?=eu->
  (∀h' e,sm it s.heap h'->(∃o,h'.get? e=dD o/\o.cls=.type "StopIteration")->E (.ref e) {s with heap:=h'})->qH (qQ prog w) A (qT (.ref it)) Q E s
 cls:∀i h,J i h->(∃o T,h.get? it=dD o/\o.cls=.type T/\T≠"code")/\∃o T,h.get? l=dD o/\o.cls=.type T
theorem Inn.list{prog:qK}{w:sO}{A:mx}(k:A.handled=eu)(e l:ls)(f:l≠e)(b:Array gx):Inn prog w A e l b (λi h=>h.IsListIter e l i/\h.IsList l b):=
 ⟨Draws.list k e l f b,λz z z z st m n=>wpAny_nextOf_list_end k st.1 st.2 m n,λz z st=>⟨AW st.1 λo g j z=>⟨o,_,g,j,by decide⟩,AW st.2 λo g j z=>⟨o,_,g,j⟩⟩⟩
theorem Inn.tuple{prog:qK}{w:sO}{A:mx}(k:A.handled=eu)(e l:ls)(f:l≠e)(b:Array gx):Inn prog w A e l b (λi h=>h.IsTupleIter e l i/\h.IsTuple l b):=
 ⟨sA k e l f b,λz z z z st m n=>HD k st.1 st.2 m n,λz z st=>⟨AW st.1 λo g j z=>⟨o,_,g,j,by decide⟩,AW st.2 λo g j z=>⟨o,_,g,j⟩⟩⟩
theorem Inn.ext{prog:qK}{w:sO}{A:mx}{f l:ls}{e:Array gx}{J:Nat->qX->Prop}(N:Inn prog w A f l e J){b:ls}{i:Nat}{h g:qX}(j:J i h)(k:sm b h g)(m:f≠b)(n:l≠b):J i g:=
 N.D.frame _ _ _ j λc p o=>k c o (NP p m n)
noncomputable def sw(s:lb)(h:qX)(t:Nat):lb:={s with heap:=h,toks:=t}
section
variable{d:Type}{prog:qK}{w:sO}{A:mx}{E:gx->lb->Prop}{s:lb}{h:qX}{t:Nat}{a:ls}{c:gx}{vs:Array gx}{i:Nat}{x:gx}
theorem fB{f:gx->xL d}{Q:d->lb->Prop}(b:h.get? a=dD {cls:=c,dict:=eu,data:=.fields vs,slots:= #[]})(e:vs[i]?=dD x)(k:qH (qQ prog w) A (f x) Q E (sw s h t)):qH (qQ prog w) A (yd (.ref a) i >>= f) Q E (sw s h t):=
 fX (ut b rfl e k)
theorem sE{Q:Unit->lb->Prop}(e:h.get? a=dD {cls:=c,dict:=eu,data:=.fields vs,slots:= #[]})(f:pq i vs.size=er)(k:∀b,b.get? a=dD {cls:=c,dict:=eu,data:=.fields (vs.setIfInBounds i x),slots:= #[]}->uG a h b->Q () (sw s b t)):qH (qQ prog w) A (setField (.ref a) i x) Q E (sw s h t):=
 wpAny_setField_rec e (nY f) k
theorem sB{f:Unit->xL d}{Q:d->lb->Prop}(e:h.get? a=dD {cls:=c,dict:=eu,data:=.fields vs,slots:= #[]})(g:pq i vs.size=er)(k:∀b,b.get? a=dD {cls:=c,dict:=eu,data:=.fields (vs.setIfInBounds i x),slots:= #[]}->uG a h b->qH (qQ prog w) A (f ()) Q E (sw s b t)):qH (qQ prog w) A (setField (.ref a) i x >>= f) Q E (sw s h t):=
 fX (sE e g k)
theorem qB{T:ls}{u v:gx}{f:Option (Array gx)->xL d}{Q:d->lb->Prop}(b:ue h T u v)(k:qH (qQ prog w) A (f (dD #[u,v])) Q E (sw s h t)):qH (qQ prog w) A (seqItems? (.ref T) >>= f) Q E (sw s h t):=
 fX (AAI b rfl k)
theorem uB{T:ls}{u v:gx}{f:Unit->xL d}{Q:d->lb->Prop}(e:ue h T u v)(k:∀b,b.get? T=dD {cls:=.type "tuple",data:=.seq ((#[u,v]:Array gx).setIfInBounds i x)}->uG T h b->qH (qQ prog w) A (f ()) Q E (sw s b t)):qH (qQ prog w) A (updateSeq T (·.setIfInBounds i x) >>= f) Q E (sw s h t):=
 fX (wpAny_updateSeq_pair e k)
theorem sM{u v:gx}{f:gx->xL d}{Q:d->lb->Prop}(k:∀e,ue e h.objs.size u v->(∀b o,h.get? b=dD o->e.get? b=dD o)->qH (qQ prog w) A (f (.ref h.objs.size)) Q E (sw s e t)):qH (qQ prog w) A (AAK [u,v] >>= f) Q E (sw s h t):=
 fX (wpAny_newTuple (k _ (mA _ rfl) λz z q=>lh _ q))
theorem sL{g l:ls}{b:Array gx}{J:Nat->qX->Prop}(N:Inn prog w A g l b J){Q:gx->lb->Prop}(j:J i h)(n:b[i]?=dD x)(k:∀f m,J (i+1) f->uG g h f->Q x (sw s f m)):qH (qQ prog w) A (qT (.ref g)) Q E (sw s h t):=
 N.D.item _ _ _ _ (rm.mp n).1 j λv f m q o e=>dE (n.symm.trans q)▸k f m o e
theorem rB{b:String}{f:Unit->xL d}{Q:d->lb->Prop}(k:qH (qQ prog w) A (f ()) Q E (sw s h t)):qH (qQ prog w) A (rule b >>= f) Q E (sw s h t):=fX (x4 k)
end
noncomputable def Fl:Nat->List V->List V
 |_,[]=>[]
 |i,x::r=>.t [.int i,x]::Fl (i+1) r
theorem ee{x:Nat}{a:V}{r:List V}:Fl x (a::r)=V.t [V.int ↑x,a]::Fl (x+1) r:=rfl
noncomputable def FV:List V->List V->List V
 |x::r,y::t=>.t [x,y]::FV r t
 |_,_=>[]
theorem OE{b:List V}:FV [] b=[]:=rfl
theorem Nt{x:V}{a:List V}:FV (x::a) []=[]:=rfl
theorem OD{x y:V}{a b:List V}:FV (x::a) (y::b)=.t [x,y]::FV a b:=rfl
theorem Ex{b:Type}{a:List b}{i:Nat}{x:b}(h:a[i]?=dD x):a.drop i=x::a.drop (i+1):=by obtain⟨c,d⟩:=qR.mp h;rw[<-d];exact w3 c
theorem J2{x:V}{b a:List V}{i:Nat}(h:x::b=Fl i (a.drop i)):∃y,a[i]?=dD y/\x=.t [.int i,y]/\b=Fl (i+1) (a.drop (i+1)):=by
 cases hd:a[i]? with
 |none=>rw[vg (tI.mp hd)]at h;exact nomatch h
 |some y=>rw[Ex hd,ee]at h;exact⟨y,rfl,xk h⟩
theorem jj{a:List V}{i:Nat}(h:[]=Fl i (a.drop i)):a.length<=i:=by
 cases hd:a[i]? with
 |none=>exact tI.mp hd
 |some y=>rw[Ex hd]at h;exact nomatch h
section
variable{Z:Bs}(O:Z.Ok){A:mx}{ok:ls->Prop}{s:lb}{v:gx}
theorem VRs.goal{ok ok':ls->Prop}{h:qX}{c:List gx}{d:List V}(r:VRs Z.prog Z.w ok h c d)(g:∀b o,h.get? b=dD o->ok b->ok' b):VRs Z.prog Z.w ok' h c d:=
 (r.mono (h':=h) (ok':=λb=>ok b/\ok' b) (λz z z e z=>e) λb o a e=>⟨a,g b o e a⟩).mono (λz z z e z=>e) λz z a z=>a.2
theorem VR.goal{ok ok':ls->Prop}{h:qX}{c:gx}{d:V}(r:VR Z.prog Z.w ok h c d)(g:∀b o,h.get? b=dD o->ok b->ok' b):VR Z.prog Z.w ok' h c d:=
 (r.mono (h':=h) (ok':=λb=>ok b/\ok' b) (λz z z e z=>e) λb o a e=>⟨a,g b o e a⟩).mono (λz z z e z=>e) λz z a z=>a.2
theorem Df{h:qX}{e d:ls}{f:xE}(i:h.get? e=dD f)(j:f.cls=.type "enumerate")(c:∃g T,h.get? d=dD g/\g.cls=.type T/\T≠"code")(b:ls)(o:xE)(a:b=e\/b=d)(q:h.get? b=dD o):o.cls≠.none/\o.cls≠.type "code" :=
 a.elim (λa=>P4 i a q j (by decide)) λa=>Oe c a q
theorem Inn.keep{f l:ls}{a:Array gx}{d:Nat->qX->Prop}{i:Nat}{h e:qX}(N:Inn Z.prog Z.w A f l a d)(j:d i h)(g:∀b o,b=f->AB o=fG->h.get? b=dD o->e.get? b=dD o)(k:∀b o,b=l->AB o=fG->h.get? b=dD o->e.get? b=dD o):d i e:=
 N.D.frame _ _ _ j λb c o q=>(sI c).elim (λc=>BJ (N.cls _ _ j).1 λo1 t m n z=>g b o c (A9 (dE (m.symm.trans (c▸q))▸n)) q) λc=>AE (N.cls _ _ j).2 λo2 T2 p r=>k b o c (A9 (dE (p.symm.trans (c▸q))▸r)) q
include O in
theorem J1{k:List f0}{x1}{x:tE}{e g:ls}{M:List ls}{n:Nat}{P:Nat->gx->Prop}{St:Nat->qX->Prop}(D:Draws Z.prog Z.w A.in1 g M n P St)(N:∀i h,St i h->∃o T,h.get? g=dD o/\o.cls=.type T/\T≠"code"){i:Nat}{z:gx}{y:V}
  (B:AAL s.heap e g i z) (Q:St i s.heap) (C:i<n) (E:e≠g) (l:e∉M) (G:Z.B.heap.get? e=eu) (H:Z.B.heap.get? g=eu) (I:∀a,s.heap.get? a=eu->ok a) (j:∀b,b=e\/b=g->¬ok b)
  (hv:∀u J,P i u->(∀b o,ok b->s.heap.get? b=dD o->J.get? b=dD o)->VR Z.prog Z.w ok J u y):
  WP Z A (tb (.ref e)) (λr L=>∃v,r=dD v/\Ch Z (λb=>b=e\/b=g) (λX=>False) s L/\WP Z A (rA (.Tuple k x1 x) (.ref e) v) (λX d=>VR Z.prog Z.w ok d.heap v (.t [.int i,y])/\
   (∃u,AAL d.heap e g ((i+1:Nat):Int) u)/\St (i+1) d.heap/\(∀b o,ok b->s.heap.get? b=dD o->d.heap.get? b=dD o)/\Ch Z (λb=>b=e\/b=g) (λX=>False) L d) L) s:=by
 refine RO λQQ kQ=>?_;have U:=em (P:=λb=>Z.B.heap.get? b=eu) G H;refine wpAny_pyNext_enum_itemD D B Q C E l λu J tk hP m p ht X Y=>?_;refine kQ _ _ ⟨_,rfl,Ch.of_keep O U (Df B rfl (N _ _ Q)) λb o f q=>Y b o (λe=>f (.inl e)) (λe=>f (.inr e)) q,?_⟩;refine wpAny_letOwnedTupleGo_enum m λt w c=>?_;have ko:∀b o,ok b->s.heap.get? b=dD o->t.get? b=dD o:=λb o a q=>c.extBut b o (λe=>j b (.inl e) a) (Y b o (λe=>j b (.inl e) a) (λe=>j b (.inr e) a) q);exact⟨.t (vs:= #[.int i tk,u]) (n:=0) (I _ (A6 _)) (c.extBut _ _ (Ar B).symm ht) (.cons (.int _ _) (.cons (hv u t hP ko) .nil)),⟨u,w⟩,
  D.frame _ _ _ p λb hb o q=>c.extBut b o (λe=>l (e▸hb)) q,ko,Ch.of_keep O U (Df m rfl (N _ _ p)) λb o f q=>c.extBut b o (λe=>f (.inl e)) q⟩
structure EJ(Z:Bs)(e it l:ls)(items:Array gx)(Jn:Nat->qX->Prop)(all:List V)(ok:ls->Prop)(xs:List V)(s:lb)(i:Nat)(old:gx):Prop where
 r:VRs Z.prog Z.w ok s.heap items.toList all
 hl:ok l
 hi:i<=all.length
 h2:xs=Fl i (all.drop i)
 he:AAL s.heap e it i old
 hj:Jn i s.heap
include O in
theorem NH{z:List f0}{x1}{H:tE}{e B l:ls}{p:Array gx}{Jn:Nat->qX->Prop}(N:Inn Z.prog Z.w A.in1 B l p Jn)(I:List V)
  (C:e≠B) (J:l≠e) (D:Z.B.heap.get? e=eu) (E:Z.B.heap.get? B=eu):
  Trn Z A (.Tuple z x1 H) (.ref e) (λb=>b=e\/b=B) (λX=>False) (λok w s=>∃i n,EJ Z e B l p Jn I ok w s i n) where
 item:=λok x w s m X L M=>m.elim λi m=>m.elim λn G=>AW (J2 G.h2) λy hd Q U=>A2 (G.r.get hd) λu Y hv=>by
  rw[ts]at Y;exact A1 (J1 O N.D (λi h j=>(N.cls i h j).1) G.he G.hj (rm.mp Y).1 C (λq=>NP (P:=λb=>b≠e) q C.symm J rfl) D E L M λu' h' hP r=>dE (Y.symm.trans hP)▸hv.mono (λb o a q X=>r b o a q) λX X a X=>a)
   λX s' g=>AW g λv e c g=>⟨v,e,c,A1 g λX a0 g=>JG g λa b d k c=>b.elim λu b=>⟨Q▸a,⟨i+1,u,G.r.mono (λb o a q X=>k b o a q) λX X a X=>a,G.hl,(qR.mp hd).1,U,b,d⟩,c⟩⟩
 done:=λok s m X=>m.elim λi m=>m.elim λn G=>wpAny_pyNext_enum_endD N.D G.he ((show i=p.size from vM (mE G.hi (uJ G.r.length.symm)) (mE (uJ G.r.length) (jj G.h2)))▸G.hj) λh' r=>⟨rfl,Ch.of_keep O (em (P:=λb=>Z.B.heap.get? b=eu) D E) (Df G.he rfl (N.cls _ _ G.hj).1) λb o f q=>r b o (λe=>f (.inr e)) q⟩
 self:=λok w s m=>m.elim λi m=>m.elim λn G=>xU G.he ⟨rfl,rfl⟩
 keep:=λok w s s' m r X=>m.elim λi m=>m.elim λn G=>⟨i,n,G.r.mono (λb o a e t=>r b o (.inl a) e t) λX X a X=>a,G.hl,G.hi,G.h2,r _ _ (.inr (.inl rfl)) G.he rfl,
  N.keep G.hj (λb o q t e=>r b o (.inr (.inr q)) e t) λb o q t e=>r b o (.inl (q▸G.hl)) e t⟩
 goal:=λok a1 w s m g=>m.elim λi m=>m.elim λn G=>AE (N.cls _ _ G.hj).2 λo2 T2 U c2=>⟨i,n,G.r.goal g,g _ _ U G.hl,G.hi,G.h2,G.he,G.hj⟩
 live:=λok w s b m hb=>m.elim λi m=>m.elim λn G=>em (P:=λb=>∃o,s.heap.get? b=dD o) ⟨_,G.he⟩ (BJ (N.cls _ _ G.hj).1 λo1 T1 Q X X=>⟨_,Q⟩) b hb
theorem Ec(l:ls)(a:Array gx)(n:Nat):
  Meets (Builtin.«enumerate.__new__» ⟨[.type "enumerate",.ref l],[]⟩) (λz R s=>s.heap.get? l=dD {cls:=.type "tuple",dict:=eu,data:=.seq a n,slots:= #[]}/\
   R (.ok (.ret (.ref (s.heap.push {cls:=.type "tuple_iterator",data:=.fields #[.ref l,.int 0 0]}).objs.size)))
    {s with heap:=(s.heap.push {cls:=.type "tuple_iterator",data:=.fields #[.ref l,.int 0 0]}).push {cls:=.type "enumerate",data:=.fields #[.none,.bool fG,.ref s.heap.objs.size,uC 0,.none,.none]}}):=
 .of_wp λe w A R s h=>by
  obtain⟨j,g,d,k,os⟩:=s;obtain⟨c,h⟩:=h;have f:=sub_enumerate;have i:ACj (ACV ⟨j,g,d,k,os⟩) l a:=⟨_,c,rfl,n,rfl⟩
  wp_walk using wl c
  refine wpAny_stack_any λst=>mM ?_;generalize yC _ _ _ _=b;cases b
  ·wp_walk using wl c,uA i
   exact⟨_,rfl,h⟩
  ·wp_walk using wl c,uA i
   exact⟨_,rfl,h⟩
theorem El{c:qK}{w:sO}{E:gx->lb->Prop}{l:ls}{a:Array gx}{n:Nat}{Q:gx->lb->Prop}(i:s.heap.get? l=dD {cls:=.type "tuple",dict:=eu,data:=.seq a n,slots:= #[]})
  (h:∀d,AAL d (s.heap.objs.size+1) s.heap.objs.size 0 .none->d.IsTupleIter s.heap.objs.size l 0->d.objs.size=s.heap.objs.size+2->
   (∀b o,s.heap.get? b=dD o->d.get? b=dD o)->Q (.ref (s.heap.objs.size+1)) {s with heap:=d}):
  qH (qQ c w) A (t9 (.type "enumerate") [.ref l]) Q E s:=by
 refine callType_new F.called_enumerate (by decide) (F.typeCall_enumerate_1 _) (F.newCall_enumerate_1 _) (λe=>F.args_object_init_2 e _) F.entry_enumerate_new
  (Ec l a n) ⟨i,?_⟩
 have f:(s.heap.push {cls:=.type "tuple_iterator",data:=.fields #[.ref l,.int 0 0]}).objs.size=s.heap.objs.size+1:=rx ..;show _/\_;rw[f];have g:AAL ((s.heap.push {cls:=.type "tuple_iterator",data:=.fields #[.ref l,.int 0 0]}).push
   {cls:=.type "enumerate",data:=.fields #[.none,.bool fG,.ref s.heap.objs.size,uC 0,.none,.none]}) (s.heap.objs.size+1) s.heap.objs.size 0 .none:=by
  have:=mA (s.heap.push {cls:=.type "tuple_iterator",data:=.fields #[.ref l,.int 0 0]})
   (o:={cls:=.type "enumerate",data:=.fields #[.none,.bool fG,.ref s.heap.objs.size,uC 0,.none,.none]}) rfl
  rw[f]at this;exact this
 refine⟨⟨_,g,rfl⟩,h _ g ⟨_,lh _ (mA _ rfl),rfl,rfl⟩ (by rw[rx,f]) λb o x=>lh _ (lh _ x)⟩
theorem Cp(h:qX){a:ls}(b:h.objs.size<=a):h.get? a=eu:=by
 cases e:h.get? a with
 |none=>rfl
 |some o=>exact absurd (rR e) (ABX.mpr b)
def ItC(Z:Bs)(A:mx)(a:f0)(ok:ls->Prop)(s:lb)(e:List V)(b:gx)(c:lb):Prop:=
 Its Z A a ok s e b c/\WP Z A (wK b) (λv d=>v=b/\d=c) c
include O in
theorem Uv{i:List f0}{I}{t:tE}{x:V}{j:List V}(J:x=.l j\/x=.t j)(r:Inv Z s)(G:A.handled=eu)(L:∀a,s.heap.get? a=eu->ok a)(H:VR Z.prog Z.w ok s.heap v x):
  WP Z A (t9 (.type "enumerate") [v]) (ItC Z A (.Tuple i I t) ok s (Fl 0 j)) s:=by
 rcases J with rfl|rfl
 ·refine VR.kLst H λ_ _ _ u d w=>?_;rename_i l y n;refine call_enumerate_list ⟨_,d,rfl,_,rfl⟩ λM g m N h=>?_;have c:l<s.heap.objs.size:=rR d;have z:l≠s.heap.objs.size:=sU c;have B:l≠s.heap.objs.size+1:=sU (vj c);have C:s.heap.objs.size+1≠s.heap.objs.size:=AB0 _;have p:∀b o,s.heap.get? b=dD o->¬(b=s.heap.objs.size+1\/b=s.heap.objs.size):=λb o e q=>q.elim (sU (vj (rR e))) (sU (rR e));refine⟨⟨_,_,_,NH O (Inn.list (A:=A.in1) G s.heap.objs.size l z y) j C B (r.fresh (Cp _ (y9 _))) (r.fresh (Cp _ (qF _))),
   ⟨0,.none,?_,⟨u,p _ _ d⟩,qd _,rfl,g,m,⟨_,h _ _ d,rfl,_,rfl⟩⟩,Same.of_keep (tk:=s.toks) O h,?_,λ_ f=>f.elim⟩,xU g ⟨rfl,rfl⟩⟩
  ·exact w.mono (λb o _ e _=>h b o e) λb o k e=>⟨k,p b o e⟩
  ·rintro b (rfl|rfl)
   ·exact⟨Cp _ (y9 _),_,g,rfl⟩
   ·refine AW (id m) λo D E _=>?_;exact⟨A6 _,_,D,A9 E⟩
 ·refine VR.kTup H λ_ _ _ u d w=>?_;rename_i l y n;refine El d λM g m N h=>?_;have c:l<s.heap.objs.size:=rR d;have z:l≠s.heap.objs.size:=sU c;have B:l≠s.heap.objs.size+1:=sU (vj c);have C:s.heap.objs.size+1≠s.heap.objs.size:=AB0 _;have p:∀b o,s.heap.get? b=dD o->¬(b=s.heap.objs.size+1\/b=s.heap.objs.size):=λb o e q=>q.elim (sU (vj (rR e))) (sU (rR e));refine⟨⟨_,_,_,NH O (Inn.tuple (A:=A.in1) G s.heap.objs.size l z y) j C B (r.fresh (Cp _ (y9 _))) (r.fresh (Cp _ (qF _))),
   ⟨0,.none,?_,⟨u,p _ _ d⟩,qd _,rfl,g,m,⟨_,h _ _ d,rfl,_,rfl⟩⟩,Same.of_keep (tk:=s.toks) O h,?_,λ_ f=>f.elim⟩,xU g ⟨rfl,rfl⟩⟩
  ·exact w.mono (λb o _ e _=>h b o e) λb o k e=>⟨k,p b o e⟩
  ·rintro b (rfl|rfl)
   ·exact⟨Cp _ (y9 _),_,g,rfl⟩
   ·refine AW (id m) λo D E _=>?_;exact⟨A6 _,_,D,A9 E⟩
end
section
variable{prog:qK}{w:sO}{A:mx}{E:gx->lb->Prop}{s:lb}
variable{z TI j i1 i2 B p:ls}{xs k:Array gx}{m l:Nat->qX->Prop}
theorem s9{h a:qX}{b:gx}{e:ls}(d:∃o,h.get? e=dD o/\o.cls=.type "StopIteration")(f:x9 h z TI j b)(g:uG z h a):∃o,a.get? e=dD o/\o.cls=.type "StopIteration" :=
 A2 d λo q c=>⟨o,g.extBut _ _ (λx=>by rw[x,f]at q;exact absurd (AAe (show Value.type "zip" = .type "StopIteration" from(congrArg Obj.cls (dE q)).trans c)) (by decide)) q,c⟩
theorem oo(N1:Inn prog w A i1 B xs m)(N2:Inn prog w A i2 p k l){k1 k2:Nat}{a b:gx}{Q:gx->lb->Prop}(D:AB1 z TI j i1 i2 B p)
  (hz:x9 s.heap z TI j .none) (af:ue s.heap TI (.ref i1) (.ref i2)) (a9:ue s.heap j a b)
  (h1:m k1 s.heap) (h2:l k2 s.heap)
  (hQ:∀x y,xs[k1]?=dD x->k[k2]?=dD y->∀L t,x9 L z TI j (uC s.heap.objs.size)->ue L j x y->m (k1+1) L->l (k2+1) L->ue L s.heap.objs.size x y->
   (∀c o,c≠z->c≠j->c≠i1->c≠i2->s.heap.get? c=dD o->L.get? c=dD o)->Q (.ref s.heap.objs.size) (sw s L t))
  (hE:∀L t e,xs[k1]?=eu\/k[k2]?=eu->(∀c o,c≠z->c≠j->c≠i1->c≠i2->s.heap.get? c=dD o->L.get? c=dD o)->(∃o,L.get? e=dD o/\o.cls=.type "StopIteration")->E (.ref e) (sw s L t)):
  qH (qQ prog w) A (Builtin.«zip.__next__» ⟨[.ref z],[]⟩) (λfin s'=>∃v,fin=.done (.ret v)/\Q v s') E s:=by
 revert hz af a9 h1 h2 hQ hE
 generalize al:s.heap=h0;intro hz af a9 h1 h2 hQ hE;have es:s=sw s h0 s.toks:=by rw[<-al];rfl
 rw[es];generalize s.toks=t0;show qH _ _ (yd (.ref z) 2 >>= _) _ _ _;refine fB hz (x:=.bool fG) rfl (fB hz (x:=.ref TI) rfl (qB af (fX (fB hz (x:=.none) rfl (mM ?_)))));refine rB (fB hz (x:=.ref j) rfl (sB hz rfl λaj r g=>fX ?_));replace r:x9 aj z TI j .ellipsis:=r;simp only[List.zipIdx_cons,List.zipIdx_nil,AB2,zP];refine fX (fX (xd ?_));cases hx:xs[k1]? with
 |none=>refine fX (N1.stop _ _ _ _ (N1.ext h1 g.extBut D.i1z D.l1z) hx λM e d he=>?_);have N:x9 M z TI j .ellipsis:=d _ _ D.i1z.symm r;exact sE N rfl λu Z f=>hE u t0 e (.inl hx) (λc o J Z c3 Z x=>f.extBut _ _ J (d _ _ c3 (g.extBut _ _ J x))) (s9 he N f)
 |some x=>
  refine fX (sL N1 (N1.ext h1 g.extBut D.i1z D.l1z) hx λM t1 H d=>mM ?_);have C:ue M j a b:=d.extBut _ _ D.TOi1 (g.extBut _ _ D.TOz a9);refine qB C (uB C λu G f=>fX (zk (mM ?_)));replace G:ue u j x b:=G;have U:=N2.ext (N2.ext (N2.ext h2 g.extBut D.i2z D.l2z) d.extBut D.i12.symm D.l2i1) f.extBut D.TOi2.symm D.l2TO;have Y:x9 u z TI j .ellipsis:=f.extBut _ _ D.TOz.symm (d.extBut _ _ D.i1z.symm r);have aa:∀c o,c≠z->c≠j->c≠i1->h0.get? c=dD o->u.get? c=dD o:=λc o J c2 c3 e=>f.extBut _ _ c2 (d.extBut _ _ c3 (g.extBut _ _ J e));have ak:u.objs.size=h0.objs.size:=f.1.trans (d.1.trans g.1);replace H:=N1.ext H f.extBut D.TOi1.symm D.l1TO;clear C r g d f h1 h2 a9;refine fX (fX (xd ?_));cases hy:k[k2]? with
  |none=>refine fX (N2.stop _ _ _ _ U hy λa0 e h he=>?_);have a1:x9 a0 z TI j .ellipsis:=h _ _ D.i2z.symm Y;exact sE a1 rfl λn Z i=>hE n t1 e (.inr hy) (λc o J c2 c3 c4 x=>i.extBut _ _ J (h _ _ c4 (aa c o J c2 c3 x))) (s9 he a1 i)
  |some y=>
   refine fX (sL N2 U hy λa0 t2 ag h=>mM ?_);have I:ue a0 j x b:=h.extBut _ _ D.TOi2 G;refine qB I (uB I λn q i=>fX (zk (mM (mM ?_))));replace q:ue n j x y:=q;refine qB q (sM λam ah a2=>fX ?_);have a3:x9 n z TI j .ellipsis:=i.extBut _ _ D.TOz.symm (h.extBut _ _ D.i2z.symm Y);have ac:n.objs.size=h0.objs.size:=i.1.trans (h.1.trans ak);have ae:z<n.objs.size:=rR a3;refine sB (a2 _ _ a3) rfl λan ai a4=>sE ai rfl λa5 a6 a7=>mM ⟨_,rfl,?_⟩;have up:∀c o,c≠z->n.get? c=dD o->a5.get? c=dD o:=λc o J e=>a7.extBut _ _ J (a4.extBut _ _ J (a2 _ _ e));have a8:ue a5 n.objs.size x y:=a7.extBut _ _ (um ae) (a4.extBut _ _ (um ae) ah);rw[ac]at a6 a8;rw[ac];exact hQ x y hx hy a5 t2 a6 (up _ _ D.TOz q) (N1.D.frame _ _ _ (N1.ext (N1.ext H h.extBut D.i12 D.l1i2) i.extBut D.TOi1.symm D.l1TO) λb hb o=>up b o (NP hb D.i1z D.l1z)) (N2.D.frame _ _ _ (N2.ext ag i.extBut D.TOi2.symm D.l2TO) λb hb o=>up b o (NP hb D.i2z D.l2z)) a8
    λc o J c2 c3 c4 e=>up c o J (i.extBut _ _ c2 (h.extBut _ _ c4 (aa c o J c2 c3 e)))
theorem Zm(r:Inn prog w A.in1 i1 B xs m)(u:Inn prog w A.in1 i2 p k l){f g:Nat}{a b:gx}{Q:Option gx->lb->Prop}(D:AB1 z TI j i1 i2 B p)
  (n:x9 s.heap z TI j .none) (h:ue s.heap TI (.ref i1) (.ref i2)) (i:ue s.heap j a b)
  (C:m f s.heap) (G:l g s.heap)
  (H:∀x y,xs[f]?=dD x->k[g]?=dD y->∀d t,x9 d z TI j (uC s.heap.objs.size)->ue d j x y->m (f+1) d->l (g+1) d->ue d s.heap.objs.size x y->
   (∀c o,c≠z->c≠j->c≠i1->c≠i2->s.heap.get? c=dD o->d.get? c=dD o)->Q (dD (.ref s.heap.objs.size)) (sw s d t))
  (I:∀d t,xs[f]?=eu\/k[g]?=eu->(∀c o,c≠z->c≠j->c≠i1->c≠i2->s.heap.get? c=dD o->d.get? c=dD o)->Q eu (sw s d t)):
  qH (qQ prog w) A (tb (.ref z)) Q E s:=by
 have q:s.TypeIs (.ref z) "zip" :=⟨_,n,rfl⟩
 unfold tb;refine fX (AAx (sS (name:=sj "__next__") q ACk
  (tz ACk q F.entry_zip_next
   (oo r u D n h i C G (λx y J L d t M N U Y a5 a7=>mM (H x y J L d t M N U Y a5 a7)) λd t e hn hk he=>?_) (F.args_zip_next_1 _))))
 refine A2 he λo ho hc=>?_;refine fX (zW (T:="StopIteration") (b:=true) ⟨o,ho,hc⟩ AAM ?_);exact mM (I _ _ hn hk)
end
theorem HO:∀(xs k:List V) (i:Nat),FV (xs.drop i) (k.drop i)=match xs[i]?,k[i]? with
  |some x,dD y=>.t [x,y]::FV (xs.drop (i+1)) (k.drop (i+1))
  |_,_=>[]
 |[],k,i=>by simp[OE,Nt,OD]
 |x::r,[],i=>by
  rw[List.drop_nil];cases h:ADq i (x::r)<;>simp[OE,Nt,OD]
 |x::r,y::t,0=>by simp[OE,Nt,OD]
 |x::r,y::t,i+1=>by
  simpa using HO r t i
section
variable{Z:Bs}(O:Z.Ok){A:mx}{ok:ls->Prop}{s:lb}{v:gx}
theorem XM{h:qX}{z j i1 i2:ls}{e f:xE}(g:h.get? z=dD e)(i:e.cls=.type "zip")(d:h.get? j=dD f)(n:f.cls=.type "tuple")(r:∃c T,h.get? i1=dD c/\c.cls=.type T/\T≠"code")(t:∃c T,h.get? i2=dD c/\c.cls=.type T/\T≠"code")(b:ls)(o:xE)(a:b=z\/b=j\/b=i1\/b=i2)(q:h.get? b=dD o):o.cls≠.none/\o.cls≠.type "code" :=
 a.elim (λa=>P4 g a q i (by decide)) λa=>a.elim (λa=>P4 d a q n (by decide)) λa=>a.elim (λa=>Oe r a q) λa=>Oe t a q
include O in
theorem OC{z TI j i1 i2:ls}{i x y:gx}{h g:qX}{n d:Nat}(r:∀b,b=z\/b=j\/b=i1\/b=i2->Z.B.heap.get? b=eu)(t:x9 h z TI j i)(u:ue h j x y)(C:∃a T,h.get? i1=dD a/\a.cls=.type T/\T≠"code")(D:∃a T,h.get? i2=dD a/\a.cls=.type T/\T≠"code")(G:∀c o,c≠z->c≠j->c≠i1->c≠i2->h.get? c=dD o->g.get? c=dD o):
  Ch Z (λb=>b=z\/b=TI\/b=j\/b=i1\/b=i2) (λw=>False) {s with heap:=h,toks:=n} {s with heap:=g,toks:=d}:=
 Ch.mono (Ch.of_keep (s:={s with heap:=_,toks:=_}) (fp:=λb=>b=z\/b=j\/b=i1\/b=i2) O r (XM t rfl u rfl C D) λb o f q=>G b o (λe=>f (.inl e)) (λe=>f (.inr (.inl e))) (λe=>f (.inr (.inr (.inl e)))) (λe=>f (.inr (.inr (.inr e)))) q) (λb o w H=>H.imp_right .inr) λw w f=>f
structure ZJ(Z:Bs)(z TI j i1 i2 B p:ls)(xs k:Array gx)(m l:Nat->qX->Prop)(al bl:List V)(ok:ls->Prop)(zs:List V)(s:lb)(i:Nat):Prop where
 r1:VRs Z.prog Z.w ok s.heap xs.toList al
 r2:VRs Z.prog Z.w ok s.heap k.toList bl
 k1:ok B
 k2:ok p
 h2:zs=FV (al.drop i) (bl.drop i)
 hz:x9 s.heap z TI j .none
 hTI:ue s.heap TI (.ref i1) (.ref i2)
 hTO:∃a b,ue s.heap j a b
 j1:m i s.heap
 j2:l i s.heap
theorem Oc{x:V}{xs c d:List V}{i:Nat}(h:x::xs=FV (c.drop i) (d.drop i)):∃a b,c[i]?=dD a/\d[i]?=dD b/\x=.t [a,b]/\xs=FV (c.drop (i+1)) (d.drop (i+1)):=by
 rw[HO]at h;cases e:c[i]? with
 |none=>rw[e]at h;exact nomatch h
 |some a=>cases f:d[i]? with
  |none=>rw[e,f]at h;exact nomatch h
  |some b=>rw[e,f]at h;exact⟨a,b,rfl,rfl,xk h⟩
theorem Qv{c d:List V}{i:Nat}(h:[]=FV (c.drop i) (d.drop i)):c.length<=i\/d.length<=i:=by
 rw[HO]at h;cases e:c[i]? with
 |none=>exact .inl (tI.mp e)
 |some a=>cases f:d[i]? with
  |none=>exact .inr (tI.mp f)
  |some b=>rw[e,f]at h;exact nomatch h
theorem QM{b:qK}{w:sO}{ok:ls->Prop}{h:qX}{xs:Array gx}{a:List V}{i:Nat}{u:gx}(r:VRs b w ok h xs.toList a)(c:a.length<=i):xs[i]?=eu:=
 zq (mE (uJ r.length) c)
include O in
theorem Yz{Q:List f0}{x1}{a2:tE}{z TI j i1 i2 B p:ls}{xs k:Array gx}{m l:Nat->qX->Prop}(C:Inn Z.prog Z.w A.in1 i1 B xs m)(H:Inn Z.prog Z.w A.in1 i2 p k l)
  (D:AB1 z TI j i1 i2 B p) (al bl:List V) (hB:∀b,b=z\/b=j\/b=i1\/b=i2->Z.B.heap.get? b=eu):
  Trn Z A (.Tuple Q x1 a2) (.ref z) (λb=>b=z\/b=TI\/b=j\/b=i1\/b=i2) (λv=>False) (λok zs s=>∃i,ZJ Z z TI j i1 i2 B p xs k m l al bl ok zs s i) where
 item:=λok q qs s u v a3 I=>RO λQQ kQ=>u.elim λi G=>HI (Oc G.h2) λc d hx hy U e2=>A2 (G.r1.get hx) λu1 L a4=>A2 (G.r2.get hy) λu2 M a5=>by
  have n1:∀b,ok b->b≠z:=λb a e=>I b (.inl e) a;rw[ts]at L M;refine G.hTO.elim λa f=>f.elim λb f=>Zm C H D G.hz G.hTI f G.j1 G.j2 (λx1 y1 q1 q2 h' tk Y J j1 j2 hT r=>?_) λh' v hn v=>hn.elim (λq=>nS (q.symm.trans L)) λq=>nS (q.symm.trans M);replace q1:=dE (L.symm.trans q1);replace q2:=dE (M.symm.trans q2);have a6:∀b o,ok b->s.heap.get? b=dD o->h'.get? b=dD o:=λb o a q=>r b o (n1 b a) (λe=>I b (.inr (.inr (.inl e))) a) (λe=>I b (.inr (.inr (.inr (.inl e)))) a) (λe=>I b (.inr (.inr (.inr (.inr e)))) a) q;refine kQ _ _ ⟨_,rfl,OC O hB G.hz f (C.cls _ _ G.j1).1 (H.cls _ _ G.j2).1 r,?_⟩;refine wpAny_letOwnedTupleGo_zip Y λa7 a0 n=>?_;have ko:∀b o,ok b->s.heap.get? b=dD o->a7.get? b=dD o:=λb o a q=>n.extBut b o (n1 b a) (a6 b o a q);exact⟨U▸.t (vs:= #[x1,y1]) (n:=0) (a3 _ (A6 _)) (n.extBut _ _ (Ar G.hz).symm hT) (.cons (q1▸a4.mono (λb o a q v=>ko b o a q) λv v a v=>a) (.cons (q2▸a5.mono (λb o a q v=>ko b o a q) λv v a v=>a) .nil)),
   ⟨i+1,G.r1.mono (λb o a q v=>ko b o a q) λv v a v=>a,G.r2.mono (λb o a q v=>ko b o a q) λv v a v=>a,G.k1,G.k2,e2,a0,n.extBut _ _ D.TIz (r _ _ D.TIz D.TITO D.TIi1 D.TIi2 G.hTI),⟨x1,y1,n.extBut _ _ D.TOz J⟩,
    C.ext j1 n.extBut D.i1z D.l1z,H.ext j2 n.extBut D.i2z D.l2z⟩,
   OC O hB Y J (C.cls _ _ j1).1 (H.cls _ _ j2).1 λc o c1 v v v q=>n.extBut c o c1 q⟩
 done:=λok s u v=>u.elim λi G=>G.hTO.elim λa f=>f.elim λb f=>
  have a1:xs[i]?=eu\/k[i]?=eu:=(Qv G.h2).imp (λh=>QM (u:=.none) G.r1 h) λh=>QM (u:=.none) G.r2 h
  Zm C H D G.hz G.hTI f G.j1 G.j2 (λx y q1 q2=>a1.elim (λq=>nS (q.symm.trans q1)) λq=>nS (q.symm.trans q2)) λh' v v r=>⟨rfl,OC O hB G.hz f (C.cls _ _ G.j1).1 (H.cls _ _ G.j2).1 r⟩
 self:=λok xs s u=>u.elim λi G=>ACz G.hz ⟨rfl,rfl⟩
 keep:=λok zs s s' u r v=>u.elim λi G=>⟨i,G.r1.mono (λb o a e t=>r b o (.inl a) e t) λv v a v=>a,G.r2.mono (λb o a e t=>r b o (.inl a) e t) λv v a v=>a,G.k1,G.k2,G.h2,r _ _ (.inr (.inl rfl)) G.hz rfl,r _ _ (.inr (.inr (.inl rfl))) G.hTI rfl,
  G.hTO.elim λa f=>f.elim λb f=>⟨a,b,r _ _ (.inr (.inr (.inr (.inl rfl)))) f rfl⟩,
  C.keep G.j1 (λb o q t e=>r b o (.inr (.inr (.inr (.inr (.inl q))))) e t) λb o q t e=>r b o (.inl (q▸G.k1)) e t,
  H.keep G.j2 (λb o q t e=>r b o (.inr (.inr (.inr (.inr (.inr q))))) e t) λb o q t e=>r b o (.inl (q▸G.k2)) e t⟩
 goal:=λok a8 zs s u g=>u.elim λi G=>AE (C.cls _ _ G.j1).2 λo2 T2 e2 c2=>AE (H.cls _ _ G.j2).2 λo3 T3 e3 c3=>⟨i,G.r1.goal g,G.r2.goal g,g _ _ e2 G.k1,g _ _ e3 G.k2,G.h2,G.hz,G.hTI,G.hTO,G.j1,G.j2⟩
 live:=λok zs s b u N=>u.elim λi G=>N.elim (λe=>e▸⟨_,G.hz⟩) λN=>N.elim (λe=>e▸⟨_,G.hTI⟩) λN=>N.elim (λe=>e▸G.hTO.elim λv h=>h.elim λv h=>⟨_,h⟩) λN=>N.elim (λe=>e▸BJ (C.cls _ _ G.j1).1 λv v U v v=>⟨_,U⟩) λe=>e▸BJ (H.cls _ _ G.j2).1 λv v U v v=>⟨_,U⟩
end
noncomputable abbrev zH(k:String)(h:qX)(l:ls):qX:=h.push {cls:=.type k,data:=.fields #[.ref l,.int 0 0]}
noncomputable abbrev mO(k:String)(h:qX)(a b:ls):qX:=(zH k (zH k h a) b).push {cls:=.type "tuple",data:=.seq #[.ref h.objs.size,.ref (zH k h a).objs.size]}
noncomputable abbrev hU(k:String)(h:qX)(a b:ls):qX:=(mO k h a b).push {cls:=.type "tuple",data:=.seq #[.none,.none]}
noncomputable abbrev RU(k:String)(h:qX)(a b:ls):qX:=(hU k h a b).push {cls:=.type "zip",data:=.fields #[.none,.bool fG,.bool fG,.ref (zH k (zH k h a) b).objs.size,.ref (mO k h a b).objs.size]}
theorem IL(a b:ls)(m i:Array gx):
  Meets (Builtin.«zip.__new__» ⟨[.type "zip",.ref a,.ref b],[]⟩) (λz R s=>s.heap.IsTuple a m/\s.heap.IsTuple b i/\
   R (.ok (.ret (.ref (hU "tuple_iterator" s.heap a b).objs.size))) {s with heap:=RU "tuple_iterator" s.heap a b}):=
 .of_wp λk w A R s h=>by
  obtain⟨n,g,d,o,os⟩:=s;refine BO h λc e h=>?_;have l:=sub_zip;have f:ACj (ACV ⟨n.push {cls:=.type "tuple_iterator",data:=.fields #[.ref a,.int 0 0]},g,d,o,os⟩) b i:=ADY e _
  wp_walk using uA (c),uA f
  exact⟨_,rfl,h⟩
theorem MV(k:String)(h:qX)(a b:ls):(hU k h a b).objs.size=h.objs.size+4/\x9 (RU k h a b) (h.objs.size+4) (h.objs.size+2) (h.objs.size+3) .none/\ue (RU k h a b) (h.objs.size+2) (.ref h.objs.size) (.ref (h.objs.size+1))/\
  ue (RU k h a b) (h.objs.size+3) .none .none/\(RU k h a b).get? h.objs.size=dD {cls:=.type k,data:=.fields #[.ref a,.int 0 0]}/\(RU k h a b).get? (h.objs.size+1)=dD {cls:=.type k,data:=.fields #[.ref b,.int 0 0]}/\
  ∀c o,h.get? c=dD o->(RU k h a b).get? c=dD o:=by
 have d:(zH k h a).objs.size=h.objs.size+1:=rx ..;have e:(zH k (zH k h a) b).objs.size=h.objs.size+2:=by rw[rx,d]
 have f:(mO k h a b).objs.size=h.objs.size+3:=by rw[rx,e]
 have g:(hU k h a b).objs.size=h.objs.size+4:=by rw[rx,f]
 have i:(RU k h a b).get? (hU k h a b).objs.size=dD _:=mA _ rfl;have l:(RU k h a b).get? (mO k h a b).objs.size=dD _:=lh _ (mA _ rfl);have m:(RU k h a b).get? (zH k (zH k h a) b).objs.size=dD _:=lh _ (lh _ (mA _ rfl));have n:(RU k h a b).get? (zH k h a).objs.size=dD _:=lh _ (lh _ (lh _ (mA _ rfl)));rw[e,f,g]at i;rw[d,e]at m;rw[f]at l;rw[d]at n;exact⟨g,i,m,l,(lh _ (lh _ (lh _ (lh _ (mA _ rfl))))),n,λc o x=>lh _ (lh _ (lh _ (lh _ (lh _ x))))⟩
theorem nn{a b:Nat}(h:a<b\/b<a):a≠b:=by lia
section
variable{Z:Bs}(O:Z.Ok){A:mx}{j:ls->Prop}{s:lb}{v u:gx}
theorem IZ{a:qK}{w:sO}{E:gx->lb->Prop}{b c:ls}{i k:Array gx}{Q:gx->lb->Prop}(d:s.heap.IsTuple b i)(e:s.heap.IsTuple c k)
  (h:Q (.ref (s.heap.objs.size+4)) {s with heap:=RU "tuple_iterator" s.heap b c}):
  qH (qQ a w) A (t9 (.type "zip") [.ref b,.ref c]) Q E s:=by
 obtain⟨l,f⟩:=MV "tuple_iterator" s.heap b c;refine callType_new F.called_zip (by decide) (F.typeCall_zip_2 _ _) (F.newCall_zip_2 _ _) (λg=>F.args_object_init_3 g _ _) F.entry_zip_new
  (IL b c i k) ⟨d,e,?_⟩
 show _/\_;rw[l];exact⟨⟨_,f.1,rfl⟩,h⟩
theorem ltN{N l:Nat}(d:Nat)(h:l<N):l≠N+d:=sU (nR h (tN _ _))
theorem neN{N:Nat}(a b:Nat)(e:lf a b=fG):N+a≠N+b:=λh=>mP e (Nat.add_left_cancel h)
theorem sC{N c d:Nat}(a:c<N)(b:d<N):AB1 (N+4) (N+2) (N+3) N (N+1) c d:=
 ⟨neN 2 4 rfl,neN 3 4 rfl,neN 0 4 rfl,neN 1 4 rfl,neN 2 3 rfl,neN 2 0 rfl,neN 2 1 rfl,neN 3 0 rfl,neN 3 1 rfl,neN 0 1 rfl,ltN 4 a,ltN 3 a,ltN 0 a,ltN 1 a,ltN 4 b,ltN 3 b,ltN 0 b,ltN 1 b⟩
theorem rz{N b:Nat}(h:b=N+4\/b=N+2\/b=N+3\/b=N\/b=N+1):∃d,b=N+d:=h.elim (⟨_, ·⟩) λh=>h.elim (⟨_, ·⟩) λh=>h.elim (⟨_, ·⟩) λh=>h.elim (⟨0, ·⟩) (⟨_, ·⟩)
include O in
theorem Pj{p:List f0}{x1}{y:tE}{k:String}{w x:ls}{z l:Array gx}{n m:Nat}{B C:List V}{T1 T2:String}{L M:Nat->qX->Prop}(hi:Inv Z s)
  (Q:s.heap.get? w=dD ⟨.type T1,.none,.seq z n,#[]⟩) (U:s.heap.get? x=dD ⟨.type T2,.none,.seq l m,#[]⟩) (a1:j w) (a2:j x) (r1:VRs Z.prog Z.w j s.heap z.toList B) (r2:VRs Z.prog Z.w j s.heap l.toList C)
  (Y:w≠s.heap.objs.size->Inn Z.prog Z.w A.in1 s.heap.objs.size w z L) (N2:x≠s.heap.objs.size+1->Inn Z.prog Z.w A.in1 (s.heap.objs.size+1) x l M)
  {i:qX} (f:x9 i (s.heap.objs.size+4) (s.heap.objs.size+2) (s.heap.objs.size+3) .none/\ue i (s.heap.objs.size+2) (.ref s.heap.objs.size) (.ref (s.heap.objs.size+1))/\
   ue i (s.heap.objs.size+3) .none .none/\L 0 i/\M 0 i/\∀c o,s.heap.get? c=dD o->i.get? c=dD o):
  ItC Z A (.Tuple p x1 y) j s (FV B C) (.ref (s.heap.objs.size+4)) {s with heap:=i}:=by
 refine pC f λE f2 f3 f4 f5 f6=>?_;have G:∀b o,s.heap.get? b=dD o->b<s.heap.objs.size:=λb o e=>rR e;have ge:∀b,s.heap.objs.size<=b->s.heap.get? b=eu:=λb g=>Cp _ g;generalize hn:s.heap.objs.size=N at*;have D:=sC (G _ _ Q) (G _ _ U);have H:∀b o,s.heap.get? b=dD o->¬(b=N+4\/b=N+2\/b=N+3\/b=N\/b=N+1):=λb o e q=>(rz q).elim λd=>ltN d (G b o e);have t:∀(b:Nat),(b=N+4\/b=N+2\/b=N+3\/b=N\/b=N+1)->s.heap.get? b=eu:=λb h=>(rz h).elim λd e=>ge b (e▸tN N d);have mv:∀{l:List gx} {zs:List V},VRs Z.prog Z.w j s.heap l zs->VRs Z.prog Z.w (λa=>j a/\¬(a=N+4\/a=N+2\/a=N+3\/a=N\/a=N+1)) i l zs:=λr=>r.mono (λb o v e v=>f6 b o e) λb o k e=>⟨k,H b o e⟩
 refine⟨⟨_,_,_,Yz O (Y D.l1i1) (N2 D.l2i2) D B C λb g=>hi.fresh (t b (g.imp_right λh=>.inr (h.imp_right id))),⟨0,mv r1,mv r2,⟨a1,H _ _ Q⟩,⟨a2,H _ _ U⟩,rfl,E,f2,⟨_,_,f3⟩,f4,f5⟩,
  Same.of_keep (tk:=s.toks) O f6,λb g=>⟨t b g,?_⟩,λv f=>f.elim⟩,ACz E ⟨rfl,rfl⟩⟩
 exact g.elim (λe=>e▸⟨_,E,rfl⟩) λg=>g.elim (λe=>e▸⟨_,f2,rfl⟩) λg=>g.elim (λe=>e▸⟨_,f3,rfl⟩) λg=>g.elim (λe=>e▸BJ ((Y D.l1i1).cls _ _ f4).1 λv v I J v=>⟨_,I,A9 J⟩) λe=>e▸BJ ((N2 D.l2i2).cls _ _ f5).1 λv v I J v=>⟨_,I,A9 J⟩
include O in
theorem LM{a:List f0}{k}{b:tE}{f g:List V}(l:Inv Z s)(i:A.handled=eu)(m:VR Z.prog Z.w j s.heap v (.l f))(n:VR Z.prog Z.w j s.heap u (.l g)):
  WP Z A (t9 (.type "zip") [v,u]) (ItC Z A (.Tuple a k b) j s (FV f g)) s:=by
 refine VR.kLst m λY Y Y o c p=>?_;refine VR.kLst n λY Y Y q d r=>?_;refine call_zip_2 ⟨_,c,rfl,_,rfl⟩ ⟨_,d,rfl,_,rfl⟩ λB t w x y z Y e=>?_;exact Pj O l c d o q p r (λh=>Inn.list (A:=A.in1) i _ _ h _) (λh=>Inn.list (A:=A.in1) i _ _ h _) ⟨t,w,x,⟨y,⟨_,e _ _ c,rfl,_,rfl⟩⟩,⟨z,⟨_,e _ _ d,rfl,_,rfl⟩⟩,e⟩ (k:="")
include O in
theorem Jt{a:List f0}{k}{b:tE}{f g:List V}(l:Inv Z s)(i:A.handled=eu)(m:VR Z.prog Z.w j s.heap v (.t f))(n:VR Z.prog Z.w j s.heap u (.t g)):
  WP Z A (t9 (.type "zip") [v,u]) (ItC Z A (.Tuple a k b) j s (FV f g)) s:=by
 refine VR.kTup m λY Y Y o c p=>?_;refine VR.kTup n λY Y Y q d r=>?_;refine IZ ⟨_,c,rfl,_,rfl⟩ ⟨_,d,rfl,_,rfl⟩ ?_
 (refine CB λY t=>?_;obtain⟨_,w,x,y,z,B,e⟩:=MV "tuple_iterator" s.heap _ _<;>refine t ?_)
 exact Pj O l c d o q p r (λh=>Inn.tuple (A:=A.in1) i _ _ h _) (λh=>Inn.tuple (A:=A.in1) i _ _ h _) ⟨w,x,y,⟨⟨_,z,rfl,rfl⟩,⟨_,e _ _ c,rfl,_,rfl⟩⟩,⟨⟨_,B,rfl,rfl⟩,⟨_,e _ _ d,rfl,_,rfl⟩⟩,e⟩ (k:="")
include O in
theorem Ko{q:List V}{m:f0}(M:Inv Z s)(N:A.handled=eu)(Q:VR Z.prog Z.w j s.heap v (.l q)):WP Z A (t9 (.type "reversed") [v]) (ItC Z A m j s q.reverse) s:=by
 refine VR.kLst Q λ_ _ _ U E G=>?_;rename_i l c n;have J:s.heap.IsList l c:=⟨_,E,rfl,_,rfl⟩
 refine call_reversed_list J ?_;have H:l≠s.heap.objs.size:=Ar E;have w:c.size=q.length:=by rw[<-G.length];simp
 have L:∀(h:qX),(h.push (revObj l ((c.size:Int)-1))).get? h.objs.size=dD (revObj l ((c.size:Int)-1)):=λh=>mA _ rfl;have z:(s.heap.push (revObj l ((c.size:Int)-1))).IsRevIter s.heap.objs.size l ((c.size:Int)-1):=⟨_,L _,rfl,rfl⟩
 have p:Same Z s {s with heap:=s.heap.push (revObj l ((c.size:Int)-1)),toks:=s.toks}:=Same.push O;have B:∀b o,s.heap.get? b=dD o->¬b∈ [s.heap.objs.size]:=λb o e h=>Ar e (by simpa using h);refine⟨⟨_,_,_,Trn.ofWalks O (all:=q.reverse) (Walks.listRev (A:=A) N s.heap.objs.size l H c) (by rw[w];simp)
  (λi h st b d=>?_) (by simp) (λj h=>j l/\(∃o,h.get? l=dD o/\AB o=fG)/\VRs Z.prog Z.w j h c.toList q) (λj h Y b d=>?_) (λb d=>?_) (λi h st b d o e=>?_)
  (λj ok' h h' r k g=>⟨(A2 r.2.1 λo e _=>g l o e r.1),(A2 r.2.1 λo e t=>⟨o,k l o r.1 e t,t⟩),(r.2.2.mono (h':=h) (ok':=λb=>j b/\ok' b) (λ_ _ _ e _=>e) λb o a e=>⟨a,g b o e a⟩).mono (λb o a e t=>k b o a.1 e t) λ_ _ a _=>a.2⟩) (λj i v x h r hp C=>?_),?_,p,?_,λi hf=>hf.elim⟩,wpAny_pyIter_revIter z ⟨rfl,rfl⟩⟩
 ·refine NE d ?_;refine AW st.2.1 λo f D _=>?_;exact⟨o,_,f,D,by decide,by decide,.inr (.inr (.inr (.inr rfl)))⟩
 ·exact NP d (.inl (qw.mpr rfl)) (.inr Y.1)
 ·exact NE d (M.fresh (A6 _))
 ·revert e
  refine NP d (λe=>?_) λe=>?_
  ·refine AW st.2.1 λo' f D _=>?_;rw[e]at f;(replace f:=dE f;rw[f]);exact A9 D
  ·refine AW st.2.2 λo' f D _=>?_;rw[e]at f;(replace f:=dE f;subst f);exact A9 D
 ·have I:i<q.length:=by
   have:=(qR.mp C).1;simpa using this
  refine A2 (r.2.2.get' (show c.toList[c.size-1-i]?=dD v by rw[<-hp];simp)) λy h1 h2=>?_;rw[AAN I,<-w,h1]at C
  (replace C:=dE C;subst C)
  exact h2
 ·refine⟨⟨⟨U,B _ _ E⟩,⟨_,lh _ E,rfl⟩,?_⟩,0,by simp[<-G.length],by simp,qd _,by simpa using z,J.push _⟩;exact G.mono (λb o _ e _=>lh _ e) λb o k e=>⟨k,B _ _ e⟩
 ·intro b d;have d:b=s.heap.objs.size:=by simpa using d
  subst d;exact⟨A6 _,_,L _,rfl⟩
end
theorem Ev.get_put(v:V)(i j:Nat):∀ρ:Ev,(ρ.put i v).get j=if i=j then dD v else ρ.get j
 |[]=>by
  simp only[GV,AC];cases h:lf i j with
  |true=>rw[if_pos (lk h)]
  |false=>rw[if_neg (mP h)]
 |(k,u)::r=>by
  simp only[FO];cases h:lf k i with
  |true=>
   have:=lk h;rw[<-this];simp only[AC];cases a:lf k j with
   |true=>rw[if_pos (lk a)]
   |false=>rw[if_neg (mP a)]
  |false=>
   simp only[AC,Ev.get_put v i j r];cases a:lf k j with
   |true=>have:=lk a;refine this▸?_;show dD u=if i=k then dD v else dD u;rw[if_neg (ub (mP h))]
   |false=>rfl
structure EnvR(Z:Bs)(B:o5)(l:t8)(ok:ls->Prop)(h:qX)(ρ:Ev):Prop where
 fn:l.scope.kind=.function
 gl:l.globals=sf
 bt:l.builtins=yj
 nd:(B.names.map (·.1)).Nodup
 kd:∀n k,B.names.lookup n=dD k->l.kindOf n=dD k\/(k=.free/\l.kindOf n=dD .cell)
 nm:∀i v,ρ.get i=dD v->∃n k,B.names[i]?=dD (n,k)/\(k=.local\/k=.cell\/k=.free)
 ns:∃m,h.Ns l.locals m/\∀i v n,ρ.get i=dD v->B.names[i]?=dD (n,.local)->∃u,m n=dD u/\VR Z.prog Z.w ok h u v
 cl:∀i v n k,ρ.get i=dD v->B.names[i]?=dD (n,k)->k=.cell\/k=.free->∃c u,l.cells.lookup n=dD c/\h.IsCell c (dD u)/\VR Z.prog Z.w ok h u v
 ap:∀n n' c,l.cells.lookup n=dD c->l.cells.lookup n'=dD c->n=n'
 cx:∀n c,l.cells.lookup n=dD c->(∃v,h.IsCell c v)/\c≠l.locals/\¬ok c
 ce:∀n,B.names.lookup n=dD .cell->∃c,l.cells.lookup n=dD c/\Z.B.heap.get? c=eu
 fe:∀n,B.names.lookup n=dD .free->∃c,l.cells.lookup n=dD c
 nl:¬ok l.locals
 nb:Z.B.heap.get? l.locals=eu
def Fo(B:o5)(l:t8)(b:ls):Prop:=b=l.locals\/∃n,B.names.lookup n=dD .cell/\l.cells.lookup n=dD b
theorem A8{c:List (pw×qE)}(d:(c.map (·.1)).Nodup){i:Nat}{n:pw}{k:qE}(h:c[i]?=dD (n,k)):c.lookup n=dD k:=by
 induction c generalizing i with
 |nil=>simp at h
 |cons p r f=>
  obtain⟨a,b⟩:=p;rw[pj,vK]at d;induction i using uK with
  |zero=>simp at h;(obtain⟨g,rfl⟩:=h<;>try rw[g]);simp[ua]
  |succ i=>
   simp at h;have e:(n==a)=fG:=by rw[beq_eq_false_iff_ne];rintro rfl;exact d.1 (u8.mpr ⟨(n,k),qk h,rfl⟩)
   simp only[ua,e];exact f d.2 h
theorem Cz{c:List (pw×qE)}(d:(c.map (·.1)).Nodup){i j:Nat}{n:pw}{k e:qE}(h:c[i]?=dD (n,k))(h':c[j]?=dD (n,e)):i=j:=by
 induction c generalizing i j with
 |nil=>simp at h
 |cons p r f=>
  obtain⟨a,b⟩:=p;rw[pj,vK]at d;induction i using uK with
  |zero=>
   simp at h;obtain⟨rfl,rfl⟩:=h;induction j using uK with
   |zero=>rfl
   |succ j=>simp at h';exact absurd (u8.mpr ⟨_,qk h',rfl⟩) d.1
  |succ i=>
   simp at h;induction j using uK with
   |zero=>simp at h';obtain⟨rfl,rfl⟩:=h';exact absurd (u8.mpr ⟨_,qk h,rfl⟩) d.1
   |succ j=>simp at h';exact congrArg (·+1) (f d.2 h h')
def LocAt(l:t8)(h:qX)(n:pw)(k:qE)(w:gx):Prop:=
 (k=.local/\∃m,h.Ns l.locals m/\m n=dD w)\/(k=.cell/\∃c,l.cells.lookup n=dD c/\h.IsCell c (dD w))
section
variable{Z:Bs}{B:o5}{l:t8}{ok ok':ls->Prop}{h h':qX}{s D:lb}{ρ ρ':Ev}{A:mx}
theorem An{h:qX}{a:ls}{m}(x:h.Ns a m):∃o,h.get? a=dD o/\AB o=fG/\¬CE o:=by refine M9 x λo c d b hd z=>?_;refine⟨o,b,?_,λ⟨_,f,e⟩=>by rw[hd]at e;cases e⟩;exact C9 hd rfl
theorem Cj{h:qX}{a:ls}{v}(x:h.IsCell a v):∃o,h.get? a=dD o/\AB o=fG/\¬CE o:=by refine A2 x λo b hd=>?_;refine⟨o,b,?_,λ⟨_,c,e⟩=>by exact nomatch (hd.symm.trans e)⟩;exact C9 hd rfl
theorem EnvR.sub(R:EnvR Z B l ok h ρ)(c:∀i v,ρ'.get i=dD v->ρ.get i=dD v):EnvR Z B l ok h ρ':=
 {R with
  nm:=λi v e=>R.nm i v (c i v e)
  ns:=A2 R.ns λm a b=>⟨m,a,λi v n e f=>b i v n (c i v e) f⟩
  cl:=λi v n k e f g=>R.cl i v n k (c i v e) f g}
theorem EnvR.turn(R:EnvR Z B l ok h ρ)(w:∀b o,ok b\/b=l.locals\/(∃n,l.cells.lookup n=dD b)->h.get? b=dD o->AB o=fG->h'.get? b=dD o)
  (G:∀b o,h.get? b=dD o->ok b->ok' b) (C:∀b,b=l.locals\/(∃n,l.cells.lookup n=dD b)->¬ok' b):EnvR Z B l ok' h' ρ:=by
 have E:∀{u v},VR Z.prog Z.w ok h u v->VR Z.prog Z.w ok' h' u v:=λr=>r.mono (λb o a e t=>w b o (.inl a) e t) λb o a e=>G b o e a;have ce:∀{n c v},l.cells.lookup n=dD c->h.IsCell c v->h'.IsCell c v:=λ{n c v} e x=>by
  refine AW (Cj x) λo p t s=>?_;refine A2 x λH j d=>?_;rw[p]at j;(replace j:=dE j;subst j);exact⟨o,w c o (.inr (.inr ⟨n,e⟩)) p t,d⟩
 exact{R with
  ns:=by refine A2 R.ns λm a b=>?_;refine AW (An a) λo p t s=>?_;refine⟨m,a.at' λH j=>?_,λi v n e f=>(b i v n e f).imp λu x=>⟨x.1,E x.2⟩⟩;rw[p]at j;(replace j:=dE j;subst j);exact w _ _ (.inr (.inl rfl)) p t
  cl:=λi v n k e f g=>by
   refine BJ (R.cl i v n k e f g) λc u x y z=>?_;exact⟨c,u,x,ce x y,E z⟩
  cx:=λn c e=>by
   (refine BO (R.cx n c e) λq y z=>?_;obtain⟨v,x⟩:=q)
   exact⟨⟨v,ce e x⟩,y,C c (.inr ⟨n,e⟩)⟩
  nl:=C _ (.inl rfl)}
theorem EnvR.same(R:EnvR Z B l ok s.heap ρ)(S:Same Z s D):EnvR Z B l ok D.heap ρ:=
 R.turn (λb o z e t=>S.heap b o e t) (λz z z a=>a) λb c=>by
  rcases c with rfl|⟨n,e⟩
  ·exact R.nl
  ·exact(R.cx n b e).2.2
theorem EnvR.ch{fp gp}(R:EnvR Z B l ok s.heap ρ)(S:Ch Z fp gp s D)(c:∀b,fp b->¬(ok b\/b=l.locals\/∃n,l.cells.lookup n=dD b)):EnvR Z B l ok D.heap ρ:=
 R.turn (λb o k e t=>S.heap b o e t λf=>c b f k) (λz z z a=>a) λb d=>by
  rcases d with rfl|⟨n,e⟩
  ·exact R.nl
  ·exact(R.cx n b e).2.2
theorem EnvR.goal(R:EnvR Z B l ok h ρ)(c:∀b o,h.get? b=dD o->ok b->ok' b)(a:∀b,ok' b->ok b):EnvR Z B l ok' h ρ:=
 R.turn (λb o k e t=>e) c λb d q=>by
  rcases d with rfl|⟨n,e⟩
  ·exact R.nl (a _ q)
  ·exact(R.cx n b e).2.2 (a _ q)
theorem EnvR.fo_ok(R:EnvR Z B l ok h ρ){b:ls}(a:Fo B l b):¬ok b:=by
 rcases a with rfl|⟨n,_,e⟩
 ·exact R.nl
 ·exact(R.cx n b e).2.2
theorem EnvR.fo_b(R:EnvR Z B l ok h ρ){b:ls}(d:Fo B l b):Z.B.heap.get? b=eu:=by
 rcases d with rfl|⟨n,k,e⟩
 ·exact R.nb
 ·refine A2 (R.ce n k) λc a f=>?_;rw[e]at a;(replace a:=dE a;subst a);exact f
theorem EnvR.fo_code(R:EnvR Z B l ok h ρ){b:ls}{o:xE}(f:Fo B l b)(d:h.get? b=dD o):¬CE o:=by
 rcases f with rfl|⟨n,_,e⟩
 ·refine A2 R.ns λm a z=>?_;refine AW (An a) λg c z t=>?_;rw[d]at c;refine dE c▸?_;exact t
 ·obtain⟨⟨v,x⟩,_⟩:=R.cx n b e;refine AW (Cj x) λg c z t=>?_;rw[d]at c;refine dE c▸?_;exact t
theorem EnvR.fo_live(R:EnvR Z B l ok h ρ){b:ls}(c:Fo B l b):∃o,h.get? b=dD o:=by
 rcases c with rfl|⟨n,_,e⟩
 ·(refine A2 R.ns λm a z=>?_;obtain⟨o,_,_,e,_⟩:=a);exact⟨o,e⟩
 ·obtain⟨⟨v,o,x,_⟩,_⟩:=R.cx n b e;exact⟨o,x⟩
theorem EnvR.foN(R:EnvR Z B l ok h ρ){b:ls}{C:Prop}(a:Fo B l b)(n:h.get? b=eu):C:=(R.fo_live a).elim λz e=>sN (e.symm.trans n)
theorem EnvR.lv(R:EnvR Z B l ok h ρ){C:Prop}(n:h.get? l.locals=eu):C:=R.foN (.inl rfl) n
theorem EnvR.cv(R:EnvR Z B l ok h ρ){m:pw}{c:ls}(e:l.cells.lookup m=dD c){C:Prop}(n:h.get? c=eu):C:=(R.cx m c e).1.elim λz x=>x.elim λz x=>sN (x.1.symm.trans n)
theorem EnvR.co(R:EnvR Z B l ok h ρ){m:pw}{c:ls}(e:l.cells.lookup m=dD c):¬ok c:=(R.cx m c e).2.2
theorem EnvR.lc(R:EnvR Z B l ok h ρ){b:ls}(a:b=l.locals\/∃m,l.cells.lookup m=dD b):¬ok b:=a.elim (λq=>q▸R.nl) λ⟨_,e⟩=>R.co e
theorem EnvR.n0(R:EnvR Z B l ok h ρ):∃m,h.Ns l.locals m:=R.ns.imp λz=>And.left
theorem EnvR.lc_seq(R:EnvR Z B l ok h ρ){b:ls}{C:Prop}{o:xE}{a:Array gx}{n:Nat}(c:b=l.locals\/∃m,l.cells.lookup m=dD b)(g:h.get? b=dD o)(d:o.data=.seq a n):C:=by
 rcases c with rfl|⟨m,e⟩
 ·refine R.n0.elim λz x=>M9 x λf k p i hd z=>?_;exact nomatch d.symm.trans ((congrArg zX (dE (g.symm.trans i))).trans hd)
 ·refine(R.cx m b e).1.elim λz x=>A2 x λf j h=>?_;exact nomatch d.symm.trans ((congrArg zX (dE (g.symm.trans j))).trans h)
theorem EnvR.fo_seq(R:EnvR Z B l ok h ρ){b:ls}{C:Prop}{o:xE}{a:Array gx}{n:Nat}(c:Fo B l b)(g:h.get? b=dD o)(d:o.data=.seq a n):C:=R.lc_seq (c.imp id λ⟨m,_,e⟩=>⟨m,e⟩) g d
theorem EnvR.load(R:EnvR Z B l ok s.heap ρ){i:Nat}{v:V}{n:pw}{k:qE}{j:tE}(g:ρ.get i=dD v)(e:B.names[i]?=dD (n,k))(hd:(n==("__debug__" :pw))=fG)(p:(n==("__classdict__" :pw))=fG):
  WP Z A (tW (.Name n j) l) (λu D=>VR Z.prog Z.w ok s.heap u v/\D=s) s:=by
 refine yr ?_ hd;have o:=A8 R.nd e;refine AE (R.nm i v g) λr t f q=>?_;rw[e]at f;cases f;rcases q with rfl|rfl|rfl
 ·refine A2 R.ns λm a b=>?_;refine A2 (b i v n g e) λu x y=>?_;have d:l.kindOf n=dD .local:=by rcases R.kd n _ o with h|⟨h,_⟩;exact h;cases h
  exact wh R.fn d a x ⟨y,rfl⟩
 ·refine BJ (R.cl i v n _ g e (.inl rfl)) λc u x y z=>?_;have d:l.kindOf n=dD .cell:=by rcases R.kd n _ o with h|⟨h,_⟩;exact h;cases h
  exact tJ R.fn d x y ⟨z,rfl⟩
 ·refine BJ (R.cl i v n _ g e (.inr rfl)) λc u x y z=>?_;rcases R.kd n _ o with h|⟨_,h⟩
  ·exact yX R.fn h x y ⟨z,rfl⟩ p
  ·exact tJ R.fn h x y ⟨z,rfl⟩
theorem LocAt.turn{m:pw}{k:qE}{w:gx}(x:LocAt l h m k w)(i:∀b o,b=l.locals\/(∃n,l.cells.lookup n=dD b)->h.get? b=dD o->AB o=fG->h'.get? b=dD o):LocAt l h' m k w:=by
 rcases x with⟨rfl,f,a,b⟩|⟨rfl,c,a,b⟩
 ·refine AW (An a) λo g t z=>?_;exact .inl ⟨rfl,f,a.at' λj e=>by rw[g]at e;(replace e:=dE e;subst e);exact i _ _ (.inl rfl) g t,b⟩
 ·refine AW (Cj b) λo g t z=>?_;refine A2 b λj e d=>?_;rw[g]at e;(replace e:=dE e;subst e);exact .inr ⟨rfl,c,a,o,i _ _ (.inr ⟨m,a⟩) g t,d⟩
def Others(B:o5)(l:t8)(a:List Nat)(h h':qX):Prop:=∀j m k w,j∉a->B.names[j]?=dD (m,k)->LocAt l h m k w->LocAt l h' m k w
theorem U9{ok:ls->Prop}{h:qX}{ρ:Ev}{i:Nat}{u:gx}{v:V}(a:VR Z.prog Z.w ok h u v)(j:Nat)(w:V)(e:(ρ.put i v).get j=dD w):(i=j/\VR Z.prog Z.w ok h u w)\/(i≠j/\ρ.get j=dD w):=by
 rw[Ev.get_put]at e;by_cases q:i=j
 ·exact .inl ⟨q,dE ((if_pos q).symm.trans e)▸a⟩
 ·exact .inr ⟨q,(if_neg q).symm.trans e⟩
theorem EnvR.storeGl(O:Z.Ok)(R:EnvR Z B l ok s.heap ρ){i:Nat}{u:gx}{m:pw}(E:B.names[i]?=dD (m,.local)):
  WP Z A (t5 l m u) (λX D=>(∀d:Ev,(∀j w,d.get j=dD w->(i=j/\VR Z.prog Z.w ok s.heap u w)\/(i≠j/\ρ.get j=dD w))->EnvR Z B l ok D.heap d)/\Ch Z (Fo B l) (λX=>False) s D/\Others B l [i] s.heap D.heap/\LocAt l D.heap m .local u/\D.heap.objs.size=s.heap.objs.size) s:=by
 have hl:=A8 R.nd E;have nm:∀d:Ev,(∀j w,d.get j=dD w->(i=j/\VR Z.prog Z.w ok s.heap u w)\/(i≠j/\ρ.get j=dD w))->∀j w,d.get j=dD w->∃n k,B.names[j]?=dD (n,k)/\(k=.local\/k=.cell\/k=.free):=λd H j w e=>by
  rcases H j w e with⟨q,_⟩|⟨q,e⟩
  ·refine q▸?_;exact⟨m,.local,E,Or.inl rfl⟩
  ·exact R.nm j w e
 have L:l.kindOf m=dD .local:=by rcases R.kd m _ hl with h|⟨h,_⟩;exact h;cases h
 refine A2 R.ns λf a b=>?_;refine wpAny_storeName_local L a (λh' t p=>?_) (by rw[R.fn];rfl);have Y:∀b o,b≠l.locals->s.heap.get? b=dD o->h'.get? b=dD o:=λb o ne e=>p.extBut b o ne e;have ch:Ch Z (Fo B l) (λX=>False) s {s with heap:=h',toks:=s.toks+1}:=
  Ch.of_keep' O (λb M=>R.fo_b M) (λb o M e=>R.fo_code M e) λb o f e=>Y b o (λq=>f (.inl q)) e
 have N:∀{u v},VR Z.prog Z.w ok s.heap u v->VR Z.prog Z.w ok h' u v:=λr=>r.mono (λb o x e X=>Y b o (λq=>R.nl (q▸x)) e) λX X x X=>x;refine⟨λd H=>{R with nm:=nm d H,ns:=⟨_,t,λj w G e f=>?_⟩,cl:=λj w G k e f g=>?_,cx:=λG c e=>?_},ch,(λj m' k' w hj hm x=>?_),.inl ⟨rfl,_,t,by simp⟩,p.1⟩
 ·refine(H j w e).elim (λh=>h.elim λq hv=>?_) λh=>h.elim λq e=>?_
  ·have I:=qP (dE (E.symm.trans (q▸f)));exact⟨u,if_pos I.1.symm,N hv⟩
  ·refine A2 (b j w G e f) λQ x y=>?_;exact⟨Q,(if_neg λe=>q (Cz R.nd E (e▸f))).trans x,N y⟩
 ·refine(H j w e).elim (λh=>h.elim λq hv=>?_) λh=>h.elim λq e=>?_
  ·have I:=qP (dE (E.symm.trans (q▸f)));exact g.elim (λg=>qj (I.2.trans g)) λg=>qj (I.2.trans g)
  ·refine BJ (R.cl j w G k e f g) λc Q x y z=>?_;exact⟨c,Q,x,y.sameBut p (R.cx _ _ x).2.1,N z⟩
 ·(refine BO (R.cx G c e) λC z1 z2=>?_;obtain⟨x,y⟩:=C)
  exact⟨⟨x,y.sameBut p z1⟩,z1,z2⟩
 ·refine x.elim (λx=>A2 x.2 λf' J U=>.inl ⟨x.1,_,t,?_⟩) λx=>A2 x.2 λc J U=>.inr ⟨x.1,c,J,U.sameBut p (R.cx _ _ J).2.1⟩;exact(if_neg λe=>hj (qw.mpr (Cz R.nd (e▸hm) E))).trans ((show f'=f by simp only[J.eq_nsMap,a.eq_nsMap])▸U)
theorem EnvR.storeG(O:Z.Ok)(R:EnvR Z B l ok s.heap ρ){i:Nat}{u:gx}{m:pw}{k:qE}(G:B.names[i]?=dD (m,k))(hk:k=.local\/k=.cell):
  WP Z A (t5 l m u) (λX D=>(∀d:Ev,(∀j w,d.get j=dD w->(i=j/\VR Z.prog Z.w ok s.heap u w)\/(i≠j/\ρ.get j=dD w))->EnvR Z B l ok D.heap d)/\Ch Z (Fo B l) (λX=>False) s D/\Others B l [i] s.heap D.heap/\LocAt l D.heap m k u) s:=by
 rcases hk with rfl|rfl
 ·exact pF (R.storeGl O G) (λX X h=>⟨h.1,h.2.1,h.2.2.1,h.2.2.2.1⟩) λX X e=>e
 ·have Q:=A8 R.nd G;have nm:∀d:Ev,(∀j w,d.get j=dD w->(i=j/\VR Z.prog Z.w ok s.heap u w)\/(i≠j/\ρ.get j=dD w))->∀j w,d.get j=dD w->∃n k,B.names[j]?=dD (n,k)/\(k=.local\/k=.cell\/k=.free):=λd H j w e=>by
   rcases H j w e with⟨q,_⟩|⟨q,e⟩
   ·refine q▸?_;exact⟨m,.cell,G,Or.inr (Or.inl rfl)⟩
   ·exact R.nm j w e
  have U:l.kindOf m=dD .cell:=by rcases R.kd m _ Q with h|⟨h,_⟩;exact h;cases h
  refine A2 (R.ce m Q) λc I X=>?_
  (refine BO (R.cx m c I) λJ z1 z2=>?_;obtain⟨v0,Y⟩:=J)
  refine wpAny_storeName_cell R.fn U I Y λh' L E=>?_;have kp:∀b o,b≠c->s.heap.get? b=dD o->h'.get? b=dD o:=λb o ne e=>E.extBut b o ne e;have ch:Ch Z (Fo B l) (λX=>False) s {s with heap:=h'}:=
   Ch.of_keep' (tk:=s.toks) O (λb hb=>R.fo_b hb) (λb o hb e=>R.fo_code hb e) λb o f e=>kp b o (λq=>f (.inr ⟨m,Q,q▸I⟩)) e
  have vr:∀{u v},VR Z.prog Z.w ok s.heap u v->VR Z.prog Z.w ok h' u v:=λr=>r.mono (λb o x e X=>kp b o (λq=>z2 (q▸x)) e) λX X x X=>x;refine A2 R.ns λf a b=>?_;have p:∀{t C x},l.cells.lookup t=dD C->t≠m->s.heap.IsCell C x->h'.IsCell C x:=λ{t C x} e ne y=>y.sameBut E λq=>ne (R.ap _ _ _ (q▸e) I);refine⟨λd H=>{R with nm:=nm d H,ns:=⟨f,a.sameBut E (ub z1),λj w t e f=>?_⟩,cl:=λj w t k e f g=>?_,cx:=λt C e=>?_},ch,λj m' k' w hj hm x=>?_,.inr ⟨rfl,c,I,L⟩⟩
  ·refine(H j w e).elim (λh=>h.elim λq hv=>?_) λh=>h.elim λq e=>?_
   ·exact qj (qP (dE (G.symm.trans (q▸f)))).2
   ·refine A2 (b j w t e f) λu' x y=>?_;exact⟨u',x,vr y⟩
  ·refine(H j w e).elim (λh=>h.elim λq hv=>?_) λh=>h.elim λq e=>?_
   ·have fq:=qP (dE (G.symm.trans (q▸f)));exact⟨c,u,fq.1▸I,L,vr hv⟩
   ·refine BJ (R.cl j w t k e f g) λC u' x y z=>?_;exact⟨C,u',x,p x (λe=>q (Cz R.nd G (e▸f))) y,vr z⟩
  ·(refine BO (R.cx t C e) λM w1 w2=>?_;obtain⟨x,y⟩:=M)
   refine⟨?_,w1,w2⟩;by_cases q:t=m
   ·exact⟨_,dE (I.symm.trans (q▸e))▸L⟩
   ·exact⟨x,p e q y⟩
  ·exact x.elim (λx=>A2 x.2 λf' N b'=>.inl ⟨x.1,f',N.sameBut E (ub z1),b'⟩) λx=>A2 x.2 λC N b'=>.inr ⟨x.1,C,N,p N (λe=>hj (qw.mpr (Cz R.nd (e▸hm) G))) b'⟩
theorem EnvR.store'(O:Z.Ok)(R:EnvR Z B l ok s.heap ρ){i:Nat}{u:gx}{v:V}{m:pw}{k:qE}(a:B.names[i]?=dD (m,k))(b:k=.local\/k=.cell)(c:VR Z.prog Z.w ok s.heap u v):
  WP Z A (t5 l m u) (λz D=>EnvR Z B l ok D.heap (ρ.put i v)/\Ch Z (Fo B l) (λz=>False) s D/\Others B l [i] s.heap D.heap/\LocAt l D.heap m k u) s:=
 pF (R.storeG O a b) (λz d h=>⟨h.1 _ (U9 c),h.2⟩) λz z e=>e
theorem Others.trans{c d:List Nat}{e f g:qX}(a:Others B l c e f)(b:Others B l d f g):Others B l (c++d) e g:=λj m k w i n x=>b j m k w (λq=>i (tK _ q)) n (a j m k w (λq=>i (u4 _ q)) n x)
theorem EnvR.store(O:Z.Ok)(R:EnvR Z B l ok s.heap ρ){i:Nat}{u:gx}{v:V}{n:pw}{k:qE}(a:B.names[i]?=dD (n,k))(b:k=.local\/k=.cell)(c:VR Z.prog Z.w ok s.heap u v):
  WP Z A (t5 l n u) (λz D=>EnvR Z B l ok D.heap (ρ.put i v)/\Ch Z (Fo B l) (λz=>False) s D) s:=A1 (R.store' O a b c) λz z h=>⟨h.1,h.2.1⟩
end
noncomputable section
theorem dt{c:Prop} [Decidable c] {f:c->Bool}(h:(if q:c then f q else fG)=er):∃q,f q=er:=by
 by_cases q:c
 ·rw[dif_pos q]at h;exact⟨q,h⟩
 ·rw[dif_neg q]at h;exact absurd h sR
theorem dq{c:Prop} [Decidable c] {f:c->Bool}(h:(if q:c then f q else fG)=er):c:=(dt h).1
noncomputable def o1{b:Type}(l:List b)(k:b->Bool):Bool:=l.casesOn fG λa r=>r.casesOn (k a) λz z=>fG
theorem i1{b:Type}{l:List b}{k:b->Bool}(h:o1 l k=er):∃a,l=[a]/\k a=er:=
 match l,h with
 |[a],h=>⟨a,rfl,h⟩
noncomputable def o2{b:Type}(l:List b)(k:b->b->Bool):Bool:=l.casesOn fG λa r=>o1 r (k a)
theorem i2{c:Type}{l:List c}{k:c->c->Bool}(h:o2 l k=er):∃a b,l=[a,b]/\k a b=er:=
 match l,h with
 |a::r,h=>let ⟨b,e,h⟩:=i1 (l:=r) h;⟨a,b,congrArg (a:: ·) e,h⟩
noncomputable def oS{a:Type}(o:Option a)(k:a->Bool):Bool:=o.casesOn fG k
theorem iS{b:Type}{o:Option b}{k:b->Bool}(h:oS o k=er):∃a,o=dD a/\k a=er:=
 match o,h with
 |some a,h=>⟨a,rfl,h⟩
noncomputable def o0{a:Type}(l:List a):Bool:=l.casesOn er λz z=>fG
theorem i0{a:Type}{l:List a}(h:o0 l=er):l=[]:=
 match l,h with
 |[],_=>rfl
noncomputable def oC{a:Type}(l:List a)(k:a->List a->Bool):Bool:=l.casesOn fG k
theorem iC{b:Type}{l:List b}{k:b->List b->Bool}(h:oC l k=er):∃a r,l=a::r/\k a r=er:=
 match l,h with
 |a::r,h=>⟨a,r,rfl,h⟩
noncomputable def eN(l:List rc)(k:f0->f0->List f0->List rc->Bool):Bool:=oC l λc r=>c.is_async==0&&k c.target c.iter c.ifs r
theorem lQ{l:List rc}{k:f0->f0->List f0->List rc->Bool}(h:eN l k=er):∃a b c r,l=⟨a,b,c,0⟩::r/\k a b c r=er:=
 let ⟨⟨a,b,c,n⟩,r,e,h⟩:=iC h
 let ⟨d,f⟩:=ba h
 ⟨a,b,c,r,e.trans (by rw[show n=0 from beq_iff_eq.mp d]),f⟩
noncomputable def PN(y:f0)(k:zr->List f0->tE->Bool):Bool:=if q:y.ctorIdx=0 then wP (motive_1:=λz=>Bool) y q k else fG
theorem ZR{y:f0}{k:zr->List f0->tE->Bool}(h:PN y k=er):∃a b c,y=.BoolOp a b c/\k a b c=er:=
 let ⟨q,h⟩:=dt h
 wP (motive_1:=λy=>∀q,wP (motive_1:=λz=>Bool) y q k=er->∃a b c,y=.BoolOp a b c/\k a b c=er) y q (λa b c z h=>⟨a,b,c,rfl,h⟩) q h
theorem fy{y:f0}{k:zr->List f0->tE->Bool}(h:PN y k=er):y.ctorIdx=0:=dq h
noncomputable def ci(y:f0)(k:f0->qp->f0->tE->Bool):Bool:=if q:y.ctorIdx=2 then wa (motive_1:=λz=>Bool) y q k else fG
theorem pA{y:f0}{k:f0->qp->f0->tE->Bool}(h:ci y k=er):∃a b c d,y=.BinOp a b c d/\k a b c d=er:=
 let ⟨q,h⟩:=dt h
 wa (motive_1:=λy=>∀q,wa (motive_1:=λz=>Bool) y q k=er->∃a b c d,y=.BinOp a b c d/\k a b c d=er) y q (λa b c d z h=>⟨a,b,c,d,rfl,h⟩) q h
theorem oY{y:f0}{k:f0->qp->f0->tE->Bool}(h:ci y k=er):y.ctorIdx=2:=dq h
noncomputable def kP(y:f0)(k:zY->f0->tE->Bool):Bool:=if q:y.ctorIdx=3 then wC (motive_1:=λz=>Bool) y q k else fG
theorem pT{y:f0}{k:zY->f0->tE->Bool}(h:kP y k=er):∃a b c,y=.UnaryOp a b c/\k a b c=er:=
 let ⟨q,h⟩:=dt h
 wC (motive_1:=λy=>∀q,wC (motive_1:=λz=>Bool) y q k=er->∃a b c,y=.UnaryOp a b c/\k a b c=er) y q (λa b c z h=>⟨a,b,c,rfl,h⟩) q h
theorem ra{y:f0}{k:zY->f0->tE->Bool}(h:kP y k=er):y.ctorIdx=3:=dq h
noncomputable def oD(y:f0)(k:f0->f0->f0->tE->Bool):Bool:=if q:y.ctorIdx=5 then wb (motive_1:=λz=>Bool) y q k else fG
theorem ro{y:f0}{k:f0->f0->f0->tE->Bool}(h:oD y k=er):∃a b c d,y=.IfExp a b c d/\k a b c d=er:=
 let ⟨q,h⟩:=dt h
 wb (motive_1:=λy=>∀q,wb (motive_1:=λz=>Bool) y q k=er->∃a b c d,y=.IfExp a b c d/\k a b c d=er) y q (λa b c d z h=>⟨a,b,c,d,rfl,h⟩) q h
theorem rg{y:f0}{k:f0->f0->f0->tE->Bool}(h:oD y k=er):y.ctorIdx=5:=dq h
noncomputable def NC(y:f0)(k:List (Option f0)->List f0->tE->Bool):Bool:=if q:y.ctorIdx=6 then wt (motive_1:=λz=>Bool) y q k else fG
theorem Sw{y:f0}{k:List (Option f0)->List f0->tE->Bool}(h:NC y k=er):∃a b c,y=.Dict a b c/\k a b c=er:=
 let ⟨q,h⟩:=dt h
 wt (motive_1:=λy=>∀q,wt (motive_1:=λz=>Bool) y q k=er->∃a b c,y=.Dict a b c/\k a b c=er) y q (λa b c z h=>⟨a,b,c,rfl,h⟩) q h
noncomputable def Uk(y:f0)(k:f0->List rc->o5->tE->Bool):Bool:=if q:y.ctorIdx=8 then vk (motive_1:=λz=>Bool) y q k else fG
theorem iG{y:f0}{k:f0->List rc->o5->tE->Bool}(h:Uk y k=er):∃a b c d,y=.ListComp a b c d/\k a b c d=er:=
 let ⟨q,h⟩:=dt h
 vk (motive_1:=λy=>∀q,vk (motive_1:=λz=>Bool) y q k=er->∃a b c d,y=.ListComp a b c d/\k a b c d=er) y q (λa b c d z h=>⟨a,b,c,d,rfl,h⟩) q h
theorem kE{y:f0}{k:f0->List rc->o5->tE->Bool}(h:Uk y k=er):y.ctorIdx=8:=dq h
noncomputable def dr(y:f0)(k:f0->List xG->List f0->tE->Bool):Bool:=if q:y.ctorIdx=15 then wD (motive_1:=λz=>Bool) y q k else fG
theorem nX{y:f0}{k:f0->List xG->List f0->tE->Bool}(h:dr y k=er):∃a b c d,y=.Compare a b c d/\k a b c d=er:=
 let ⟨q,h⟩:=dt h
 wD (motive_1:=λy=>∀q,wD (motive_1:=λz=>Bool) y q k=er->∃a b c d,y=.Compare a b c d/\k a b c d=er) y q (λa b c d z h=>⟨a,b,c,d,rfl,h⟩) q h
theorem nG{y:f0}{k:f0->List xG->List f0->tE->Bool}(h:dr y k=er):y.ctorIdx=15:=dq h
noncomputable def DE(y:f0)(k:f0->List f0->List Keyword->tE->Bool):Bool:=if q:y.ctorIdx=16 then wu (motive_1:=λz=>Bool) y q k else fG
theorem EN{y:f0}{k:f0->List f0->List Keyword->tE->Bool}(h:DE y k=er):∃a b c d,y=.Call a b c d/\k a b c d=er:=
 let ⟨q,h⟩:=dt h
 wu (motive_1:=λy=>∀q,wu (motive_1:=λz=>Bool) y q k=er->∃a b c d,y=.Call a b c d/\k a b c d=er) y q (λa b c d z h=>⟨a,b,c,d,rfl,h⟩) q h
theorem gX{y:f0}{k:f0->List f0->List Keyword->tE->Bool}(h:DE y k=er):y.ctorIdx=16:=dq h
noncomputable def O4(y:f0)(k:ABG->Nat->tE->Bool):Bool:=if q:y.ctorIdx=19 then vm (motive_1:=λz=>Bool) y q k else fG
theorem cC{y:f0}{k:ABG->Nat->tE->Bool}(h:O4 y k=er):∃a b c,y=.Constant a b c/\k a b c=er:=
 let ⟨q,h⟩:=dt h
 vm (motive_1:=λy=>∀q,vm (motive_1:=λz=>Bool) y q k=er->∃a b c,y=.Constant a b c/\k a b c=er) y q (λa b c z h=>⟨a,b,c,rfl,h⟩) q h
theorem aX{y:f0}{k:ABG->Nat->tE->Bool}(h:O4 y k=er):y.ctorIdx=19:=dq h
noncomputable def Ml(y:f0)(k:f0->pw->tE->Bool):Bool:=if q:y.ctorIdx=20 then vW (motive_1:=λz=>Bool) y q k else fG
theorem Vj{y:f0}{k:f0->pw->tE->Bool}(h:Ml y k=er):∃a b c,y=.Attribute a b c/\k a b c=er:=
 let ⟨q,h⟩:=dt h
 vW (motive_1:=λy=>∀q,vW (motive_1:=λz=>Bool) y q k=er->∃a b c,y=.Attribute a b c/\k a b c=er) y q (λa b c z h=>⟨a,b,c,rfl,h⟩) q h
noncomputable def To(y:f0)(k:f0->f0->tE->Bool):Bool:=if q:y.ctorIdx=21 then vX (motive_1:=λz=>Bool) y q k else fG
theorem d0{y:f0}{k:f0->f0->tE->Bool}(h:To y k=er):∃a b c,y=.Subscript a b c/\k a b c=er:=
 let ⟨q,h⟩:=dt h
 vX (motive_1:=λy=>∀q,vX (motive_1:=λz=>Bool) y q k=er->∃a b c,y=.Subscript a b c/\k a b c=er) y q (λa b c z h=>⟨a,b,c,rfl,h⟩) q h
theorem oA{y:f0}{k:f0->f0->tE->Bool}(h:To y k=er):y.ctorIdx=21:=dq h
noncomputable def B5(y:f0)(k:pw->tE->Bool):Bool:=if q:y.ctorIdx=23 then ww (motive_1:=λz=>Bool) y q k else fG
theorem BG{y:f0}{k:pw->tE->Bool}(h:B5 y k=er):∃a b,y=.Name a b/\k a b=er:=
 let ⟨q,h⟩:=dt h
 ww (motive_1:=λy=>∀q,ww (motive_1:=λz=>Bool) y q k=er->∃a b,y=.Name a b/\k a b=er) y q (λa b z h=>⟨a,b,rfl,h⟩) q h
theorem i6{y:f0}{k:pw->tE->Bool}(h:B5 y k=er):y.ctorIdx=23:=dq h
noncomputable def SQ(y:f0)(k:List f0->tE->Bool):Bool:=if q:y.ctorIdx=24 then wx (motive_1:=λz=>Bool) y q k else fG
theorem iD{y:f0}{k:List f0->tE->Bool}(h:SQ y k=er):∃a b,y=.List a b/\k a b=er:=
 let ⟨q,h⟩:=dt h
 wx (motive_1:=λy=>∀q,wx (motive_1:=λz=>Bool) y q k=er->∃a b,y=.List a b/\k a b=er) y q (λa b z h=>⟨a,b,rfl,h⟩) q h
theorem gy{y:f0}{k:List f0->tE->Bool}(h:SQ y k=er):y.ctorIdx=24:=dq h
noncomputable def Kq(y:f0)(k:List f0->Nat->tE->Bool):Bool:=if q:y.ctorIdx=25 then vB (motive_1:=λz=>Bool) y q k else fG
theorem MS{y:f0}{k:List f0->Nat->tE->Bool}(h:Kq y k=er):∃a b c,y=.Tuple a b c/\k a b c=er:=
 let ⟨q,h⟩:=dt h
 vB (motive_1:=λy=>∀q,vB (motive_1:=λz=>Bool) y q k=er->∃a b c,y=.Tuple a b c/\k a b c=er) y q (λa b c z h=>⟨a,b,c,rfl,h⟩) q h
theorem ou{y:f0}{k:List f0->Nat->tE->Bool}(h:Kq y k=er):y.ctorIdx=25:=dq h
noncomputable def Op(y:f0)(k:Option f0->Option f0->Option f0->tE->Bool):Bool:=if q:y.ctorIdx=26 then wc (motive_1:=λz=>Bool) y q k else fG
theorem ei{y:f0}{k:Option f0->Option f0->Option f0->tE->Bool}(h:Op y k=er):∃a b c d,y=.Slice a b c d/\k a b c d=er:=
 let ⟨q,h⟩:=dt h
 wc (motive_1:=λy=>∀q,wc (motive_1:=λz=>Bool) y q k=er->∃a b c d,y=.Slice a b c d/\k a b c d=er) y q (λa b c d z h=>⟨a,b,c,d,rfl,h⟩) q h
noncomputable def iL(y:pt)(k:Option f0->tE->Bool):Bool:=if q:y.ctorIdx=3 then wQ (motive_2:=λz=>Bool) y q k else fG
theorem oZ{y:pt}{k:Option f0->tE->Bool}(h:iL y k=er):∃a b,y=.Return a b/\k a b=er:=
 let ⟨q,h⟩:=dt h
 wQ (motive_2:=λy=>∀q,wQ (motive_2:=λz=>Bool) y q k=er->∃a b,y=.Return a b/\k a b=er) y q (λa b z h=>⟨a,b,rfl,h⟩) q h
noncomputable def Jk(y:pt)(k:List f0->f0->tE->Bool):Bool:=if q:y.ctorIdx=5 then wR (motive_2:=λz=>Bool) y q k else fG
theorem LI{y:pt}{k:List f0->f0->tE->Bool}(h:Jk y k=er):∃a b c,y=.Assign a b c/\k a b c=er:=
 let ⟨q,h⟩:=dt h
 wR (motive_2:=λy=>∀q,wR (motive_2:=λz=>Bool) y q k=er->∃a b c,y=.Assign a b c/\k a b c=er) y q (λa b c z h=>⟨a,b,c,rfl,h⟩) q h
noncomputable def kX(y:pt)(k:f0->qp->f0->tE->Bool):Bool:=if q:y.ctorIdx=7 then vY (motive_2:=λz=>Bool) y q k else fG
theorem pU{y:pt}{k:f0->qp->f0->tE->Bool}(h:kX y k=er):∃a b c d,y=.AugAssign a b c d/\k a b c d=er:=
 let ⟨q,h⟩:=dt h
 vY (motive_2:=λy=>∀q,vY (motive_2:=λz=>Bool) y q k=er->∃a b c d,y=.AugAssign a b c d/\k a b c d=er) y q (λa b c d z h=>⟨a,b,c,d,rfl,h⟩) q h
noncomputable def dy(y:pt)(k:f0->f0->List pt->List pt->tE->Bool):Bool:=if q:y.ctorIdx=9 then xA (motive_2:=λz=>Bool) y q k else fG
theorem jA{y:pt}{k:f0->f0->List pt->List pt->tE->Bool}(h:dy y k=er):∃a b c d e,y=.For a b c d e/\k a b c d e=er:=
 let ⟨q,h⟩:=dt h
 xA (motive_2:=λy=>∀q,xA (motive_2:=λz=>Bool) y q k=er->∃a b c d e,y=.For a b c d e/\k a b c d e=er) y q (λa b c d e z h=>⟨a,b,c,d,e,rfl,h⟩) q h
noncomputable def SP(y:pt)(k:f0->List pt->List pt->tE->Bool):Bool:=if q:y.ctorIdx=11 then wd (motive_2:=λz=>Bool) y q k else fG
theorem bZ{y:pt}{k:f0->List pt->List pt->tE->Bool}(h:SP y k=er):∃a b c d,y=.While a b c d/\k a b c d=er:=
 let ⟨q,h⟩:=dt h
 wd (motive_2:=λy=>∀q,wd (motive_2:=λz=>Bool) y q k=er->∃a b c d,y=.While a b c d/\k a b c d=er) y q (λa b c d z h=>⟨a,b,c,d,rfl,h⟩) q h
noncomputable def iJ(y:pt)(k:f0->List pt->List pt->tE->Bool):Bool:=if q:y.ctorIdx=12 then xR (motive_2:=λz=>Bool) y q k else fG
theorem mz{y:pt}{k:f0->List pt->List pt->tE->Bool}(h:iJ y k=er):∃a b c d,y=.If a b c d/\k a b c d=er:=
 let ⟨q,h⟩:=dt h
 xR (motive_2:=λy=>∀q,xR (motive_2:=λz=>Bool) y q k=er->∃a b c d,y=.If a b c d/\k a b c d=er) y q (λa b c d z h=>⟨a,b,c,d,rfl,h⟩) q h
noncomputable def Om(y:pt)(k:f0->tE->Bool):Bool:=if q:y.ctorIdx=24 then wy (motive_2:=λz=>Bool) y q k else fG
theorem Si{y:pt}{k:f0->tE->Bool}(h:Om y k=er):∃a b,y=.Expr a b/\k a b=er:=
 let ⟨q,h⟩:=dt h
 wy (motive_2:=λy=>∀q,wy (motive_2:=λz=>Bool) y q k=er->∃a b,y=.Expr a b/\k a b=er) y q (λa b z h=>⟨a,b,rfl,h⟩) q h
theorem RZ{y:f0}(h:lf y.ctorIdx 25=er):∃a b c,y=.Tuple a b c:=vB (motive_1:=λy=>∃a b c,y=.Tuple a b c) y (lk h) λa b c=>⟨a,b,c,rfl⟩
end
section
set_option backward.eqns.nonrecursive false
set_option backward.eqns.deepRecursiveSplit false
inductive T|one(i:Nat)|many(is:List Nat)
mutual
inductive X
 |c (v:V)
 |v (i:Nat)
 |gl (k:Nat)
 |b (o:qp) (l r:X)
 |neg (x:X)
 |inv (x:X)
 |not (x:X)
 |and (xs:XL)
 |or (xs:XL)
 |q (l:X) (o:xG) (r:X)
 |ite (t b e:X)
 |sub (o i:X)
 |sl (o:X) (l u s:XO)
 |call (f:Nat) (as:XL)
 |bi (f:BI) (as:XL)
 |lr (as:XL)
 |me (o:X) (m:MI) (as:XL)
 |l (xs:XL)
 |t (xs:XL)
 |cm (elt:X) (t:T) (it:It) (ifs:XO) (gs:GL) (fr:List (Nat×Nat))
inductive XL
 |nil
 |cons (x:X) (r:XL)
inductive XO
 |no
 |yes (x:X)
inductive GL
 |nil
 |cons (t:T) (it:It) (ifs:XO) (r:GL)
inductive It
 |val (x:X)
 |en (x:X)
 |zip (x y:X)
 |rg (as:XL)
 |rev (x:X)
 |gen (x:X)
end
noncomputable def putAll:List Nat->List V->Ev->Option Ev
 |[],[],a=>dD a
 |i::b,x::c,a=>putAll b c (a.put i x)
 |_,_,_=>eu
theorem JY{a:Ev}:putAll [] [] a=dD a:=rfl
theorem Ig{i:Nat}{a:List Nat}{x:V}{b:List V}{c:Ev}:putAll (i::a) (x::b) c=putAll a b (c.put i x):=rfl
noncomputable def BM:T->V->Ev->Option Ev
 |.one i,v,a=>dD (a.put i v)
 |.many b,.t c,a=>putAll b c a
 |_,_,_=>eu
noncomputable def T.names:T->List Nat
 |.one i=>[i]
 |.many a=>a
noncomputable def Ag(a:Ev):List Nat->Bool
 |[]=>er
 |i::r=>match a.get i with
  |none=>Ag a r
  |some _=>fG
theorem Dk{a:Ev}:Ag a []=er:=rfl
theorem Bz{a:Ev}{i:Nat}{r:List Nat}:Ag a (i::r)=
  match a.get i with
  |none=>Ag a r
  |some val=>fG:=rfl
noncomputable def EM(t:T)(v:V)(a:Ev):Option Ev:=match Ag a t.names with
 |true=>BM t v a
 |false=>eu
noncomputable def Bu(a:Ev):List (Nat×Nat)->Ev
 |[]=>[]
 |(i,j)::r=>match a.get j with
  |some v=>(i,v)::Bu a r
  |none=>Bu a r
theorem E7{a:Ev}:Bu a []=[]:=rfl
theorem C2{a:Ev}{i j:Nat}{r:List (Nat×Nat)}:Bu a ((i,j)::r)=
  match a.get j with
  |some v=>(i,v)::Bu a r
  |none=>Bu a r:=rfl
noncomputable def Br:Nat->Bool->List Nat->List V
 |i,a,[]=>match a,i with
  |true,j+1=>[.t [.int j,.str [92]]]
  |_,_=>[]
 |i,er,c::r=>.t [.int i,.str [92,c]]::Br (i+1) fG r
 |i,fG,c::r=>match lf c 92 with
  |true=>Br (i+1) er r
  |false=>.t [.int i,.str [c]]::Br (i+1) fG r
theorem WE{i c:Nat}{r:List Nat}:Br i er (c::r)=.t [.int i,.str [92,c]]::Br (i+1) fG r:=rfl
theorem Ox{i c:Nat}{r:List Nat}:Br i fG (c::r)=match lf c 92 with
  |true=>Br (i+1) er r
  |false=>.t [.int i,.str [c]]::Br (i+1) fG r:=rfl
theorem TJ{i:Nat}:Br i fG []=[]:=rfl
theorem Vy{i:Nat}:Br (i+1) er []=[.t [.int i,.str [92]]]:=rfl
noncomputable def Ai(t:T)(c:Ev)(a:Ev->Option (List V)):List V->Option (List V)
 |[]=>dD []
 |v::d=>match EM t v c with
  |some b=>match a b with
   |some e=>match Ai t c a d with
    |some f=>dD (e++f)
    |none=>eu
   |none=>eu
  |none=>eu
theorem LO{t:T}{b:Ev}{a:Ev->Option (List V)}:Ai t b a []=dD []:=rfl
theorem FR{t:T}{b:Ev}{a:Ev->Option (List V)}{v:V}{d:List V}:Ai t b a (v::d)=
  match EM t v b with
  |some c=>
   match a c with
   |some e=>
    match Ai t b a d with
    |some f=>dD (e++f)
    |none=>eu
   |none=>eu
  |none=>eu:=rfl
noncomputable def Ni:List (pw×V):=[("ONE_THIRD",.fl 4599676419421066581),("ONE_SIXTH",.fl 4595172819793696085),("TWO_THIRD",.fl 4604180019048437077),
 ("_DIV_LIMIT",.int 4000),("_MAX_STRING_SIZE",.int 40),("_MOVE_COST",.int 2),("_CASE_COST",.int 1)]
noncomputable def jw:List pw:=["_iter_escaped_chars","_strip_quoted_realnames","_check_parenthesis","_pre_parse_validation","_div2n1n","_div3n2n","_int2digits","_digits2int","_divmod_pos","int_divmod",
 "rgb_to_hls","hls_to_rgb","_v","rgb_to_hsv","hsv_to_rgb","_substitution_cost","_levenshtein_distance","_law_tables","_law_flip","_law_boards","_law_row","_law_mates","_law_hook","law"]
noncomputable def BI.nm:BI->pw
 |.len=>"len"
 |.list=>"list"
 |.tuple=>"tuple"
 |.sum=>"sum"
 |.abs=>"abs"
 |.min=>"min"
 |.max=>"max"
 |.int=>"int"
 |.divmod=>"divmod"
noncomputable def RT(k:Nat):Option V:=match Ni[k]? with
 |some p=>dD p.2
 |none=>eu
noncomputable abbrev Cl:=Nat->List V->Option V
noncomputable def Aj(f:V->V->Option V)(a b:Option V):Option V:=match a,b with
 |some x,dD y=>f x y
 |_,_=>eu
noncomputable def tr(v:Option V):Option Bool:=match v with
 |some x=>AI x
 |none=>eu
noncomputable def Ao(b:Option Bool):Option V:=match b with
 |some c=>dD (.bool c)
 |none=>eu
noncomputable def N8:V->Option V
 |.int i=>dD (.int (-i))
 |_=>eu
noncomputable def Tc:V->Option V
 |.int i=>dD (.int (sH i))
 |_=>eu
noncomputable def Fc(v:Option V):Option (Option Int):=match v with
 |some (.int i)=>dD (dD i)
 |some .none=>dD eu
 |_=>eu
noncomputable def Lm(o:Option V)(l u s:Option (Option Int)):Option V:=match o,l,u,s with
 |some a,dD x,dD y,dD z=>R6 a x y z
 |_,_,_,_=>eu
noncomputable def Z5(v:Option V):Option (List V):=match v with
 |some (.l a)=>dD a
 |some (.t a)=>dD a
 |some (.d ks _)=>dD (ks.map .str)
 |_=>eu
noncomputable def Rk(v:Option V):Option (List V):=match v with
 |some (.l a)=>dD a
 |some (.t a)=>dD a
 |_=>eu
noncomputable def Mn(a b:Option V):Option (List V):=match a,b with
 |some (.l c),dD (.l d)=>dD (FV c d)
 |some (.t c),dD (.t d)=>dD (FV c d)
 |_,_=>eu
noncomputable def Ly(v:Option V):Option (List V):=match v with
 |some (.l a)=>dD a.reverse
 |_=>eu
noncomputable def Mg(v:Option V):Option (List V):=match v with
 |some (.str s)=>match A5 s with
  |true=>dD (Br 0 fG s)
  |false=>eu
 |_=>eu
noncomputable def EV(v:Option (List V)):Option V:=match v with
 |some a=>match A5 a with
  |true=>dD (.l a)
  |false=>eu
 |none=>eu
noncomputable def Hw(v:Option (List V)):Option V:=match v with
 |some a=>match A5 a with
  |true=>dD (.t a)
  |false=>eu
 |none=>eu
noncomputable def one(v:Option V):Option (List V):=match v with
 |some x=>dD [x]
 |none=>eu
noncomputable def BD(b:Option Bool)(k:Option (List V)):Option (List V):=match b with
 |some er=>k
 |some fG=>dD []
 |none=>eu
mutual
noncomputable def ev(d:Cl):X->Ev->Option V
 |.c v,_=>dD v
 |.v i,c=>c.get i
 |.gl k,_=>RT k
 |.b o l r,c=>Aj (AD o) (ev d l c) (ev d r c)
 |.neg x,c=>match ev d x c with
  |some v=>N8 v
  |none=>eu
 |.inv x,c=>match ev d x c with
  |some v=>Tc v
  |none=>eu
 |.not x,c=>match tr (ev d x c)with
  |some b=>dD (.bool (!b))
  |none=>eu
 |.and g,c=>I9 d g c
 |.or g,c=>IG d g c
 |.q l o r,c=>match ev d l c,ev d r c with
  |some a,dD b=>Ao (Cd o a b)
  |_,_=>eu
 |.ite t b e,c=>match tr (ev d t c)with
  |some er=>ev d b c
  |some fG=>ev d e c
  |none=>eu
 |.sub o i,c=>Aj C0 (ev d o c) (ev d i c)
 |.sl o l u s,c=>Lm (ev d o c) (PQ d l c) (PQ d u c) (PQ d s c)
 |.call f j,c=>match EE d j c with
  |some h=>d f h
  |none=>eu
 |.bi f j,c=>match EE d j c with
  |some h=>Ju f h
  |none=>eu
 |.lr j,c=>match EE d j c with
  |some h=>match JW h with
   |some g=>dD (.l g)
   |none=>eu
  |none=>eu
 |.me o m j,c=>match ev d o c,EE d j c with
  |some v,dD h=>Qt m v h
  |_,_=>eu
 |.l g,c=>EV (EE d g c)
 |.t g,c=>Hw (EE d g c)
 |.cm p t A w B D,c=>match EW d A c with
  |some h=>EV (Ai t (Bu c D) (λn=>BD (Hk d w n) (Jl d B n λy=>one (ev d p y))) h)
  |none=>eu
noncomputable def EE(a:Cl):XL->Ev->Option (List V)
 |.nil,_=>dD []
 |.cons x r,b=>match ev a x b,EE a r b with
  |some v,dD c=>dD (v::c)
  |_,_=>eu
noncomputable def I9(b:Cl):XL->Ev->Option V
 |.nil,_=>eu
 |.cons x .nil,a=>ev b x a
 |.cons x r,a=>match ev b x a with
  |some v=>match AI v with
   |some er=>I9 b r a
   |some fG=>dD v
   |none=>eu
  |none=>eu
noncomputable def IG(b:Cl):XL->Ev->Option V
 |.nil,_=>eu
 |.cons x .nil,a=>ev b x a
 |.cons x r,a=>match ev b x a with
  |some v=>match AI v with
   |some er=>dD v
   |some fG=>IG b r a
   |none=>eu
  |none=>eu
noncomputable def PQ(a:Cl):XO->Ev->Option (Option Int)
 |.no,_=>dD eu
 |.yes x,b=>Fc (ev a x b)
noncomputable def Hk(a:Cl):XO->Ev->Option Bool
 |.no,_=>dD er
 |.yes x,b=>tr (ev a x b)
noncomputable def EW(b:Cl):It->Ev->Option (List V)
 |.val x,a=>Z5 (ev b x a)
 |.en x,a=>match Rk (ev b x a)with
  |some c=>dD (Fl 0 c)
  |none=>eu
 |.zip x y,a=>Mn (ev b x a) (ev b y a)
 |.rg d,a=>match EE b d a with
  |some e=>JW e
  |none=>eu
 |.rev x,a=>Ly (ev b x a)
 |.gen x,a=>Mg (ev b x a)
noncomputable def Jl(c:Cl):GL->Ev->(Ev->Option (List V))->Option (List V)
 |.nil,b,k=>k b
 |.cons t e d r,b,k=>match EW c e b with
  |some f=>Ai t b (λa=>BD (Hk c d a) (Jl c r a k)) f
  |none=>eu
end
noncomputable def FT(a:o5)(i:Nat)(n:pw):Bool:=match a.names[i]? with
 |some (m,k)=>m==n&&(k== .local||k== .cell||k== .free)&&n !=("__debug__" :pw)&&n !=("__classdict__" :pw)
 |none=>fG
noncomputable def BA(a:o5)(i:Nat)(n:pw):Bool:=match a.names[i]? with
 |some (m,k)=>m==n&&(k== .local||k== .cell)
 |none=>fG
noncomputable def B0(a:o5)(n m:pw):Bool:=n==m&&a.names.lookup n==dD .globalImplicit&&n !=("__debug__" :pw)
noncomputable def Qp:V->ABG->Bool
 |.none,.none=>er
 |.bool b,.bool c=>b==c
 |.int i,.int j=>i==j
 |.str s,.str t=>AP s==t
 |.fl x,.float y=>x==y
 |_,_=>fG
noncomputable def EK(b:o5):List Nat->List f0->Bool
 |[],a=>o0 a
 |i::c,a=>oC a λe r=>B5 e λn z=>BA b i n&&EK b c r
noncomputable def D2(a:o5)(t:T)(b:f0):Bool:=t.casesOn (λi=>B5 b λn z=>BA a i n) λc=>Kq b λd z z=>EK a c d
noncomputable def L0(e:f0):Bool:=!lf e.ctorIdx 16
noncomputable def GR(b a:o5):List (Nat×Nat)->Bool
 |[]=>er
 |(i,j)::r=>(match a.names[i]?,b.names[j]? with
  |some (n,k),dD (m,c)=>n==m&&k== .free&&(c== .cell||c== .free)
  |_,_=>fG)&&GR b a r
noncomputable def KW(sc a:o5):Bool:=a.kind== .function&&decide (a.names.map (·.1)).Nodup&&
 a.names.all λp=>p.2 !=.free||sc.names.lookup p.1==dD .cell||sc.names.lookup p.1==dD .free
noncomputable def Jh(a:It)(e:f0):Bool:=match a with
 |.en _=>lf e.ctorIdx 25
 |.zip _ _=>lf e.ctorIdx 25
 |_=>er
noncomputable def WO(a:List f0):Bool:=pq a.length 20
mutual
noncomputable def AH:o5->X->f0->Bool
 |_,.c v,e=>O4 e λc z z=>Qp v c
 |d,.v i,e=>B5 e λn z=>FT d i n
 |d,.gl k,e=>B5 e λn z=>match Ni[k]? with
  |some p=>B0 d n p.1
  |none=>fG
 |d,.b o l r,e=>ci e λa A b z=>o==A&&(AH d l a&&AH d r b)
 |d,.neg x,e=>kP e λo a z=>UnaryOp.USub==o&&AH d x a
 |d,.inv x,e=>kP e λo a z=>UnaryOp.Invert==o&&AH d x a
 |d,.not x,e=>kP e λo a z=>UnaryOp.Not==o&&AH d x a
 |d,.and w,e=>PN e λo h z=>BoolOp.And==o&&Bo d w h
 |d,.or w,e=>PN e λo h z=>BoolOp.Or==o&&Bo d w h
 |d,.q l o r,e=>dr e λa os B z=>o1 os λA=>o1 B λb=>o==A&&(!AD2 o b&&(AH d l a&&AH d r b))
 |d,.ite t b f,e=>oD e λJ L M z=>AH d t J&&(AH d b L&&AH d f M)
 |d,.sub o i,e=>To e λa b z=>AH d o a&&AH d i b
 |d,.sl o l u s,e=>To e λa b z=>Op b λN O Q z=>AH d o a&&(Nc d l N&&(Nc d u O&&Nc d s Q))
 |d,.call f y,e=>DE e λg h ks z=>o0 ks&&B5 g λn z=>match jw[f]? with
  |some m=>B0 d n m&&(WO h&&Bo d y h)
  |none=>fG
 |d,.bi f y,e=>DE e λg h ks z=>o0 ks&&B5 g λn z=>B0 d n f.nm&&(WO h&&Bo d y h)
 |d,.lr y,e=>DE e λg B ks z=>o0 ks&&B5 g λn z=>o1 B λb=>DE b λU h D z=>o0 D&&B5 U λm z=>B0 d n "list" &&(B0 d m "range" &&(WO h&&Bo d y h))
 |d,.me o m y,e=>DE e λg h ks p=>o0 ks&&Ml g λa n Y=>m.name==n&&(L0 a&&(Y.endLine==p.line&&(WO h&&(AH d o a&&Bo d y h))))
 |d,.l w,e=>SQ e λh z=>Bo d w h
 |d,.t w,e=>Kq e λh z z=>Bo d w h
 |d,.cm E t H G gs fr,e=>Uk e λx cs j z=>eN cs λI ie fs r=>KW d j&&(GR d j fr&&(D2 j t I&&(Jh H I&&(Gh d H ie&&(W7 j G fs&&(Qo j gs r&&AH j E x))))))
noncomputable def Bo:o5->XL->List f0->Bool
 |_,.nil,l=>o0 l
 |a,.cons x r,l=>oC l λe b=>AH a x e&&Bo a r b
noncomputable def Nc:o5->XO->Option f0->Bool
 |_,.no,o=>o.isNone
 |a,.yes x,o=>oS o λe=>AH a x e
noncomputable def W7:o5->XO->List f0->Bool
 |_,.no,l=>o0 l
 |a,.yes x,l=>o1 l λe=>AH a x e
noncomputable def Gh:o5->It->f0->Bool
 |c,.val x,e=>AH c x e
 |c,.en x,e=>DE e λg d ks z=>o0 ks&&B5 g λn z=>o1 d λa=>B0 c n "enumerate" &&AH c x a
 |c,.zip x y,e=>DE e λg d ks z=>o0 ks&&B5 g λn z=>o2 d λa b=>B0 c n "zip" &&(AH c x a&&AH c y b)
 |c,.rg f,e=>DE e λg d ks z=>o0 ks&&B5 g λn z=>B0 c n "range" &&(WO d&&Bo c f d)
 |c,.rev x,e=>DE e λg d ks z=>o0 ks&&B5 g λn z=>o1 d λa=>B0 c n "reversed" &&AH c x a
 |_,.gen _,_=>fG
noncomputable def Qo:o5->GL->List rc->Bool
 |_,.nil,l=>o0 l
 |a,.cons t c b r,l=>eN l λd e f g=>D2 a t d&&(Jh c d&&(Gh a c e&&(W7 a b f&&Qo a r g)))
end
noncomputable def Tk(b:o5):It->f0->Bool
 |.gen x,e=>DE e λg c ks z=>o0 ks&&B5 g λn z=>o1 c λa=>B0 b n "_iter_escaped_chars" &&AH b x a
 |_,_=>fG
section
variable{q:Type}{z:q}{C:Prop}
theorem bS{b:Bool}{x:Option q}(h:(match b with|true=>x|false=>eu)=dD z)(k:b=er->x=dD z->C):C:=by
 induction b using qV with
 |true=>exact k rfl h
 |false=>exact nS h
theorem oV{o:Option V}{f:V->Option q}(h:(match o with|some v=>f v|none=>eu)=dD z)(k:∀v,o=dD v->f v=dD z->C):C:=by
 induction o using m8 with
 |some v=>exact k v rfl h
 |none=>exact nS h
theorem oE{o:Option Ev}{f:Ev->Option q}(h:(match o with|some v=>f v|none=>eu)=dD z)(k:∀v,o=dD v->f v=dD z->C):C:=by
 induction o using m8 with
 |some v=>exact k v rfl h
 |none=>exact nS h
theorem oL{o:Option (List V)}{f:List V->Option q}(h:(match o with|some v=>f v|none=>eu)=dD z)(k:∀v,o=dD v->f v=dD z->C):C:=by
 induction o using m8 with
 |some v=>exact k v rfl h
 |none=>exact nS h
theorem oB{o:Option Bool}{f:Bool->Option q}(h:(match o with|some v=>f v|none=>eu)=dD z)(k:∀v,o=dD v->f v=dD z->C):C:=by
 induction o using m8 with
 |some v=>exact k v rfl h
 |none=>exact nS h
theorem ZX{o:Option Bool}{x y:Option q}(h:(match o with|some er=>x|some fG=>y|none=>eu)=dD z)(k:o=dD er->x=dD z->C)(a:o=dD fG->y=dD z->C):C:=by
 induction o using m8 with
 |some v=>induction v using qV with
  |true=>exact k rfl h
  |false=>exact a rfl h
 |none=>exact nS h
theorem f7{o p:Option V}{f:V->V->Option q}(h:(match o,p with|some v,dD u=>f v u|_,_=>eu)=dD z)(k:∀v u,o=dD v->p=dD u->f v u=dD z->C):C:=by
 induction o using m8 with
 |some v=>induction p using m8 with
  |some u=>exact k v u rfl rfl h
  |none=>exact nS h
 |none=>exact nS h
theorem qD{o:Option V}{p:Option (List V)}{f:V->List V->Option q}(h:(match o,p with|some v,dD u=>f v u|_,_=>eu)=dD z)(k:∀v u,o=dD v->p=dD u->f v u=dD z->C):C:=by
 induction o using m8 with
 |some v=>induction p using m8 with
  |some u=>exact k v u rfl rfl h
  |none=>exact nS h
 |none=>exact nS h
end
theorem bz{b:Option Bool}{k:Option (List V)}{a:List V}{C:Prop}(h:BD b k=dD a)(c:b=dD er->k=dD a->C)(d:b=dD fG->a=[]->C):C:=ZX h c λe h=>d e (dE h).symm
theorem WV{t:T}{i:Ev}{d:Ev->Option (List V)}{v:V}{j l:List V}{C:Prop}(h:Ai t i d (v::j)=dD l)(k:∀e g f,EM t v i=dD e->d e=dD g->Ai t i d j=dD f->l=g++f->C):C:=
 oE h λe a h=>oL h λg b h=>oL h λf c h=>k e g f a b c (dE h).symm
theorem Le{o:Option (List V)}{z:V}{C:Prop}(h:EV o=dD z)(k:∀a,o=dD a->A5 a=er->z=.l a->C):C:=oL h λa e h=>bS h λc h=>k a e c (dE h).symm
theorem dd{o:Option (List V)}{z:V}{C:Prop}(h:Hw o=dD z)(k:∀a,o=dD a->A5 a=er->z=.t a->C):C:=oL h λa e h=>bS h λc h=>k a e c (dE h).symm
theorem OX{o:Option V}{b:Bool}{C:Prop}(h:tr o=dD b)(k:∀v,o=dD v->AI v=dD b->C):C:=oV h k
theorem Yj{o:Option Bool}{z:V}{C:Prop}(h:Ao o=dD z)(k:∀c,o=dD c->z=.bool c->C):C:=oB h λc e h=>k c e (dE h).symm
theorem dj{v z:V}{C:Prop}(h:N8 v=dD z)(k:∀i,v=.int i->z=.int (-i)->C):C:=by
 induction v using V.casesOn with
 |int i=>exact k i rfl (dE h).symm
 |_=>exact nS h
theorem eP{v z:V}{C:Prop}(h:Tc v=dD z)(k:∀i,v=.int i->z=.int (sH i)->C):C:=by
 induction v using V.casesOn with
 |int i=>exact k i rfl (dE h).symm
 |_=>exact nS h
theorem gN{o:Option V}{b:List V}{C:Prop}(h:Z5 o=dD b)(c:o=dD (.l b)->C)(d:o=dD (.t b)->C)(e:∀ks a,o=dD (.d ks a)->b=ks.map .str->C):C:=by
 induction o using m8 with
 |none=>exact nS h
 |some v=>induction v using V.casesOn with
  |l a=>exact c (congrArg (λx=>dD (V.l x)) (dE h))
  |t a=>exact d (congrArg (λx=>dD (V.t x)) (dE h))
  |d ks a=>exact e ks a rfl (dE h).symm
  |_=>exact nS h
theorem eQ{o:Option V}{a:List V}{C:Prop}(h:Rk o=dD a)(b:o=dD (.l a)->C)(c:o=dD (.t a)->C):C:=by
 induction o using m8 with
 |none=>exact nS h
 |some v=>induction v using V.casesOn with
  |l d=>exact b (congrArg (λx=>dD (V.l x)) (dE h))
  |t d=>exact c (congrArg (λx=>dD (V.t x)) (dE h))
  |_=>exact nS h
theorem bA{o:Option V}{b:List V}{C:Prop}(h:Ly o=dD b)(k:∀a,o=dD (.l a)->b=a.reverse->C):C:=by
 induction o using m8 with
 |none=>exact nS h
 |some v=>induction v using V.casesOn with
  |l a=>exact k a rfl (dE h).symm
  |_=>exact nS h
theorem cp{o:Option V}{a:List V}{C:Prop}(h:Mg o=dD a)(k:∀s,o=dD (.str s)->A5 s=er->a=Br 0 fG s->C):C:=by
 induction o using m8 with
 |none=>exact nS h
 |some v=>induction v using V.casesOn with
  |str s=>exact bS h λc h=>k s rfl c (dE h).symm
  |_=>exact nS h
theorem de{a b:Option V}{e:List V}{C:Prop}(h:Mn a b=dD e)(f:∀c d,a=dD (.l c)->b=dD (.l d)->e=FV c d->C)(g:∀c d,a=dD (.t c)->b=dD (.t d)->e=FV c d->C):C:=by
 induction a using m8 with
 |none=>exact nS h
 |some v=>induction v using V.casesOn with
  |l c=>induction b using m8 with
   |none=>exact nS h
   |some u=>induction u using V.casesOn with
    |l d=>exact f c d rfl rfl (dE h).symm
    |_=>exact nS h
  |t c=>induction b using m8 with
   |none=>exact nS h
   |some u=>induction u using V.casesOn with
    |t d=>exact g c d rfl rfl (dE h).symm
    |_=>exact nS h
  |_=>exact nS h
theorem UF{c:List Nat}{v:V}{d a:Ev}{C:Prop}(h:BM (.many c) v d=dD a)(k:∀b,v=.t b->putAll c b d=dD a->C):C:=by
 induction v using V.casesOn with
 |t b=>exact k b rfl h
 |_=>exact nS h
theorem Xr{o:Option V}{p:Option Int}{C:Prop}(h:Fc o=dD p)(a:∀i,o=dD (.int i)->p=dD i->C)(b:o=dD .none->p=eu->C):C:=by
 induction o using m8 with
 |none=>exact nS h
 |some v=>induction v using V.casesOn with
  |int i=>exact a i rfl (dE h).symm
  |none=>exact b rfl (dE h).symm
  |_=>exact nS h
theorem aR{o:Option V}{l u s:Option (Option Int)}{z:V}{C:Prop}(h:Lm o l u s=dD z)(k:∀a x y w,o=dD a->l=dD x->u=dD y->s=dD w->R6 a x y w=dD z->C):C:=by
 induction o using m8 with
 |none=>exact nS h
 |some a=>induction l using m8 with
  |none=>exact nS h
  |some x=>induction u using m8 with
   |none=>exact nS h
   |some y=>induction s using m8 with
    |none=>exact nS h
    |some w=>exact k a x y w rfl rfl rfl rfl h
theorem TF{f:V->V->Option V}{a b:Option V}{z:V}{C:Prop}(h:Aj f a b=dD z)(k:∀x y,a=dD x->b=dD y->f x y=dD z->C):C:=f7 h k
theorem Nh{a:o5}{i:Nat}{m:pw}{C:Prop}(h:FT a i m=er)(k:∀k,a.names[i]?=dD (m,k)->(m==("__debug__" :pw))=fG->(m==("__classdict__" :pw))=fG->C):C:=by
 unfold FT at h;generalize a.names[i]?=o at h k;induction o using m8 with
 |none=>exact fT h
 |some p=>have b:=ba (ba h).1;exact k p.2 (congrArg dD (AD3 (qy (ba b.1).1) rfl)) ((qI _).mp b.2) ((qI _).mp (ba h).2)
theorem Ny{a:o5}{i:Nat}{m:pw}{C:Prop}(h:BA a i m=er)(k:∀k,a.names[i]?=dD (m,k)->(k=.local\/k=.cell)->C):C:=by
 unfold BA at h;generalize a.names[i]?=o at h k;induction o using m8 with
 |none=>exact fT h
 |some p=>exact k p.2 (congrArg dD (AD3 (qy (ba h).1) rfl)) (((vJ _ _).mp (ba h).2).imp qy qy)
theorem VQ{v:V}{c:ABG}{P:V->ABG->Prop}(h:Qp v c=er)(a:P .none .none)(e:∀b,P (.bool b) (.bool b))(f:∀i,P (.int i) (.int i))(g:∀s,P (.str s) (.str (AP s)))(j:∀x,P (.fl x) (.float x)):P v c:=by
 induction v using V.casesOn with
 |none=>induction c using wF with
  |none=>exact a
  |_=>exact fT h
 |bool b=>induction c using wF with
  |bool d=>exact qy h▸e b
  |_=>exact fT h
 |int b=>induction c using wF with
  |int d=>exact qy h▸f b
  |_=>exact fT h
 |str b=>induction c using wF with
  |str d=>exact qy h▸g b
  |_=>exact fT h
 |fl b=>induction c using wF with
  |float d=>exact qy h▸j b
  |_=>exact fT h
 |_=>induction c using wF with|_=>exact fT h
theorem C6{a:Cl}{x:Ev}{v:V}:ev a (X.c v) x=dD v:=rfl
theorem Af{a:Cl}{x:Ev}{i:Nat}:ev a (X.v i) x=x.get i:=rfl
theorem RS{a:Cl}{x:Ev}{k:Nat}:ev a (X.gl k) x=RT k:=rfl
theorem Do{a:Cl}{x:Ev}{o:qp}{l r:X}:ev a (X.b o l r) x=Aj (AD o) (ev a l x) (ev a r x):=rfl
theorem WZ{b:Cl}{x:Ev}{a:X}:ev b a.neg x=
  match ev b a x with
  |some v=>N8 v
  |none=>eu:=rfl
theorem mD{b:Cl}{x:Ev}{a:X}:ev b a.inv x=
  match ev b a x with
  |some v=>Tc v
  |none=>eu:=rfl
theorem lm{c:Cl}{x:Ev}{a:X}:ev c a.not x=
  match tr (ev c a x)with
  |some b=>dD (V.bool !b)
  |none=>eu:=rfl
theorem kL{a:Cl}{x:Ev}{b:XL}:ev a (X.and b) x=I9 a b x:=rfl
theorem eK{a:Cl}{x:Ev}{b:XL}:ev a (X.or b) x=IG a b x:=rfl
theorem DW{c:Cl}{x:Ev}{l:X}{o:xG}{r:X}:ev c (l.q o r) x=
  match ev c l x,ev c r x with
  |some a,dD b=>Ao (Cd o a b)
  |x,d=>eu:=rfl
theorem Kr{a:Cl}{x:Ev}{t b e:X}:ev a (t.ite b e) x=
  match tr (ev a t x)with
  |some er=>ev a b x
  |some fG=>ev a e x
  |none=>eu:=rfl
theorem CC{a:Cl}{x:Ev}{o i:X}:ev a (o.sub i) x=Aj C0 (ev a o x) (ev a i x):=rfl
theorem Lc{a:Cl}{x:Ev}{o:X}{l u s:XO}:ev a (o.sl l u s) x=Lm (ev a o x) (PQ a l x) (PQ a u x) (PQ a s x):=rfl
theorem Dz{a:Cl}{x:Ev}{f:Nat}{b:XL}:ev a (X.call f b) x=
  match EE a b x with
  |some c=>a f c
  |none=>eu:=rfl
theorem FU{a:Cl}{x:Ev}{f:BI}{b:XL}:ev a (X.bi f b) x=
  match EE a b x with
  |some c=>Ju f c
  |none=>eu:=rfl
theorem WX{a:Cl}{x:Ev}{b:XL}:ev a (X.lr b) x=
  match EE a b x with
  |some c=>
   match JW c with
   |some d=>dD (V.l d)
   |none=>eu
  |none=>eu:=rfl
theorem Gl{a:Cl}{x:Ev}{o:X}{m:MI}{b:XL}:ev a (o.me m b) x=
  match ev a o x,EE a b x with
  |some v,dD c=>Qt m v c
  |x,d=>eu:=rfl
theorem NS{a:Cl}{x:Ev}{b:XL}:ev a (X.l b) x=EV (EE a b x):=rfl
theorem ER{a:Cl}{x:Ev}{b:XL}:ev a (X.t b) x=Hw (EE a b x):=rfl
theorem LD{a:Cl}{x:Ev}{b:X}{t:T}{f:It}{c:XO}{g:GL}{h:List (Nat×Nat)}:ev a (b.cm t f c g h) x=
  match EW a f x with
  |some i=>EV (Ai t (Bu x h) (λd=>BD (Hk a c d) (Jl a g d λe=>one (ev a b e))) i)
  |none=>eu:=rfl
theorem Bt{a:Cl}{x:Ev}:EE a XL.nil x=dD []:=rfl
theorem Bj{b:Cl}{x:Ev}{a:X}{r:XL}:EE b (XL.cons a r) x=
  match ev b a x,EE b r x with
  |some v,dD c=>dD (v::c)
  |x,d=>eu:=rfl
theorem lw{a:Cl}{x:Ev}:I9 a XL.nil x=eu:=rfl
theorem sD{b:Cl}{x:Ev}{a:X}:I9 b (XL.cons a XL.nil) x=ev b a x:=rfl
theorem pS{b:Cl}{x:Ev}{a y:X}{r:XL}:I9 b (XL.cons a (XL.cons y r)) x=
   match ev b a x with
   |some v=>
    match AI v with
    |some er=>I9 b (XL.cons y r) x
    |some fG=>dD v
    |none=>eu
   |none=>eu:=rfl
theorem lj{a:Cl}{x:Ev}:IG a XL.nil x=eu:=rfl
theorem WN{b:Cl}{x:Ev}{a:X}:IG b (XL.cons a XL.nil) x=ev b a x:=rfl
theorem np{b:Cl}{x:Ev}{a y:X}{r:XL}:IG b (XL.cons a (XL.cons y r)) x=
   match ev b a x with
   |some v=>
    match AI v with
    |some er=>dD v
    |some fG=>IG b (XL.cons y r) x
    |none=>eu
   |none=>eu:=rfl
theorem Zu{b:Cl}{x:Ev}{a:X}:EW b (It.val a) x=Z5 (ev b a x):=rfl
theorem cW{b:Cl}{x:Ev}{a:X}:EW b (It.en a) x=
  match Rk (ev b a x)with
  |some c=>dD (Fl 0 c)
  |none=>eu:=rfl
theorem mL{b:Cl}{x:Ev}{a y:X}:EW b (It.zip a y) x=Mn (ev b a x) (ev b y x):=rfl
theorem WL{a:Cl}{x:Ev}{b:XL}:EW a (It.rg b) x=
  match EE a b x with
  |some c=>JW c
  |none=>eu:=rfl
theorem ji{b:Cl}{x:Ev}{a:X}:EW b (It.rev a) x=Ly (ev b a x):=rfl
theorem mR{b:Cl}{x:Ev}{a:X}:EW b (It.gen a) x=Mg (ev b a x):=rfl
theorem et{b:Cl}{x:Ev}{a:Ev->Option (List V)}:Jl b GL.nil x a=a x:=rfl
theorem sK{d:Cl}{x:Ev}{a:Ev->Option (List V)}{t:T}{e:It}{b:XO}{r:GL}:Jl d (GL.cons t e b r) x a=
  match EW d e x with
  |some f=>Ai t x (λc=>BD (Hk d b c) (Jl d r c a)) f
  |none=>eu:=rfl
theorem Yi{a:Cl}{x:Ev}:Hk a XO.no x=dD er:=rfl
theorem pM{b:Cl}{x:Ev}{a:X}:Hk b (XO.yes a) x=tr (ev b a x):=rfl
theorem Zr{a:Cl}{x:Ev}:PQ a XO.no x=dD eu:=rfl
theorem Xc{b:Cl}{x:Ev}{a:X}:PQ b (XO.yes a) x=Fc (ev b a x):=rfl
theorem Bp{b:Cl}{c:X}{t:T}{e a:Ev}{v w:V}{f g:List V}(h:ev b c a=dD w)(i:EM t v e=dD a)(j:Ai t e (λa=>BD (Hk b .no a) (Jl b .nil a λd=>one (ev b c d))) f=dD g):Ai t e (λa=>BD (Hk b .no a) (Jl b .nil a λd=>one (ev b c d))) (v::f)=dD (w::g):=by
 rw[FR,i];show(match one (ev b c a)with
  |some k=>match Ai t e (λa=>BD (Hk b .no a) (Jl b .nil a λd=>one (ev b c d))) f with
   |some l=>dD (k++l)
   |none=>eu
  |none=>eu)=_
 rw[h,j];rfl
theorem DP{b:Cl}{c:X}{t:T}{i:It}{j:List (Nat×Nat)}{g d:Ev}{h f:List V}(k:EW b i g=dD h)(l:Bu g j=d)(m:Ai t d (λa=>BD (Hk b .no a) (Jl b .nil a λe=>one (ev b c e))) h=dD f)(n:A5 f=er):ev b (.cm c t i .no .nil j) g=dD (.l f):=by
 rw[LD,k,l];show EV (Ai t d (λa=>BD (Hk b .no a) (Jl b .nil a λe=>one (ev b c e))) h)=_;rw[m];show(match A5 f with
  |true=>dD (V.l f)
  |false=>eu)=_
 rw[n]
end
structure St(Z:Bs)(n:Nat)(A:mx)(l:o5)(f:t8)(ok:ls->Prop)(s:lb)(ρ:Ev):Prop where
 a:OkA n A
 e:EnvR Z l f ok s.heap ρ
 i:Inv Z s
 k:∀a,s.heap.get? a=eu->ok a
def SE(Z:Bs)(n:Nat)(A:mx)(l:o5)(x:Ev->Option V)(e:f0):Prop:=
 ∀f ok s ρ v,x ρ=dD v->St Z n A l f ok s ρ->WP Z A (tW e f) (Gv Z ok s v) s
noncomputable def F8(a:List f0)(f:t8):xL Bool:=forIn a er λc r=>if r=er then do let ok<-isTrue c f (tW c f);tS (AAg ok)else tS (AAg r)
def fH(Z:Bs)(n:Nat)(A:mx)(l:o5)(x:Ev->Option Bool)(a:List f0):Prop:=
 ∀f ok s ρ b,x ρ=dD b->St Z n A l f ok s ρ->WP Z A (F8 a f) (λc z=>c=b/\Same Z s z) s
def SI(Z:Bs)(n:Nat)(A:mx)(l:o5)(c:f0)(x:Ev->Option (List V))(a:f0):Prop:=
 (∀f v,wL a f v=tS v)/\
 ∀f ok s ρ b,x ρ=dD b->St Z n A l f ok s ρ->WP Z A (tW a f) (λv d=>WP Z A (wK v) (Its Z A c ok s b) d) s
section
variable{Z:Bs}{n:Nat}{A:mx}{l:o5}{f:t8}{ok:ls->Prop}{s z:lb}{ρ:Ev}
theorem St.same(S:St Z n A l f ok s ρ)(h:Same Z s z):St Z n A l f ok z ρ:=⟨S.a,S.e.same h,h.inv S.i,h.hok S.k⟩
theorem G6{i:Nat}{b:List Nat}{c:List f0}(h:EK l (i::b) c=er):∃m p a,c=.Name m p::a/\BA l i m=er/\EK l b a=er:=
 AE (iC h) λz r d h=>AE (BG h) λm p e h=>⟨m,p,r,by rw[d,e],ba h⟩
theorem HL{a:List f0}(h:EK l [] a=er):a=[]:=i0 h
theorem N7{i:Nat}{d:List Nat}{a:List V}{ρ b:Ev}(h:putAll (i::d) a ρ=dD b):∃x c,a=x::c/\putAll d c (ρ.put i x)=dD b:=by
 induction a using lz with
 |nil=>exact nS h
 |cons x a=>exact⟨x,a,rfl,h⟩
theorem Ic(f:t8)(b:List Nat):∀(a:List f0),EK l b a=er->(vo a f).length=b.length/\(vo a f).findIdx? (·.1)=eu:=by
 induction b with
 |nil=>intro a c;cases HL c;exact⟨rfl,rfl⟩
 |cons i b g=>intro a c;refine M9 (G6 c) λm p a e h d=>?_;refine e▸?_;have:=g a d;refine⟨by show _+1=_+1;rw[this.1],?_⟩;show((fG,uT (.Name m p) f)::vo a f).findIdx? (·.1)=eu;rw[ABH];simp[this.2]
theorem Ie:∀(b:List Nat) (c:List V) (ρ a:Ev),putAll b c ρ=dD a->b.length=c.length
 |[],[],_,_,_=>rfl
 |i::b,x::c,ρ,a,h=>congrArg (·+1) (Ie b c _ a h)
 |[],_::_,_,_,h=>by cases h
 |_::_,[],_,_,h=>by cases h
theorem NL(O:Z.Ok)(r:List Nat):∀(j:List f0) (c:List gx) (d:List V) (ρ a:Ev) (s:lb),EK l r j=er->putAll r d ρ=dD a->VRs Z.prog Z.w ok s.heap c d->EnvR Z l f ok s.heap ρ->
  WP Z A (xf ((vo j f).map (·.2)) c) (λ_ z=>EnvR Z l f ok z.heap a/\Ch Z (Fo l f) (λ_=>False) s z/\Others l f r s.heap z.heap) s:=by
 induction r with
 |nil=>
  intro j c d ρ a s w g v R;cases HL w;induction d using lz with
  |cons=>exact nS g
  |nil=>(replace g:=dE g;refine g▸?_);exact zJ ⟨R,Ch.refl,λ_ _ _ _ _ _ x=>x⟩
 |cons i r E=>
  intro j c d ρ a s w g v R
  (refine M9 (G6 w) λm p j o G y=>?_;rw[o])
  (refine AE (N7 g) λx d q g=>?_;subst q)
  refine VRs.kCons v λ_ _ v B=>?_;rename_i u c;refine Ny G λk H I=>?_
  ·show qH _ _ (xf (uT (.Name m p) f::(vo j f).map (·.2)) (u::c)) _ _ _;refine vp (uU (pF (R.store' O H I v) (λ_ D h=>?_) λ_ _ e=>e));have t:VRs Z.prog Z.w ok D.heap c d:=B.ch h.2.1 λb J L=>R.fo_ok L J;exact pF (E j c d _ a D y g t h.1) (λ_ M C=>⟨C.1,h.2.1.trans C.2.1,h.2.2.1.trans C.2.2⟩) λ_ _ e=>e
theorem Fe(O:Z.Ok){t:T}{y:f0}{u:gx}{x:V}{a:Ev}(G:A.handled=eu)(c:D2 l t y=er)(d:BM t x ρ=dD a)(B:VR Z.prog Z.w ok s.heap u x)(R:EnvR Z l f ok s.heap ρ):
  WP Z A (uT y f u) (λn z=>EnvR Z l f ok z.heap a/\Ch Z (Fo l f) (λn=>False) s z/\Others l f t.names s.heap z.heap) s:=by
 induction t using T.casesOn with
 |one i=>
  refine AE (BG c) λm p e c=>?_;refine e▸?_
  (replace d:=dE d;subst d)
  exact Ny c λk H g=>uU (A1 (R.store' O H g B) λn s1 h=>⟨h.1,h.2.1,h.2.2.1⟩)
 |many C=>
  refine BU (MS c) λq x1 p e c=>UF d λxs I d=>?_;subst e I;refine VR.kTup B λn D m a1 J E=>?_;have⟨L,M⟩:=Ic f C q c;have N:(vo q f).length=D.size:=by rw[L,Ie _ _ _ _ d,<-E.length];simp
  refine ACW G ⟨_,J,rfl,_,rfl⟩ N M λr Q=>?_;have g:∀b o,s.heap.get? b=dD o->r.get? b=dD o:=λb o e=>Q b o (Ar e) e;have S:Same Z s {s with heap:=r}:=Same.of_keep (tk:=s.toks) O g;exact A1 (NL O C q D.toList _ _ a {s with heap:=r} c d (E.same S) (R.same S)) λn s2 v=>⟨v.1,S.ch.trans v.2.1,λj m k w U Y x=>v.2.2 j m k w U Y (x.turn λb o n e n=>g b o e)⟩
theorem Gi(O:Z.Ok){t:T}{b:f0}{u:gx}{x:V}{a:Ev}(c:A.handled=eu)(d:D2 l t b=er)(e:BM t x ρ=dD a)(g:VR Z.prog Z.w ok s.heap u x)(R:EnvR Z l f ok s.heap ρ):
  WP Z A (uT b f u) (λy z=>EnvR Z l f ok z.heap a/\Ch Z (Fo l f) (λy=>False) s z) s:=A1 (Fe O c d e g R) λy y h=>⟨h.1,h.2.1⟩
theorem GD:∀{ρ:Ev} {b:List Nat},Ag ρ b=er->∀i∈b,ρ.get i=eu
 |_,[],_,_,h=>nomatch h
 |ρ,j::r,h,i,a=>by
  rewrite [Bz]at h
  split at h
  ·rename_i q;rcases md.mp a with rfl|a
   ·exact q
   ·exact GD h i a
  ·exact fT h
theorem GC:∀{b:List Nat} {c:List V} {ρ a:Ev},putAll b c ρ=dD a->∀j,j∉b->a.get j=ρ.get j
 |[],[],_,_,h,j,_=>by(replace h:=dE h;subst h);rfl
 |i::b,x::c,ρ,a,h,j,d=>by
  have:=GC (ρ:=ρ.put i x) h j (λq=>d (oP _ q));rw[this,Ev.get_put,if_neg];rintro rfl;exact d pg
 |[],_::_,_,_,h,_,_=>by exact nS h
 |_::_,[],_,_,h,_,_=>by exact nS h
theorem RM{t:T}{v:V}{ρ a:Ev}(h:EM t v ρ=dD a):BM t v ρ=dD a/\∀i w,ρ.get i=dD w->a.get i=dD w:=by
 unfold EM at h;split at h
 ·rename_i c;refine⟨h,λi w e=>?_⟩;have b:i∉t.names:=λd=>by exact nS ((GD c i d).symm.trans e)
  cases t with
  |one j=>
   (replace h:=dE h;subst h)
   rw[Ev.get_put,if_neg]
   ·exact e
   ·rintro rfl;exact b (by simp[T.names])
  |many g=>
   cases v<;>try exact nS h
   exact(GC h i b).trans (e)
 ·exact nS h
theorem Its.trans{g:f0}{j:List V}{k:gx}{m o:lb}(S:Same Z s m)(h:Its Z A g ok m j k o):Its Z A g ok s j k o:=by refine Je h λq r J a b c d e=>?_;exact⟨q,r,J,a,b,S.trans c,λx p=>⟨S.live x (d x p).1,(d x p).2⟩,λi t=>mE (Go S.gens) (e i t)⟩
end
inductive GS(Z:Bs)(n:Nat)(A:mx)(l:o5):(Ev->(Ev->Option (List V))->Option (List V))->List rc->Prop
 |nil:GS Z n A l (λρ k=>k ρ) []
 |cons {t te xi ie xt fs g cs}:D2 l t te=er->SI Z n A l te xi ie->fH Z n A l xt fs->GS Z n A l g cs->
  GS Z n A l (λρ k=>match xi ρ with
   |some vs=>Ai t ρ (λρ1=>BD (xt ρ1) (g ρ1 k)) vs
   |none=>eu) (⟨te,ie,fs,0⟩::cs)
theorem YN{b h p i c:f0}{q j:List f0}{a:List rc}{l:o5}{d:tE}{k:Nat}{g e:gx}{f:t8}(t:a[k]?=dD ⟨h,p,q,0⟩)(m:a[k+1]?=dD ⟨i,c,j,0⟩):
  xo (.ListComp b a l d) k g e f=(xV p.pos >>= λz=>tb g >>= λr=>match r with
   |none=>tS (.done .next)
   |some v=>rA h g v >>= λz=>uT h f v >>= λz=>F8 q f >>= λok=>
    (if ok=er then(tW c f >>= λx=>xV c.pos >>= λz=>wL c f x >>= λx=>zy [x] (wK x) >>= λo=>
      runOwn (.compStart (.ListComp b a l d) (k+1) o e f) f >>= λz=>AAO (.compLoop (.ListComp b a l d) k g e f))
     else AAO (.compLoop (.ListComp b a l d) k g e f))):=by
 unfold xo;simp only[t,m];rfl
theorem Rm{b g i:f0}{j:List f0}{a:List rc}{l:o5}{d:tE}{k:Nat}{e c:gx}{f:t8}(m:a[k]?=dD ⟨g,i,j,0⟩)(h:a[k+1]?=eu):
  xo (.ListComp b a l d) k e c f=(xV i.pos >>= λz=>tb e >>= λr=>match r with
   |none=>tS (.done .next)
   |some v=>rA g e v >>= λz=>uT g f v >>= λz=>F8 j f >>= λok=>
    (if ok=er then((tW b f >>= λy=>t9 (.builtin "list.append") [c,y] >>= λz=>tS ()) >>= λz=>AAO (.compLoop (.ListComp b a l d) k e c f))
     else AAO (.compLoop (.ListComp b a l d) k e c f))):=by
 unfold xo;simp only[m,h];rfl
theorem FZ{b:qK}{w:sO}{A:mx}{R:yJ->lb->Prop}{s:lb}{c o i:f0}{p:List f0}{a:List rc}{l:o5}{d:tE}{k:Nat}{j e:gx}{f:t8}(r:a[k]?=dD ⟨o,i,p,0⟩)
  (q:tv (qQ b w) A (.compLoop (.ListComp c a l d) k j e f) R s)
  (h:qH (qQ b w) A (wK j) (λg z=>tv (qQ b w) A (.compLoop (.ListComp c a l d) k g e f) R z) li s):
  tv (qQ b w) A (.compStart (.ListComp c a l d) k j e f) R s:=by
 refine u3 ?_;refine wpAny_notedAt ?_;unfold compStart;have t:(clausesOf (.ListComp c a l d))[k]?=dD ⟨o,i,p,0⟩:=r;rw[t];show qH _ _ (ask >>= _) _ _ s;refine fX (wpAny_askSetting (wpAny_ite ?_));split
 ·first
   |exact fX (mM (mM (And.intro rfl q)))
   |exact mM (And.intro rfl q)
 ·first
   |exact fX (x4 (fX (rj (fX (pF h (λg z m=>mM (And.intro rfl m)) λy y x=>x.elim)))))
   |(refine fX (x4 ?_);show qH _ _ (xV i.pos >>= _) _ _ s;exact fX (rj (fX (pF h (λg z m=>mM (And.intro rfl m)) λy y x=>x.elim))))
def QI(Z:Bs)(I:List gx->Nat->Prop)(l:o5)(f:t8)(ok:ls->Prop)(D:ls)(c:ls->Prop)(d:Nat->Prop)(ρ:Ev)(e:List V)(s:lb)(r:yJ)(z:lb):Prop:=
 r=.ok .next/\(∃a n,z.heap.get? D=dD ⟨.type "list",eu,.seq a n,#[]⟩/\VRs Z.prog Z.w ok z.heap a.toList e/\I a.toList z.toks)/\Ch Z (λb=>b=D\/Fo l f b\/c b) d s z/\EnvR Z l f ok z.heap ρ
def ia(Z:Bs)(I:List gx->Nat->Prop)(n:Nat)(A:mx)(l:o5)(x:Ev->Option V)(e:f0):Prop:=
 ∀f ok s ρ v,x ρ=dD v->St Z n A l f ok s ρ->∀a,I a s.toks->WP Z A (tW e f) (λu z=>Gv Z ok s v u z/\I (a++ [u]) z.toks) s
def Mon(I:List gx->Nat->Prop):Prop:=∀a n b,I a n->n<=b->I a b
theorem SE.i{Z:Bs}{n:Nat}{A:mx}{l:o5}{x:Ev->Option V}{e:f0}(h:SE Z n A l x e):ia Z (λz z=>True) n A l x e:=λf ok s ρ v a S z z=>A1 (h f ok s ρ v a S) λz z g=>⟨g,trivial⟩
theorem Mon.t:Mon (λz z=>True):=λz z z z z=>trivial
theorem wT{Z:Bs}{A:mx}{s:lb}{a:Type}{t:xL a}{Q:a->lb->Prop}{t0:Nat}(b:t0<=s.toks)(h:WP Z A t Q s):WP Z A t (λr z=>t0<=z.toks/\Q r z) s:=pF (wpAny_toks_of b h) (λy y g=>g) λy y g=>g.2
def Ry(D:ls)(d:t8)(m:o5)(Z:Bs)(I:List gx->Nat->Prop)(n:Nat)(A:mx)(c:Code)(e:Ev->Option (List V))(p:xL Fin):Prop:=
 ∀{h s o q r a t},e o=dD q->St Z n A m d h s o->¬h D->s.heap.get? D=dD ⟨.type "list",eu,.seq a t,#[]⟩->VRs Z.prog Z.w h s.heap a.toList r->A5 (r++q)=er->I a.toList s.toks->
  WP Z A p (λf i=>f=.again c/\(∃a n,i.heap.get? D=dD ⟨.type "list",eu,.seq a n,#[]⟩/\VRs Z.prog Z.w h i.heap a.toList (r++q)/\I a.toList i.toks)/\Ch Z (λb=>b=D\/Fo m d b) (λz=>False) s i/\EnvR Z m d h i.heap o) s
theorem Nk{c:Type}{a b:List c}(h:A5 (a++b)=er):A5 a=er:=by have:=AQ h;rw[vN]at this;exact mK (mJ (tN _ _) this)
section
variable{Z:Bs}{A:mx}{j:o5}{l B E:f0}{C:List f0}{gens:List rc}{g:tE}{k:Nat}{d:t8}{w y:gx}{p:xL Fin}{Q:yJ->lb->Prop}{s:lb}
  (z:xo (.ListComp l gens j g) k w y d=(xV E.pos >>= λx=>tb w >>= λr=>match r with
   |none=>tS (.done .next)
   |some v=>rA B w v >>= λx=>uT B d v >>= λx=>F8 C d >>= λok=>if ok=er then p else AAO (.compLoop (.ListComp l gens j g) k w y d)))
include z
theorem RB(h:WP Z A (tb w) (λr a=>r=eu/\Q (.ok .next) a) s):tv (qQ Z.prog Z.w) A (.compLoop (.ListComp l gens j g) k w y d) Q s:=by refine u3 ?_;show qH _ A ((xo (.ListComp l gens j g) k w y d).onRaise (λx=>do wY x d;tc x)) _ _ s;refine xW ?_;simp only[z];refine fX (rj (fX (Ub h λa b=>?_)));exact mM b
theorem RR(h:WP Z A (tb w) (λr e=>∃u,r=dD u/\WP Z A (rA B w u) (λY i=>WP Z A (uT B d u) (λY m=>WP Z A (F8 C d) (λb c=>
   (b=er/\WP Z A p (λf n=>f=.again (.compLoop (.ListComp l gens j g) k w y d)/\tv (qQ Z.prog Z.w) A (.compLoop (.ListComp l gens j g) k w y d) Q n) c)\/
   (b=fG/\tv (qQ Z.prog Z.w) A (.compLoop (.ListComp l gens j g) k w y d) Q c)) m) i) e) s):tv (qQ Z.prog Z.w) A (.compLoop (.ListComp l gens j g) k w y d) Q s:=by
 refine u3 ?_;show qH _ A ((xo (.ListComp l gens j g) k w y d).onRaise (λx=>do wY x d;tc x)) _ _ s;refine xW ?_;simp only[z];refine fX (rj (fX (fL h λu e o=>?_)));refine fX (pF o (λY i q=>fX (pF q (λY m t=>fX (pF t (λb c a=>?_) λY Y=>False.elim)) λY Y f=>f.elim)) λY Y f=>f.elim);rcases a with⟨rfl,a⟩|⟨rfl,a⟩
 ·exact Ub a λn v=>⟨rfl,v⟩
 ·exact mM ⟨rfl,a⟩
end
theorem N9{Z:Bs}{I:List gx->Nat->Prop}(hI:Mon I){n:Nat}{A:mx}(O:Z.Ok){N j:o5}{l B E:f0}{C:List f0}{gens:List rc}{g:tE}{k:Nat}{d:t8}{w:gx}{D:ls}{t:T}{xt:Ev->Option Bool}{body:Ev->Option (List V)}{p:xL Fin}{fp:ls->Prop}{gp:Nat->Prop}{J}
  (aj:D2 N t B=er) (ac:fH Z n A N xt C)
  (z:xo (.ListComp l gens j g) k w (.ref D) d=(xV E.pos >>= λy=>tb w >>= λr=>match r with
   |none=>tS (.done .next)
   |some v=>rA B w v >>= λy=>uT B d v >>= λy=>F8 C d >>= λc=>if c=er then p else AAO (.compLoop (.ListComp l gens j g) k w (.ref D) d)))
  (HB:Ry D d N Z I n A (.compLoop (.ListComp l gens j g) k w (.ref D) d) body p)
  (hJ:Trn Z A B w fp gp J) (H:∀b,fp b->b≠D/\b≠d.locals/\∀m,d.cells.lookup m≠dD b) (ak:D≠d.locals) (al:∀m,d.cells.lookup m≠dD D) (vs:List V):
  ∀{c ρ s} {zs ys:List V} {ws nD},J c vs s->St Z n A N d c s ρ->¬c D->(∀b,fp b->¬c b)->s.heap.get? D=dD ⟨.type "list",eu,.seq ws nD,#[]⟩->VRs Z.prog Z.w c s.heap ws.toList ys->
   Ai t ρ (λL=>BD (xt L) (body L)) vs=dD zs->A5 (ys++zs)=er->I ws.toList s.toks->
  tv (qQ Z.prog Z.w) A (.compLoop (.ListComp l gens j g) k w (.ref D) d) (QI Z I N d c D fp gp ρ (ys++zs) s) s:=by
 have ae:∀b,fp b->¬Fo N d b:=λb hb=>by
  rintro(h|⟨m,_,h⟩)
  ·exact(H b hb).2.1 h
  ·exact(H b hb).2.2 m h
 have am:¬Fo N d D:=by
  rintro(h|⟨m,_,h⟩)
  ·exact ak h
  ·exact al m h
 have af:∀{c:ls->Prop},(∀b,fp b->¬c b)->∀b,fp b->¬(c b\/b=d.locals\/∃m,d.cells.lookup m=dD b):=λG b f q=>by
  rcases q with q|q|⟨m,q⟩
  ·exact G b f q
  ·exact(H b f).2.1 q
  ·exact(H b f).2.2 m q
 induction vs with
 |nil=>
  intro c ρ s zs ys ws nD hj S a1 G a5 a6 hz a0 hi
  (replace hz:=dE hz;rw[<-hz])
  refine RB z (A1 (wT (qF _) (hJ.done c s hj S.i)) λr s1 h1=>?_);refine BO h1 λtk e c1=>⟨e,rfl,⟨ws,nD,c1.heap _ _ a5 rfl λf=>(H D f).1 rfl,?_,hI _ _ _ hi tk⟩,c1.mono (λb o y f=>.inr (.inr f)) λy y q=>q,S.e.ch c1 (af G)⟩
  rw[AB3];exact a6.ch c1 λb a f=>G b f a
 |cons v vs ih=>
  intro c ρ s zs ys ws nD hj S a1 G a5 a6 hz a0 hi;refine WV hz λL xs an a7 M a8 ez=>?_;subst ez;refine RR z (A1 (wT (qF _) (hJ.item c v vs s hj S.i S.k G)) λr s1 h1=>?_);refine AW h1.2 λu e c1 h2=>⟨u,e,A1 (wT h1.1 h2) λy s2 h2=>?_⟩
  refine D1 h2 λao hv ag c2=>?_;have U:=c1.trans c2;have E2:EnvR Z N d c s2.heap ρ:=S.e.ch U (af G);have k2:=U.hok S.k (λb hb=>hJ.live c vs s2 b ag hb);have⟨hb,ah⟩:=RM a7;refine A1 (wT ao (Gi O S.a.1 aj hb hv E2)) λy s3 h3=>?_;refine BO h3 λai E3 c3=>?_;have S3:St Z n A N d c s3 L:=⟨S.a,E3,c3.inv (U.inv S.i),c3.hok k2 λb hb=>E3.fo_live hb⟩
  have a2:s3.heap.get? D=dD ⟨.type "list",eu,.seq ws nD,#[]⟩:=c3.heap _ _ (U.heap _ _ a5 rfl λf=>(H D f).1 rfl) rfl am;have a3:VRs Z.prog Z.w c s3.heap ws.toList ys:=(a6.ch U λb a f=>G b f a).ch c3 λb a f=>E2.fo_ok f a;have a4:∀s5 Y n5,Ch Z (λb=>b=D\/Fo N d b) (λy=>False) s3 s5->EnvR Z N d c s5.heap L->s5.heap.get? D=dD ⟨.type "list",eu,.seq Y n5,#[]⟩->VRs Z.prog Z.w c s5.heap Y.toList (ys++xs)->I Y.toList s5.toks->
    tv (qQ Z.prog Z.w) A (.compLoop (.ListComp l gens j g) k w (.ref D) d) (QI Z I N d c D fp gp ρ (ys++(xs++an)) s) s5:=λs5 Y n5 c5 E5 d5 y5 i5=>by
   have S5:St Z n A N d c s5 ρ:=⟨S.a,E5.sub ah,c5.inv S3.i,c5.hok S3.k λb hb=>by
    (rcases hb with qz|hb<;>try (replace qz:=qz.symm;subst qz))
    ·exact⟨_,d5⟩
    ·exact E5.fo_live hb⟩
   have ap:J c vs s5:=hJ.keep c vs s3 s5 (hJ.keep c vs s2 s3 ag (λb o q e t=>c3.heap b o e t (by rcases q with q|q;exact λf=>E2.fo_ok f q;exact ae b q)) λi x y e=>c3.gens i x e id) (λb o q e t=>c5.heap b o e t (by
    rintro(rfl|f)
    ·rcases q with q|q
     ·exact a1 q
     ·exact(H _ q).1 rfl
    ·rcases q with q|q
     ·exact E3.fo_ok f q
     ·exact ae b q f)) λi x y e=>c5.gens i x e id
   refine uV (ih ap S5 a1 G d5 y5 a8 (by rw[uz];exact a0) i5) λr s6 hr=>?_;rw[uz]at hr;exact⟨hr.1,hr.2.1,((U.mono (λb o y f=>.inr (.inr f)) λy y q=>q).trans (c3.mono (λb o y f=>.inr (.inl f)) λy y q=>q.elim)).trans ((c5.mono (λb o y f=>f.elim .inl λf=>.inr (.inl f)) λy y q=>q.elim).trans hr.2.2.1),hr.2.2.2⟩
  refine bz M (λht M=>?_) λht hx=>?_
  ·refine A1 (wT ai (ac d c s3 L er ht S3)) λb s4 h4=>?_;refine BO h4 λa9 e S4=>.inl ⟨e,?_⟩;have aa:=S3.same S4;refine A1 (HB M aa a1 (S4.heap _ _ a2 rfl) (a3.same S4) (Nk (by rw[uz];exact a0)) (hI _ _ _ hi a9)) λf s5 h5=>?_;refine D1 h5 λe h c5 E5=>⟨e,BJ h λY n5 d5 y5 i5=>a4 s5 Y n5 (S4.ch.trans c5) E5 d5 y5 i5⟩
  ·refine A1 (wT ai (ac d c s3 L fG ht S3)) λb s4 h4=>?_;refine BO h4 λa9 e S4=>.inr ⟨e,?_⟩;have aa:=S3.same S4;exact a4 s4 ws nD S4.ch aa.e (S4.heap _ _ a2 rfl) (by simp only[hx,AB3];exact a3.same S4) (hI _ _ _ hi a9)
theorem J0{a:Type}{l r:List a}{k:Nat}{x:a}(h:l.drop k=x::r):l[k]?=dD x/\l.drop (k+1)=r:=by
 have b:(l.drop k)[0]?=dD x:=by rw[h];rfl
 refine⟨by simpa using b,?_⟩;have:l.drop (k+1)=(l.drop k).tail:=by simp
 simp only[this,h];rfl
theorem TE{Z:Bs}{I:List gx->Nat->Prop}{n:Nat}{A:mx}{r:o5}{h:f0}{t:Ev->Option V}(x:ia Z I n A r t h){d:t8}{D:ls}{c:Code}(O:Z.Ok)(z:Z.B.heap.get? D=eu)(N:¬Fo r d D)(B:D≠d.locals)(C:∀m,d.cells.lookup m≠dD D):
  Ry D d r Z I n A c (λi=>one (t i)) ((tW h d >>= λy=>t9 (.builtin "list.append") [.ref D,y] >>= λX=>tS ()) >>= λX=>AAO c):=by
 intro Q s i U ys ws Y g S j E k l hi;replace g:one (t i)=dD U:=g;cases G:t i with
 |none=>rw[G]at g;exact nomatch g
 |some v=>
  rw[G]at g;(replace g:=dE g;rw[<-g]);refine fX (fX (A1 (x d Q s i v G S _ hi) λy u h1=>?_));obtain⟨⟨hy,w⟩,H⟩:=h1;have p:=w.heap _ _ E rfl;refine fX (ABI ⟨Y,p⟩ (λM J hs=>?_) ?_)
  ·refine mM (mM ⟨rfl,?_⟩);obtain⟨n',J⟩:=J;have L:∀b o,b≠D->u.heap.get? b=dD o->M.get? b=dD o:=λb o e q=>hs.extBut b o e q;have c2:Ch Z (λb=>b=D\/Fo r d b) (λX=>False) u {u with heap:=M}:=
    (Ch.of_keep (tk:=u.toks) (fp:=λb=>b=D) O (λb e=>by exact(congrArg _ e).trans (z)) (λb o e q=>by
     (replace e:=e.symm;subst e);(replace q:=dE (p.symm.trans q);subst q)
     exact⟨(λq=>by cases q),λq=>by injection q with q;exact absurd q (by decide)⟩) λb o e q=>L b o e q).mono (λb o X f=>.inl f) λX X q=>q
   refine⟨⟨_,n',J,?_,by rw[yK];exact H⟩,w.ch.trans c2,?_⟩
   ·rw[yK];exact((k.same w).append (.cons hy .nil)).mono (λb o a q X=>L b o (λe=>j (e▸a)) q) λX X a X=>a
   ·exact(S.e.same w).turn (λb o q e X=>L b o (by
     rintro rfl;rcases q with q|q|⟨m,q⟩
     ·exact j q
     ·exact B q
     ·exact C m q) e) (λX X X a=>a) λb hb=>S.e.lc hb
  ·have:=AQ l;rw[vN]at this;have e:=k.length;simp at e;rw[e];unfold wH;lia
theorem OV{Z:Bs}{I:List gx->Nat->Prop}(hI:Mon I){n:Nat}{A:mx}(O:Z.Ok){B ac:o5}{a4:f0}{u:List rc}{ae:tE}{xe:Ev->Option V}(am:ia Z I n A B xe a4){c:t8}{D:ls}(U:D≠c.locals)(Y:∀m,c.cells.lookup m≠dD D)(an:Z.B.heap.get? D=eu)
  {g cs} (G:GS Z n A B g cs):
  ∀{k te ie fs t xt},u.drop k=⟨te,ie,fs,0⟩::cs->D2 B t te=er->fH Z n A B xt fs->
  ∀{it fp gp J},Trn Z A te it fp gp J->(∀b,fp b->b≠D/\b≠c.locals/\∀m,c.cells.lookup m≠dD b)->
  ∀(M:List V) {p l s} {zs N:List V} {Q nD},J p M s->St Z n A B c p s l->¬p D->(∀b,fp b->¬p b)->s.heap.get? D=dD ⟨.type "list",eu,.seq Q nD,#[]⟩->VRs Z.prog Z.w p s.heap Q.toList N->
   Ai t l (λj=>BD (xt j) (g j λz=>one (xe z))) M=dD zs->A5 (N++zs)=er->I Q.toList s.toks->
  tv (qQ Z.prog Z.w) A (.compLoop (.ListComp a4 u ac ae) k it (.ref D) c) (QI Z I B c p D fp gp l (N++zs) s) s:=by
 have ao:¬Fo B c D:=by
  rintro(h|⟨m,_,h⟩)
  ·exact U h
  ·exact Y m h
 induction G with
 |nil=>
  intro k te ie fs t xt hd a5 a6 it fp gp J hJ a7 M p l s zs N Q nD hj S H a8 C L hz w hi;obtain⟨hg,a0⟩:=J0 hd;have a1:u[k+1]?=eu:=by
   have:(u.drop (k+1))[0]?=eu:=by rw[a0];rfl
   simpa using this
  exact N9 hI O a5 a6 (Rm hg a1) (TE am O an ao U Y) hJ a7 U Y M hj S H a8 C L hz w hi
 |@cons t' au xi av a9 aw g' ax af a3 ag G' ap=>
  intro k te ie fs t xt hd a5 a6 it fp gp J hJ a7 M p l s zs N Q nD hj S H a8 C L hz w hi;obtain⟨hg,a0⟩:=J0 hd;obtain⟨a1,_⟩:=J0 a0;refine N9 hI O a5 a6 (YN hg a1) (body:=λl=>match xi l with
   |some M=>Ai t' l (λj=>BD (a9 j) (g' j λz=>one (xe z))) M
   |none=>eu) ?_ hJ a7 U Y M hj S H a8 C L hz w hi
  clear hi;intro p s l xs N Q nD hx S H C L w hi;replace hx:(match xi l with
   |some M=>Ai t' l (λj=>BD (a9 j) (g' j λz=>one (xe z))) M
   |none=>eu)=dD xs:=hx
  cases hv:xi l with
  |none=>rw[hv]at hx;exact nS hx
  |some us=>
   rw[hv]at hx;replace hx:Ai t' l (λj=>BD (a9 j) (g' j λz=>one (xe z))) us=dD xs:=hx;refine fX (A1 (wT (qF _) (a3.2 c p s l us hv S)) λy s1 h1=>?_);refine fX (rj (fX (yI (a3.1 c y) (fX (tU (A1 (wT h1.1 h1.2) λaq s2 h2=>?_))))));obtain⟨tk,h2⟩:=h2;refine Je h2 λd a2 J' ah ai S2 x aj=>?_;have aa:∀b o,s.heap.get? b=dD o->¬d b:=λb o e f=>nS ((x b f).1.symm.trans e);have ar:St Z n A B c (λa=>p a/\¬d a) s2 l:=⟨S.a,((S.e.goal (ok':=λa=>p a/\¬d a) (λb o e a=>⟨a,aa b o e⟩) λb a=>a.1).same S2),S2.inv S.i,λa ha=>⟨S2.hok S.k a ha,λf=>A2 (x a f).2 λo e X=>nS (ha.symm.trans e)⟩⟩
   have ak:∀b,d b->b≠D/\b≠c.locals/\∀m,c.cells.lookup m≠dD b:=λb f=>⟨λq=>nS ((x b f).1.symm.trans (q▸C)),λq=>S.e.lv (q▸(x b f).1),λm e=>S.e.cv e (x b f).1⟩
   have run:tv (qQ Z.prog Z.w) A (.compLoop (.ListComp a4 u ac ae) (k+1) aq (.ref D) c) (QI Z I B c (λa=>p a/\¬d a) D d a2 l (N++xs) s2) s2:=
    ap a0 af ag ah ak us ai ar (λh=>H h.1) (λb f h=>h.2 f) (S2.heap _ _ C rfl) ((L.goal (ok':=λa=>p a/\¬d a) (λb o e a=>⟨a,aa b o e⟩)).same S2) hx w (hI _ _ _ hi tk)
   refine fX (wpAny_runOwn (h:=eu) ?_);have fin:∀r E,QI Z I B c (λa=>p a/\¬d a) D d a2 l (N++xs) s2 r E->r=.ok .next/\(∃Q n,E.heap.get? D=dD ⟨.type "list",eu,.seq Q n,#[]⟩/\VRs Z.prog Z.w p E.heap Q.toList (N++xs)/\I Q.toList E.toks)/\Ch Z (λb=>b=D\/Fo B c b) (λX=>False) s E/\EnvR Z B c p E.heap l:=λr E h=>by
    (refine D1 h λe1 al c3 E3=>?_;(refine CB λX kk=>?_;obtain⟨as,n3,d3,y3,i3⟩:=al<;>refine kk ?_))
    refine⟨e1,⟨as,n3,d3,y3.mono (λX X X e X=>e) λX X a X=>a.1,i3⟩,((S2.ch.trans c3:Ch Z (λb=>b=D\/Fo B c b\/d b) a2 s E)).mono (λb o e f=>?_) (λi hi f=>absurd (aj i f) (uQ.mpr hi)),?_⟩
    ·rcases f with f|f|f
     ·exact .inl f
     ·exact .inr f
     ·exact(aa b o e f).elim
    ·exact E3.turn (λb o X e X=>e) (λb o X a=>a.1) λb hb=>S.e.lc hb
   refine uV (R:=λr E=>QI Z I B c (λa=>p a/\¬d a) D d a2 l (N++xs) s2 r E) (FZ a1 run (A1 (ah.self _ _ _ ai) (λv E h=>?_))) λr E h=>?_
   ·((obtain⟨qz,qz⟩:=h<;>try (replace qz:=qz.symm;subst qz))<;>try (replace qz:=qz.symm;subst qz));exact run
   ·obtain⟨rfl,h'⟩:=fin r E h;exact mM ⟨rfl,h'⟩
noncomputable def B4(a:List (pw×ls)):List (pw×qE)->List (pw×ls)->List (pw×ls)
 |[],b=>b
 |(n,k)::r,b=>if k== .free then B4 a r ((n,(a.lookup n).getD 0)::b)else B4 a r b
theorem IA{a x:List (pw×ls)}{n:pw}{k:qE}{r:List (pw×qE)}:B4 a ((n,k)::r) x=
  if(k==rX)=er then B4 a r ((n,(List.lookup n a).getD 0)::x)else B4 a r x:=rfl
theorem Db{a:List (pw×ls)}:∀{b:List (pw×qE)} {d:List (pw×ls)},(∀p∈b,p.2=.free->∃c,a.lookup p.1=dD c)->(∀m c,(m,c)∈d->a.lookup m=dD c)->∀m c,(m,c)∈B4 a b d->a.lookup m=dD c
 |[],d,_,f,m,c,h=>f m c h
 |(n,k)::r,d,g,f,m,c,h=>by
  rewrite [IA]at h
  split at h
  ·rename_i j;obtain⟨o,e⟩:=g (n,k) pg (by simpa using j);refine Db (λp i=>g p (oP _ i)) (λm c l=>?_) m c h;rcases md.mp l with q|q
   ·cases q;simp only at e;rw[e];rfl
   ·exact f m c q
  ·exact Db (λp i=>g p (oP _ i)) f m c h
theorem Gw{a:List (pw×ls)}:∀{b:List (pw×qE)} {d:List (pw×ls)} {m c},(m,c)∈d->(m,c)∈B4 a b d
 |[],_,_,_,h=>h
 |(n,k)::r,d,m,c,h=>by
  rewrite [IA]
  split
  ·exact Gw (oP _ h)
  ·exact Gw h
theorem Cy{cells:List (pw×ls)}:∀{a:List (pw×qE)} {acc:List (pw×ls)} {m},(m,rX)∈a->∃c,(m,c)∈B4 cells a acc
 |(n,k)::r,acc,m,h=>by
  rewrite [IA]
  rcases md.mp h with q|q
  ·cases q;rw[if_pos (by rfl)];exact⟨_,Gw pg⟩
  ·split
   ·exact Cy q
   ·exact Cy q
theorem AV{a:Type}:∀{l:List (pw×a)} {n:pw} {c:a},(n,c)∈l->∃b,l.lookup n=dD b
 |(k,v)::r,n,c,h=>by
  rw[ua];cases d:n==k with
  |true=>exact⟨v,rfl⟩
  |false=>
   rcases md.mp h with q|q
   ·cases q;simp at d
   ·exact AV q
theorem Fn(d:t8)(f:pw×qE->List (pw×ls)->xL (ForInStep (List (pw×ls))))(m:∀g j o,f (g,j) o=if j== .free then(do let a<-cellOf d g;tS (.yield ((g,a)::o)))else tS (.yield o)):
  ∀(b:List (pw×qE)) (i:List (pw×ls)),(∀p∈b,p.2=.free->∃c,d.cells.lookup p.1=dD c)->forIn b i f=tS (B4 d.cells b i)
 |[],i,_=>by simp only[zP];rfl
 |(n,k)::r,i,h=>by
  simp only[AB2,m]
  rewrite [IA]
  have q:=λp s=>h p (oP _ s);by_cases l:(k==rX)=er
  ·rw[if_pos l,if_pos l];obtain⟨c,e⟩:=h (n,k) pg (by simpa using l);simp only at e;have t:cellOf d n=tS c:=by unfold cellOf;rw[e]
   rw[t,e];rw[yQ];exact Fn d f m r _ q
  ·rw[if_neg l,if_neg l];simp only[yQ];exact Fn d f m r _ q
theorem Ff{scope:o5}{env:t8}(h:∀p∈scope.names,p.2=.free->∃c,env.cells.lookup p.1=dD c):yt scope env=tS (B4 env.cells scope.names []):=by rw[yt];rw[Fn env _ (λb a e=>by cases d:a==rX<;>simp[d]) scope.names [] h];rfl
theorem AL:∀(a:List (pw×qE)) (N:Nat) (b:List (pw×ls)),ru N a b=ru N a []++b
 |[],_,_=>rfl
 |(n,k)::r,N,b=>by
  unfold ru;split
  ·rw[AL r (N+1) ((n,N)::b),AL r (N+1) [(n,N)],uz];rfl
  ·exact AL r N b
theorem Bw:∀{a:List (pw×qE)} {N:Nat} {m:pw},(m,tL)∈a->∃c,(m,c)∈ru N a []
 |(n,k)::r,N,m,h=>by
  unfold ru;rcases md.mp h with q|q
  ·cases q;rw[if_pos (by rfl),AL];exact⟨_,tK _ pg⟩
  ·split
   ·rw[AL];obtain⟨c,b⟩:=Bw (N:=N+1) q;exact⟨c,u4 _ b⟩
   ·exact Bw q
theorem D7:∀{a:List (pw×qE)} {N:Nat} {m:pw} {c:ls},(m,c)∈ru N a []->(m,tL)∈a
 |[],_,_,_,h=>nomatch h
 |(n,k)::r,N,m,c,h=>by
  unfold ru at h;split at h
  ·rename_i b;rw[AL]at h;rcases tH.mp h with q|q
   ·exact oP _ (D7 q)
   ·simp only[md,r4,or_false,vz]at q;have:k=.cell:=by simpa using b
    rw[q.1,this];exact pg
  ·exact oP _ (D7 h)
theorem D0{b:t8}:∀{a:List (pw×qE)} {n:pw} {k:qE},a.lookup n=dD k->
  (a.map λ(n,k)=>if(k==rX&&b.scope.kind== .function&&b.kindOf n==dD .cell)then(n,tL)else(n,k)).lookup n=dD k\/
  (k=.free/\(a.map λ(n,k)=>if(k==rX&&b.scope.kind== .function&&b.kindOf n==dD .cell)then(n,tL)else(n,k)).lookup n=dD .cell)
 |(m,e)::r,n,k,h=>by
  simp only[ua]at h;simp only[pj];by_cases d:(e==rX&&b.scope.kind== .function&&b.kindOf m==dD .cell)=er
  ·rw[if_pos d,ua];cases c:n==m with
   |true=>rw[c]at h;(replace h:=dE h;subst h);simp only[pl,beq_iff_eq]at d;exact .inr ⟨d.1.1,rfl⟩
   |false=>rw[c]at h;exact D0 h
  ·rw[if_neg d,ua];cases c:n==m with
   |true=>rw[c]at h;(replace h:=dE h;subst h);exact .inl rfl
   |false=>rw[c]at h;exact D0 h
noncomputable abbrev Hj:xE:={cls:=.type "dict",data:=.dict #[]}
theorem OH{M:Model}{A:mx}{E:gx->lb->Prop}{s:lb}{a:o5}{b:ls}{i:List (pw×ls)}{d:pw}{c:t8}{Q:t8->lb->Prop}
  (h:Q {scope:=a,locals:=s.heap.objs.size,globals:=b,cells:=ru (s.heap.objs.size+1) a.names i,qual:=d,func:=eu,code:=c.code,frame:=c.frame,builtins:=c.builtins}
   {s with heap:=xq (s.heap.push Hj) a.names}):
  qH M A (ADr a b i [] d eu .none (dD c)) Q E s:=by
 simp only[ADr,Option.isSome_some,if_true];refine fX (wpAny_alloc ?_);refine fX (wpAny_layCells _ (λj e f=>by cases g:e==tL<;>simp[g]) _ _ _ _ ?_);rw[show({s with heap:=s.heap.push {cls:=.type "dict",data:=.dict #[]}}:lb).heap.objs.size=s.heap.objs.size+1 from rx ..];refine fX ?_;simp only[zP];exact mM (mM h)
theorem jv{o p:Option (pw×qE)}{C:Prop}(h:(match o,p with
  |some (n,k),dD (m,c)=>n==m&&k== .free&&(c== .cell||c== .free)
  |_,_=>fG)=er) (e:∀n c,o=dD (n,.free)->p=dD (n,c)->(c=.cell\/c=.free)->C):C:=by
 induction o using m8 with
 |none=>exact fT h
 |some a=>induction p using m8 with
  |none=>exact fT h
  |some b=>have h:=nM.mp h;have d:=nM.mp h.1;exact e b.1 b.2 (congrArg dD (congr (congrArg Prod.mk (qy d.1)) (qy d.2))) rfl ((Bool.or_eq_true_iff.mp h.2).imp qy qy)
theorem Dm{g d:o5}{k:Ev}:∀{f:List (Nat×Nat)},GR g d f=er->∀i v,(Bu k f).get i=dD v->∃j n c,(i,j)∈f/\k.get j=dD v/\d.names[i]?=dD (n,.free)/\g.names[j]?=dD (n,c)/\(c=.cell\/c=.free)
 |[],_,i,v,h=>by simp[E7,C2,DN,AC]at h
 |(t,l)::r,e,i,v,h=>by
  have e:=nM.mp e
  rewrite [C2]at h
  split at h
  ·rename_i w m
   rewrite [AC]at h
   split at h
   ·rename_i o;refine dE h▸?_;have:=lk o;refine this▸?_;refine jv e.1 λn c p q s=>⟨l,n,c,pg,m,p,q,s⟩
   ·refine BU (Dm e.2 i v h) λj n c a b=>?_;exact⟨j,n,c,oP _ a,b⟩
  ·refine BU (Dm e.2 i v h) λj n c a b=>?_;exact⟨j,n,c,oP _ a,b⟩
theorem M6{Z:Bs}{n:Nat}{A:mx}{sc d:o5}{f:t8}{ok:ls->Prop}{s:lb}{ρ:Ev}{fr:List (Nat×Nat)}(O:Z.Ok)(S:St Z n A sc f ok s ρ)(H:KW sc d=er)(I:GR sc d fr=er):
  yt d f=tS (B4 f.cells d.names [])/\
  ∀r,r={({scope:=d,locals:=s.heap.objs.size,globals:=f.globals,cells:=ru (s.heap.objs.size+1) d.names (B4 f.cells d.names []),qual:=f.qual,func:=eu,code:=f.code,frame:=f.frame,builtins:=f.builtins}:t8)with scope:=relabel d f}->
   EnvR Z d r (λb=>ok b/\b≠s.heap.objs.size/\∀m,r.cells.lookup m≠dD b) (xq (s.heap.push Hj) d.names) (Bu ρ fr)/\
   (∀b,Fo d r b->s.heap.get? b=eu)/\(∀m c,r.cells.lookup m=dD c->s.heap.get? c=eu\/f.cells.lookup m=dD c):=by
 unfold KW at H;simp only[pl,beq_iff_eq,decide_eq_true_eq]at H
 (refine CB λX kk=>?_;obtain⟨⟨hk,nd⟩,N⟩:=H<;>refine kk ?_)
 have C:∀p∈d.names,p.2=.free->∃c,f.cells.lookup p.1=dD c:=λp hp hf=>by
  have:=mH.mp N p hp;simp only[hf,bne_self_eq_false,ACX,vJ,beq_iff_eq]at this;rcases this with h|h
  ·refine A2 (S.e.ce _ h) λc e X=>?_;exact⟨c,e⟩
  ·exact S.e.fe _ h
 refine⟨Ff C,?_⟩;rintro r rfl;have D:∀b o,s.heap.get? b=dD o->(xq (s.heap.push Hj) d.names).get? b=dD o:=λb o e=>zt _ _ b o (lh _ e);have E:=cellsFrom_ok d.names (s.heap.push Hj) (s.heap.objs.size+1) [] ⟨λX X Q=>(nomatch Q),zQ⟩ (by simp only[rx];exact qF _);rw[rx]at E;have t:∀m c,(m,c)∈B4 f.cells d.names []->f.cells.lookup m=dD c:=Db C (λX X h=>nomatch h);have l:∀m c,(ru (s.heap.objs.size+1) d.names (B4 f.cells d.names [])).lookup m=dD c->((m,c)∈ru (s.heap.objs.size+1) d.names [])\/((ru (s.heap.objs.size+1) d.names []).lookup m=eu/\f.cells.lookup m=dD c):=λm c h=>by
  rw[AL,wm]at h;cases U:(ru (s.heap.objs.size+1) d.names []).lookup m with
  |some L=>rw[U]at h;(replace h:=dE h;subst h);exact .inl (mem_of_lookup U)
  |none=>rw[U]at h;exact .inr ⟨rfl,t m c (mem_of_lookup (by simpa using h))⟩
 have G:∀m c,(m,c)∈ru (s.heap.objs.size+1) d.names []->s.heap.objs.size+1<=c:=λm c h=>(E.empty m c h).2;have B:∀m c,(m,c)∈ru (s.heap.objs.size+1) d.names []->s.heap.get? c=eu:=λm c h=>Cp _ (ABo (G m c h));have Bx:∀m c,f.cells.lookup m=dD c->c<s.heap.objs.size:=λm c h=>by
  obtain⟨⟨v,o,e,_⟩,_⟩:=S.e.cx m c h;exact rR e
 refine⟨?_,?_,λm c h=>(l m c h).imp (B m c) And.right⟩
 ·refine{fn:=hk,gl:=S.e.gl,bt:=S.e.bt,nd:=nd,kd:=λm k h=>D0 h,nm:=λi v h=>?_,ns:=⟨λX=>eu,?_,λi v m h e=>?_⟩,cl:=λi v m k h e hk=>?_,ap:=λm Y c h h'=>?_,cx:=λm c h=>⟨?_,?_,λq=>q.2.2 m h⟩,ce:=λm h=>?_,fe:=λm h=>?_,nl:=λq=>q.2.1 rfl,nb:=S.i.fresh (A6 _)}
  ·refine L6 (Dm I i v h) λj nn k' X X e X=>?_;exact⟨nn,_,e,.inr (.inr rfl)⟩
  ·exact(Heap.Ns.new s.heap (.type "dict")).keeps (zt _ _)
  ·refine L6 (Dm I i v h) λj nn k' X X M X=>?_;exact nomatch (M.symm.trans e)
  ·refine Je (Dm I i v h) λj nn k' X hj M e2 a1=>?_;rw[M]at e;cases e;refine BJ (S.e.cl j v _ k' hj e2 a1) λc u x y z=>?_;have J:(ru (s.heap.objs.size+1) d.names (B4 f.cells d.names [])).lookup m=dD c:=by
    rw[AL,wm];cases U:(ru (s.heap.objs.size+1) d.names []).lookup m with
    |some L=>
     exfalso;have g:=D7 (mem_of_lookup U);obtain⟨i1,a0⟩:=u5 g;have:=Cz nd a0 M
     (replace this:=this.symm;subst this)
     exact nomatch (a0.symm.trans M)
    |none=>obtain⟨c1,g⟩:=Cy (cells:=f.cells) (acc:=[]) (qk M);obtain⟨c2,w⟩:=AV g;have:=t m c2 (mem_of_lookup w);rw[x]at this;(replace this:=dE this;simp only[this]);simpa using w
   refine⟨c,u,J,y.keeps D,?_⟩;refine(z.goal (ok':=λb=>ok b/\b≠s.heap.objs.size/\∀m,(ru (s.heap.objs.size+1) d.names (B4 f.cells d.names [])).lookup m≠dD b) (λb o q a=>⟨a,Ar q,λm Q=>?_⟩)).mono (λb o X q X=>D b o q) λX X a X=>a;rcases l m b Q with g|⟨_,g⟩
   ·have:=B m b g;exact sN (q.symm.trans this)
   ·exact S.e.co g a
  ·rcases l m c h with g|⟨h0,g⟩<;>rcases l Y c h' with w|⟨a2,w⟩
   ·exact name_of_addr E.apart g w
   ·have:=Bx Y c w;have:=G m c g;exact absurd (nR (rn _) this) (ABX.mpr (nV (Bx Y c w)))
   ·have:=G Y c w;exact absurd (nR (rn _) this) (ABX.mpr (nV (Bx m c g)))
   ·exact S.e.ap m Y c g w
  ·rcases l m c h with g|⟨_,g⟩
   ·exact⟨_,(E.empty m c g).1⟩
   ·obtain⟨⟨v,x⟩,_⟩:=S.e.cx m c g;exact⟨v,x.keeps D⟩
  ·rcases l m c h with g|⟨_,g⟩
   ·exact um (G m c g)
   ·exact sU (Bx m c g)
  ·obtain⟨c,g⟩:=Bw (N:=s.heap.objs.size+1) (mem_of_lookup h);obtain⟨L,w⟩:=AV g;refine⟨L,?_,S.i.fresh (B m L (mem_of_lookup w))⟩;show(ru (s.heap.objs.size+1) d.names (B4 f.cells d.names [])).lookup m=dD L;rw[AL,wm,w];rfl
  ·obtain⟨c1,g⟩:=Cy (cells:=f.cells) (acc:=[]) (mem_of_lookup h);obtain⟨c2,w⟩:=AV g;show∃c,(ru (s.heap.objs.size+1) d.names (B4 f.cells d.names [])).lookup m=dD c;rw[AL,wm,w];cases (ru (s.heap.objs.size+1) d.names []).lookup m<;>exact⟨_,rfl⟩
 ·rintro b (rfl|⟨m,Q,h⟩)
  ·exact A6 _
  ·rcases l m b h with g|⟨h0,g⟩
   ·exact B m b g
   ·obtain⟨c,w⟩:=Bw (N:=s.heap.objs.size+1) (mem_of_lookup Q);obtain⟨L,h3⟩:=AV w;rw[h0]at h3;exact nS h3
theorem FI{Z:Bs}{I:List gx->Nat->Prop}(hI:Mon I){n:Nat}{A:mx}{sc j:o5}{k:t8}{ok:ls->Prop}{s:lb}{ρ:Ev}{fr:List (Nat×Nat)}(O:Z.Ok)(S:St Z n A sc k ok s ρ)(a0:KW sc j=er)(a9:GR sc j fr=er)
  {t te xi ie xt fs g cs xe a1 vs zs aa p ac} {Q:gx->lb->Prop} (ap:D2 j t te=er) (ae:SI Z n A sc te xi ie) (aq:fH Z n A j xt fs) (G:GS Z n A j g cs) (ar:ia Z I n A j xe a1) (hi:I [] s.toks)
  (as:xi ρ=dD vs) (hz:Ai t (Bu ρ fr) (λaf=>BD (xt af) (g af λau=>one (xe au))) vs=dD zs) (ag:A5 zs=er)
  (hQ:∀D C s' ws nn,s'.heap.get? D=dD ⟨.type "list",eu,.seq ws nn,#[]⟩->I ws.toList s'.toks->s.heap.get? D=eu->s.heap.get? C=eu->(∃m,s'.heap.Ns C m)->VR Z.prog Z.w (λb=>ok b/\b≠C) s'.heap (.ref D) (.l zs)->Same Z s s'->compPost (qQ Z.prog Z.w) A li ac Q (.ref D) C (.ok .next) s'):
  WP Z A (AAy (.ListComp a1 (⟨te,ie,fs,0⟩::cs) j aa) j k p (newList []) fG (tW ie k) ac) Q s:=by
 have B:=a0;unfold KW at B;simp only[pl,beq_iff_eq,decide_eq_true_eq]at B;obtain⟨⟨a2,nd⟩,_⟩:=B;refine wpAny_comprehension_free (g:=⟨te,ie,fs,0⟩) (gs:=cs) rfl (ae.1 k) (M6 O S a0 a9).1 a2 (λx hx hl=>by
  obtain⟨i,hi⟩:=u5 hx;have:=A8 nd (i:=i) (n:=x.1) (k:=x.2) hi;simp only[this,hl]) ?_
 refine A1 (wT (qF _) (ae.2 k ok s ρ vs as S)) λy s1 h1=>A1 (wT h1.1 h1.2) λit u h2=>?_;obtain⟨tk,h2⟩:=h2;refine Je h2 λfp gp J hJ hj S2 a3 av=>?_;have ah:∀b o,s.heap.get? b=dD o->¬fp b:=λb o e f=>nS ((a3 b f).1.symm.trans e);have fD:u.heap.get? u.heap.objs.size=eu:=A6 _;refine sP ?_ (by size_fits);have L:Same Z u {u with heap:=u.heap.push {cls:=.type "list",data:=.seq ([]:List gx).toArray}}:=Same.push (tk:=u.toks) O;have gD:(u.heap.push {cls:=.type "list",data:=.seq ([]:List gx).toArray}).get? u.heap.objs.size=dD {cls:=.type "list",data:=.seq ([]:List gx).toArray}:=mA _ rfl
 revert L gD
 generalize ai:({u with heap:=u.heap.push {cls:=.type "list",data:=.seq ([]:List gx).toArray}}:lb)=l;have tk:s.toks<=l.toks:=by rw[<-ai];exact tk
 have N:l.heap=u.heap.push {cls:=.type "list",data:=.seq ([]:List gx).toArray}:=by rw[<-ai]
 rw[<-N];intro L gD;have E:∀b o,u.heap.get? b=dD o->l.heap.get? b=dD o:=λb o e=>by rw[N];exact lh _ e
 generalize b0:u.heap.objs.size=D at fD gD⊢;have z:s.heap.get? D=eu:=S2.live D fD;have a4:St Z n A sc k (λa=>(ok a/\¬fp a)/\a≠D) l ρ:=⟨S.a,
  (S.e.goal (ok':=λa=>(ok a/\¬fp a)/\a≠D) (λb o e a=>⟨⟨a,ah b o e⟩,λq=>nS (z.symm.trans (q▸e))⟩) λb a=>a.1.1).same (S2.trans L),
  L.inv (S2.inv S.i),λa ha=>⟨⟨(S2.trans L).hok S.k a ha,λf=>A2 (a3 a f).2 λo e X=>sN ((E a o e).symm.trans ha)⟩,λq=>sN (gD.symm.trans (q▸ha))⟩⟩
 obtain⟨_,aw⟩:=M6 O a4 a0 a9;refine OH ?_;refine BO (aw _ rfl) λE4 aj M=>?_;generalize a5:({({scope:=j,locals:=l.heap.objs.size,globals:=k.globals,cells:=ru (l.heap.objs.size+1) j.names (B4 k.cells j.names []),qual:=k.qual,func:=eu,code:=k.code,frame:=k.frame,builtins:=k.builtins}:t8)with scope:=relabel j k})=d at E4 aj M⊢;have a6:d.locals=l.heap.objs.size:=by rw[<-a5]
 have H:({scope:=j,locals:=l.heap.objs.size,globals:=k.globals,cells:=ru (l.heap.objs.size+1) j.names (B4 k.cells j.names []),qual:=k.qual,func:=eu,code:=k.code,frame:=k.frame,builtins:=k.builtins}:t8).locals=d.locals:=by rw[a6]
 rw[H];have fC:l.heap.get? d.locals=eu:=by exact(congrArg _ a6).trans (A6 _)
 rw[<-a6]at E4;have w:∀b o,l.heap.get? b=dD o->(xq (l.heap.push Hj) j.names).get? b=dD o:=λb o e=>zt _ _ b o (lh _ e);have S4:Same Z l {l with heap:=xq (l.heap.push Hj) j.names}:=Same.of_keep (tk:=l.toks) O w;generalize ak:({l with heap:=xq (l.heap.push Hj) j.names}:lb)=U at S4⊢;have tk:s.toks<=U.toks:=by rw[<-ak];exact tk
 have Y:U.heap=xq (l.heap.push Hj) j.names:=by rw[<-ak]
 rw[<-Y]at E4;have al:∀b o,l.heap.get? b=dD o->U.heap.get? b=dD o:=λb o e=>by rw[Y];exact w b o e
 have ax:St Z n A j d (λb=>((ok b/\¬fp b)/\b≠D)/\b≠d.locals/\∀m,d.cells.lookup m≠dD b) U (Bu ρ fr):=⟨S.a,E4,S4.inv a4.i,λa ha=>⟨S4.hok a4.k a ha,(λq=>E4.lv (q▸ha)),λm q=>E4.cv q ha⟩⟩
 have nC:∀b o,u.heap.get? b=dD o->b≠d.locals:=λb o e q=>sN ((E b o e).symm.trans (q▸fC));have am:J (λb=>((ok b/\¬fp b)/\b≠D)/\b≠d.locals/\∀m,d.cells.lookup m≠dD b) vs U:=by
  refine hJ.keep _ vs u U (hJ.goal _ _ vs u hj λb o e a=>⟨⟨a,(λq=>nS (fD.symm.trans (q▸e)))⟩,nC b o e,λm q=>?_⟩) (λb o X e X=>al b o (E b o e)) λi x X e=>S4.gens i x (L.gens i x e);rcases M m b q with h|h
  ·exact sN ((E b o e).symm.trans h)
  ·exact S.e.co h a.1
 have an:D≠d.locals:=λq=>sN (gD.symm.trans (q▸fC));have ay:∀m,d.cells.lookup m≠dD D:=λm q=>by
  rcases M m D q with h|h
  ·exact sN (gD.symm.trans h)
  ·exact S.e.cv h z
 have az:∀b,fp b->b≠D/\b≠d.locals/\∀m,d.cells.lookup m≠dD b:=λb f=>by
  (obtain⟨h0,ao⟩:=a3 b f;refine A2 ao λo e X=>?_)
  refine⟨(λq=>nS (fD.symm.trans (q▸e))),nC b o e,λm q=>?_⟩;rcases M m b q with h|h
  ·exact sN ((E b o e).symm.trans h)
  ·exact S.e.cv h h0
 have run:tv (qQ Z.prog Z.w) A (.compLoop (.ListComp a1 (⟨te,ie,fs,0⟩::cs) j aa) 0 it (.ref D) d) _ U:=
  OV hI O ar an ay (S.i.fresh z) G (k:=0) rfl ap aq hJ az vs am ax (λh=>h.1.2 rfl) (λb f h=>h.1.1.2 f) (al _ _ gD) (.nil:VRs Z.prog Z.w _ U.heap [] []) hz ag (hI _ _ _ hi tk)
 refine uV (FZ (by rfl) run (A1 (hJ.self _ _ _ am) (λv s5 h=>?_))) λr s5 h=>?_
 ·((obtain⟨qz,qz⟩:=h<;>try (replace qz:=qz.symm;subst qz))<;>try (replace qz:=qz.symm;subst qz));exact run
 ·(refine D1 h λa7 a8 c5 E5=>?_;rw[a7];(refine CB λX kk=>?_;obtain⟨ws,n5,d5,y5,i5⟩:=a8<;>refine kk ?_))
  refine hQ D d.locals s5 ws n5 d5 i5 z (S2.live _ (L.live _ fC)) ?_ ?_ ?_
  ·exact E5.n0
  ·exact .l ⟨S.k D z,an⟩ d5 (y5.mono (λX X X e X=>e) λb o a X=>⟨a.1.1.1,a.2.1⟩)
  ·have c:=(S2.trans (L.trans S4)).ch (fp:=λb=>b=D\/Fo j d b\/fp b) (gp:=gp)|>.trans c5
   refine c.same (λb o e f=>?_) (λi hi f=>absurd (av i f) (uQ.mpr hi));rcases f with f|f|f
   ·exact nS (z.symm.trans (f▸e))
   ·have:=aj b f;exact nS (((S2.trans L).live b this).symm.trans e)
   ·exact ah b o e f
structure Wd(Z:Bs) where
 fnA:Nat->ls
 fn:∀f n,jw[f]?=dD n->Z.mg n=dD (.ref (fnA f))/\∃o fd,Z.B.heap.get? (fnA f)=dD o/\o.data=.func fd
 bi:∀f:BI,Z.mg f.nm=eu/\Z.mb f.nm=dD f.val
 range:Z.mg "range" =eu/\Z.mb "range" =dD (.type "range")
 enum:Z.mg "enumerate" =eu/\Z.mb "enumerate" =dD (.type "enumerate")
 zip:Z.mg "zip" =eu/\Z.mb "zip" =dD (.type "zip")
 rev:Z.mg "reversed" =eu/\Z.mb "reversed" =dD (.type "reversed")
 gl:∀(k:Nat) (p:pw×V),Ni[k]?=dD p->∃u:gx,Z.mg p.1=dD u/\∀ok h,VR Z.prog Z.w ok h u p.2
def B2(Z:Bs)(W:Wd Z)(e:Cl)(n:Nat):Prop:=∀f b x,e f b=dD x->∀A ok s c,OkA n A->Inv Z s->(∀a,s.heap.get? a=eu->ok a)->VRs Z.prog Z.w ok s.heap c b->
 WP Z A (t9 (.ref (W.fnA f)) c) (Gv Z ok s x) s
noncomputable def qN(Z:Bs)(A:mx)(b:f0)(I:gx)(e:ls->Prop)(f:Nat->Prop)(J:(ls->Prop)->List V->lb->Prop)(s:lb):List V->Prop
 |[]=>WP Z A (tb I) (λr j=>r=eu/\Ch Z e f s j) s
 |x::h=>∀ok:ls->Prop,(∀a,s.heap.get? a=eu->ok a)->WP Z A (tb I) (λr j=>∃v,r=dD v/\Ch Z e f s j/\
   WP Z A (rA b I v) (λz c=>VR Z.prog Z.w (λa=>ok a/\¬e a) c.heap v x/\J (λa=>ok a/\¬e a) h c/\Ch Z e f j c) j) s
def Itg(Z:Bs)(A:mx)(a:f0)(s:lb)(k:List V)(c:gx)(j:lb):Prop:=
 (∃e f J,Trn Z A a c e f J/\qN Z A a c e f J j k/\Same Z s j/\(∀b,e b->s.heap.get? b=eu)/\∀i,f i->s.gens.size<=i)/\WP Z A (wK c) (λv h=>v=c/\h=j) j
def Av(Z:Bs)(W:Wd Z)(n:Nat):Prop:=∀l,A5 l=er->∀A ok s u b,OkA n A->Inv Z s->(∀a,s.heap.get? a=eu->ok a)->VR Z.prog Z.w ok s.heap u (.str l)->
 WP Z A (t9 (.ref (W.fnA 0)) [u]) (Itg Z A b s (Br 0 fG l)) s
def mh(Z:Bs)(n:Nat)(A:mx)(g:o5)(x:Ev->Option Bool)(e:f0):Prop:=
 ∀d ok s ρ b,x ρ=dD b->St Z n A g d ok s ρ->WP Z A (isTrue e d (tW e d)) (λc j=>c=b/\Same Z s j) s
def SL(Z:Bs)(n:Nat)(A:mx)(g:o5)(x:Ev->Option (List V))(c:List f0):Prop:=
 ∀d ok s ρ b a,x ρ=dD b->St Z n A g d ok s ρ->WP Z A (ABY (wZ a (uD c d))) (λe j=>VRs Z.prog Z.w ok j.heap e b/\Same Z s j) s
section
variable{Z:Bs}{n:Nat}{A:mx}{g:o5}{d:t8}{ok:ls->Prop}{s j:lb}{ρ:Ev}
theorem Inv.ns_g(O:Z.Ok)(i:Inv Z s):s.heap.Ns sf Z.mg:=by refine AW (An O.g) λo e t z=>?_;exact O.g.at' λb a=>by rw[e]at a;(replace a:=dE a;subst a);exact i.keep _ _ e t
theorem Inv.ns_b(O:Z.Ok)(i:Inv Z s):s.heap.Ns yj Z.mb:=by refine AW (An O.b) λo e t z=>?_;exact O.b.at' λb a=>by rw[e]at a;(replace a:=dE a;subst a);exact i.keep _ _ e t
theorem Iw{n m:pw}(h:B0 g n m=er):n=m/\g.names.lookup n=dD .globalImplicit/\(n==("__debug__" :pw))=fG:=by unfold B0 at h;simp only[pl,beq_iff_eq,bne_iff_ne,ne_eq]at h;exact⟨h.1.1,h.1.2,by rw[beq_eq_false_iff_ne];exact h.2⟩
theorem Gx(R:EnvR Z g d ok s.heap ρ){n:pw}(h:g.names.lookup n=dD .globalImplicit):d.kindOf n=dD .globalImplicit:=by
 rcases R.kd n _ h with h|⟨h,_⟩
 ·exact h
 ·cases h
theorem Ks(O:Z.Ok)(S:St Z n A g d ok s ρ){m x:pw}{p:tE}{v:gx}(b:B0 g m x=er)(c:Z.mg x=dD v):WP Z A (tW (.Name m p) d) (λu j=>u=v/\j=s) s:=by
 (refine BO (Iw b) λa e f=>?_;subst a)
 exact wi S.e.fn (Gx S.e e) (Calls.loadGlobal_global (by exact S.e.gl▸S.i.ns_g O) c ⟨rfl,rfl⟩) f
theorem Et(O:Z.Ok)(S:St Z n A g d ok s ρ){m x:pw}{p:tE}{v:gx}(c:B0 g m x=er)(b:Z.mg x=eu/\Z.mb x=dD v):WP Z A (tW (.Name m p) d) (λu j=>u=v/\j=s) s:=by
 (refine BO (Iw c) λa e f=>?_;subst a)
 exact wi S.e.fn (Gx S.e e) (zZ (by rw[S.e.gl];exact S.i.ns_g O) b.1 (by rw[S.e.bt];exact S.i.ns_b O) b.2 ⟨rfl,rfl⟩) f
theorem SE.mk{x:Ev->Option V}{e:f0}(h:∀d ok s ρ v,x ρ=dD v->St Z n A g d ok s ρ->WP Z A (tW e d) (Gv Z ok s v) s):SE Z n A g x e:=h
theorem C5(O:Z.Ok){x:Ev->Option V}{e:f0}(h:SE Z n A g x e)(l:∀d a,isTrue e d a=(do let v<-a;xV e.pos;zy [v] (truthy v))):mh Z n A g (λρ=>tr (x ρ)) e:=by intro d ok s ρ b f S;refine OX f λv m f=>?_;refine wpAny_isTrue_value (A1 (h d ok s ρ v m S) λu o i=>?_) (l d _);exact A1 (E0 O f i.1) λc p k=>⟨k.1,i.2.trans k.2⟩
noncomputable def xi(x:X):Nat:=X.casesOn x (λz=>19) (λz=>23) (λz=>23) (λz z z=>2) (λz=>3) (λz=>3) (λz=>3) (λz=>0) (λz=>0) (λz z z=>15) (λz z z=>5) (λz z=>21) (λz z z z=>21) (λz z=>16) (λz z=>16) (λz=>16) (λz z z=>16) (λz=>24) (λz=>25) λz z z z z z=>8
theorem Kg{x:X}{e:f0}(h:AH g x e=er):e.ctorIdx=xi x:=by induction x using X.casesOn<;>first|exact aX h|exact i6 h|exact oY h|exact ra h|exact fy h|exact nG h|exact rg h|exact oA h|exact gX h|exact gy h|exact ou h|exact kE h
theorem ZD(x:X):lf (xi x) 22=fG/\lf (xi x) 7=fG:=by induction x using X.casesOn<;>exact⟨rfl,rfl⟩
theorem Pw{x:X}{e:f0}{p:tE}(h:AH g x (.Starred e p)=er):False:=absurd ((congrArg (lf · 22) (Kg h)).trans (ZD x).1) ABq
theorem bq{x:X}{a:List f0}{k:Nat}{p:tE}(h:AH g x (.Set a k p)=er):False:=absurd ((congrArg (lf · 7) (Kg h)).trans (ZD x).2) ABq
theorem Bl{x:X}{e:f0}(h:AH g x e=er)(a:List f0)(d:t8):uD (e::a) d=(fG,tW e d)::uD a d:=by
 induction e using ur with
 |Starred=>exact(Pw h).elim
 |_=>rfl
theorem D5{x:X}{r:XL}{e:f0}{a:List f0}(h:AH g x e=er)(b:Bo g r a=er):Bo g (.cons x r) (e::a)=er:=(pl _ _).mpr ⟨h,b⟩
theorem Ih{a:List f0}(h:Bo g .nil a=er):a=[]:=i0 h
theorem FH{x:X}{r:XL}{b:List f0}(h:Bo g (.cons x r) b=er):∃e a,b=e::a/\AH g x e=er/\Bo g r a=er:=by refine AE (iC h) λe r c h=>?_;exact⟨e,r,c,ba h⟩
theorem Q'{b:Cl}{a}(h:EE b .nil ρ=dD a):a=[]:=(dE h).symm
theorem T6{b:Cl}{x:X}{r:XL}{c}(h:EE b (.cons x r) ρ=dD c):∃v a,c=v::a/\ev b x ρ=dD v/\EE b r ρ=dD a:=by exact qD h λv a e f h=>⟨v,a,(dE h).symm,e,f⟩
theorem Ds{p:Cl}{l:XL}{f:gx}{k:List f0}{i:tE}{m}(o:Bo g l k=er)(t:EE p l ρ=dD m)(h:WP Z A (ABY (wZ i (uD k d))) (λc j=>VRs Z.prog Z.w ok j.heap c m/\Same Z s j) s):
  WP Z A (ADs f er (wZ i (uD k d)) []) (λa j=>∃c,a=⟨c,[]⟩/\VRs Z.prog Z.w ok j.heap c m/\Same Z s j) s:=by
 induction l using XL.casesOn with
 |nil=>cases Ih o;cases Q' t;exact AD4 ⟨[],rfl,.nil,Same.refl⟩
 |cons x r=>
  (refine BJ (FH o) λe k b u v=>?_;subst b)
  rw[Bl u]at h⊢;exact sQ (A1 h (λc j q=>⟨c,rfl,q⟩))
theorem DJ{k:XL}{i:List f0}(f:tE)(d:t8)(h:Bo g k i=er):(wZ f (uD i d)).any (·.1)=fG/\(wZ f (uD i d)).all (λx=>!x.1)=er/\(wZ f (uD i d)).length=i.length:=by
 induction i generalizing k with
 |nil=>exact⟨rfl,rfl,rfl⟩
 |cons e i l=>
  induction k using XL.casesOn with
  |nil=>cases h
  |cons x r=>
   refine BJ (FH h) λz z m o p=>?_;cases m;refine BO (l p) λa b c=>?_;rw[Bl o];refine⟨?_,?_,?_⟩
   ·show(fG||(wZ f (uD i d)).any (·.1))=fG;exact a
   ·show(!fG&&(wZ f (uD i d)).all (λx=>!x.1))=er;exact b
   ·show(wZ f (uD i d)).length+1=i.length+1;rw[c]
theorem cL{a:Cl}:SL Z n A g (EE a .nil) []:=by intro d ok s ρ c b h S;cases Q' h;exact rq ⟨.nil,Same.refl⟩
theorem Pm{c:Cl}{x:X}{r:XL}{e:f0}{f:List f0}(m:AH g x e=er)(o:SE Z n A g (ev c x) e)(p:SL Z n A g (EE c r) f):SL Z n A g (EE c (.cons x r)) (e::f):=by
 intro d ok s ρ l b h S
 (refine BJ (T6 h) λv l a q t=>?_;rw[a])
 rw[Bl m];show qH _ _ (ABY ((fG,tW e d)::wZ b (uD f d))) _ _ _;refine qM (A1 (o d ok s ρ v q S) (λu w i=>?_));exact A1 (p d ok w ρ l b t (S.same i.2)) (λy z k=>⟨.cons (i.1.same k.2) k.1,i.2.trans k.2⟩)
end
section
variable{d:o5}{e:f0}
theorem LL{v:V}(h:AH d (.c v) e=er):∃c k p,e=.Constant c k p/\Qp v c=er:=by exact cC h
theorem Pf{i:Nat}(h:AH d (.v i) e=er):∃m p,e=.Name m p/\FT d i m=er:=by exact BG h
theorem YQ{k:Nat}(h:AH d (.gl k) e=er):∃m p,e=.Name m p/\(match Ni[k]? with|some q=>B0 d m q.1|none=>fG)=er:=by exact BG h
inductive Md(d:o5)(e:f0)(o:qp)(l r:X):Prop
 |mk (a) (b) (p):e=.BinOp a o b p->AH d l a=er->AH d r b=er->Md d e o l r
theorem Ym{o:qp}{l r:X}(h:AH d (.b o l r) e=er):Md d e o l r:=by refine DC (pA h) λa g b p c h=>?_;obtain⟨f,h⟩:=ba h;exact⟨a,b,p,by rw[c,qy f],(ba h).1,(ba h).2⟩
theorem Wq{x:X}(h:AH d (.neg x) e=er):∃a p,e=.UnaryOp .USub a p/\AH d x a=er:=by refine BU (pT h) λo a p b h=>?_;obtain⟨c,h⟩:=ba h;exact⟨a,p,by rw[b,qy c],h⟩
theorem Wu{x:X}(h:AH d (.inv x) e=er):∃a p,e=.UnaryOp .Invert a p/\AH d x a=er:=by refine BU (pT h) λo a p b h=>?_;obtain⟨c,h⟩:=ba h;exact⟨a,p,by rw[b,qy c],h⟩
theorem WR{x:X}(h:AH d (.not x) e=er):∃a p,e=.UnaryOp .Not a p/\AH d x a=er:=by refine BU (pT h) λo a p b h=>?_;obtain⟨c,h⟩:=ba h;exact⟨a,p,by rw[b,qy c],h⟩
theorem Yf{b:XL}(h:AH d (.and b) e=er):∃c p,e=.BoolOp .And c p/\Bo d b c=er:=by refine BU (ZR h) λo a p f h=>?_;obtain⟨g,h⟩:=ba h;exact⟨a,p,by rw[f,qy g],h⟩
theorem bV{b:XL}(h:AH d (.or b) e=er):∃c p,e=.BoolOp .Or c p/\Bo d b c=er:=by refine BU (ZR h) λo a p f h=>?_;obtain⟨g,h⟩:=ba h;exact⟨a,p,by rw[f,qy g],h⟩
inductive N4(d:o5)(e:f0)(o:xG)(l r:X):Prop
 |mk (a) (b) (p):e=.Compare a [o] [b] p->AD2 o b=fG->AH d l a=er->AH d r b=er->N4 d e o l r
theorem Wk{o:xG}{l r:X}(h:AH d (.q l o r) e=er):N4 d e o l r:=by refine DC (nX h) λa os k p c h=>?_;refine A2 (i1 h) λm f h=>?_;refine A2 (i1 h) λb g h=>?_;obtain⟨i,h⟩:=ba h;obtain⟨j,h⟩:=ba h;exact⟨a,b,p,by simp only[c,f,g,qy i],(qI _).mp j,(ba h).1,(ba h).2⟩
inductive MX(d:o5)(e:f0)(t b f:X):Prop
 |mk (t') (b') (f') (p):e=.IfExp t' b' f' p->AH d t t'=er->AH d b b'=er->AH d f f'=er->MX d e t b f
theorem WU{t b f:X}(h:AH d (.ite t b f) e=er):MX d e t b f:=by refine DC (ro h) λa b c p g h=>?_;obtain⟨i,h⟩:=ba h;exact⟨a,b,c,p,g,i,(ba h).1,(ba h).2⟩
theorem Q5{o i:X}(h:AH d (.sub o i) e=er):∃a b p,e=.Subscript a b p/\AH d o a=er/\AH d i b=er:=by refine BU (d0 h) λa b p c h=>?_;exact⟨a,b,p,c,ba h⟩
inductive NU(d:o5)(e:f0)(o:X)(l u s:XO):Prop
 |mk (a) (l') (u') (s') (q) (p):e=.Subscript a (.Slice l' u' s' q) p->AH d o a=er->Nc d l l'=er->Nc d u u'=er->Nc d s s'=er->NU d e o l u s
theorem WY{o:X}{l u s:XO}(h:AH d (.sl o l u s) e=er):NU d e o l u s:=by refine BU (d0 h) λa b p c h=>?_;refine DC (ei h) λx y z q f h=>?_;obtain⟨g,h⟩:=ba h;obtain⟨i,h⟩:=ba h;exact⟨a,x,y,z,q,p,by rw[c,f],g,i,(ba h).1,(ba h).2⟩
set_option tactic.hygienic true in
theorem TC{f:Nat}{b:XL}(h:AH d (.call f b) e=er):∃m q a p,e=.Call (.Name m q) a [] p/\∃x,jw[f]?=dD x/\B0 d m x=er/\WO a=er/\Bo d b a=er:=by
 refine DC (EN h) λg a ks p c h=>?_;obtain⟨i,h⟩:=ba h;refine AE (BG h) λm q j h=>?_;split at h
 ·rename_i x k;have⟨l,h⟩:=ba h;exact⟨m,q,a,p,by rw[c,j,i0 i],x,k,l,ba h⟩
 ·exact fT h
inductive Oy(d:o5)(e:f0)(f:BI)(as:XL):Prop
 |mk (m) (q) (es) (p):e=.Call (.Name m q) es [] p->B0 d m f.nm=er->WO es=er->Bo d as es=er->Oy d e f as
theorem cX{f:BI}{a:XL}(h:AH d (.bi f a) e=er):Oy d e f a:=by refine DC (EN h) λg b ks p c h=>?_;obtain⟨i,h⟩:=ba h;refine AE (BG h) λm q j h=>?_;obtain⟨k,h⟩:=ba h;exact⟨m,q,b,p,by simp only[c,j,i0 i],k,(ba h).1,(ba h).2⟩
inductive KX(d:o5)(e:f0)(as:XL):Prop
 |mk (m) (q) (m') (q') (es) (p') (p):e=.Call (.Name m q) [.Call (.Name m' q') es [] p'] [] p->B0 d m "list" =er->B0 d m' "range" =er->WO es=er->Bo d as es=er->KX d e as
theorem Vn{f:XL}(h:AH d (.lr f) e=er):KX d e f:=by refine DC (EN h) λg x ks p i h=>?_;obtain⟨j,h⟩:=ba h;refine AE (BG h) λm q k h=>?_;refine A2 (i1 h) λb l h=>?_;refine DC (EN h) λy a n o r h=>?_;obtain⟨c,h⟩:=ba h;refine AE (BG h) λs t u h=>?_;obtain⟨v,h⟩:=ba h;obtain⟨w,h⟩:=ba h;exact⟨m,q,s,t,a,o,p,by simp only[i,k,i0 j,l,r,u,i0 c],v,w,(ba h).1,(ba h).2⟩
inductive K6(d:o5)(e:f0)(o:X)(m:MI)(as:XL):Prop
 |mk (a) (ap) (es) (p):e=.Call (.Attribute a m.name ap) es [] p->L0 a=er->(ap.endLine==p.line)=er->WO es=er->AH d o a=er->Bo d as es=er->K6 d e o m as
theorem S8{o:X}{m:MI}{c:XL}(h:AH d (.me o m c) e=er):K6 d e o m c:=by refine DC (EN h) λg f ks p i h=>?_;obtain⟨j,h⟩:=ba h;refine BU (Vj h) λa n k l h=>?_;obtain⟨b,h⟩:=ba h;obtain⟨q,h⟩:=ba h;obtain⟨r,h⟩:=ba h;obtain⟨s,h⟩:=ba h;exact⟨a,k,f,p,by simp only[i,l,i0 j,qy b],q,r,s,(ba h).1,(ba h).2⟩
theorem Wb{a:XL}(h:AH d (.l a) e=er):∃b p,e=.List b p/\Bo d a b=er:=by exact iD h
theorem Wv{a:XL}(h:AH d (.t a) e=er):∃b k p,e=.Tuple b k p/\Bo d a b=er:=by exact MS h
inductive KA(d:o5)(e:f0)(el:X)(t:T)(it:It)(fi:XO)(gs:GL)(fr:List (Nat×Nat)):Prop
 |mk (x) (te) (ie) (fs) (cs) (sc') (p):e=.ListComp x (⟨te,ie,fs,0⟩::cs) sc' p->KW d sc'=er->GR d sc' fr=er->D2 sc' t te=er->Jh it te=er->Gh d it ie=er->W7 sc' fi fs=er->Qo sc' gs cs=er->AH sc' el x=er->KA d e el t it fi gs fr
theorem Gg{b:X}{t:T}{c:It}{f:XO}{g:GL}{i:List (Nat×Nat)}(h:AH d (.cm b t c f g i) e=er):KA d e b t c f g i:=by refine DC (iG h) λx y a p j h=>?_;refine DC (lQ h) λk l m r n h=>?_;obtain⟨o,h⟩:=ba h;obtain⟨q,h⟩:=ba h;obtain⟨s,h⟩:=ba h;obtain⟨u,h⟩:=ba h;obtain⟨v,h⟩:=ba h;obtain⟨w,h⟩:=ba h;exact⟨x,k,l,m,r,a,p,by rw[j,n],o,q,s,u,v,w,(ba h).1,(ba h).2⟩
end
section
variable(Z:Bs)(n:Nat)(A:mx)(cl:Cl)
def PX(x:X):Prop:=∀f e,AH f x e=er->SE Z n A f (ev cl x) e/\mh Z n A f (λρ=>tr (ev cl x ρ)) e
structure rp(f:o5)(xs:XL)(es:List f0):Prop where
 l:SL Z n A f (EE cl xs) es
 ba:∀pos d ok s ρ v,I9 cl xs ρ=dD v->St Z n A f d ok s ρ->WP Z A (boolOp pos .And (evalEach es d)) (Gv Z ok s v) s
 br:∀pos d ok s ρ v,IG cl xs ρ=dD v->St Z n A f d ok s ρ->WP Z A (boolOp pos .Or (evalEach es d)) (Gv Z ok s v) s
 ta:∀d ok s ρ b,tr (I9 cl xs ρ)=dD b->St Z n A f d ok s ρ->WP Z A (allTrue .And es d) (λc j=>c=b/\Same Z s j) s
 tr:∀d ok s ρ b,tr (IG cl xs ρ)=dD b->St Z n A f d ok s ρ->WP Z A (allTrue .Or es d) (λc j=>c=b/\Same Z s j) s
def PL(a:XL):Prop:=∀f b,Bo f a b=er->rp Z n A cl f a b
def PO(o:XO):Prop:=(∀f e,Nc f o e=er->∀d ok s ρ p,PQ cl o ρ=dD p->St Z n A f d ok s ρ->WP Z A (evalPart e d) (λu j=>PartR u p/\Same Z s j) s)/\
 ∀f a,W7 f o a=er->fH Z n A f (Hk cl o) a
def PI(a:It):Prop:=∀f b e,Gh f a e=er->Jh a b=er->SI Z n A f b (EW cl a) e
def PG(g:GL):Prop:=∀f a,Qo f g a=er->GS Z n A f (Jl cl g) a
end
section
variable{Z:Bs}{n:Nat}{A:mx}{cl:Cl}(O:Z.Ok)(W:Wd Z)(z:B2 Z W cl n)(B:Av Z W n){f:o5}{d:t8}{ok:ls->Prop}{s j:lb}{ρ:Ev}
include O in
theorem Zx{v:V}:PX Z n A cl (.c v):=by
 intro f e h;have b:=LL h;clear h;(refine BU b λc k p a h=>?_;rw[a]);have:SE Z n A f (ev cl (.c v)) (.Constant c k p):=by
  intro d ok s ρ w g S;cases (dE g:v=w);exact VQ (P:=λv c=>WP Z A (tW (.Constant c k p) d) (Gv Z ok s v) s) h (mM ⟨.none,Same.refl⟩)
   (λz=>show qH _ _ (tS (AAt _)) _ _ _ from mM ⟨.bool _,Same.refl⟩) (λz=>ACY (BQ O)) (λz=>wj (EA O rfl)) λz=>AB4 (Bc O)
 exact⟨this,C5 O this λz z=>rfl⟩
include O in
theorem Zl{i:Nat}:PX Z n A cl (.v i):=by
 intro f e h;have b:=Pf h;clear h;(refine AE b λm p a h=>?_;rw[a]);have:SE Z n A f (ev cl (.v i)) (.Name m p):=by intro d ok s ρ w c S;exact Nh h λk g l o=>ON (S.e.load c g l o) λz q=>⟨q,Same.refl⟩
 exact⟨this,C5 O this λz z=>rfl⟩
include O W in
theorem Z9{k:Nat}:PX Z n A cl (.gl k):=by
 intro f e h;have g:=YQ h;clear h;(refine AE g λm p a h=>?_;rw[a]);have:SE Z n A f (ev cl (.gl k)) (.Name m p):=by
  intro d ok s ρ w b S;refine Jj (Ni[k]?) (λe=>?_) λq c=>?_
  ·rw[e]at h;exact fT h
  ·rw[c]at h;have b:(match Ni[k]? with|some p=>dD p.2|none=>eu)=dD w:=b;rw[c]at b;exact A2 (W.gl k q c) λu i l=>Ce (Ks O S h i) (dE b▸⟨l _ _,Same.refl⟩)
 exact⟨this,C5 O this λz z=>rfl⟩
include O in
theorem ZS{o:qp}{l r:X}(k:PX Z n A cl l)(m:PX Z n A cl r):PX Z n A cl (.b o l r):=by
 intro f e h;have q:=Ym h;clear h;obtain⟨a,b,p,rfl,t,C⟩:=q;have:SE Z n A f (ev cl (.b o l r)) (.BinOp a o b p):=by
  intro d ok s ρ w D S;exact TF D λx y E G H=>AB5 (A1 ((k f a t).1 d ok s ρ x E S) λu I c=>A1 ((m f b C).1 d ok I ρ y G (S.same c.2)) λv J g=>A1 (G7 O H (g.2.hok (c.2.hok S.k)) (c.1.same g.2) g.1) λv L i=>⟨i.1,(c.2.trans g.2).trans i.2⟩)
 exact⟨this,C5 O this λz z=>rfl⟩
include O in
theorem aC{x:X}(k:PX Z n A cl x):PX Z n A cl (.neg x):=by
 intro f e h;have l:=Wq h;clear h;(refine AE l λa p b h=>?_;rw[b]);have:SE Z n A f (ev cl (.neg x)) (.UnaryOp .USub a p):=by intro d ok s ρ w c S;refine oV c λv m c=>dj c λi o q=>?_;subst o q;refine AAz (A1 ((k f a h).1 d ok s ρ _ m S) λu r g=>?_);exact VR.kInt g.1 λz=>ADZ ⟨.int _ _,g.2.trans (Same.tok O)⟩
 exact⟨this,C5 O this λz z=>rfl⟩
include O in
theorem ZZ{x:X}(k:PX Z n A cl x):PX Z n A cl (.inv x):=by
 intro f e h;have l:=Wu h;clear h;(refine AE l λa p b h=>?_;rw[b]);have:SE Z n A f (ev cl (.inv x)) (.UnaryOp .Invert a p):=by intro d ok s ρ w c S;refine oV c λv m c=>eP c λi o q=>?_;subst o q;refine AAz (A1 ((k f a h).1 d ok s ρ _ m S) λu r g=>?_);exact VR.kInt g.1 λz=>ADa ⟨.int _ _,g.2.trans (Same.tok O)⟩
 exact⟨this,C5 O this λz z=>rfl⟩
include O in
theorem ZE{x:X}(o:PX Z n A cl x):PX Z n A cl (.not x):=by
 intro f e h;have q:=WR h;clear h;(refine AE q λa p i h=>?_;rw[i]);refine⟨?_,?_⟩
 ·intro d ok s ρ w m S;refine oB m λb g m=>OX g λv k g=>?_;refine AAz (A1 ((o f a h).1 d ok s ρ v k S) λu r l=>not_value ?_);exact GH (E0 O g l.1) λC t=>dE m▸⟨.bool _,l.2.trans t⟩
 ·intro d ok s ρ b g S;refine OX (o:=ev cl (.not x) ρ) g λv k g=>oB k λc y k=>?_;refine wpAny_isTrue_Not (GH ((o f a h).2 d ok s ρ c y S) λr l=>?_);rw[<-dE k]at g;exact dE g▸⟨rfl,l⟩
theorem Zq{c:XL}(g:PL Z n A cl c):PX Z n A cl (.and c):=by
 intro f e h;have i:=Yf h;clear h;(refine AE i λk p a h=>?_;refine a▸?_);have H:=g f k h;refine⟨λd ok s ρ v l S=>?_,λd ok s ρ b m S=>?_⟩
 ·exact H.ba p d ok s ρ v l S
 ·exact ACC (H.ta d ok s ρ b m S)
theorem jV{c:XL}(g:PL Z n A cl c):PX Z n A cl (.or c):=by
 intro f e h;have i:=bV h;clear h;(refine AE i λk p a h=>?_;refine a▸?_);have H:=g f k h;refine⟨λd ok s ρ v l S=>?_,λd ok s ρ b m S=>?_⟩
 ·exact H.br p d ok s ρ v l S
 ·exact ACC (H.tr d ok s ρ b m S)
include O in
theorem ZO{o:xG}{l r:X}(J:PX Z n A cl l)(L:PX Z n A cl r):PX Z n A cl (.q l o r):=by
 intro f e h;have M:=Wk h;clear h;obtain⟨a,b,p,rfl,I,N,Q⟩:=M;have i:∀d ok s ρ v,ev cl (.q l o r) ρ=dD v->St Z n A f d ok s ρ->∃c,v=.bool c/\WP Z A (tW a d) (λu C=>WP Z A (tW b d) (λw E=>WP Z A (vI o u w) (λq G=>q=.bool c/\Same Z s G) E) C) s:=by
  intro d ok s ρ v g S;refine f7 g λx y U Y g=>Yj g λc hc g=>⟨c,g,?_⟩
  refine A1 ((J f a N).1 d ok s ρ x U S) λu C k=>?_;refine A1 ((L f b Q).1 d ok C ρ y Y (S.same k.2)) λw E m=>?_;exact A1 (Nq O hc (S.a.u (by decide)) (k.1.same m.2) m.1) λq G t=>⟨t.1,(k.2.trans m.2).trans t.2⟩
 refine⟨λd ok s ρ v g S=>?_,λd ok s ρ b' D S=>?_⟩
 ·refine A2 (i d ok s ρ v g S) λc e H=>?_;subst e;exact wpAny_Compare1 (A1 H λu C k=>A1 k λw E m=>GH m λG t=>⟨.bool _,t⟩) I
 ·refine OX (o:=ev cl (.q l o r) ρ) D λv g D=>A2 (i d ok s ρ v g S) λc e H=>?_;subst e
  (replace D:=dE D;rw[<-D])
  exact wpAny_isTrue_Compare1 (A1 H λu C k=>A1 k λw E m=>GH m λG t=>ACf ⟨rfl,t⟩) I
theorem ZU{t b e:X}(m:PX Z n A cl t)(x:PX Z n A cl b)(y:PX Z n A cl e):PX Z n A cl (.ite t b e):=by
 intro f I h;have H:=WU h;clear h;obtain⟨o,C,D,p,rfl,q,E,G⟩:=H;refine⟨λd ok s ρ v g S=>?_,λd ok s ρ c r S=>?_⟩
 ·refine ZX g (λa g=>?_) λa g=>?_
  ·exact zl (GH ((m f o q).2 d ok s ρ er a S) λl i=>A1 ((x f C E).1 d ok l ρ v g (S.same i)) λu w k=>⟨k.1,i.trans k.2⟩)
  ·exact zl (GH ((m f o q).2 d ok s ρ fG a S) λl i=>A1 ((y f D G).1 d ok l ρ v g (S.same i)) λu w k=>⟨k.1,i.trans k.2⟩)
 ·simp only[arm_isTrue_IfExp];refine OX (o:=ev cl (.ite t b e) ρ) r λv g r=>ZX g (λa g=>?_) λa g=>?_
  ·exact fX (GH ((m f o q).2 d ok s ρ er a S) λl i=>A1 ((x f C E).2 d ok l ρ c (by show tr _=_;rw[g];exact r) (S.same i)) λu w k=>⟨k.1,i.trans k.2⟩)
  ·exact fX (GH ((m f o q).2 d ok s ρ fG a S) λl i=>A1 ((y f D G).2 d ok l ρ c (by show tr _=_;rw[g];exact r) (S.same i)) λu w k=>⟨k.1,i.trans k.2⟩)
end
section
variable{Z:Bs}{n:Nat}{A:mx}{cl:Cl}(O:Z.Ok)(W:Wd Z)(d:B2 Z W cl n)(j:Av Z W n)
include O in
theorem Z8{o i:X}(t:PX Z n A cl o)(z:PX Z n A cl i):PX Z n A cl (.sub o i):=by
 intro g e h;have B:=Q5 h;clear h;(refine M9 B λa b p c C D=>?_;rw[c]);have:SE Z n A g (ev cl (.sub o i)) (.Subscript a b p):=by intro f m s q w E S;refine TF E λx y G H I=>?_;refine AAP (A1 ((t g a C).1 f m s q x G S) (λu J k=>?_));refine A1 ((z g b D).1 f m J q y H (S.same k.2)) (λv L l=>?_);exact A1 (OZ O I (k.1.same l.2) l.1) (λv M r=>⟨r.1,(k.2.trans l.2).trans r.2⟩)
 exact⟨this,C5 O this λj j=>rfl⟩
include O in
theorem Zz{o:X}{l u s:XO}(H:PX Z n A cl o)(I:PO Z n A cl l)(J:PO Z n A cl u)(L:PO Z n A cl s):PX Z n A cl (.sl o l u s):=by
 intro g e h;have M:=WY h;clear h;obtain⟨a,z,B,C,q,p,rfl,N,Q,U,Y⟩:=M;have:SE Z n A g (ev cl (.sl o l u s)) (.Subscript a (.Slice z B C q) p):=by
  intro b k st m w hw S;refine aR hw λx k1 k2 k3 e1 e2 e3 e4 e5=>?_;refine AAP (A1 ((H g a N).1 b k st m x e1 S) (λv s1 f=>wpAny_Slice ?_));refine A1 (I.1 g z Q b k s1 m k1 e2 (S.same f.2)) (λv1 s2 r=>?_);refine A1 (J.1 g B U b k s2 m k2 e3 ((S.same f.2).same r.2)) (λv2 s3 t=>?_);refine A1 (L.1 g C Y b k s3 m k3 e4 (((S.same f.2).same r.2).same t.2)) (λD i E=>?_);have y:=(r.2.trans t.2).trans E.2;have S5:Same Z i {i with heap:=i.heap.push {cls:=.type "slice",data:=.fields #[v1,v2,D]}}:=Same.push (tk:=i.toks) O;have c:=y.trans S5;refine A1 (O3 O e5 ((f.2.trans c).hok S.k) (f.1.same c) (sl:=i.heap.objs.size) (vl:=v1) (vu:=v2) (vs:=D) ?_ r.1 t.1 E.1) (λv s6 G=>⟨G.1,(f.2.trans c).trans G.2⟩)
  first
   |exact⟨_,mA _ rfl,rfl,rfl⟩
   |exact⟨_,mA _ rfl,rfl⟩
 exact⟨this,C5 O this λj j=>rfl⟩
theorem Pe{t:o5}{l:t8}{q:ls->Prop}{s:lb}{u:Ev}{r:XL}{f:gx}{o:List f0}{m:tE}{p}{Q:Args->lb->Prop}(v:Bo t r o=er)(w:EE cl r u=dD p)(h:WP Z A (ABY (wZ m (uD o l))) (λi c=>VRs Z.prog Z.w q c.heap i p/\Same Z s c) s)
  (k:∀i c,VRs Z.prog Z.w q c.heap i p->Same Z s c->Q ⟨i,[]⟩ c):WP Z A (ADs f er (wZ m (uD o l)) []) Q s:=
 A1 (Ds v w h) λz c g=>AW g λi e a b=>e▸k i c a b
include O W d in
theorem Sv{f:Nat}{c:XL}(z:PL Z n A cl c):PX Z n A cl (.call f c):=by
 intro k e h;have B:=TC h;clear h;((refine CB λj C=>?_;obtain⟨m,q,l,p,D,x,E,G,U,r⟩:=B<;>refine C ?_)<;>try rw[D]);have:SE Z n A k (ev cl (.call f c)) (.Call (.Name m q) l [] p):=by intro g t s H w i S;refine oL i λu a i=>?_;have⟨I,J⟩:=W.fn f x E;refine AE J λo fd L hd=>?_;simp only[sZ];refine fX (Ce (Ks O S G I) ?_);refine vO (fd:=fd) (o:=o) (Pe r a ((z k l r).l g t s H u p a S) λM N Q b=>?_);exact⟨⟨(b.inv S.i).keep _ _ L (C9 hd rfl),hd⟩,A1 (d f u w i A t N M S.a (b.inv S.i) (b.hok S.k) Q) λv Y y=>⟨y.1,b.trans y.2⟩⟩
 exact⟨this,C5 O this λj j=>rfl⟩
theorem bB(f:BI):(∃id,f.val=.builtin id)\/∃T,f.val=.type T:=by cases f<;>first|exact .inl ⟨_,rfl⟩|exact .inr ⟨_,rfl⟩
include O W in
theorem ki{f:BI}{k:XL}(B:PL Z n A cl k):PX Z n A cl (.bi f k):=by
 intro t e h;have C:=cX h;clear h;obtain⟨m,q,l,p,rfl,D,J,i⟩:=C;have:SE Z n A t (ev cl (.bi f k)) (.Call (.Name m q) l [] p):=by
  intro c u s E w o S;refine oL o λG g o=>?_;simp only[sZ];refine fX (Ce (Et O S D (W.bi f)) ?_);have b:WP Z A (ADs f.val er (wZ p (uD l c)) []) (λa x=>WP Z A (t9 f.val ([]++a.pos) a.kw) (Gv Z u s w) x) s:=Pe i g ((B t l i).l c u s E G p g S) λL x H y=>A1 (R8 O o S.a.1 (y.hok S.k) H) λv M z=>⟨z.1,y.trans z.2⟩
  rcases bB f with⟨id,r⟩|⟨T,I⟩
  ·rw[r]at b⊢;exact uh (DJ p c i).1 b
  ·rw[I]at b⊢;exact r9 (DJ p c i).1 b
 exact⟨this,C5 O this λj j=>rfl⟩
theorem KD{e g:List V}(h:JW e=dD g):∃a b c,Ez e=dD (a,b,c)/\Nr a=er/\Nr b=er/\Nr c=er/\g=Hu a c (qC a b c).toNat:=by
 unfold JW at h;generalize Ez e=o at h⊢;induction o using m8 with
 |none=>exact nS h
 |some p=>obtain⟨a,b,c⟩:=p;exact iK h λf h=>⟨a,b,c,rfl,(ba (ba f).1).1,(ba (ba f).1).2,(ba f).2,(dE h).symm⟩
include O W in
theorem MB{h:XL}(z:PL Z n A cl h){g:o5}{i:List f0}{m:pw}{q p:tE}(B:B0 g m "range" =er)(k:Bo g h i=er){e x s l o a b c}(f:EE cl h l=dD o)(C:Ez o=dD (a,b,c))(D:Nr c=er)(S:St Z n A g e x s l):
  WP Z A (tW (.Call (.Name m q) i [] p) e) (λv y=>∃r t u w,v=.ref r/\ABW y.heap r a b c t u w/\Same Z s y) s:=by
 simp only[sZ];refine fX (Ce (Et O S B W.range) ?_);refine r9 (DJ p e k).1 (Pe k f ((z g i k).l e x s l o p f S) λM N E G=>?_);exact A1 (OM O C D E) λv Q H=>OP H λr t u w I J L j=>⟨r,t,u,w,I,J,G.trans L⟩
include O W in
theorem Th{g:XL}(B:PL Z n A cl g):PX Z n A cl (.lr g):=by
 intro C e h;have D:=Vn h;clear h;obtain⟨m,q,E,G,H,I,p,rfl,J,i,h2,L⟩:=D;have:SE Z n A C (ev cl (.lr g)) (.Call (.Name m q) [.Call (.Name E G) H [] I] [] p):=by intro M ok s ρ w f S;refine oL f λvs k f=>oL f λxs l f=>Je (KD l) λa b c N Q U o e=>?_;cases (dE f:_=w);rw[e];simp only[sZ];refine fX (Ce (Et O S J (W.bi .list)) ?_);refine r9 (T:="list") rfl (sQ (qM (A1 (MB O W B i L k N o S) λv s1 Y=>?_)));refine Jo Y λr t u z e hR x=>?_;rw[e];exact rq (A1 (OT O (x.hok S.k) S.a.1 Q U o hR) λv s2 y=>⟨y.1,x.trans y.2⟩)
 exact⟨this,C5 O this λj j=>rfl⟩
theorem JL{a:f0}(h:L0 a=er)(c:pw)(b:t8):attributeBase a c b (tW a b)=tW a b:=by cases a<;>first|rfl|cases h
include O in
theorem VB{o:X}{m:MI}{k:XL}(z:PX Z n A cl o)(B:PL Z n A cl k):PX Z n A cl (.me o m k):=by
 intro l e h;have C:=S8 h;clear h;obtain⟨a,D,f,p,rfl,E,G,H,I,q⟩:=C;have:SE Z n A l (ev cl (.me o m k)) (.Call (.Attribute a m.name D) f [] p):=by
  intro b r s t w g S;refine qD g λv J L c g=>?_;have⟨M,N,t3⟩:=DJ p b q;refine v' (JL E _ _) (by have:f.length<20:=nY H;simp only[N];show(er&&er&&decide (f.length+0+0<30))=er;exact decide_eq_true (qS this (by decide))) G (A1 ((z l a I).1 b r s t v L S) λu Q i=>?_)
  refine fY (dT g i.1) λT id e U Y m3 m4 m5=>?_;subst e;refine⟨T,_,U,Y,m3,m4,m5,uh M (Pe q c ((B l f q).l b r Q t J p c (S.same i.2)) λus s2 g2 x=>?_)⟩;refine dg (Q8 O g (A:=A) (S.a.u (by decide)) (i.1.same x) g2) λT' a0 e a1 a2 a3 m6=>?_;rw[<-e];exact A1 m6 λv s3 y=>⟨y.1,(i.2.trans x).trans y.2⟩
 exact⟨this,C5 O this λj j=>rfl⟩
include O in
theorem ZV{g:XL}(q:PL Z n A cl g):PX Z n A cl (.l g):=by
 intro l e h;have r:=Wb h;clear h;(refine AE r λm p c h=>?_;rw[c]);have:SE Z n A l (ev cl (.l g)) (.List m p):=by
  intro i t s u w v S;refine Le v λx k y e=>?_
  ·refine e▸?_;refine wpAny_List (A1 ((q l m h).l i t s u x p k S) λB z f=>?_);refine⟨by rw[f.1.length];exact QA (AQ y),.l (f.2.hok S.k _ (A6 _)) (mA _ rfl) ?_,f.2.trans (Same.push (tk:=z.toks) O)⟩;exact f.1.mono (λb o j e j=>lh _ e) λj j a j=>a
 exact⟨this,C5 O this λj j=>rfl⟩
include O in
theorem ZH{g:XL}(r:PL Z n A cl g):PX Z n A cl (.t g):=by
 intro m e h;have t:=Wv h;clear h;(refine BU t λq k p c h=>?_;rw[c]);have:SE Z n A m (ev cl (.t g)) (.Tuple q k p):=by
  intro i u s v w x S;refine dd x λy l z e=>?_
  ·refine e▸?_;refine w4 (A1 ((r m q h).l i u s v y p l S) λC B f=>?_);refine⟨by rw[f.1.length];exact QA (AQ z),.t (f.2.hok S.k _ (A6 _)) (mA _ rfl) ?_,f.2.trans (Same.push (tk:=B.toks) O)⟩;exact f.1.mono (λb o j e j=>lh _ e) λj j a j=>a
 exact⟨this,C5 O this λj j=>rfl⟩
end
section
variable{Z:Bs}{n:Nat}{A:mx}{cl:Cl}(O:Z.Ok)(W:Wd Z)(B:B2 Z W cl n)(j:Av Z W n)
theorem Vl:PL Z n A cl .nil:=by intro a b h;cases Ih h;exact⟨cL,λz z z z z z h z=>nS h,λz z z z z z h z=>nS h,λz z z z z h z=>nS h,λz z z z z h z=>nS h⟩
theorem Zi{x y:X}{r:XL}{a:Ev}{z:V}{C:Prop}(h:I9 cl (.cons x (.cons y r)) a=dD z)(c:∀v,ev cl x a=dD v->AI v=dD er->I9 cl (.cons y r) a=dD z->C)(d:∀v,ev cl x a=dD v->AI v=dD fG->v=z->C):C:=
 oV h λv b h=>ZX h (c v b) λe h=>d v b e (dE h)
theorem kM{x y:X}{r:XL}{a:Ev}{z:V}{C:Prop}(h:IG cl (.cons x (.cons y r)) a=dD z)(d:∀v,ev cl x a=dD v->AI v=dD fG->IG cl (.cons y r) a=dD z->C)(e:∀v,ev cl x a=dD v->AI v=dD er->v=z->C):C:=
 oV h λv c h=>ZX h (λb h=>e v c b (dE h)) λb h=>d v c b h
theorem Ph{x:X}{a:Ev}{w:V}{t:Bool}(h:ev cl x a=dD w)(b:AI w=dD t):tr (ev cl x a)=dD t:=by rw[h];exact b
include O in
theorem YA{h:o5}{e:f0}{x:X}(l:SE Z n A h (ev cl x) e){a:t8}{b:ls->Prop}{s:lb}{c:Ev}{w:V}{t:Bool}(m:ev cl x c=dD w)(o:AI w=dD t)(S:St Z n A h a b s c){d:tE}{K:gx->Bool->xL gx}{Q:gx->lb->Prop}
  (k:∀u f,VR Z.prog Z.w b f.heap u w->Same Z s f->WP Z A (K u t) Q f):WP Z A (do
     let v<-tW e a
     xV d
     let t<-zy [v] (truthy v)
     K v t) Q s:=
 fX (A1 (l a b s c w m S) λu q g=>fX (rj (fX (tU (GH (E0 O o g.1) λp i=>k u p (g.1.same i) (g.2.trans i))))))
include O in
theorem Ow{x:X}{r:XL}(M:PX Z n A cl x)(N:PL Z n A cl r):PL Z n A cl (.cons x r):=by
 intro L E h;refine BJ (FH h) λe E G H I=>?_;refine G▸?_;have⟨p,z⟩:=M L e H;have R:=N L E I;induction r using XL.casesOn with
 |nil=>
  cases Ih I;refine⟨Pm H p R.l,λj=>p,λj=>p,λa f s i b c S=>?_,λa f s i b c S=>?_⟩
  ·refine x5 (GH (z a f s i b c S) λq g=>?_);induction b using qV with
   |false=>exact⟨rfl,g⟩
   |true=>exact wpAny_allTrue_And_nil ⟨rfl,g⟩
  ·refine yA (GH (z a f s i b c S) λq g=>?_);induction b using qV with
   |false=>exact wpAny_allTrue_Or_nil ⟨rfl,g⟩
   |true=>exact⟨rfl,g⟩
 |cons y r=>
  refine BJ (FH I) λY E G Q U=>?_;subst G;refine⟨Pm H p R.l,λt a f s i v k S=>?_,λt a f s i v k S=>?_,λa f s i b c S=>?_,λa f s i b c S=>?_⟩
  ·refine Zi k (λw l d k=>YA O p l d S λu C D o=>?_) λw l d e=>YA O p l d S λu C D o=>mM ⟨e▸D,o⟩;exact A1 (R.ba t a f C i v k (S.same o)) λu J m=>⟨m.1,o.trans m.2⟩
  ·refine kM k (λw l d k=>YA O p l d S λu C D o=>?_) λw l d e=>YA O p l d S λu C D o=>mM ⟨e▸D,o⟩;exact A1 (R.br t a f C i v k (S.same o)) λu J m=>⟨m.1,o.trans m.2⟩
  ·refine OX c λv k c=>Zi k (λw l d k=>?_) λw l d e=>?_
   ·exact x5 (GH (z a f s i er (Ph l d) S) λq g=>A1 (R.ta a f q i b (by rw[k];exact c) (S.same g)) λu J m=>⟨m.1,g.trans m.2⟩)
   ·subst e;rw[d]at c;(replace c:=dE c;subst c);exact x5 (GH (z a f s i fG (Ph l d) S) λq g=>⟨rfl,g⟩)
  ·refine OX c λv k c=>kM k (λw l d k=>?_) λw l d e=>?_
   ·exact yA (GH (z a f s i fG (Ph l d) S) λq g=>A1 (R.tr a f q i b (by rw[k];exact c) (S.same g)) λu J m=>⟨m.1,g.trans m.2⟩)
   ·subst e;rw[d]at c;(replace c:=dE c;subst c);exact yA (GH (z a f s i er (Ph l d) S) λq g=>⟨rfl,g⟩)
theorem aZ:PO Z n A cl .no:=by
 refine⟨λc e h a d s f p g S=>?_,λc i h a d s f b k S=>?_⟩
 ·induction e using m8 with
  |some e=>exact fT h
  |none=>exact(dE g:eu=p)▸(mM ⟨.none,Same.refl⟩:WP Z A (tS wA) _ s)
 ·induction i using lz with
  |cons=>exact fT h
  |nil=>exact(dE k:er=b)▸mM ⟨rfl,Same.refl⟩
theorem UU{x:X}(k:PX Z n A cl x):PO Z n A cl (.yes x):=by
 refine⟨λd e h a f s g p q S=>?_,λd l h a f s g b r S=>?_⟩
 ·induction e using m8 with
  |none=>exact fT h
  |some e=>
   refine Xr q (λi m o=>?_) λm o=>?_
   ·exact A1 ((k d e h).1 a f s g _ m S) λu t c=>⟨o▸VR.kInt c.1 λz=>.int _ _,c.2⟩
   ·exact A1 ((k d e h).1 a f s g _ m S) λu t c=>⟨o▸VR.kNone c.1 .none,c.2⟩
 ·induction l using lz with
  |nil=>exact fT h
  |cons e l=>induction l using lz with
   |cons=>exact fT h
   |nil=>exact wpAny_tests_one ((k d e h).2 a f s g b r S)
theorem iu{x:X}{b:o5}{e:f0}(h:AH b x e=er)(a:t8)(v:gx):wL e a v=tS v:=by
 cases e
 case Set=>exact(bq h).elim
 all_goals rfl
theorem V6{x:X}(f:PX Z n A cl x)(O:Z.Ok):PI Z n A cl (.val x):=by
 intro d p e h q;replace h:AH d x e=er:=h;refine⟨iu h,λb g s i r o S=>?_⟩;refine gN o (λc=>?_) (λc=>?_) λks t c e=>?_
 ·exact A1 ((f d _ h).1 b g s i _ c S) λu k a=>A1 (Mi O (a.2.inv S.i) S.a.1 a.1) λl m h=>Its.trans a.2 h
 ·exact A1 ((f d _ h).1 b g s i _ c S) λu k a=>A1 (R7 O (a.2.inv S.i) S.a.1 a.1) λl m h=>Its.trans a.2 h
 ·refine e▸?_;exact A1 ((f d _ h).1 b g s i _ c S) λu k a=>A1 (Va O (a.2.inv S.i) S.a.1 a.1) λl m=>Its.trans a.2
theorem ItC.fin{a:f0}{b:ls->Prop}{s c d:lb}{e:List V}{f:gx}(S:Same Z s c)(h:ItC Z A a b c e f d):WP Z A (wK f) (Its Z A a b s e) d:=by exact Ce h.2 (Its.trans S h.1)
theorem QB{a:f0}(h:Jh (.en x) a=er):∃b k p,a=.Tuple b k p:=RZ h
theorem Of{a:f0}(h:Jh (.zip x y) a=er):∃b k p,a=.Tuple b k p:=RZ h
theorem P1{x:X}{b:o5}{e:f0}(h:Gh b (.en x) e=er):∃m q a p,e=.Call (.Name m q) [a] [] p/\B0 b m "enumerate" =er/\AH b x a=er:=by refine DC (EN h) λg k ks p c h=>?_;obtain⟨d,h⟩:=ba h;refine AE (BG h) λm q f h=>?_;refine A2 (i1 h) λa i h=>?_;exact⟨m,q,a,p,by simp only[c,f,i0 d,i],ba h⟩
theorem Y8{x y:X}{c:o5}{e:f0}(h:Gh c (.zip x y) e=er):∃m q a b p,e=.Call (.Name m q) [a,b] [] p/\B0 c m "zip" =er/\AH c x a=er/\AH c y b=er:=by refine DC (EN h) λg o ks p d h=>?_;obtain⟨f,h⟩:=ba h;refine AE (BG h) λm q i h=>?_;refine AE (i2 h) λa b k h=>?_;obtain⟨l,h⟩:=ba h;exact⟨m,q,a,b,p,by simp only[d,i,i0 f,k],l,ba h⟩
theorem Wh{c:XL}{b:o5}{e:f0}(h:Gh b (.rg c) e=er):∃m q a p,e=.Call (.Name m q) a [] p/\B0 b m "range" =er/\Bo b c a=er:=by refine DC (EN h) λg a ks p d h=>?_;obtain⟨f,h⟩:=ba h;refine AE (BG h) λm q i h=>?_;obtain⟨k,h⟩:=ba h;exact⟨m,q,a,p,by rw[d,i,i0 f],k,(ba h).2⟩
theorem Xm{x:X}{b:o5}{e:f0}(h:Gh b (.rev x) e=er):∃m q a p,e=.Call (.Name m q) [a] [] p/\B0 b m "reversed" =er/\AH b x a=er:=by refine DC (EN h) λg k ks p c h=>?_;obtain⟨d,h⟩:=ba h;refine AE (BG h) λm q f h=>?_;refine A2 (i1 h) λa i h=>?_;exact⟨m,q,a,p,by simp only[c,f,i0 d,i],ba h⟩
theorem Wt{x:X}{a:o5}{e:f0}(h:Gh a (.gen x) e=er):False:=by exact fT h
set_option tactic.hygienic true in
theorem cr{b:It}{c:o5}{e:f0}(h:Tk c b e=er):∃x m q a p,b=.gen x/\e=.Call (.Name m q) [a] [] p/\B0 c m "_iter_escaped_chars" =er/\AH c x a=er:=by
 cases b
 case gen x=>refine DC (EN h) λg l ks p d h=>?_;obtain⟨f,h⟩:=ba h;refine AE (BG h) λm q i h=>?_;refine A2 (i1 h) λa k h=>?_;exact⟨x,m,q,a,p,rfl,by simp only[d,i,i0 f,k],ba h⟩
 all_goals exact absurd h sR
include O W in
theorem TR{x:X}(z:PX Z n A cl x):PI Z n A cl (.en x):=by
 intro C J e h D
 (refine Xt (QB D) λE k G b=>?_;rw[b])
 (refine Jo (P1 h) λm q a p c H t=>?_;subst c)
 refine⟨λd v=>rfl,λd w s y I f S=>?_⟩;refine oL f λi l f=>?_;cases (dE f:_=I);refine fX (Ce (Et O S H W.enum) ?_);have arg:∀v,ev cl x y=dD v->(v=.l i\/v=.t i)->WP Z A (callWith p (.type "enumerate") [] (wZ p (uD [a] d)) []) (λv=>WP Z A (wK v) (Its Z A (.Tuple E k G) w s (Fl 0 i))) s:=λv f o=>by
  rw[Bl t];exact r9 (T:="enumerate") rfl (sQ (qM (A1 ((z C a t).1 d w s y v f S) λu L g=>rq
   (A1 (Uv O o (g.2.inv S.i) S.a.1 (g.2.hok S.k) g.1) λM N=>ItC.fin g.2))))
 exact eQ l (λr=>arg _ r (.inl rfl)) λr=>arg _ r (.inr rfl)
include O W in
theorem Ve{x y:X}(U:PX Z n A cl x)(Y:PX Z n A cl y):PI Z n A cl (.zip x y):=by
 intro I te e h ht
 (refine Xt (Of ht) λJ k L f=>?_;rw[f])
 (refine cZ (Y8 h) λm q a b p g h1 M N=>?_;refine g▸?_)
 refine⟨λc v=>rfl,λc l s r vs z S=>?_⟩;simp only[sZ];refine fX (Ce (Et O S h1 W.zip) ?_);have arg:∀v w C,ev cl x r=dD v->ev cl y r=dD w->(∀d t o,Inv Z d->VR Z.prog Z.w l d.heap t v->VR Z.prog Z.w l d.heap o w->WP Z A (t9 (.type "zip") [t,o]) (ItC Z A (.Tuple J k L) l d C) d)->
   WP Z A (callWith p (.type "zip") [] (wZ p (uD [a,b] c)) []) (λv=>WP Z A (wK v) (Its Z A (.Tuple J k L) l s C)) s:=λv w C z hw hz=>by
  rw[Bl M,Bl N];refine r9 (T:="zip") rfl (sQ (qM (A1 ((U I a M).1 c l s r v z S) λu s1 D=>qM ?_)));refine A1 ((Y I b N).1 c l s1 r w hw (S.same D.2)) (λo d E=>rq ?_);have Q:=D.2.trans E.2;exact A1 (hz d u o (Q.inv S.i) (D.1.same E.2) E.1) (λit s3=>ItC.fin Q)
 exact de z (λxs ys q1 q2 e=>e▸arg _ _ _ q1 q2 λd t o i G H=>LM O i S.a.1 G H) λxs ys q1 q2 e=>e▸arg _ _ _ q1 q2 λd t o i G H=>Jt O i S.a.1 G H
include O W in
theorem VD{o:XL}(z:PL Z n A cl o):PI Z n A cl (.rg o):=by
 intro L M e h N
 (refine Jo (Wh h) λm q Q p d C D=>?_;refine d▸?_)
 refine⟨λi v=>rfl,λi U s Y vs k S=>?_⟩;refine oL k λus l k=>?_
 (refine Je (KD k) λa b c E G H x f=>?_;rw[f])
 refine A1 (MB O W z C D l E x S) (λv s1 I=>?_)
 (refine Jo I λr t u w g J y=>?_;refine g▸?_)
 exact A1 (RI O (y.inv S.i) S.a.1 G H x J) (λit s2=>Its.trans y)
include O W in
theorem TO{x:X}(g:PX Z n A cl x):PI Z n A cl (.rev x):=by
 intro i t e h w
 (refine Jo (Xm h) λm q a p b k f=>?_;refine b▸?_)
 refine⟨λc v=>rfl,λc l s o y r S=>?_⟩;simp only[sZ];refine fX (Ce (Et O S k W.rev) ?_);refine bA r λz q1 e=>?_;rw[e];rw[Bl f];exact r9 (T:="reversed") rfl (sQ (qM (A1 ((g i a f).1 c l s o _ q1 S) λu C d=>rq
  (A1 (Ko O (d.2.inv S.i) S.a.1 d.1) λD E=>ItC.fin d.2))))
theorem SG{x:X}:PI Z n A cl (.gen x):=λz z z h z=>(Wt h).elim
theorem Itg.trans{f:f0}{s g k:lb}{l:List V}{m:gx}(S:Same Z s g)(h:Itg Z A f g l m k):Itg Z A f s l m k:=by
 (refine CB λz o=>?_;obtain⟨⟨p,q,J,a,b,c,d,e⟩,h⟩:=h<;>refine o ?_)
 exact⟨⟨p,q,J,a,b,S.trans c,λx r=>S.live x (d x r),λi t=>mE (Go S.gens) (e i t)⟩,h⟩
include O W j in
theorem QW{x:X}{a:f0}(k:PX Z n A cl x){m:pw}{q p:tE}(r:B0 d m "_iter_escaped_chars" =er)(f:AH d x a=er){te:f0}{g:List V}(t:EW cl (.gen x) h=dD g)(S:St Z n A d b i s h):
  WP Z A (tW (.Call (.Name m q) [a] [] p) b) (Itg Z A te s g) s:=by
 have⟨v,w⟩:=W.fn 0 "_iter_escaped_chars" rfl;refine AE w λo fd y hd=>?_;refine fX (Ce (Ks O S r v) ?_);refine cp t λl q1 z e=>?_;rw[e];rw[Bl f];refine vO (fd:=fd) (o:=o) (sQ (qM (A1 ((k d a f).1 b i s h _ q1 S) λu C c=>rq ?_)));exact⟨⟨(c.2.inv S.i).keep _ _ y (C9 hd rfl),hd⟩,A1 (j l z A i C u te S.a (c.2.inv S.i) (c.2.hok S.k) c.1) λD E=>Itg.trans c.2⟩
theorem OS:PG Z n A cl .nil:=by
 intro a b h;induction b using lz with
 |cons=>cases h
 |nil=>exact(.nil:GS Z n A a (λc k=>k c) [])
theorem Qf{t:T}{f:It}{g:XO}{r:GL}{a:o5}{i}(h:Qo a (.cons t f g r) i=er):∃b d e c,i=⟨b,d,e,0⟩::c/\D2 a t b=er/\Jh f b=er/\Gh a f d=er/\W7 a g e=er/\Qo a r c=er:=by refine DC (lQ h) λb d e r k h=>?_;obtain⟨l,h⟩:=ba h;obtain⟨m,h⟩:=ba h;obtain⟨o,h⟩:=ba h;exact⟨b,d,e,r,k,l,m,o,ba h⟩
theorem Lf{t:T}{d:It}{e:XO}{r:GL}(i:PI Z n A cl d)(l:PO Z n A cl e)(m:PG Z n A cl r):PG Z n A cl (.cons t d e r):=by
 intro c z h
 (refine pG (Qf h) λo p q f a s u v w x=>?_;simp only[a])
 show GS Z n A c (λg k=>match EW cl d g with
   |some y=>Ai t g (λb=>BD (Hk cl e b) (Jl cl r b k)) y
   |none=>eu) _
 exact .cons s (i c o p v u) (l.2 c q w) (m c f x)
include O in
theorem Un{r:X}{t:T}{u:It}{v:XO}{y:GL}{J:List (Nat×Nat)}(U:PX Z n A cl r)(Y:PI Z n A cl u)(hf:PO Z n A cl v)(hg:PG Z n A cl y):PX Z n A cl (.cm r t u v y J):=by
 intro L e h
 (obtain⟨x,z,d,E,G,c,p,qz,h1,h2,h3,h4,h5,h6,h7,h8⟩:=Gg h<;>try rw[qz])
 have:SE Z n A L (ev cl (.cm r t u v y J)) (.ListComp x (⟨z,d,E,0⟩::G) c p):=by
  intro g ok s ρ w H S;refine oL H λvs I H=>Le H λzs hz hl e=>?_
  ·simp only[e];show qH _ _ (AAy (.ListComp x (⟨z,d,E,0⟩::G) c p) c g d.pos (newList []) fG (tW d g)) _ _ _;refine FI Mon.t O S h1 h2 h3 (Y L z d h5 h4) (hf.2 c E h6) (hg c G h7) (U c x h8).1.i trivial I hz hl λD C i j j j j j M k hD SS=>?_;obtain⟨m,k⟩:=k;refine⟨m,k,λN hs=>?_⟩;have Q:∀b o,b≠C->i.heap.get? b=dD o->N.get? b=dD o:=hs.extBut;refine⟨hD.mono (λb o a q j=>Q b o a.2 q) λj j a j=>a.1,?_⟩;have c2:Ch Z (λb=>b=C) (λj=>False) i {i with heap:=N}:=Ch.of_keep' (tk:=i.toks) O (λb e=>by exact(congrArg _ e).trans (S.i.fresh M)) (λb o e q=>by
    (replace e:=e.symm;subst e)
    refine AW (An k) λo' l j t=>?_;rw[q]at l;(replace l:=dE l;rw[l]);exact t) Q
   exact(SS.ch.trans c2).same (λb o e f=>nS (M.symm.trans (f▸e))) λj j f=>f
 exact⟨this,C5 O this λj j=>rfl⟩
include O W B j in
theorem AF(x:X):PX Z n A cl x:=
 X.rec (motive_1:=PX Z n A cl) (motive_2:=PL Z n A cl) (motive_3:=PO Z n A cl) (motive_4:=PG Z n A cl) (motive_5:=PI Z n A cl)
  (λz=>Zx O) (λz=>Zl O) (λz=>Z9 O W) (λz z z=>ZS O) (λz a=>aC O a) (λz a=>ZZ O a) (λz a=>ZE O a) (λz a=>Zq a) (λz a=>jV a)
  (λz z z=>ZO O) (λz z z=>ZU) (λz z=>Z8 O) (λz z z z=>Zz O) (λz z a=>Sv O W B a) (λz z a=>ki O W a) (λz a=>Th O W a)
  (λz z z=>VB O) (λz a=>ZV O a) (λz a=>ZH O a) (λz z z z z z=>Un O)
  Vl (λz z=>Ow O) aZ (λz a=>UU a) OS (λz z z z=>Lf)
  (λz a=>V6 a O) (λz a=>TR O W a) (λz z=>Ve O W) (λz a=>VD O W a) (λz a=>TO O W a) (λz z=>SG) x
end
section
variable{Z:Bs}{B:o5}{l:t8}{ok ok':ls->Prop}{h h':qX}{s D:lb}{ρ ρ':Ev}{A:mx}{n:Nat}
inductive Cont(pr:qK)(w:sO)(ok:ls->Prop)(h:qX)(a:ls):V->Prop
 |l {ws n xs}:h.get? a=dD ⟨.type "list",.none,.seq ws n,#[]⟩->VRs pr w ok h ws.toList xs->Cont pr w ok h a (.l xs)
 |d {o kvs ks xs}:(a==ux)=fG->h.get? a=dD o->o.IsDictOf (qW pr w) kvs->kvs.map (·.1)=ks.map AP->VRs pr w ok h (kvs.map (·.2)) xs->Cont pr w ok h a (.d ks xs)
def T9(c:qK)(w:sO)(ok:ls->Prop)(h:qX)(a:ls)(C:Prop)(v:V):Prop:=match v with
 |.l d=>(∀e n,h.get? a=dD ⟨.type "list",.none,.seq e n,#[]⟩->VRs c w ok h e.toList d->C)->C
 |.d ks d=>(∀o b,(a==ux)=fG->h.get? a=dD o->o.IsDictOf (qW c w) b->b.map (·.1)=ks.map AP->VRs c w ok h (b.map (·.2)) d->C)->C
 |_=>True
theorem Cont.inv{b:qK}{w:sO}{ok:ls->Prop}{h:qX}{a:ls}{C:Prop}{v:V}(c:Cont b w ok h a v):T9 b w ok h a C v:=by
 induction c using Cont.casesOn with
 |l g r=>exact λk=>k _ _ g r
 |d x g d e r=>exact λk=>k _ _ x g d e r
theorem Cont.kLst{b:qK}{w:sO}{ok:ls->Prop}{h:qX}{a:ls}{C:Prop}{d:List V}(c:Cont b w ok h a (.l d))(k:∀e n,h.get? a=dD ⟨.type "list",.none,.seq e n,#[]⟩->VRs b w ok h e.toList d->C):C:=(Cont.inv c:T9 b w ok h a C (.l d)) k
theorem Cont.kDct{d:qK}{w:sO}{ok:ls->Prop}{h:qX}{a:ls}{C:Prop}{ks:List (List Nat)}{e:List V}(c:Cont d w ok h a (.d ks e))(k:∀o b,(a==ux)=fG->h.get? a=dD o->o.IsDictOf (qW d w) b->b.map (·.1)=ks.map AP->VRs d w ok h (b.map (·.2)) e->C):C:=(Cont.inv c:T9 d w ok h a C (.d ks e)) k
theorem Cont.there{a:ls}{v:V}(c:Cont Z.prog Z.w ok h a v):∃o,h.get? a=dD o/\AB o=fG/\o.cls≠.none/\o.cls≠.type "code" :=by
 cases c with
 |l e _=>exact⟨_,e,rfl,(λq=>by cases q),λq=>by injection q with q;exact absurd q (by decide)⟩
 |d _ e d _ _=>refine⟨_,e,Ci d,?_⟩;refine AE d λz z b z=>?_;obtain⟨c,_⟩:=b;rw[c];exact⟨(λq=>by cases q),λq=>by injection q with q;exact absurd q (by decide)⟩
theorem Cont.vr{a:ls}{v:V}(c:Cont Z.prog Z.w ok h a v)(f:ok' a)(g:∀b,ok b->ok' b):VR Z.prog Z.w ok' h (.ref a) v:=by
 cases c with
 |l e r=>exact .l f e (r.mono (λz z z e z=>e) λb z a z=>g b a)
 |d m e d k r=>exact .d f m e d k (r.mono (λz z z e z=>e) λb z a z=>g b a)
theorem Cont.turn{a:ls}{v:V}(c:Cont Z.prog Z.w ok h a v)(f:∀o,h.get? a=dD o->AB o=fG->h'.get? a=dD o)(g:∀b o,ok b->h.get? b=dD o->AB o=fG->h'.get? b=dD o)(i:∀b o,h.get? b=dD o->ok b->ok' b):Cont Z.prog Z.w ok' h' a v:=by
 cases c with
 |l e r=>exact .l (f _ e rfl) (r.mono g λb o a e=>i b o e a)
 |d m e d k r=>exact .d m (f _ e (Ci d)) d k (r.mono g λb o a e=>i b o e a)
noncomputable abbrev Jc:=List (Nat×ls)
def C8(ok:ls->Prop)(W:Jc)(b:ls):Prop:=ok b/\∀i,(i,b)∉W
structure Fr(Z:Bs)(n:Nat)(A:mx)(B:o5)(l:t8)(ok:ls->Prop)(W:Jc)(s:lb)(ρ ω:Ev):Prop where
 a:OkA n A
 i:Inv Z s
 k:∀a,s.heap.get? a=eu->ok a
 f:EnvR Z B l (C8 ok W) s.heap ρ
 nl:¬ok l.locals
 nc:∀m c,l.cells.lookup m=dD c->¬ok c
 o:∀i a,(i,a)∈W->ok a/\Z.B.heap.get? a=eu/\ρ.get i=eu/\∃m k,B.names[i]?=dD (m,k)/\LocAt l s.heap m k (.ref a)
 c:∀i a,(i,a)∈W->∃v,ω.get i=dD v/\Cont Z.prog Z.w (C8 ok W) s.heap a v
 w:∀i v,ω.get i=dD v->∃a,(i,a)∈W
 ap:∀i a j b,(i,a)∈W->(j,b)∈W->(a=b↔i=j)
theorem Ev.get_append(a b:Ev)(i:Nat):Ev.get (a++b) i=match a.get i with
  |some v=>dD v
  |none=>b.get i:=by
 induction a with
 |nil=>rfl
 |cons p r c=>
  obtain⟨j,v⟩:=p;show(match lf j i with|true=>dD v|false=>Ev.get (r++b) i)=_;rw[c];show _=match(match lf j i with|true=>dD v|false=>Ev.get r i)with|some v=>dD v|none=>b.get i
  cases lf j i<;>rfl
theorem Fr.at{W:Jc}{b:Ev}(F:Fr Z n A B l ok W s ρ b){i:Nat}{v:V}{m:pw}{k:qE}(c:b.get i=dD v)(e:B.names[i]?=dD (m,k)):∃ad,ok ad/\LocAt l s.heap m k (.ref ad)/\Cont Z.prog Z.w (C8 ok W) s.heap ad v:=by refine(F.w i v c).elim λad d=>D1 (F.o i ad d) λf z z g=>AE g λr t a j=>?_;have q:=qP (dE (e.symm.trans a));exact A2 (F.c i ad d) λv2 o p=>⟨ad,f,q.1▸q.2▸j,dE (c.symm.trans o)▸p⟩
theorem Fr.all{W:Jc}{o:Ev}(F:Fr Z n A B l ok W s ρ o):St Z n A B l ok s (o++ρ):=by
 refine⟨F.a,?_,F.i,F.k⟩;have R:=F.f;have I:∀{u v},VR Z.prog Z.w (C8 ok W) s.heap u v->VR Z.prog Z.w ok s.heap u v:=λr=>r.mono (λY Y Y e Y=>e) λY Y a Y=>a.1;refine{R with nm:=λi v e=>?_,ns:=?_,cl:=λi v m k e f g=>?_,cx:=λm c e=>⟨(R.cx m c e).1,(R.cx m c e).2.1,F.nc m c e⟩,nl:=F.nl}
 ·rw[Ev.get_append]at e;cases d:o.get i with
  |some w=>
   obtain⟨a,J⟩:=F.w i w d
   (refine D1 (F.o i a J) λY Y Y j=>?_;refine AE j λm k t p=>?_)
   refine⟨m,k,t,?_⟩;rcases p with⟨h,_⟩|⟨h,_⟩
   ·exact .inl h
   ·exact .inr (.inl h)
  |none=>rw[d]at e;exact R.nm i v e
 ·refine A2 R.ns λf a b=>?_;refine⟨f,a,λi v m e t=>?_⟩;rw[Ev.get_append]at e;cases d:o.get i with
  |some w=>rw[d]at e;exact AW (F.at d t) λad C p E=>p.elim (λq=>A2 q.2 λL M N=>⟨_,(show L=f by simp only[M.eq_nsMap,a.eq_nsMap])▸N,dE e▸E.vr C λY q=>q.1⟩) λq=>qj q.1
  |none=>rw[d]at e;refine A2 (b i v m e t) λu x y=>?_;exact⟨u,x,I y⟩
 ·rw[Ev.get_append]at e;cases d:o.get i with
  |some w=>rw[d]at e;exact AW (F.at d f) λad C p E=>p.elim (λq=>g.elim (λg=>qj (q.1.symm.trans g)) λg=>qj (q.1.symm.trans g)) λq=>A2 q.2 λc G H=>⟨c,_,G,H,dE e▸E.vr C λY q=>q.1⟩
  |none=>rw[d]at e;refine BJ (R.cl i v m k e f g) λc u x y z=>?_;exact⟨c,u,x,y,I z⟩
theorem Fr.frz{W:Jc}{c:Ev}(F:Fr Z n A B l ok W s ρ c):St Z n A B l (C8 ok W) s ρ:=⟨F.a,F.f,F.i,λa b=>⟨F.k a b,λi d=>by
 refine A2 (F.c i a d) λv z f=>?_;refine A2 f.there λo e z=>?_;exact nS (b.symm.trans e)⟩⟩
theorem Fr.turn{W:Jc}{g:Ev}(F:Fr Z n A B l ok W s ρ g)(S:Same Z s D):Fr Z n A B l ok W D ρ g:=
 ⟨F.a,S.inv F.i,S.hok F.k,F.f.same S,F.nl,F.nc,λi a c=>D1 (F.o i a c) λd f j h=>⟨d,f,j,AE h λm k p r=>⟨m,k,p,r.turn λb o z e t=>S.heap b o e t⟩⟩,
  λi a c=>A2 (F.c i a c) λv d f=>⟨v,d,f.turn (λo e t=>S.heap a o e t) (λb o z e t=>S.heap b o e t) λz z z q=>q⟩,F.w,F.ap⟩
end
section
variable{Z:Bs}{g:o5}{d:t8}{l B:ls->Prop}{h z:qX}{s y:lb}{r C p:Ev}{A:mx}{n:Nat}{W:Jc}
def Fp(g:o5)(d:t8)(W:Jc)(b:ls):Prop:=Fo g d b\/∃i,(i,b)∈W
theorem RJ{t:T}{v:V}{r a:Ev}(h:BM t v r=dD a){j:Nat}(b:j∉t.names):a.get j=r.get j:=by
 cases t with
 |one i=>
  (replace h:=dE h;subst h)
  rw[Ev.get_put,if_neg];rintro rfl;exact b (by simp[T.names])
 |many c=>cases v<;>first|exact GC h j b|exact nS h
theorem Fr.fo(F:Fr Z n A g d l W s r p){b:ls}(a:Fo g d b):¬l b:=by
 rcases a with rfl|⟨m,_,e⟩
 ·exact F.nl
 ·exact F.nc m b e
theorem Fr.wr(F:Fr Z n A g d l W s r p){i:Nat}(h:p.get i=eu)(a:ls):(i,a)∉W:=λb=>by
 refine A2 (F.c i a b) λv e z=>?_;exact nS (h.symm.trans e)
theorem Fr.after(F:Fr Z n A g d l W s r p){t:T}{x:V}{u:Ev}{D:lb}(G:BM t x r=dD u)(L:Ag p t.names=er)(R:EnvR Z g d (C8 l W) D.heap u)(c:Ch Z (Fo g d) (λz=>False) s D)(M:Others g d t.names s.heap D.heap):
  Fr Z n A g d l W D u p/\Ch Z (Fp g d W) (λz=>False) s D:=by
 have E:∀i a,(i,a)∈W->i∉t.names:=λi a j N=>F.wr (GD L i N) a j;refine⟨⟨F.a,c.inv F.i,c.hok F.k λb G=>R.fo_live G,R,F.nl,F.nc,λi a j=>?_,λi a j=>?_,F.w,F.ap⟩,c.mono (λb o z f=>.inl f) λz z q=>q⟩
 ·(refine D1 (F.o i a j) λH I O w=>?_;refine AE w λm k J Q=>?_)
  exact⟨H,I,(RJ G (E i a j)).trans O,m,k,J,M i m k _ (E i a j) J Q⟩
 ·refine A2 (F.c i a j) λv H I=>?_;exact⟨v,H,I.turn (λo e t=>c.heap a o e t λf=>F.fo f (F.o i a j).1) (λb o q e t=>c.heap b o e t λf=>F.fo f q.1) λz z z q=>q⟩
theorem Fr.ag(O:Z.Ok)(F:Fr Z n A g d l W s r p){t:T}{te:f0}{u:gx}{x:V}{a:Ev}(e:D2 g t te=er)(c:BM t x r=dD a)(f:VR Z.prog Z.w (C8 l W) s.heap u x)(i:Ag p t.names=er):
  WP Z A (uT te d u) (λz y=>Fr Z n A g d l W y a p/\Ch Z (Fp g d W) (λz=>False) s y) s:=
 A1 (Fe O F.a.1 e c f F.f) (λz z b=>F.after c i b.1 b.2.1 b.2.2)
set_option tactic.hygienic true in
theorem Fr.sto(O:Z.Ok)(F:Fr Z n A g d l W s r p){i:Nat}{m:pw}{u:gx}{x:V}(a:BA g i m=er)(c:VR Z.prog Z.w (C8 l W) s.heap u x)(e:p.get i=eu):
  WP Z A (t5 d m u) (λ_ y=>Fr Z n A g d l W y (r.put i x) p/\Ch Z (Fp g d W) (λ_=>False) s y) s:=by
 unfold BA at a;split at a
 ·rename_i o k f;simp only[pl,vJ,beq_iff_eq]at a;obtain⟨rfl,j⟩:=a;refine A1 (F.f.store' O f j c) (λ_ _ b=>F.after (t:=.one i) rfl ?_ b.1 b.2.1 b.2.2.1);show Ag p [i]=er
  rewrite [Bz]
  rw[e];rfl
 ·exact fT a
theorem Fr.upd(F:Fr Z n A g d l W s r p)(O:Z.Ok){i:Nat}{a:ls}{v:V}{z:qX}{tk:Nat}(t:(i,a)∈W)(x:∀b o,b≠a->s.heap.get? b=dD o->z.get? b=dD o)(N:Cont Z.prog Z.w (C8 l W) z a v):
  Fr Z n A g d l W {s with heap:=z,toks:=tk} r (p.put i v)/\Ch Z (Fp g d W) (λ_=>False) s {s with heap:=z,toks:=tk}:=by
 refine A2 (F.c i a t) λv0 _ U=>?_;refine LN U.there λo0 Y _ E G=>?_;have H:Ch Z (λb=>b=a) (λ_=>False) s {s with heap:=z,toks:=tk}:=Ch.of_keep O (λb e=>by exact(congrArg _ e).trans ((F.o i a t).2.1)) (λb o e q=>by
  (replace e:=e.symm;subst e);(replace q:=dE (Y.symm.trans q);subst q);exact⟨E,G⟩) x
 have I:∀b,z.get? b=eu->l b:=H.hok F.k λb e=>by
  refine A2 N.there λo J _=>?_;exact⟨o,by exact(congrArg _ e).trans (J)⟩
 have Q:∀b,C8 l W b->b≠a:=λb q e=>q.2 i (e▸t);have nl:d.locals≠a:=λe=>F.nl (e▸(F.o i a t).1);have nc:∀m c,d.cells.lookup m=dD c->c≠a:=λm c q e=>F.nc m c q (e▸(F.o i a t).1);refine⟨⟨F.a,H.inv F.i,I,F.f.turn (λb o q e _=>x b o ?_ e) (λ_ _ _ q=>q) (λb hb q=>?_),F.nl,F.nc,λj b D=>?_,λj b D=>?_,λj w e=>?_,F.ap⟩,H.mono (λb o _ f=>.inr ⟨i,f▸t⟩) λ_ _ q=>q⟩
 ·rcases q with q|q|⟨m,q⟩
  ·exact Q b q
  ·rw[q];exact nl
  ·exact nc m b q
 ·rcases hb with rfl|⟨m,e⟩
  ·exact F.nl q.1
  ·exact F.nc m b e q.1
 ·(refine D1 (F.o j b D) λL M h3 u=>?_;refine AE u λm k h4 h5=>?_)
  refine⟨L,M,h3,m,k,h4,h5.turn λb o q e _=>x b o ?_ e⟩;rcases q with q|⟨m,q⟩
  ·rw[q];exact nl
  ·exact nc m b q
 ·by_cases q:i=j
  ·subst q;have:a=b:=(F.ap i a i b t D).mpr rfl;subst this;exact⟨v,by rw[Ev.get_put,if_pos rfl],N⟩
  ·refine A2 (F.c j b D) λw L M=>?_;refine⟨w,by rw[Ev.get_put,if_neg q];exact L,M.turn (λo e _=>x b o (λJ=>q ((F.ap j b i a D t).mp J).symm) e) (λb o q e _=>x b o (Q b q) e) λ_ _ _ q=>q⟩
 ·rw[Ev.get_put]at e;split at e
  ·rename_i q;subst q;exact⟨a,t⟩
  ·exact F.w j w e
theorem Fr.make(O:Z.Ok)(F:Fr Z n A g d l W s r p){E:lb}{i:Nat}{a:ls}{v:V}{m:pw}{k:qE}(hn:g.names[i]?=dD (m,k))(hk:k=.local\/k=.cell)(hr:r.get i=eu)(N:p.get i=eu)
  (S:Same Z s E) (Y:s.heap.get? a=eu) (hc:Cont Z.prog Z.w (λb=>s.heap.get? b=eu/\b≠a) E.heap a v):
  WP Z A (t5 d m (.ref a)) (λ_ y=>Fr Z n A g d l ((i,a)::W) y r (p.put i v)/\Ch Z (Fp g d ((i,a)::W)) (λ_=>False) s y) E:=by
 have ne:∀b o,s.heap.get? b=dD o->b≠a:=λb o e q=>by rw[q,Y]at e;exact nS e
 have nw:∀j b,(j,b)∈W->b≠a:=λj b x=>by
  refine A2 (F.c j b x) λw _ c=>?_;refine A2 c.there λo e _=>?_;exact ne b o e
 have R1:EnvR Z g d (C8 l ((i,a)::W)) E.heap r:=(F.f.goal (ok':=C8 l ((i,a)::W)) (λb o e q=>⟨q.1,λj x=>by
  rcases md.mp x with h|h
  ·exact ne b o e (qP h).2
  ·exact q.2 j h⟩) λb q=>⟨q.1,λj x=>q.2 j (oP _ x)⟩).same S
 have Q:=F.turn S;have J:l a:=F.k a Y;refine A1 (R1.storeG O hn hk (u:=.ref a)) (λ_ s2 H=>?_);refine D1 H λhR c ot hl=>?_;have R2:=hR r λj w e=>.inr ⟨(λq=>by rw[<-q,hr]at e;exact nS e),e⟩;have sub:∀b,(s.heap.get? b=eu/\b≠a)->E.heap.get? b≠eu->C8 l ((i,a)::W) b:=λb q _=>⟨F.k b q.1,λj x=>by
  rcases md.mp x with h|h
  ·exact q.2 (qP h).2
  ·refine A2 (F.c j b h) λw _ c=>?_;refine A2 c.there λo e _=>?_;rw[q.1]at e;exact nS e⟩
 have u:∀b o,l b->E.heap.get? b=dD o->AB o=fG->s2.heap.get? b=dD o:=λb o q e t=>c.heap b o e t λf=>F.fo f q;refine⟨⟨F.a,c.inv Q.i,c.hok Q.k λb hb=>R2.fo_live hb,R2,F.nl,F.nc,λj b x=>?_,λj b x=>?_,λj w e=>?_,λj b U L I H=>?_⟩,S.ch.trans (c.mono (λb o _ f=>.inl f) λ_ _ q=>q)⟩
 ·rcases md.mp x with h|h
  ·cases h;exact⟨J,F.i.fresh Y,hr,m,k,hn,hl⟩
  ·(refine D1 (Q.o j b h) λI H h3 G=>?_;refine AE G λm' k' h4 h5=>?_)
   refine⟨I,H,h3,m',k',h4,ot j m' k' _ (λq=>?_) h4 h5⟩;simp only[md,r4,or_false]at q
   (replace q:=q.symm;subst q);exact F.wr N b h
 ·rcases md.mp x with h|h
  ·cases h;refine⟨v,by rw[Ev.get_put,if_pos rfl],hc.turn (λo e t=>u a o J e t) (λb o q e t=>u b o (F.k b q.1) e t) λb o e q=>sub b q (by rw[e];simp)⟩
  ·refine A2 (Q.c j b h) λw I H=>?_;refine⟨w,by rw[Ev.get_put,if_neg];exact I;rintro rfl;exact F.wr N b h,?_⟩;refine A2 (F.c j b h) λw' D M=>?_;rw[I]at D;(replace D:=dE D;subst D);have e3:Cont Z.prog Z.w (C8 l ((i,a)::W)) E.heap b w:=M.turn (λo e t=>S.heap b o e t) (λb o _ e t=>S.heap b o e t) λL o e q=>⟨q.1,λU a0=>by
    rcases md.mp a0 with h|h
    ·exact ne L o e (qP h).2
    ·exact q.2 U h⟩
   exact e3.turn (λo e t=>u b o (F.o j b h).1 e t) (λb o q e t=>u b o q.1 e t) λ_ _ _ q=>q
 ·rw[Ev.get_put]at e;split at e
  ·rename_i q;subst q;exact⟨a,pg⟩
  ·obtain⟨b,hb⟩:=F.w j w e;exact⟨b,oP _ hb⟩
 ·rcases md.mp I with g1|g1<;>rcases md.mp H with g2|g2
  ·cases g1;cases g2;simp
  ·obtain⟨D,M⟩:=qP g1;exact⟨λq=>absurd (q.symm.trans M) (nw U L g2),λq=>absurd g2 (F.wr (by rw[<-q,D];exact N) L)⟩
  ·obtain⟨D,M⟩:=qP g2;exact⟨λq=>absurd (q.trans M) (nw j b g1),λq=>absurd g1 (F.wr (by rw[q,D];exact N) b)⟩
  ·exact F.ap j b U L g1 g2
end
section
variable{prog:qK}{w:sO}{A:mx}{E:gx->lb->Prop}{s:lb}
theorem Z7{j:Nat}(h:j<2^62):(j:Int)<2^63:=uk (sG.mpr h) (by decide)
theorem Fh{l:ls}{a:Array gx}{n:Nat}{k:Int}{t:yE}{v:gx}{Q:Unit->lb->Prop}(d:s.heap.get? l=dD ⟨.type "list",eu,.seq a n,#[]⟩)
  (i:0<=k) (b:k<2^63) (p:k<a.size)
  (o:∀e q,e.get? l=dD ⟨.type "list",eu,.seq (a.setIfInBounds k.toNat v) q,#[]⟩->uG l s.heap e->Q () {s with heap:=e}):
  qH (qQ prog w) A (z0 (.ref l) (.int k t) v) Q E s:=by
 have g:s.heap.IsList l a:=⟨_,d,rfl,n,rfl⟩
 unfold z0
 try with_reducible refine tU ?_
 first|refine fX (mM ?_)|skip
 refine fX (wpAny_sequenceKey g.typeIs (by decide) ?_);refine fX (sS (name:=sj "__setitem__") g.typeIs ACl
  (tz ACl g.typeIs entry_list_setitem ?_ (args_list_setitem _ _ _)))
 show qH _ _ (ADb (.int k t) >>= _) _ _ s;refine fX (wpAny_listSubscript_int (fitsIndex_of i b) ?_);clear b;obtain⟨j,rfl⟩:=z4 i;have r:j<a.size:=sG.mp p;have h:a[j]?=dD a[j]:=ty r;refine fX (fX (wpAny_seqItemAt d rfl (mM ?_)));rw[h];show qH _ _ (setSeqItemAt l j v >>= _) _ _ s;have c:(s.heap.update l (ADt (·.setIfInBounds j v))).get? l=dD (ADt (·.setIfInBounds j v) ⟨.type "list",eu,.seq a n,#[]⟩):=uu _ d rfl;refine fX (wpAny_setSeqItemAt d rfl ?_)
 first
  |exact fX (mM (mM ⟨.none,rfl,mM (o _ _ c (tO ..))⟩))
  |exact mM ⟨.none,rfl,mM (o _ _ c (tO ..))⟩
theorem Jg{l:ls}{a:Array gx}{n:Nat}{Q:gx->lb->Prop}(b:s.heap.get? l=dD ⟨.type "list",eu,.seq a n,#[]⟩)(c:a.size<=wH)
  (e:∀d g,d.get? l=dD ⟨.type "list",eu,.seq a.reverse g,#[]⟩->uG l s.heap d->Q .none {s with heap:=d}):
  qH (qQ prog w) A (t9 (.builtin "list.reverse") [.ref l]) Q E s:=by
 refine yo y' ⟨_,b,rfl⟩ PySem.F.entry_list_reverse (PySem.F.args_list_reverse_1 _) (AutoSeq1.list_reverse_list_0 l a n c) ⟨b,?_⟩;exact e _ _ (uu _ b rfl) (tO ..)
end
noncomputable def Gu:List (List Nat)->List V->List Nat->V->List (List Nat)×List V
 |[],[],k,v=>([k],[v])
 |a::ks,x::b,k,v=>match FW a k with
  |true=>(a::ks,v::b)
  |false=>let r:=Gu ks b k v;(a::r.1,x::r.2)
 |ks,b,_,_=>(ks,b)
theorem eR{a k:List Nat}{ks:List (List Nat)}{x v:V}{b:List V}:Gu (a::ks) (x::b) k v=match FW a k with
  |true=>(a::ks,v::b)
  |false=>(a::(Gu ks b k v).1,x::(Gu ks b k v).2):=rfl
set_option tactic.hygienic true in
theorem MJ:∀(b:List (pw×gx)) (ks:List (List Nat)) (i:List V) (k:List Nat) (v:gx) (x:V) {j:qK} {w:sO} {f:ls->Prop} {h:qX},(b.map (·.1)).Nodup->b.map (·.1)=ks.map AP->VRs j w f h (b.map (·.2)) i->VR j w f h v x->
  (AAQ b (AP k) v).map (·.1)=(Gu ks i k x).1.map AP/\VRs j w f h ((AAQ b (AP k) v).map (·.2)) (Gu ks i k x).2:=by
 intro b;induction b with
 |nil=>
  intro ks i k v x j w f h g c t u;induction ks using lz with
  |cons=>simp at c
  |nil=>cases t;exact⟨rfl,.cons u .nil⟩
 |cons p r O=>
  intro ks i k v x j w f h g c t u;induction ks using lz with
  |nil=>simp at c
  |cons a ks=>
   simp only[pj,w9]at c;rw[pj]at t;cases t with|cons I l=>
   rename_i y Q;rw[pj,vK]at g;have o:=O ks Q k v x g.2 c.2 l u
   rewrite [eR]
   rw[HU];by_cases q:a=k
   ·rw[<-q];simp only[decide_true];have J:∀d∈r,d.1≠AP a:=λd L e=>g.1 (by rw[c.1,<-e];exact u8.mpr ⟨d,L,rfl⟩);have U:r.map (λd=>if d.1=AP a then(d.1,v)else d)=r:=by
     conv=>rhs;rw[<-List.map_id r]
     apply List.map_congr_left;intro d L;exact(if_neg (J d L))
    have M:AAQ (p::r) (AP a) v=(p.1,v)::r:=by unfold AAQ;rw[if_pos (by simp[c.1])];rw[pj,if_pos c.1,U]
    rw[M];exact⟨by simp[c.1,c.2],.cons u l⟩
   ·have N:p.1≠AP k:=λe=>q (LH (c.1.symm.trans e));have M:AAQ (p::r) (AP k) v=p::AAQ r (AP k) v:=by
     unfold AAQ;by_cases H:r.any (λd=>decide (d.1=AP k))=er
     ·rw[if_pos (by simp only[wI,H,Bool.or_true]),if_pos H,pj,if_neg N]
     ·rw[if_neg (by simp only[wI];simp only[N,decide_false,ACX];exact H),if_neg H];rfl
    rw[M,decide_eq_false q];refine⟨?_,?_⟩
    ·simp only[pj,c.1];rw[o.1]
    ·exact .cons I o.2
section
variable{Z:Bs}{B:o5}{m:t8}{f G:ls->Prop}{s z:lb}{D C:Ev}{A:mx}{n:Nat}{W:Jc}
theorem Fr.app(O:Z.Ok)(F:Fr Z n A B m f W s D C){i:Nat}{a:ls}{d:List V}{u:gx}{x:V}(h:(i,a)∈W)(l:C.get i=dD (.l d))(p:VR Z.prog Z.w (C8 f W) s.heap u x)(t:A5 d=er):
  WP Z A (t9 (.builtin "list.append") [.ref a,u]) (λr z=>r=.none/\Fr Z n A B m f W z D (C.put i (.l (d++ [x])))/\Ch Z (Fp B m W) (λY=>False) s z) s:=by
 refine A2 (F.c i a h) λv e c=>?_
 (replace e:=dE (l.symm.trans e);subst e)
 refine Cont.kLst c λY Y g r=>?_;refine ABI ⟨_,g⟩ (λy j H=>?_) ?_
 ·obtain⟨J,j⟩:=j;have k:∀b o,b≠a->s.heap.get? b=dD o->y.get? b=dD o:=λb o e q=>H.extBut b o e q;have I:∀b,C8 f W b->b≠a:=λb q e=>q.2 i (e▸h);have:=F.upd O (tk:=s.toks) h k (.l j (by
   rw[yK];exact(r.append (.cons p .nil)).mono (λb o q e Y=>k b o (I b q) e) λY Y q Y=>q))
  exact⟨rfl,this.1,this.2⟩
 ·have:=AQ t;have e:=r.length;simp at e;rw[e];unfold wH;lia
theorem Fr.reversed(O:Z.Ok)(F:Fr Z n A B m f W s D C){i:Nat}{a:ls}{d:List V}(h:(i,a)∈W)(k:C.get i=dD (.l d))(l:A5 d=er):
  WP Z A (t9 (.builtin "list.reverse") [.ref a]) (λr z=>r=.none/\Fr Z n A B m f W z D (C.put i (.l d.reverse))/\Ch Z (Fp B m W) (λw=>False) s z) s:=by
 refine A2 (F.c i a h) λv e c=>?_;rw[k]at e;(replace e:=dE e;subst e);refine Cont.kLst c λw w g r=>?_;refine Jg g ?_ λp y t u=>?_
 ·have:=AQ l;have e:=r.length;simp at e;rw[e];unfold wH;lia
 ·have j:∀b o,b≠a->s.heap.get? b=dD o->p.get? b=dD o:=λb o e q=>u.extBut b o e q;have x:∀b,C8 f W b->b≠a:=λb q e=>q.2 i (e▸h);have:=F.upd O (tk:=s.toks) h j (.l t (by
   rw[Array.toList_reverse];exact r.reverse.mono (λb o q e w=>j b o (x b q) e) λw w q w=>q))
  exact⟨rfl,this.1,this.2⟩
theorem VRs.set{b:qK}{w:sO}{f:ls->Prop}{h:qX}{u:gx}{x:V}(c:VR b w f h u x):∀{d:List gx} {e:List V} (k:Nat),VRs b w f h d e->VRs b w f h (d.set k u) (e.set k x)
 |_,_,_,.nil=>.nil
 |_,_,0,.cons a r=>.cons c r
 |_,_,k+1,.cons a r=>.cons a (VRs.set c k r)
theorem Fr.setl(O:Z.Ok)(F:Fr Z n A B m f W s D C){i:Nat}{a:ls}{d:List V}{u:gx}{x:V}{k:Nat}{t:yE}(h:(i,a)∈W)(y:C.get i=dD (.l d))(H:VR Z.prog Z.w (C8 f W) s.heap u x)(I:A5 d=er)(l:k<d.length):
  WP Z A (z0 (.ref a) (.int k t) u) (λY z=>Fr Z n A B m f W z D (C.put i (.l (d.set k x)))/\Ch Z (Fp B m W) (λY=>False) s z) s:=by
 refine A2 (F.c i a h) λv e c=>?_
 (replace e:=dE (y.symm.trans e);subst e)
 refine Cont.kLst c λY Y g r=>?_;have j:=AQ I;have e:=r.length;simp at e;refine Fh g (pP k) (Z7 (qS l (qS j (by decide)))) (sG.mpr (e▸l)) λJ Q L M=>?_;have p:∀b o,b≠a->s.heap.get? b=dD o->J.get? b=dD o:=λb o e q=>M.extBut b o e q;have N:∀b,C8 f W b->b≠a:=λb q e=>q.2 i (e▸h);exact F.upd O (tk:=s.toks) h p (.l L (by simp only[zK];exact(VRs.set H k r).mono (λb o q e Y=>p b o (N b q) e) λY Y q Y=>q))
theorem Fr.setd(O:Z.Ok)(F:Fr Z n A B m f W s D C){i:Nat}{a:ls}{ks:List (List Nat)}{p:List V}{u:gx}{x:V}{k:List Nat}{t:yE}(y:(i,a)∈W)(L:C.get i=dD (.d ks p))(M:VR Z.prog Z.w (C8 f W) s.heap u x)(N:A5 ks=er):
  WP Z A (z0 (.ref a) (.str (AP k) t) u) (λ_ z=>Fr Z n A B m f W z D (C.put i (.d (Gu ks p k x).1 (Gu ks p k x).2))/\Ch Z (Fp B m W) (λ_=>False) s z) s:=by
 refine A2 (F.c i a y) λv e c=>?_
 (replace e:=dE (L.symm.trans e);subst e)
 refine Cont.kDct c λ_ _ Q g d I r=>?_;rename_i o j;have U:=AQ N;have l:j.length=ks.length:=by have:=congrArg ug I;simpa using this
 have H:(j.map (·.1)).Nodup:=by refine AE d λ_ _ _ h=>?_;exact h.2.2.2
 refine wpAny_setItem_pairs (knd:=qW Z.prog Z.w) (k:=AP k) (by simp[qW,ACD]) (wV.mpr ⟨o,g,d⟩) (λY hp hs=>?_) (by rw[l];unfold wH;lia);refine A2 (wV.mp hp) λo' g' d'=>?_;have J:∀b o,b≠a->s.heap.get? b=dD o->Y.get? b=dD o:=λb o e q=>hs.extBut b o e q;have na:∀b,C8 f W b->b≠a:=λb q e=>q.2 i (e▸y);obtain⟨p1,p2⟩:=MJ j ks p k u x H I r M;exact F.upd O (tk:=s.toks+1) y J (.d Q g' d' p1 (p2.mono (λb o q e _=>J b o (na b q) e) λ_ _ q _=>q))
end
mutual
inductive Cm
 |ag (t:T) (x:X)
 |as (i:Nat) (x:X)
 |as2 (i j:Nat) (x:X)
 |sw (i j:Nat) (x y:X)
 |aug (i:Nat) (o:qp) (x:X)
 |own (i:Nat) (x:X)
 |dc1 (i:Nat) (x y:X)
 |dc0 (i j:Nat)
 |app (i:Nat) (x:X)
 |rev (i:Nat)
 |put (i:Nat) (k x:X)
 |ret (x:X)
 |ie (x:X) (a b:Cs)
 |lp (t:T) (it:It) (b:Cs)
 |loc (t:T) (x:X) (b:Cs)
 |wl (n:Nat) (x:X) (b:Cs)
 |ju
inductive Cs
 |nil
 |cons (c:Cm) (r:Cs)
end
inductive Rs|nx(ρ A:Ev)|ret(v:V)
noncomputable def By:V->Bool
 |.l _=>fG
 |.t _=>fG
 |.d _ _=>fG
 |_=>er
noncomputable def CP:List V->Bool
 |[]=>er
 |x::r=>match By x with
  |true=>CP r
  |false=>fG
noncomputable def De(c:Ev):Ev->Ev
 |[]=>[]
 |(i,v)::r=>match c.get i with
  |some w=>match By w with
   |true=>(i,v)::De c r
   |false=>De c r
  |none=>De c r
theorem Lj{c:Ev}{i:Nat}{v:V}{r:List (Nat×V)}:De c ((i,v)::r)=
  match c.get i with
  |some w=>
   match By w with
   |true=>(i,v)::De c r
   |false=>De c r
  |none=>De c r:=rfl
noncomputable def Dj(ρ:Ev):Ev:=De ρ ρ
noncomputable def AN(o:Option V):Bool:=match o with
 |none=>er
 |some _=>fG
noncomputable def As(t:T)(c:Ev->Ev->Option Rs):List V->Ev->Ev->Option Rs
 |[],ρ,A=>dD (.nx ρ A)
 |v::g,ρ,A=>match Ag A t.names with
  |true=>match BM t v ρ with
   |some d=>match c d A with
    |some (.nx e f)=>As t c g e f
    |some (.ret v)=>dD (.ret v)
    |none=>eu
   |none=>eu
  |false=>eu
theorem YI{t:T}{c:Ev->Ev->Option Rs}{x d:Ev}:As t c [] x d=dD (Rs.nx x d):=rfl
theorem I5{t:T}{c:Ev->Ev->Option Rs}{x d:Ev}{v:V}{h:List V}:As t c (v::h) x d=
  match Ag d t.names with
  |true=>
   match BM t v x with
   |some e=>
    match c e d with
    |some (Rs.nx f g)=>As t c h f g
    |some (Rs.ret v)=>dD (Rs.ret v)
    |none=>eu
   |none=>eu
  |false=>eu:=rfl
noncomputable def Cr(c:Ev->Option Bool)(d:Ev->Ev->Option Rs):Nat->Ev->Ev->Option Rs
 |0,_,_=>eu
 |n+1,ρ,A=>match c (A++ρ)with
  |some er=>match d ρ A with
   |some (.nx e f)=>Cr c d n e f
   |some (.ret v)=>dD (.ret v)
   |none=>eu
  |some fG=>dD (.nx ρ A)
  |none=>eu
theorem I0{c:Ev->Option Bool}{d:Ev->Ev->Option Rs}{x e:Ev}{n:Nat}:Cr c d n.succ x e=
  match c (e++x)with
  |some er=>
   match d x e with
   |some (Rs.nx f g)=>Cr c d n f g
   |some (Rs.ret v)=>dD (Rs.ret v)
   |none=>eu
  |some fG=>dD (Rs.nx x e)
  |none=>eu:=rfl
noncomputable def He(A:Ev)(i:Nat)(k v:V):Option Ev:=match A.get i,k with
 |some (.l c),.int j=>match A5 c&&decide (0<=j)&&pq j.toNat c.length with
  |true=>dD (A.put i (.l (c.set j.toNat v)))
  |false=>eu
 |some (.d ks c),.str s=>match A5 ks with
  |true=>dD (A.put i (.d (Gu ks c s v).1 (Gu ks c s v).2))
  |false=>eu
 |_,_=>eu
noncomputable def W5(o:qp)(a b:V):Option V:=match o,a,b with
 |.Add,.int i,.int j=>dD (.int (i+j))
 |.Sub,.int i,.int j=>dD (.int (i-j))
 |_,_,_=>eu
mutual
noncomputable def BK(cl:Cl)(lp:Bool):Cm->Ev->Ev->Option Rs
 |.ag t x,ρ,A=>match Ag A t.names with
  |true=>match ev cl x ρ with
   |some v=>match BM t v ρ with
    |some c=>dD (.nx c A)
    |none=>eu
   |none=>eu
  |false=>eu
 |.as i x,ρ,A=>match AN (A.get i)with
  |true=>match ev cl x (A++ρ)with
   |some v=>match By v with
    |true=>dD (.nx (ρ.put i v) A)
    |false=>eu
   |none=>eu
  |false=>eu
 |.as2 i j x,ρ,A=>match AN (A.get i)&&AN (A.get j)with
  |true=>match ev cl x ρ with
   |some v=>dD (.nx ((ρ.put i v).put j v) A)
   |none=>eu
  |false=>eu
 |.sw i j x y,ρ,A=>match AN (A.get i)&&AN (A.get j)&&!lf i j with
  |true=>match ev cl x ρ,ev cl y ρ with
   |some v,dD u=>dD (.nx ((ρ.put i v).put j u) A)
   |_,_=>eu
  |false=>eu
 |.aug i o x,ρ,A=>match AN (A.get i)with
  |true=>match ρ.get i,ev cl x ρ with
   |some a,dD b=>match W5 o a b with
    |some v=>dD (.nx (ρ.put i v) A)
    |none=>eu
   |_,_=>eu
  |false=>eu
 |.own i x,ρ,A=>match !lp&&AN (A.get i)&&AN (ρ.get i)with
  |true=>match ev cl x (Dj ρ)with
   |some (.l e)=>match CP e with
    |true=>dD (.nx ρ (A.put i (.l e)))
    |false=>eu
   |_=>eu
  |false=>eu
 |.dc1 i x y,ρ,A=>match !lp&&AN (A.get i)&&AN (ρ.get i)with
  |true=>match ev cl x ρ,ev cl y ρ with
   |some (.str k),dD v=>match By v with
    |true=>dD (.nx ρ (A.put i (.d [k] [v])))
    |false=>eu
   |_,_=>eu
  |false=>eu
 |.dc0 i j,ρ,A=>match !lp&&AN (A.get i)&&AN (ρ.get i)&&AN (A.get j)&&AN (ρ.get j)&&!lf i j with
  |true=>dD (.nx ρ ((A.put i (.d [] [])).put j (.d [] [])))
  |false=>eu
 |.app i x,ρ,A=>match A.get i,ev cl x ρ with
  |some (.l e),dD v=>match A5 e with
   |true=>dD (.nx ρ (A.put i (.l (e++ [v]))))
   |false=>eu
  |_,_=>eu
 |.rev i,ρ,A=>match A.get i with
  |some (.l e)=>match A5 e with
   |true=>dD (.nx ρ (A.put i (.l e.reverse)))
   |false=>eu
  |_=>eu
 |.put i k x,ρ,A=>match ev cl x (A++ρ),ev cl k ρ with
  |some v,dD u=>match By v with
   |true=>match He A i u v with
    |some d=>dD (.nx ρ d)
    |none=>eu
   |false=>eu
  |_,_=>eu
 |.ret x,ρ,A=>match ev cl x (A++ρ)with
  |some v=>dD (.ret v)
  |none=>eu
 |.ie x a b,ρ,A=>match tr (ev cl x (A++ρ))with
  |some er=>AX cl lp a ρ A
  |some fG=>AX cl lp b ρ A
  |none=>eu
 |.lp t g b,ρ,A=>match EW cl g ρ with
  |some f=>As t (λc d=>AX cl er b c d) f ρ A
  |none=>eu
 |.loc t x b,ρ,A=>match ev cl x (A++ρ)with
  |some (.l f)=>match CP f with
   |true=>As t (λc d=>AX cl er b c d) f ρ A
   |false=>eu
  |_=>eu
 |.wl n x b,ρ,A=>Cr (λc=>tr (ev cl x c)) (λc d=>AX cl er b c d) n ρ A
 |.ju,_,_=>eu
noncomputable def AX(cl:Cl)(lp:Bool):Cs->Ev->Ev->Option Rs
 |.nil,ρ,A=>dD (.nx ρ A)
 |.cons c r,ρ,A=>match BK cl lp c ρ A with
  |some (.nx d e)=>AX cl lp r d e
  |some (.ret v)=>dD (.ret v)
  |none=>eu
end
noncomputable def BN(e:f0):Bool:=ph 8 e.ctorIdx&&ph e.ctorIdx 10
noncomputable def Ti(e:f0):Bool:=lf e.ctorIdx 25
mutual
noncomputable def Bm:o5->Cm->pt->Bool
 |d,.ag (.one i) x,st=>Jk st λh e z=>o1 h λt=>B5 t λn z=>BA d i n&&AH d x e
 |d,.ag (.many H) x,st=>Jk st λh e z=>o1 h λt=>Kq t λl z z=>EK d H l&&(!Ti e&&(!BN e&&AH d x e))
 |d,.as i x,st=>Jk st λh e z=>o1 h λt=>B5 t λn z=>BA d i n&&(!BN e&&AH d x e)
 |d,.as2 i j x,st=>Jk st λh e z=>o2 h λt u=>B5 t λn z=>B5 u λm z=>BA d i n&&(BA d j m&&(!BN e&&AH d x e))
 |d,.sw i j x y,st=>Jk st λh v z=>o1 h λt=>Kq t λD z z=>o2 D λt u=>B5 t λn z=>B5 u λm z=>Kq v λl z z=>o2 l λe f=>BA d i n&&(BA d j m&&(!(uf 8 e&&uf 8 f)&&(!(uE 8 e&&uE 8 f)&&(AH d x e&&AH d y f))))
 |d,.aug i o x,st=>kX st λt I e z=>B5 t λn z=>o==I&&(BA d i n&&(FT d i n&&AH d x e))
 |d,.own i x,st=>Jk st λh e z=>o1 h λt=>B5 t λn z=>BA d i n&&(!BN e&&AH d x e)
 |d,.dc1 i x y,st=>Jk st λh v z=>o1 h λt=>B5 t λn z=>NC v λks J z=>o1 ks λk=>oS k λe=>o1 J λf=>BA d i n&&(AH d x e&&AH d y f)
 |d,.dc0 i j,st=>Jk st λh v z=>o1 h λt=>Kq t λD z z=>o2 D λt u=>B5 t λn z=>B5 u λm z=>Kq v λl z z=>o2 l λe f=>NC e λL v1 z=>NC f λM v2 z=>o0 L&&(o0 v1&&(o0 M&&(o0 v2&&(BA d i n&&BA d j m))))
 |d,.app i x,st=>Om st λc z=>DE c λg l ks p=>o0 ks&&Ml g λt a E=>B5 t λn z=>o1 l λe=>("append" :pw)==a&&(FT d i n&&(E.endLine==p.line&&AH d x e))
 |d,.rev i,st=>Om st λc z=>DE c λg l ks p=>o0 ks&&(o0 l&&Ml g λt a E=>B5 t λn z=>("reverse" :pw)==a&&(FT d i n&&E.endLine==p.line))
 |d,.put i k x,st=>Jk st λh e z=>o1 h λt=>To t λt f z=>B5 t λn z=>FT d i n&&(!BN e&&(AH d k f&&AH d x e))
 |d,.ret x,st=>iL st λo z=>oS o λe=>AH d x e
 |d,.ie x a b,st=>iJ st λe N q z=>AH d x e&&(C1 d a N&&C1 d b q)
 |d,.lp t G b,st=>dy st λw s q l z=>o0 l&&(D2 d t w&&(Jh G w&&((Gh d G s||Tk d G s)&&C1 d b q)))
 |d,.loc t x b,st=>dy st λw s q l z=>o0 l&&(D2 d t w&&(BN s&&(AH d x s&&C1 d b q)))
 |d,.wl _ x b,st=>SP st λe q l z=>o0 l&&(AH d x e&&C1 d b q)
 |_,.ju,_=>er
noncomputable def C1:o5->Cs->List pt->Bool
 |_,.nil,l=>o0 l
 |d,.cons c r,l=>oC l λs e=>Bm d c s&&C1 d r e
end
section
variable{B:Type}{z:B}{C:Prop}
theorem oX{o:Option V}{f:List V->Option B}(h:(match o with|some (.l v)=>f v|_=>eu)=dD z)(k:∀v,o=dD (.l v)->f v=dD z->C):C:=by
 induction o using m8 with
 |none=>exact nS h
 |some v=>induction v using V.casesOn with
  |l c=>exact k c rfl h
  |_=>exact nS h
theorem oy{o p:Option V}{f:List V->V->Option B}(h:(match o,p with|some (.l v),dD u=>f v u|_,_=>eu)=dD z)(k:∀v u,o=dD (.l v)->p=dD u->f v u=dD z->C):C:=by
 induction o using m8 with
 |none=>exact nS h
 |some v=>induction v using V.casesOn with
  |l c=>induction p using m8 with
   |some u=>exact k c u rfl rfl h
   |none=>exact nS h
  |_=>exact nS h
theorem o6{o p:Option V}{f:List Nat->V->Option B}(h:(match o,p with|some (.str v),dD u=>f v u|_,_=>eu)=dD z)(k:∀v u,o=dD (.str v)->p=dD u->f v u=dD z->C):C:=by
 induction o using m8 with
 |none=>exact nS h
 |some v=>induction v using V.casesOn with
  |str c=>induction p using m8 with
   |some u=>exact k c u rfl rfl h
   |none=>exact nS h
  |_=>exact nS h
end
theorem nB{o:Option V}(h:AN o=er):o=eu:=by
 induction o using m8 with
 |none=>rfl
 |some _=>exact fT h
section
variable{cl:Cl}{lp:Bool}{ρ A:Ev}{r:Rs}{P:Rs->Prop}{i j:Nat}{x y:X}{a b:Cs}{t:T}
@[elab_as_elim] theorem ZI (h:BK cl lp (.ag t x) ρ A=dD r) (k:∀v d,Ag A t.names=er->ev cl x ρ=dD v->BM t v ρ=dD d->P (.nx d A)):P r:=
 bS h λa h=>oV h λv b h=>oE h λd c h=>dE h▸k v d a b c
@[elab_as_elim] theorem jQ (h:BK cl lp (.as i x) ρ A=dD r) (k:∀v,A.get i=eu->ev cl x (A++ρ)=dD v->By v=er->P (.nx (ρ.put i v) A)):P r:=
 bS h λa h=>oV h λv b h=>bS h λc h=>dE h▸k v (nB a) b c
@[elab_as_elim] theorem j5 (h:BK cl lp (.as2 i j x) ρ A=dD r) (k:∀v,A.get i=eu->A.get j=eu->ev cl x ρ=dD v->P (.nx ((ρ.put i v).put j v) A)):P r:=
 bS h λa h=>oV h λv b h=>dE h▸k v (nB (ba a).1) (nB (ba a).2) b
@[elab_as_elim] theorem ii (h:BK cl lp (.sw i j x y) ρ A=dD r) (k:∀v u,A.get i=eu->A.get j=eu->i≠j->ev cl x ρ=dD v->ev cl y ρ=dD u->P (.nx ((ρ.put i v).put j u) A)):P r:=
 bS h λa h=>f7 h λv u b c h=>dE h▸k v u (nB (ba (ba a).1).1) (nB (ba (ba a).1).2) (mP ((qI _).mp (ba a).2)) b c
@[elab_as_elim] theorem lI {o:qp} (h:BK cl lp (.aug i o x) ρ A=dD r) (k:∀e f v,A.get i=eu->ρ.get i=dD e->ev cl x ρ=dD f->W5 o e f=dD v->P (.nx (ρ.put i v) A)):P r:=
 bS h λa h=>f7 h λe f b c h=>oV h λv d h=>dE h▸k e f v (nB a) b c d
@[elab_as_elim] theorem hX (h:BK cl lp (.own i x) ρ A=dD r) (k:∀d,lp=fG->A.get i=eu->ρ.get i=eu->ev cl x (Dj ρ)=dD (.l d)->CP d=er->P (.nx ρ (A.put i (.l d)))):P r:=
 bS h λa h=>oX h λd b h=>bS h λc h=>dE h▸k d ((qI _).mp (ba (ba a).1).1) (nB (ba (ba a).1).2) (nB (ba a).2) b c
@[elab_as_elim] theorem f9 (h:BK cl lp (.dc1 i x y) ρ A=dD r) (k:∀e v,lp=fG->A.get i=eu->ρ.get i=eu->ev cl x ρ=dD (.str e)->ev cl y ρ=dD v->By v=er->P (.nx ρ (A.put i (.d [e] [v])))):P r:=
 bS h λa h=>o6 h λe v b c h=>bS h λd h=>dE h▸k e v ((qI _).mp (ba (ba a).1).1) (nB (ba (ba a).1).2) (nB (ba a).2) b c d
@[elab_as_elim] theorem fK (h:BK cl lp (.dc0 i j) ρ A=dD r) (k:lp=fG->A.get i=eu->ρ.get i=eu->A.get j=eu->ρ.get j=eu->i≠j->P (.nx ρ ((A.put i (.d [] [])).put j (.d [] [])))):P r:=
 bS h λa h=>let c:=ba a;let d:=ba c.1;let e:=ba d.1;let f:=ba e.1;let g:=ba f.1;dE h▸k ((qI _).mp g.1) (nB g.2) (nB f.2) (nB e.2) (nB d.2) (mP ((qI _).mp c.2))
@[elab_as_elim] theorem fZ (h:BK cl lp (.app i x) ρ A=dD r) (k:∀d v,A.get i=dD (.l d)->ev cl x ρ=dD v->A5 d=er->P (.nx ρ (A.put i (.l (d++ [v]))))):P r:=
 oy h λd v a b h=>bS h λc h=>dE h▸k d v a b c
@[elab_as_elim] theorem gQ (h:BK cl lp (.rev i) ρ A=dD r) (k:∀d,A.get i=dD (.l d)->A5 d=er->P (.nx ρ (A.put i (.l d.reverse)))):P r:=
 oX h λd a h=>bS h λc h=>dE h▸k d a c
@[elab_as_elim] theorem gB (h:BK cl lp (.put i y x) ρ A=dD r) (k:∀v u e,ev cl x (A++ρ)=dD v->ev cl y ρ=dD u->By v=er->He A i u v=dD e->P (.nx ρ e)):P r:=
 f7 h λv u a b h=>bS h λc h=>oE h λe d h=>dE h▸k v u e a b c d
@[elab_as_elim] theorem jz (h:BK cl lp (.ret x) ρ A=dD r) (k:∀v,ev cl x (A++ρ)=dD v->P (.ret v)):P r:=
 oV h λv a h=>dE h▸k v a
theorem hZ{C:Prop}(h:BK cl lp (.ie x a b) ρ A=dD r)(k:tr (ev cl x (A++ρ))=dD er->AX cl lp a ρ A=dD r->C)(c:tr (ev cl x (A++ρ))=dD fG->AX cl lp b ρ A=dD r->C):C:=
 ZX h k c
theorem fg{C:Prop}{e:It}(h:BK cl lp (.lp t e b) ρ A=dD r)(k:∀f,EW cl e ρ=dD f->As t (λc d=>AX cl er b c d) f ρ A=dD r->C):C:=oL h k
theorem gF{C:Prop}(h:BK cl lp (.loc t x b) ρ A=dD r)(k:∀d,ev cl x (A++ρ)=dD (.l d)->CP d=er->As t (λe f=>AX cl er b e f) d ρ A=dD r->C):C:=oX h λd a h=>bS h λc h=>k d a c h
theorem lY{k v:V}{e:Ev}{C:Prop}(h:He A i k v=dD e)(f:∀d j,A.get i=dD (.l d)->k=.int j->A5 d=er->0<=j->j.toNat<d.length->e=A.put i (.l (d.set j.toNat v))->C)
  (g:∀ks d s,A.get i=dD (.d ks d)->k=.str s->A5 ks=er->e=A.put i (.d (Gu ks d s v).1 (Gu ks d s v).2)->C):C:=by
 unfold He at h;generalize A.get i=o at h f g;induction o using m8 with
 |none=>exact nS h
 |some w=>induction w using V.casesOn with
  |l d=>induction k using V.casesOn with
   |int j=>exact bS h λc h=>f d j rfl rfl (ba (ba c).1).1 (of_decide_eq_true (ba (ba c).1).2) (nY (ba c).2) (dE h).symm
   |_=>exact nS h
  |d ks d=>induction k using V.casesOn with
   |str s=>exact bS h λc h=>g ks d s rfl rfl c (dE h).symm
   |_=>exact nS h
  |_=>exact nS h
theorem lJ{o:qp}{a b v:V}{C:Prop}(h:W5 o a b=dD v)(c:∀i j,o=.Add->a=.int i->b=.int j->v=.int (i+j)->C)(d:∀i j,o=.Sub->a=.int i->b=.int j->v=.int (i-j)->C):C:=by
 induction o using uZ with
 |Add=>induction a using V.casesOn with
  |int i=>induction b using V.casesOn with
   |int j=>exact c i j rfl rfl rfl (dE h).symm
   |_=>exact nS h
  |_=>exact nS h
 |Sub=>induction a using V.casesOn with
  |int i=>induction b using V.casesOn with
   |int j=>exact d i j rfl rfl rfl (dE h).symm
   |_=>exact nS h
  |_=>exact nS h
 |_=>exact nS h
end
theorem Oq{a b c d:Ev}(h:Rs.nx a b=Rs.nx c d):a=c/\b=d:=Rs.noConfusion h λp q=>⟨p,q⟩
theorem RV{cl:Cl}{lp:Bool}{x c:Ev}{t:T}{d:X}:BK cl lp (Cm.ag t d) x c=
  match Ag c t.names with
  |true=>
   match ev cl d x with
   |some v=>
    match BM t v x with
    |some e=>dD (Rs.nx e c)
    |none=>eu
   |none=>eu
  |false=>eu:=rfl
theorem oJ{cl:Cl}{lp:Bool}{x c:Ev}{i:Nat}{d:X}:BK cl lp (Cm.as i d) x c=
  match AN (c.get i)with
  |true=>
   match ev cl d (c++x)with
   |some v=>
    match By v with
    |true=>dD (Rs.nx (x.put i v) c)
    |false=>eu
   |none=>eu
  |false=>eu:=rfl
theorem qg{cl:Cl}{lp:Bool}{x c:Ev}{i j:Nat}{d:X}:BK cl lp (Cm.as2 i j d) x c=
  match AN (c.get i)&&AN (c.get j)with
  |true=>
   match ev cl d x with
   |some v=>dD (Rs.nx ((x.put i v).put j v) c)
   |none=>eu
  |false=>eu:=rfl
theorem lq{cl:Cl}{lp:Bool}{x c:Ev}{i j:Nat}{d y:X}:BK cl lp (Cm.sw i j d y) x c=
  match AN (c.get i)&&AN (c.get j)&&!i.beq j with
  |true=>
   match ev cl d x,ev cl y x with
   |some v,dD u=>dD (Rs.nx ((x.put i v).put j u) c)
   |x,e=>eu
  |false=>eu:=rfl
theorem p8{cl:Cl}{lp:Bool}{x c:Ev}{i:Nat}{o:qp}{d:X}:BK cl lp (Cm.aug i o d) x c=
  match AN (c.get i)with
  |true=>
   match x.get i,ev cl d x with
   |some a,dD b=>
    match W5 o a b with
    |some v=>dD (Rs.nx (x.put i v) c)
    |none=>eu
   |x,e=>eu
  |false=>eu:=rfl
theorem pE{cl:Cl}{lp:Bool}{x c:Ev}{i:Nat}{d:X}:BK cl lp (Cm.own i d) x c=
  match !lp&&AN (c.get i)&&AN (x.get i)with
  |true=>
   match ev cl d (Dj x)with
   |some (V.l e)=>
    match CP e with
    |true=>dD (Rs.nx x (c.put i (V.l e)))
    |false=>eu
   |x=>eu
  |false=>eu:=rfl
theorem rO{cl:Cl}{lp:Bool}{x c:Ev}{i:Nat}{d y:X}:BK cl lp (Cm.dc1 i d y) x c=
  match !lp&&AN (c.get i)&&AN (x.get i)with
  |true=>
   match ev cl d x,ev cl y x with
   |some (V.str k),dD v=>
    match By v with
    |true=>dD (Rs.nx x (c.put i (V.d [k] [v])))
    |false=>eu
   |x,e=>eu
  |false=>eu:=rfl
theorem rQ{cl:Cl}{lp:Bool}{x c:Ev}{i j:Nat}:BK cl lp (Cm.dc0 i j) x c=
  match !lp&&AN (c.get i)&&AN (x.get i)&&AN (c.get j)&&AN (x.get j)&&!i.beq j with
  |true=>dD (Rs.nx x ((c.put i (V.d [] [])).put j (V.d [] [])))
  |false=>eu:=rfl
theorem pu{cl:Cl}{lp:Bool}{x c:Ev}{i:Nat}{d:X}:BK cl lp (Cm.app i d) x c=
  match c.get i,ev cl d x with
  |some (V.l e),dD v=>
   match A5 e with
   |true=>dD (Rs.nx x (c.put i (V.l (e++ [v]))))
   |false=>eu
  |x,f=>eu:=rfl
theorem l8{cl:Cl}{lp:Bool}{x c:Ev}{i:Nat}:BK cl lp (Cm.rev i) x c=
  match c.get i with
  |some (V.l d)=>
   match A5 d with
   |true=>dD (Rs.nx x (c.put i (V.l d.reverse)))
   |false=>eu
  |x=>eu:=rfl
theorem jX{cl:Cl}{lp:Bool}{x c:Ev}{i:Nat}{k d:X}:BK cl lp (Cm.put i k d) x c=
  match ev cl d (c++x),ev cl k x with
  |some v,dD u=>
   match By v with
   |true=>
    match He c i u v with
    |some e=>dD (Rs.nx x e)
    |none=>eu
   |false=>eu
  |x,f=>eu:=rfl
theorem Ef{cl:Cl}{lp:Bool}{x c:Ev}{d:X}:BK cl lp (Cm.ret d) x c=
  match ev cl d (c++x)with
  |some v=>dD (Rs.ret v)
  |none=>eu:=rfl
theorem DS{cl:Cl}{lp:Bool}{x c:Ev}{d:X}{a b:Cs}:BK cl lp (Cm.ie d a b) x c=
  match tr (ev cl d (c++x))with
  |some er=>AX cl lp a x c
  |some fG=>AX cl lp b x c
  |none=>eu:=rfl
theorem VE{cl:Cl}{lp:Bool}{x c:Ev}{t:T}{f:It}{b:Cs}:BK cl lp (Cm.lp t f b) x c=
  match EW cl f x with
  |some g=>As t (λd e=>AX cl er b d e) g x c
  |none=>eu:=rfl
theorem mX{cl:Cl}{lp:Bool}{x c:Ev}{t:T}{d:X}{b:Cs}:BK cl lp (Cm.loc t d b) x c=
  match ev cl d (c++x)with
  |some (V.l g)=>
   match CP g with
   |true=>As t (λe f=>AX cl er b e f) g x c
   |false=>eu
  |x=>eu:=rfl
theorem eM{cl:Cl}{lp:Bool}{x d:Ev}{n:Nat}{e:X}{b:Cs}:BK cl lp (Cm.wl n e b) x d=Cr (λc=>tr (ev cl e c)) (λc f=>AX cl er b c f) n x d:=rfl
theorem pd{cl:Cl}{lp:Bool}{x c:Ev}:BK cl lp Cm.ju x c=eu:=rfl
theorem Ht{cl:Cl}{lp:Bool}{x c:Ev}:AX cl lp Cs.nil x c=dD (Rs.nx x c):=rfl
theorem GG{cl:Cl}{lp:Bool}{x d:Ev}{c:Cm}{r:Cs}:AX cl lp (Cs.cons c r) x d=
  match BK cl lp c x d with
  |some (Rs.nx e f)=>AX cl lp r e f
  |some (Rs.ret v)=>dD (Rs.ret v)
  |none=>eu:=rfl
section
variable{d:o5}{st:pt}
inductive Jw(d:o5)(st:pt)(i:Nat)(x:X):Prop
 |mk (m) (q) (e) (p):st=.Assign [.Name m q] e p->BA d i m=er->AH d x e=er->Jw d st i x
theorem IJ{i:Nat}{x:X}(h:Bm d (.ag (.one i) x) st=er):Jw d st i x:=by refine BU (LI h) λf e p a h=>?_;refine A2 (i1 h) λt b h=>?_;refine AE (BG h) λm q c h=>?_;exact⟨m,q,e,p,by rw[a,b,c],(ba h).1,(ba h).2⟩
inductive K5(d:o5)(st:pt)(is:List Nat)(x:X):Prop
 |mk (es) (k) (q) (e) (p):st=.Assign [.Tuple es k q] e p->EK d is es=er->Ti e=fG->BN e=fG->AH d x e=er->K5 d st is x
theorem T7{a:List Nat}{x:X}(h:Bm d (.ag (.many a) x) st=er):K5 d st a x:=by refine BU (LI h) λo e p b h=>?_;refine A2 (i1 h) λt c h=>?_;refine BU (MS h) λf k q g h=>?_;obtain⟨i,h⟩:=ba h;obtain⟨j,h⟩:=ba h;obtain⟨m,h⟩:=ba h;exact⟨f,k,q,e,p,by rw[b,c,g],i,(qI _).mp j,(qI _).mp m,h⟩
theorem YV{i:Nat}{x:X}(h:Bm d (.as i x) st=er):∃m q e p,st=.Assign [.Name m q] e p/\BA d i m=er/\BN e=fG/\AH d x e=er:=by refine BU (LI h) λj e p a h=>?_;refine A2 (i1 h) λt b h=>?_;refine AE (BG h) λm q c h=>?_;obtain⟨f,h⟩:=ba h;obtain⟨g,h⟩:=ba h;exact⟨m,q,e,p,by rw[a,b,c],f,(qI _).mp g,h⟩
inductive MT(d:o5)(st:pt)(i j:Nat)(x:X):Prop
 |mk (m) (q) (m') (q') (e) (p):st=.Assign [.Name m q,.Name m' q'] e p->BA d i m=er->BA d j m'=er->BN e=fG->AH d x e=er->MT d st i j x
theorem Wj{i j:Nat}{x:X}(h:Bm d (.as2 i j x) st=er):MT d st i j x:=by refine BU (LI h) λv e p a h=>?_;refine AE (i2 h) λt u b h=>?_;refine AE (BG h) λm q c h=>?_;refine AE (BG h) λf g k h=>?_;obtain⟨o,h⟩:=ba h;obtain⟨r,h⟩:=ba h;obtain⟨s,h⟩:=ba h;exact⟨m,q,f,g,e,p,by simp only[a,b,c,k],o,r,(qI _).mp s,h⟩
inductive MM(d:o5)(st:pt)(i j:Nat)(x y:X):Prop
 |mk (m) (q) (m') (q') (k) (tq) (e) (f) (k') (vq) (p):st=.Assign [.Tuple [.Name m q,.Name m' q'] k tq] (.Tuple [e,f] k' vq) p->BA d i m=er->BA d j m'=er->(uf 8 e&&uf 8 f)=fG->(uE 8 e&&uE 8 f)=fG->AH d x e=er->AH d y f=er->MM d st i j x y
theorem Xg{i j:Nat}{x y:X}(h:Bm d (.sw i j x y) st=er):MM d st i j x y:=by refine BU (LI h) λL v p a h=>?_;refine A2 (i1 h) λt b h=>?_;refine BU (MS h) λM k c g h=>?_;refine AE (i2 h) λN Q o h=>?_;refine AE (BG h) λm q r h=>?_;refine AE (BG h) λs u z h=>?_;refine BU (MS h) λU B C D h=>?_;refine AE (i2 h) λe f E h=>?_;obtain⟨G,h⟩:=ba h;obtain⟨H,h⟩:=ba h;obtain⟨I,h⟩:=ba h;obtain⟨J,h⟩:=ba h;exact⟨m,q,s,u,k,c,e,f,B,C,p,by simp only[a,b,g,o,r,z,D,E],G,H,(qI _).mp I,(qI _).mp J,(ba h).1,(ba h).2⟩
inductive NN(d:o5)(st:pt)(i:Nat)(o:qp)(x:X):Prop
 |mk (m) (q) (e) (p):st=.AugAssign (.Name m q) o e p->BA d i m=er->FT d i m=er->AH d x e=er->NN d st i o x
theorem Yh{i:Nat}{o:qp}{x:X}(h:Bm d (.aug i o x) st=er):NN d st i o x:=by refine DC (pU h) λt j e p a h=>?_;refine AE (BG h) λm q b h=>?_;obtain⟨c,h⟩:=ba h;obtain⟨f,h⟩:=ba h;obtain⟨g,h⟩:=ba h;exact⟨m,q,e,p,by rw[a,b,qy c],f,g,h⟩
theorem PA{i:Nat}{x:X}(h:Bm d (.own i x) st=er):∃m q e p,st=.Assign [.Name m q] e p/\BA d i m=er/\BN e=fG/\AH d x e=er:=by refine BU (LI h) λj e p a h=>?_;refine A2 (i1 h) λt b h=>?_;refine AE (BG h) λm q c h=>?_;obtain⟨f,h⟩:=ba h;obtain⟨g,h⟩:=ba h;exact⟨m,q,e,p,by rw[a,b,c],f,(qI _).mp g,h⟩
inductive Ma(d:o5)(st:pt)(i:Nat)(x y:X):Prop
 |mk (m) (q) (e) (f) (q') (p):st=.Assign [.Name m q] (.Dict [dD e] [f] q') p->BA d i m=er->AH d x e=er->AH d y f=er->Ma d st i x y
theorem Wp{i:Nat}{x y:X}(h:Bm d (.dc1 i x y) st=er):Ma d st i x y:=by refine BU (LI h) λz v p a h=>?_;refine A2 (i1 h) λt b h=>?_;refine AE (BG h) λm q c h=>?_;refine BU (Sw h) λks B g j h=>?_;refine A2 (i1 h) λk o h=>?_;refine A2 (iS h) λe r h=>?_;refine A2 (i1 h) λf s h=>?_;obtain⟨u,h⟩:=ba h;exact⟨m,q,e,f,g,p,by simp only[a,b,c,j,o,r,s],u,(ba h).1,(ba h).2⟩
inductive MO(d:o5)(st:pt)(i j:Nat):Prop
 |mk (m) (q) (m') (q') (k) (tq) (d1) (d2) (k') (vq) (p):st=.Assign [.Tuple [.Name m q,.Name m' q'] k tq] (.Tuple [.Dict [] [] d1,.Dict [] [] d2] k' vq) p->BA d i m=er->BA d j m'=er->MO d st i j
theorem Wf{i j:Nat}(h:Bm d (.dc0 i j) st=er):MO d st i j:=by refine BU (LI h) λN v p b h=>?_;refine A2 (i1 h) λt c h=>?_;refine BU (MS h) λQ k g o h=>?_;refine AE (i2 h) λU Y r h=>?_;refine AE (BG h) λm q s h=>?_;refine AE (BG h) λu x y h=>?_;refine BU (MS h) λes z B C h=>?_;refine AE (i2 h) λe f D h=>?_;refine BU (Sw h) λk1 v1 E G h=>?_;refine BU (Sw h) λk2 v2 H a h=>?_;obtain⟨I,h⟩:=ba h;obtain⟨J,h⟩:=ba h;obtain⟨L,h⟩:=ba h;obtain⟨M,h⟩:=ba h;exact⟨m,q,u,x,k,g,E,H,z,B,p,by simp only[b,c,o,r,s,y,C,D,G,a,i0 I,i0 J,i0 L,i0 M],(ba h).1,(ba h).2⟩
inductive NI(d:o5)(st:pt)(i:Nat)(x:X):Prop
 |mk (m) (q) (ap) (e) (p) (p'):st=.Expr (.Call (.Attribute (.Name m q) "append" ap) [e] [] p) p'->FT d i m=er->(ap.endLine==p.line)=er->AH d x e=er->NI d st i x
theorem YT{i:Nat}{x:X}(h:Bm d (.app i x) st=er):NI d st i x:=by refine AE (Si h) λc b f h=>?_;refine DC (EN h) λg B ks p j h=>?_;obtain⟨k,h⟩:=ba h;refine BU (Vj h) λt a o r h=>?_;refine AE (BG h) λm q s h=>?_;refine A2 (i1 h) λe u h=>?_;obtain⟨v,h⟩:=ba h;obtain⟨y,h⟩:=ba h;obtain⟨z,h⟩:=ba h;exact⟨m,q,o,e,p,b,by simp only[f,j,r,s,u,i0 k,qy v],y,z,h⟩
theorem V3{i:Nat}(h:Bm d (.rev i) st=er):∃m q b p e,st=.Expr (.Call (.Attribute (.Name m q) "reverse" b) [] [] p) e/\FT d i m=er/\(b.endLine==p.line)=er:=by refine AE (Si h) λc e f h=>?_;refine DC (EN h) λg v ks p j h=>?_;obtain⟨k,h⟩:=ba h;obtain⟨o,h⟩:=ba h;refine BU (Vj h) λt a b r h=>?_;refine AE (BG h) λm q s h=>?_;obtain⟨u,h⟩:=ba h;exact⟨m,q,b,p,e,by simp only[f,j,r,s,i0 k,i0 o,qy u],ba h⟩
inductive NM(d:o5)(st:pt)(i:Nat)(k x:X):Prop
 |mk (m) (q) (f) (sq) (e) (p):st=.Assign [.Subscript (.Name m q) f sq] e p->FT d i m=er->BN e=fG->AH d k f=er->AH d x e=er->NM d st i k x
theorem Y7{i:Nat}{k x:X}(h:Bm d (.put i k x) st=er):NM d st i k x:=by refine BU (LI h) λs e p a h=>?_;refine A2 (i1 h) λt b h=>?_;refine BU (d0 h) λu f c g h=>?_;refine AE (BG h) λm q j h=>?_;obtain⟨o,h⟩:=ba h;obtain⟨r,h⟩:=ba h;exact⟨m,q,f,c,e,p,by simp only[a,b,g,j],o,(qI _).mp r,(ba h).1,(ba h).2⟩
theorem Yq{x:X}(h:Bm d (.ret x) st=er):∃e p,st=.Return (dD e) p/\AH d x e=er:=by refine AE (oZ h) λo p a h=>?_;refine A2 (iS h) λe b h=>?_;exact⟨e,p,by rw[a,b],h⟩
theorem XI{x:X}{a b:Cs}(h:Bm d (.ie x a b) st=er):∃e c f p,st=.If e c f p/\AH d x e=er/\C1 d a c=er/\C1 d b f=er:=by refine DC (mz h) λe c f p g h=>?_;obtain⟨i,h⟩:=ba h;exact⟨e,c,f,p,g,i,ba h⟩
theorem Wo{t:T}{e:It}{b:Cs}(h:Bm d (.lp t e b) st=er):∃a c f p,st=.For a c f [] p/\D2 d t a=er/\Jh e a=er/\(Gh d e c=er\/Tk d e c=er)/\C1 d b f=er:=by refine gq (jA h) λa c f o p g h=>?_;obtain⟨i,h⟩:=ba h;obtain⟨j,h⟩:=ba h;obtain⟨k,h⟩:=ba h;obtain⟨m,h⟩:=ba h;exact⟨a,c,f,p,by rw[g,i0 i],j,k,(vJ _ _).mp m,h⟩
theorem YC{t:T}{x:X}{b:Cs}(h:Bm d (.loc t x b) st=er):∃c a e p,st=.For c a e [] p/\D2 d t c=er/\BN a=er/\AH d x a=er/\C1 d b e=er:=by refine gq (jA h) λc a e k p f h=>?_;obtain⟨g,h⟩:=ba h;obtain⟨i,h⟩:=ba h;obtain⟨j,h⟩:=ba h;exact⟨c,a,e,p,by rw[f,i0 g],i,j,ba h⟩
theorem Z2{k:Nat}{x:X}{b:Cs}(h:Bm d (.wl k x b) st=er):∃e a p,st=.While e a [] p/\AH d x e=er/\C1 d b a=er:=by refine DC (bZ h) λe a g p c h=>?_;obtain⟨f,h⟩:=ba h;exact⟨e,a,p,by rw[c,i0 f],ba h⟩
theorem Rq{a:List pt}(h:C1 d .nil a=er):a=[]:=i0 h
theorem QZ{c:Cm}{r:Cs}{b:List pt}(h:C1 d (.cons c r) b=er):∃s a,b=s::a/\Bm d c s=er/\C1 d r a=er:=
 let ⟨s,r,e,h⟩:=iC h
 ⟨s,r,e,ba h⟩
end
section
variable{Z:Bs}{n:Nat}{A:mx}{cl:Cl}(O:Z.Ok)(W:Wd Z)(l:B2 Z W cl n)(w:Av Z W n)
include O W l w
theorem FS:∀a:XL,PL Z n A cl a
 |.nil=>Vl
 |.cons x r=>Ow O (AF O W l w x) (FS r)
theorem FK:∀o:XO,PO Z n A cl o
 |.no=>aZ
 |.yes x=>UU (AF O W l w x)
theorem D':∀a:It,PI Z n A cl a
 |.val x=>V6 (AF O W l w x) O
 |.en x=>TR O W (AF O W l w x)
 |.zip x y=>Ve O W (AF O W l w x) (AF O W l w y)
 |.rg b=>VD O W (FS O W l w b)
 |.rev x=>TO O W (AF O W l w x)
 |.gen _=>SG
theorem HM:∀g:GL,PG Z n A cl g
 |.nil=>OS
 |.cons _ a b r=>Lf (D' O W l w a) (FK O W l w b) (HM r)
end
def Post(Z:Bs)(n:Nat)(A:mx)(B:o5)(g:t8)(D:ls->Prop)(W:Jc)(H:Bool)(s:lb)(r:Rs)(f:xg)(M:lb):Prop:=
 Ch Z (Fp B g W) (λz=>False) s M/\match r with
 |.nx G E=>f=.next/\∃a,(∀i b,(i,b)∈W->(i,b)∈a)/\(∀i b,(i,b)∈a->(i,b)∈W\/s.heap.get? b=eu)/\(H=er->a=W)/\Fr Z n A B g D a M G E
 |.ret v=>∃u,f=.ret u/\VR Z.prog Z.w D M.heap u v
def PC(Z:Bs)(n:Nat)(A:mx)(cl:Cl)(c:Cm):Prop:=∀B st,Bm B c st=er->∀H g D W s G E r,BK cl H c G E=dD r->Fr Z n A B g D W s G E->WP Z A (yL st g) (Post Z n A B g D W H s r) s
def PB(Z:Bs)(n:Nat)(A:mx)(cl:Cl)(b:Cs):Prop:=∀B a,C1 B b a=er->∀H g D W s G E r,AX cl H b G E=dD r->Fr Z n A B g D W s G E->WP Z A (uO a g) (Post Z n A B g D W H s r) s
section
variable{Z:Bs}{n:Nat}{A:mx}{B:o5}{g:t8}{D J:ls->Prop}{W:Jc}{s M:lb}{G E:Ev}{H:Bool}
theorem Post.nx{a b:Ev}(c:Ch Z (Fp B g W) (λz=>False) s M)(F:Fr Z n A B g D W M a b):Post Z n A B g D W H s (.nx a b) .next M:=
 ⟨c,rfl,W,λz z h=>h,λz z h=>.inl h,λz=>rfl,F⟩
theorem BZ{v:V}(h:By v=er){b:qK}{w:sO}{D J:ls->Prop}{c a:qX}{u:gx}(r:VR b w D c u v):VR b w J a u v:=by exact VR.casesOn (motive_1:=λu v z=>By v=er->VR b w J a u v) r (λz=>.none) (λz z=>.bool _) (λz z z=>.int _ _) (λz z z=>.str _ _) (λz z z=>.fl _ _) (λz z z h=>fT h) (λz z z h=>fT h) (λz z z z z z h=>fT h) h
theorem IK{x:V}{a:List V}(h:CP (x::a)=er):By x=er/\CP a=er:=by
 change (match By x with|true=>CP a|false=>fG)=er at h;generalize By x=b at h⊢;induction b using qV with
 |true=>exact⟨rfl,h⟩
 |false=>exact fT h
theorem JK{e:qK}{w:sO}{D J:ls->Prop}{f c:qX}{d:List gx}{b:List V}(h:CP b=er)(r:VRs e w D f d b):VRs e w J c d b:=
 r.ind (P:=λd b=>CP b=er->VRs e w J c d b) (λz=>.nil) (λz z z z a z i h=>.cons (BZ (IK h).1 a) (i (IK h).2)) h
theorem Fs{e:f0}(h:BN e=fG)(a:Option f0)(l:Nat)(g:t8):xr e a l g=tS fG:=by induction e using ur<;>first|rfl|exact tF h
theorem aG{e:f0}(h:BN e=fG)(t:f0)(l:Nat)(g:t8):yf [t] e l g=tS fG:=Fs h (dD t) l g
theorem MD{a:List f0}{k:_}{q:_}{e:f0}{g:t8}(h:Ti e=fG):yg [.Tuple a k q] e g=tS eu:=by induction e using ur<;>first|rfl|exact tF h
theorem OQ{E:Ev}{i:Nat}(h:E.get i=eu):Ag E (T.one i).names=er:=by
 show Ag E [i]=er
 rewrite [Bz]
 rw[h];rfl
theorem Bh{i:Nat}{m:pw}(h:BA B i m=er):∃k,B.names[i]?=dD (m,k)/\(k=.local\/k=.cell):=by exact Ny h λk a b=>⟨k,a,b⟩
theorem GP{i:Nat}{m:pw}(h:FT B i m=er):∃k,B.names[i]?=dD (m,k)/\(m==("__debug__" :pw))=fG/\(m==("__classdict__" :pw))=fG:=by exact Nh h λk a b c=>⟨k,a,b,c⟩
theorem hV(R:EnvR Z B g D s.heap G){i:Nat}{v:V}{m:pw}{k:qE}(l:G.get i=dD v)(e:B.names[i]?=dD (m,k))(p:(m==("__classdict__" :pw))=fG):
  WP Z A (loadName g m) (λu M=>VR Z.prog Z.w D s.heap u v/\M=s) s:=by
 have o:=A8 R.nd e;refine AE (R.nm i v l) λr t j q=>?_;rw[e]at j;cases j;rcases q with rfl|rfl|rfl
 ·refine A2 R.ns λf a b=>?_;refine A2 (b i v m l e) λu x y=>?_;have d:g.kindOf m=dD .local:=by rcases R.kd m _ o with h|⟨h,_⟩;exact h;cases h
  exact wh R.fn d a x ⟨y,rfl⟩
 ·refine BJ (R.cl i v m _ l e (.inl rfl)) λc u x y z=>?_;have d:g.kindOf m=dD .cell:=by rcases R.kd m _ o with h|⟨h,_⟩;exact h;cases h
  exact tJ R.fn d x y ⟨z,rfl⟩
 ·refine BJ (R.cl i v m _ l e (.inr rfl)) λc u x y z=>?_;rcases R.kd m _ o with h|⟨_,h⟩
  ·exact yX R.fn h x y ⟨z,rfl⟩ p
  ·exact tJ R.fn h x y ⟨z,rfl⟩
variable{cl:Cl}(O:Z.Ok)(C:Wd Z)(I:B2 Z C cl n)(L:Av Z C n)
include O C I L in
theorem cA{c:List Nat}{x:X}:PC Z n A cl (.ag (.many c) x):=by
 intro B st h H g D W s G E r d F
 (obtain⟨f,k,q,e,p,i,j,l,m,o⟩:=T7 h<;>try rw[i])
 refine ZI d λv t a w y=>?_;refine ABZ (A1 ((AF O C I L x B e o).1 g _ s G v w F.frz) (λu z b=>?_)) (aG m _ _ _) (MD l);exact A1 ((F.turn b.2).ag O (t:=.many c) (te:=.Tuple f k q) j y b.1 a) (λY N h=>Post.nx (b.2.ch.trans h.2) h.1)
theorem Lx{m a:pw}{q b:tE}{e:f0}{g:t8}:yg [.Name m q,.Name a b] e g=tS eu:=by induction e using ur<;>rfl
theorem My{m:pw}{q:tE}{e:f0}{g:t8}:yg [.Name m q] e g=tS eu:=by induction e using ur<;>rfl
theorem B9{m:pw}{q:tE}{e:f0}{p:tE}{Q:xg->lb->Prop}(c:xr e (dD (.Name m q)) p.line g=tS fG)(h:WP Z A (tW e g) (λv d=>WP Z A (uT (.Name m q) g v) (λz=>Q .next) d) s):WP Z A (yL (.Assign [.Name m q] e p) g) Q s:=by simp only[AB6];refine fX (rj ?_);rw[show yf [.Name m q] e p.line g=tS fG from c];refine fX (mM ?_);rw[if_neg (by decide)];refine fX (A1 h (λv b a=>?_));rw[My];refine fX (mM ?_);exact fX (A1 a (λz z x=>mM x))
theorem BY{m:pw}{q:tE}{e:f0}{p:tE}{Q:xg->lb->Prop}(a:BN e=fG)(h:WP Z A (tW e g) (λv b=>WP Z A (uT (.Name m q) g v) (λz=>Q .next) b) s):WP Z A (yL (.Assign [.Name m q] e p) g) Q s:=B9 (Fs a (dD (.Name m q)) p.line g) h
include O C I L in
theorem jD{i:Nat}{x:X}:PC Z n A cl (.as i x):=by
 intro B st h H g D W s G E r d F
 (refine OP (YV h) λm q e p a f j k=>?_;subst a)
 refine jQ d λv b l o=>?_;refine BY j (A1 ((AF O C I L x B e k).1 g _ s _ v l F.all) (λu t c=>?_));exact A1 ((F.turn c.2).ag O (t:=.one i) (te:=.Name m q) f rfl (BZ o c.1) (OQ b)) (λz w h=>Post.nx (c.2.ch.trans h.2) h.1)
include O C I L in
theorem gh{i j:Nat}{x:X}:PC Z n A cl (.as2 i j x):=by
 intro B st h H g D W s G E r t F
 (obtain⟨m,q,d,f,e,p,w,y,z,h3,N⟩:=Wj h<;>try rw[w])
 refine j5 t λv Q U Y=>?_;simp only[AB6];refine fX (rj ?_);rw[show yf [.Name m q,.Name d f] e p.line g=tS fG from rfl];refine fX (mM ?_);rw[if_neg (by decide)];refine fX (A1 ((AF O C I L x B e N).1 g _ s _ v Y F.frz) (λu s1 c=>?_));rw[Lx];refine fX (mM ?_);refine fX ?_;show qH _ _ (do zy [u] (uT (.Name m q) g u);uT (.Name d f) g u) _ _ s1;refine fX (tU (A1 ((F.turn c.2).ag O (t:=.one i) (te:=.Name m q) y rfl c.1 (OQ Q)) (λV s2 k=>?_)));refine A1 (k.1.ag O (t:=.one j) (te:=.Name d f) z rfl (c.1.ch k.2 λb l a=>?_) (OQ U)) (λV s3 o=>mM (Post.nx (c.2.ch.trans (k.2.trans o.2)) o.1));rcases a with a|⟨j',a⟩
 ·exact F.fo a l.1
 ·exact l.2 j' a
include O C I L in
theorem fm{x:X}:PC Z n A cl (.ret x):=by
 intro B st h H g D W s G E r c F
 (refine AE (Yq h) λe p a d=>?_;refine a▸?_)
 refine jz c λv f=>?_;exact xX (A1 ((AF O C I L x B e d).1 g _ s _ v f F.all) (λu i b=>⟨b.2.ch,u,rfl,b.1⟩))
theorem Post.pre{k l:lb}{r:Rs}{f:xg}(S:Same Z s k)(h:Post Z n A B g D W H k r f l):Post Z n A B g D W H s r f l:=by
 obtain⟨c,h⟩:=h;refine⟨S.ch.trans c,?_⟩;induction r using Rs.casesOn with
 |ret v=>exact h
 |nx G E=>
  (obtain⟨e,j⟩:=h;refine LN j λm a b d F=>?_)
  exact⟨e,m,a,λi x o=>(b i x o).imp id (S.live x),d,F⟩
include O C I L in
theorem gz{x:X}{a b:Cs}(o:PB Z n A cl a)(q:PB Z n A cl b):PC Z n A cl (.ie x a b):=by
 intro B st h H g D W s G E r d F
 (refine OP (XI h) λe t u p c m v w=>?_;rw[c])
 refine hZ d (λj d=>?_) λj d=>?_
 ·exact AAR (GH ((AF O C I L x B e m).2 g _ s _ er j F.all) λk i=>A1 (o B t v H g D W k G E r d (F.turn i)) λf y l=>l.pre i)
 ·exact AAR (GH ((AF O C I L x B e m).2 g _ s _ fG j F.all) λk i=>A1 (q B u w H g D W k G E r d (F.turn i)) λf y l=>l.pre i)
include O C I L in
theorem kh{i:Nat}{o:qp}{x:X}:PC Z n A cl (.aug i o x):=by
 intro B st h H g D W s G E r hr F;obtain⟨m,q,e,p,rfl,h1,h2,h4⟩:=Yh h;refine lI hr λva vb v c d f hv=>?_;refine Nh h2 λk hn d1 d2=>?_;refine wpAny_AugAssign_Name (ON (hV (A:=A) F.f d hn d2) λu U=>A1 ((AF O C I L x B e h4).1 g _ s G vb f F.frz) λu2 Y j=>?_);have fin:∀l:Int,v=.int l->∀t w,WP Z A (t5 g m (.int l t)) (λV=>Post Z n A B g D W H s (.nx (G.put i v) E) u9) {Y with toks:=w}:=λl e t w=>by
  have S2:Same Z s {Y with toks:=w}:=j.2.trans (Same.tok O);refine e▸?_;exact A1 ((F.turn S2).sto O h1 (.int _ _) c) λV s3 h=>Post.nx (S2.ch.trans h.2) h.1
 refine lJ hv (λa b y z N Q=>?_) λa b y z N Q=>?_
 ·subst y z N;exact VR.kInt U λV=>VR.kInt j.1 λV=>AD5 (fin _ Q _ _)
 ·subst y z N;exact VR.kInt U λV=>VR.kInt j.1 λV=>AD6 (fin _ Q _ _)
end
section
variable{Z:Bs}{n:Nat}{A:mx}{w:o5}{d:t8}{l I j:ls->Prop}{W:Jc}{s H:lb}{E B:Ev}{M:Bool}{cl:Cl}
theorem Fr.chg2{fp G}(F:Fr Z n A w d l W s E B)(c:Ch Z fp G s H)(u:∀b,fp b->¬(l b\/b=d.locals\/∃m,d.cells.lookup m=dD b))(C:∀b o,s.heap.get? b=dD o->l b->j b)(N:∀a,H.heap.get? a=eu->j a)(h:¬j d.locals)
  (p:∀m c,d.cells.lookup m=dD c->¬j c):Fr Z n A w d j W H E B:=by
 have D:∀b o,s.heap.get? b=dD o->C8 l W b->C8 j W b:=λb o e q=>⟨C b o e q.1,q.2⟩
 refine⟨F.a,c.inv F.i,N,F.f.turn (λb o q e t=>c.heap b o e t λf=>u b f (q.imp And.left id)) D λb Q q=>?_,h,p,λi a r=>?_,λi a r=>?_,F.w,F.ap⟩
 ·rcases Q with rfl|⟨m,e⟩
  ·exact h q.1
  ·exact p m b e q.1
 ·(refine D1 (F.o i a r) λx y U g=>?_;refine AE g λm k Y h5=>?_)
  refine A2 (F.c i a r) λv z hc=>?_;refine A2 hc.there λo e z=>?_;exact⟨C a o e x,y,U,m,k,Y,h5.turn λb o q e t=>c.heap b o e t λf=>u b f (.inr q)⟩
 ·refine A2 (F.c i a r) λv x y=>?_;exact⟨v,x,y.turn (λo e t=>c.heap a o e t λf=>u a f (.inl (F.o i a r).1)) (λb o q e t=>c.heap b o e t λf=>u b f (.inl q.1)) D⟩
theorem Fr.chg{fp g}(F:Fr Z n A w d l W s E B)(c:Ch Z fp g s H)(h:∀b,fp b->¬(l b\/b=d.locals\/∃m,d.cells.lookup m=dD b))(i:∀b,l b->j b)(k:∀a,H.heap.get? a=eu->j a)(e:¬j d.locals)
  (f:∀m c,d.cells.lookup m=dD c->¬j c):Fr Z n A w d j W H E B:=F.chg2 c h (λb z z=>i b) k e f
theorem Fr.move(F:Fr Z n A w d l W s E B)(S:Same Z s H)(sub:∀b,I b->l b)(g:∀b o,s.heap.get? b=dD o->l b->I b)(k:∀a,H.heap.get? a=eu->I a):Fr Z n A w d I W H E B:=
 F.chg2 (S.ch (fp:=λz=>False) (gp:=λz=>False)) (λz=>False.elim) g k (λq=>F.nl (sub _ q)) λm c e q=>F.nc m c e (sub _ q)
theorem Fr.fpN(F:Fr Z n A w d l W s E B){b:ls}{C:Prop}(a:Fp w d W b)(n:s.heap.get? b=eu):C:=
 a.elim (λq=>F.f.foN q n) λ⟨i,q⟩=>A2 (F.c i b q) λz z c=>A2 c.there λz e z=>sN (e.symm.trans n)
theorem Fr.compIn(F:Fr Z n A w d l W s E B)(S:Same Z s H){C:ls}{m}(f:s.heap.get? C=eu)(g:H.heap.Ns C m):Fr Z n A w d (λb=>l b/\b≠C) W H E B:=
 F.move S (λz q=>q.1) (λb o e q=>⟨q,λq=>nS (f.symm.trans (q▸e))⟩) λa c=>⟨S.hok F.k a c,λq=>M9 g λo z z e z z=>sN (e.symm.trans (q▸c))⟩
theorem Fr.compOut(O:Z.Ok){u D}{v g:lb}{i p:Ev}(F:Fr Z n A w d l W s E B)(S:Same Z s v){C:ls}{m}(r:s.heap.get? C=eu)(N:v.heap.Ns C m)(Q:Fr Z n A w d (λb=>l b/\b≠C) W g i p)
  (c:Ch Z u D v g) (nf:¬u C) {G:qX->Prop}
  (k:∀h,(∀b o,b≠C->g.heap.get? b=dD o->h.get? b=dD o)->Ch Z u D s {g with heap:=h}->Fr Z n A w d l W {g with heap:=h} i p->G h):∃m,g.heap.Ns C m/\∀h,uG C g.heap h->G h:=by
 refine AW (An N) λoC U tC x=>?_;have t:=c.heap C oC U tC nf;refine⟨m,N.at' λo' e'=>t.trans (U.symm.trans e'),λh y=>?_⟩;have Y:Ch Z (λb=>b=C) (λz=>False) g {g with heap:=h}:=Ch.of_keep' (tk:=g.toks) O (λb e=>(congrArg _ e).trans (F.i.fresh r)) (λb o e q=>dE (t.symm.trans (e▸q))▸x) y.extBut;refine k h y.extBut ((S.ch.trans (c.mono (fp':=λb=>u b\/b=C) (λz z z=>Or.inl) λz z q=>q)|>.trans (Y.mono (λz z z=>Or.inr) λz z=>False.elim)).mono (λb o e f=>f.elim id λf=>nS (r.symm.trans (f▸e))) λz z q=>q) ?_;refine Q.chg Y (λb f q=>?_) (λb q=>q.1) (λa ha=>?_) F.nl F.nc
 ·rcases q with q|q|⟨m',q⟩
  ·exact q.2 f
  ·exact F.f.lv (q▸f▸r)
  ·exact F.f.cv q (f▸r)
 ·by_cases q:a=C
  ·exact F.k a (q▸r)
  ·refine(Q.k a ?_).1;cases e:g.heap.get? a with
   |none=>rfl
   |some o=>exact sN ((y.extBut a o q e).symm.trans ha)
theorem Zb{x:X}{e:f0}(h:AH w x e=er)(a:BN e=er):∃b t c f g i,x=.cm b t c f g i:=by
 unfold BN at a;rw[Kg h]at a;clear h;induction x using X.casesOn with
 |cm=>exact⟨_,_,_,_,_,_,rfl⟩
 |_=>exact fT a
variable(O:Z.Ok)(z:Wd Z)(J:B2 Z z cl n)(L:Av Z z n)
include O z J L in
theorem cu{i:Nat}{x:X}:PC Z n A cl (.ag (.one i) x):=by
 intro w st h M d l W s E B r hr F
 (obtain⟨m,q,e,p,qz,h1,U⟩:=IJ h<;>try rw[qz])
 refine ZI hr λv Y k N hb=>?_;have plain:xr e (dD (.Name m q)) p.line d=tS fG->WP Z A (yL (.Assign [.Name m q] e p) d) (Post Z n A w d l W M s (.nx Y B)) s:=λhs=>by
  refine B9 hs (A1 ((AF O z J L x w e U).1 d _ s E v N F.frz) (λu s1 g1=>?_));exact A1 ((F.turn g1.2).ag O (t:=.one i) (te:=.Name m q) h1 hb g1.1 k) (λj s2 h=>Post.nx (g1.2.ch.trans h.2) h.1)
 cases hc:BN e with
 |false=>exact plain (Fs hc _ _ _)
 |true=>
  (refine fP (Zb U hc) λel t it fi gs fr g=>?_;subst g)
  obtain⟨y,te,G,fs,cs,a,p',rfl,k1,k2,k3,k4,k5,k6,k7,k8⟩:=Gg U;have f:∃b,xr (.ListComp y (⟨te,G,fs,0⟩::cs) a p') (dD (.Name m q)) p.line d=tS b:=⟨_,rfl⟩
  obtain⟨b,f⟩:=f;induction b using qV with
  |false=>exact plain f
  |true=>
   refine oL N λvs a0 N=>Le N λzs hz hl e=>?_
   ·subst e;rw[ABr _ _ _ _ f];refine fX (rj (fX ?_));show qH _ _ (do let _<-AAy (.ListComp y (⟨te,G,fs,0⟩::cs) a p') a d G.pos (newList []) fG (tW G d) (dD (uT (.Name m q) d))) _ _ s;refine fX (FI Mon.t O F.frz k1 k2 k3 (D' O z J L it w te G k5 k4) ((FK O z J L fi).2 a fs k6) (HM O z J L gs a cs k7) (AF O z J L el a y k8).1.i trivial a0 hz hl λD C s1 j j j j j fC Q hD SS=>?_);obtain⟨mC,Q⟩:=Q;refine A1 ((F.compIn SS fC Q).ag O (t:=.one i) (te:=.Name m q) h1 hb (hD.mono (λj j j e j=>e) λb o q j=>⟨⟨q.1.1,q.2⟩,q.1.2⟩) k) (λj s2 g2=>?_);exact F.compOut O SS fC Q g2.1 g2.2 (λq=>F.fpN q fC) λh' j c F'=>mM (mM (Post.nx c F'))
end
section
variable{Z:Bs}{n:Nat}{A:mx}{z:o5}{d:t8}{l N M:ls->Prop}{W:Jc}{s L:lb}{E B:Ev}{lp:Bool}{cl:Cl}
def LPost(Z:Bs)(n:Nat)(A:mx)(z:o5)(d:t8)(l:ls->Prop)(W:Jc)(a:ls->Prop)(c:Nat->Prop)(s:lb)(r:Rs)(q:yJ)(L:lb):Prop:=
 Ch Z (λb=>Fp z d W b\/a b) c s L/\match r with
 |.nx E B=>q=.ok .next/\Fr Z n A z d l W L E B
 |.ret v=>∃u,q=.ok (.ret u)/\VR Z.prog Z.w l L.heap u v
theorem LPost.pre{a e}{f g:lb}{r q}(c:Ch Z (λb=>Fp z d W b\/a b) e s f)(h:LPost Z n A z d l W a e f r q g):LPost Z n A z d l W a e s r q g:=⟨c.trans h.1,h.2⟩
def Bk(Z:Bs)(A:mx)(AAO:xg->Prop)(c:Code)(Q:yJ->lb->Prop)(f:xg)(L:lb):Prop:=(AAO f/\tv (qQ Z.prog Z.w) A c Q L)\/∃u,f=.ret u/\Q (.ok (.ret u)) L
theorem KE{b:f0}{a:gx}{c:List pt}{Q:yJ->lb->Prop}(h:WP Z A (tb a) (λr e=>r=eu/\Q (.ok .next) e) s):tv (qQ Z.prog Z.w) A (.forLoop b a c [] d) Q s:=by refine u3 ?_;show qH _ A ((z5 b a c [] d).onRaise (λx=>do wY x d;tc x)) _ _ s;refine xW ?_;simp only[z5];refine fX (rj (fX (xd (Ub h λe f=>?_))));exact mM ⟨rfl,codeAny_block (td f)⟩
theorem Ka{a:f0}{b:gx}{e:List pt}{Q:yJ->lb->Prop}(h:WP Z A (tb b) (λr g=>∃u,r=dD u/\WP Z A (rA a b u) (λz i=>WP Z A (uT a d u) (λz j=>WP Z A (uO e d) (Bk Z A (·= .next) (.forLoop a b e [] d) Q) j) i) g) s):
  tv (qQ Z.prog Z.w) A (.forLoop a b e [] d) Q s:=by
 refine u3 ?_;show qH _ A ((z5 a b e [] d).onRaise (λx=>do wY x d;tc x)) _ _ s;refine xW ?_;simp only[z5];refine fX (rj (fX (xd (fL h λu g k=>?_))));refine fX (pF k (λz i m=>fX (pF m (λz j o=>fX (pF o (λf p c=>?_) λz z=>False.elim)) λz z f=>f.elim)) λz z f=>f.elim);rcases c with⟨rfl,c⟩|⟨u,rfl,c⟩
 ·exact mM ⟨rfl,c⟩
 ·exact mM c
theorem cG{t:T}{c:Ev->Ev->Option Rs}{v:V}{m:List V}{r:Rs}{C:Prop}(h:As t c (v::m) E B=dD r)(k:∀f j,Ag B t.names=er->BM t v E=dD f->c f B=dD j->(j.casesOn (λg i=>As t c m g i=dD r) λv=>Rs.ret v=r:Prop)->C):C:=by
 refine bS h λa h=>oE h λf b h=>?_;change (match c f B with|some (.nx g i)=>As t c m g i|some (.ret v)=>dD (.ret v)|none=>eu)=dD r at h;refine Jj (c f B) (λe=>?_) λj e=>?_
 ·rw[e]at h;exact nS h
 ·rw[e]at h;refine k f j a b e ?_;induction j using Rs.casesOn with
  |nx g i=>exact h
  |ret v=>exact dE h
def BodyOK(Z:Bs)(n:Nat)(A:mx)(z:o5)(d:t8)(l:ls->Prop)(W:Jc)(b:Nat)(c:List pt)(a:Ev->Ev->Option Rs):Prop:=
 ∀s E B r,a E B=dD r->Fr Z n A z d l W s E B->b<=s.toks->WP Z A (uO c d) (Post Z n A z d l W er s r) s
theorem BodyOK.of{a:List pt}{b:Cs}(g:PB Z n A cl b)(c:C1 z b a=er):BodyOK Z n A z d l W 0 a (λe f=>AX cl er b e f):=λs E B r h F y=>g z a c er d l W s E B r h F
theorem NF(O:Z.Ok){t:T}{Y:f0}{bs:List pt}{a:Ev->Ev->Option Rs}{t0:Nat}(hb:BodyOK Z n A z d l W t0 bs a)(a2:D2 z t Y=er){it:gx}{Q gp J}(hJ:Trn Z A Y it Q gp J){w:ls->Prop}(up:∀b,l b->w b)
  (a3:∀x,Fp z d W x->¬Q x) {v:V} {y:List V} {U:lb} {u:gx} {r:Rs} (F2:Fr Z n A z d l W U E B) (a4:J (C8 l W) y U) (hv:VR Z.prog Z.w (C8 l W) U.heap u v) (a5:Ch Z Q gp s U) (a6:t0<=U.toks) (hr:As t a (v::y) E B=dD r)
  (k:∀g h C,J (C8 l W) y C->Fr Z n A z d l W C g h->As t a y g h=dD r->t0<=C.toks->tv (qQ Z.prog Z.w) A (.forLoop Y it bs [] d) (LPost Z n A z d w W Q gp C r) C):
  WP Z A (uT Y d u) (λX s3=>WP Z A (uO bs d) (Bk Z A (·= .next) (.forLoop Y it bs [] d) (LPost Z n A z d w W Q gp s r)) s3) U:=by
 have m:∀{sa sb:lb},Ch Z (Fp z d W) (λX=>False) sa sb->J (C8 l W) y sa->J (C8 l W) y sb:=λ{sa sb} c j=>hJ.keep _ y sa sb j (λb o q e t=>c.heap b o e t (by
  rcases q with q|q
  ·rintro(f|⟨i,hi⟩)
   ·exact F2.fo f q.1
   ·exact q.2 i hi
  ·exact λf=>a3 b f q)) λi x X e=>c.gens i x e id
 refine cG hr λaa r1 a7 a8 D a0=>?_;refine A1 (wT a6 (F2.ag O a2 a8 hv a7)) λX s3 h3=>?_;refine BO h3 λa1 F3 c3=>?_;have Mt:Ch Z (λb=>Fp z d W b\/Q b) gp s s3:=(a5.mono (λb o X f=>.inr f) λX X q=>q).trans (c3.mono (λb o X f=>.inl f) λX X q=>q.elim);refine A1 (wT a1 (hb _ _ _ _ D F3 a1)) λf C h4=>?_;refine BO h4 λa9 c4 h4=>?_;have p:=Mt.trans (c4.mono (λb o X f=>.inl f) λX X q=>q.elim);induction r1 using Rs.casesOn with
 |ret v=>exact A2 h4 λu' e hu=>.inr ⟨u',e,p,(a0:Rs.ret v=r)▸⟨u',rfl,hu.mono (λX X X e X=>e) λb X q X=>up b q⟩⟩
 |nx g h=>exact .inl ⟨h4.1,LN h4.2 λW' X X hW F4=>uV (k g h C (m c4 (m c3 a4)) (hW rfl▸F4) a0 a9) λq s5 h5=>h5.pre p⟩
theorem Ld(O:Z.Ok){t:T}{te:f0}{bs:List pt}{k:Ev->Ev->Option Rs}{t0:Nat}(hb:BodyOK Z n A z d l W t0 bs k)(a0:D2 z t te=er){it:gx}{h gp J}(hJ:Trn Z A te it h gp J)
  (j:∀b,h b->b≠d.locals/\∀m,d.cells.lookup m≠dD b) {g:ls->Prop} (up:∀b,l b->g b) (a1:∀b,h b->g b) (a2:¬g d.locals) (a3:∀m c,d.cells.lookup m=dD c->¬g c) (p:∀b,h b->¬l b)
  (C:List V):∀{E B s r},J (C8 l W) C s->Fr Z n A z d l W s E B->As t k C E B=dD r->t0<=s.toks->
   tv (qQ Z.prog Z.w) A (.forLoop te it bs [] d) (LPost Z n A z d g W h gp s r) s:=by
 have a4:∀{s E B},Fr Z n A z d l W s E B->∀x,Fp z d W x->¬h x:=λ{s E B} F x D f=>by
  rcases D with(D|⟨m,_,D⟩)|⟨i,hi⟩
  ·exact(j x f).1 D
  ·exact(j x f).2 m D
  ·exact p x f (F.o i x hi).1
 have Q:∀x,h x->¬(l x\/x=d.locals\/∃m,d.cells.lookup m=dD x):=λx f q=>by
  rcases q with q|q|⟨m,q⟩
  ·exact p x f q
  ·exact(j x f).1 q
  ·exact(j x f).2 m q
 induction C with
 |nil=>
  intro E B s r hj F U _;refine KE (A1 (hJ.done _ s hj F.i) λr' s1 w=>⟨w.1,w.2.mono (λb o X f=>.inr f) λX X q=>q,(dE U:Rs.nx E B=r)▸⟨rfl,?_⟩⟩);exact F.chg w.2 Q up (λa ha=>by
   by_cases f:h a
   ·exact a1 a f
   ·exact up a (F.k a (w.2.live a f ha))) a2 a3
 |cons v C ih=>
  intro E B s r hj F U a5;refine Ka (A1 (wT a5 (hJ.item _ v C s hj F.i F.frz.k λb f q=>p b f q.1)) λx s1 w=>?_);refine AW w.2 λu e c1 h2=>⟨u,e,A1 (wT w.1 h2) λX s2 h2=>?_⟩
  refine D1 h2 λa6 hv Y c2=>?_;have y:=c1.trans c2;refine NF O hb a0 hJ up (a4 F) (F.chg y Q (λX q=>q) (λa ha=>?_) F.nl F.nc) Y hv y a6 U λa7 a8 s4 j4 F4 U t4=>ih j4 F4 U t4;by_cases f:h a
  ·exact yY (hJ.live _ _ s2 a Y f) λo e=>by exact nS (ha.symm.trans e)
  ·exact F.k a (y.live a f ha)
theorem LPost.sub{c a:ls->Prop}{g}{r q}{i:lb}(h:LPost Z n A z d l W a g s r q i)(j:∀b o,s.heap.get? b=dD o->a b->c b):LPost Z n A z d l W c g s r q i:=
 ⟨h.1.mono (λb o e f=>f.imp id (j b o e)) λy y q=>q,h.2⟩
theorem XX(O:Z.Ok){t:T}{te:f0}{bs:List pt}{b:Cs}(hb:PB Z n A cl b)(U:C1 z b bs=er)(Y:D2 z t te=er){it:gx}{fp:ls->Prop}{k J}(hJ:Trn Z A te it fp k J){Q:lb}
  (p:¬l d.locals) (w:∀m c,d.cells.lookup m=dD c->¬l c) (vs:List V) {E B r} (S0:Same Z Q s) (j:Fr Z n A z d l W Q E B) (g:∀b,fp b->Q.heap.get? b=eu) (hj:qN Z A te it fp k J s vs) (hr:As t (λa5 a6=>AX cl er b a5 a6) vs E B=dD r):
   tv (qQ Z.prog Z.w) A (.forLoop te it bs [] d) (LPost Z n A z d l W fp k s r) s:=by
 have y:∀b,fp b->b≠d.locals/\∀m,d.cells.lookup m≠dD b:=λb f=>by
  refine⟨?_,λm e=>?_⟩
  ·exact λq=>j.f.lv (q▸g _ f)
  ·exact j.f.cv e (g _ f)
 have a0:∀b,fp b->l b:=λb f=>j.k b (g b f);have C:∀{b:ls} {o:xE},Q.heap.get? b=dD o->¬fp b:=λ{b o} e f=>by rw[g b f]at e;exact nS e
 induction vs using lz with
 |nil=>
  refine KE (A1 (hj:WP Z A (tb it) (λr L=>r=eu/\Ch Z fp k s L) s) λr' s1 h1=>⟨h1.1,h1.2.mono (λb o X f=>.inr f) λX X q=>q,(dE hr:Rs.nx E B=r)▸⟨rfl,?_⟩⟩);have a1:Ch Z fp k Q s1:=S0.ch.trans h1.2;exact j.chg (fp:=λb=>fp b/\False) (a1.mono (λb o e f=>absurd f (C e)) λX X q=>q) (λb f=>f.2.elim) (λX q=>q) (λa D=>by
   by_cases f:fp a
   ·exact a0 a f
   ·exact j.k a (a1.live a f D)) p w
 |cons v vs=>
  refine Ka (A1 ((hj:∀l:ls->Prop,_) (C8 l W) (j.turn S0).frz.k) λx s1 h1=>?_);refine AW h1 λu e c1 h2=>⟨u,e,A1 h2 λX s2 h2=>?_⟩
  refine BO h2 λhv a2 c2=>?_;have a3:Ch Z fp k s s2:=c1.trans c2;have a4:Ch Z fp k Q s2:=S0.ch.trans a3;have h:∀a,s2.heap.get? a=eu->¬fp a:=λa D f=>yY (hJ.live _ _ s2 a a2 f) λo e=>by rw[D]at e;exact nS e
  have F2:Fr Z n A z d (λa=>l a/\¬fp a) W s2 E B:=j.chg2 (fp:=λb=>fp b/\False) (a4.mono (λb o e f=>absurd f (C e)) λX X q=>q) (λb f=>f.2.elim) (λb o e q=>⟨q,C e⟩) (λa D=>⟨j.k a (a4.live a (h a D) D),h a D⟩) (λq=>p q.1) (λm c e q=>w m c e q.1);have a7:∀x,Fp z d W x->¬fp x:=λx hx f=>by
   rcases hx with(hx|⟨m,_,hx⟩)|⟨i,hi⟩
   ·exact(y x f).1 hx
   ·exact(y x f).2 m hx
   ·exact(F2.o i x hi).1.2 f
  refine NF O (BodyOK.of hb U) Y hJ (λb q=>q.1) a7 F2 (hJ.goal _ _ _ _ a2 λb o X q=>⟨⟨q.1.1,q.2⟩,q.1.2⟩) (hv.mono (λX X X e X=>e) λb o q X=>⟨⟨q.1.1,q.2⟩,q.1.2⟩) a3 (qd _) hr λa8 a9 s4 j4 F4 hr t4=>?_;exact Ld O (BodyOK.of hb U) Y hJ y (λb q=>q.1) a0 p w (λb f q=>q.2 f) vs j4 F4 hr t4
theorem Nm{e:f0}{b:List pt}{Q:yJ->lb->Prop}(h:WP Z A (isTrue e d (tW e d)) (λc g=>c=er/\WP Z A (uO b d) (Bk Z A (·= .next) (.whileLoop e b [] d) Q) g) s):tv (qQ Z.prog Z.w) A (.whileLoop e b [] d) Q s:=by
 refine u3 ?_;show qH _ A ((ABJ e b [] d).onRaise (λx=>do wY x d;tc x)) _ _ s;refine xW ?_;simp only[ABJ];refine fX (Ub h λg i=>?_);simp only[if_true];refine fX (pF i (λf j a=>?_) λz z=>False.elim);rcases a with⟨rfl,a⟩|⟨u,rfl,a⟩
 ·exact mM ⟨rfl,a⟩
 ·exact mM a
theorem Lv{e:f0}{a:List pt}{Q:yJ->lb->Prop}(h:WP Z A (isTrue e d (tW e d)) (λc b=>c=fG/\Q (.ok .next) b) s):tv (qQ Z.prog Z.w) A (.whileLoop e a [] d) Q s:=by refine u3 ?_;show qH _ A ((ABJ e a [] d).onRaise (λx=>do wY x d;tc x)) _ _ s;refine xW ?_;simp only[ABJ];refine fX (Ub h λb f=>?_);simp only[ui,if_false];exact fX (td (mM f))
theorem ec{e:f0}{x:Ev->Option Bool}{u:List pt}{b:Cs}(C:mh Z n A z x e)(U:PB Z n A cl b)(w:C1 z b u=er):
  ∀(k:Nat) {E B s r},Fr Z n A z d l W s E B->Cr x (λh i=>AX cl er b h i) k E B=dD r->
   tv (qQ Z.prog Z.w) A (.whileLoop e u [] d) (LPost Z n A z d l W (λX=>False) (λX=>False) s r) s:=by
 intro k;induction k with
 |zero=>exact λX a=>nS a
 |succ k Y=>
  intro E B s r F a;refine ZX a (λy a=>?_) λy a=>?_
  ·change (match AX cl er b E B with|some (.nx m p)=>Cr x (λh i=>AX cl er b h i) k m p|some (.ret v)=>dD (.ret v)|none=>eu)=dD r at a;refine Jj (AX cl er b E B) (λe=>?_) λD c=>?_
   ·rw[e]at a;exact nS a
   ·rw[c]at a;refine Nm (GH (C d _ s _ er y F.all) λJ t=>⟨rfl,A1 (U z u w er d l W J E B D c (F.turn t)) λf s4 j=>?_⟩);have g:Ch Z (λb=>Fp z d W b\/False) (λX=>False) s s4:=t.ch.trans (j.1.mono (λb o X f=>.inl f) λX X q=>q);have j:=j.2;induction D using Rs.casesOn with
    |ret v=>exact A2 j λQ e hu=>.inr ⟨Q,e,g,(dE a:Rs.ret v=r)▸⟨Q,rfl,hu⟩⟩
    |nx m p=>exact .inl ⟨j.1,LN j.2 λW' X X hW F4=>uV (Y (hW rfl▸F4) a) λq s5 h5=>h5.pre g⟩
  ·exact Lv (GH (C d _ s _ fG y F.all) λJ t=>⟨rfl,t.ch,(dE a:Rs.nx E B=r)▸⟨rfl,F.turn t⟩⟩)
theorem LPost.post{j k}{r:Rs}{q:yJ}{m g:lb}(S:Same Z s m)(h:LPost Z n A z d l W j k m r q g)(t:∀b,j b->s.heap.get? b=eu)(w:∀i,k i->s.gens.size<=i):∃f,q=.ok f/\Post Z n A z d l W lp s r f g:=by
 obtain⟨c,h⟩:=h;have p:Ch Z (Fp z d W) (λY=>False) s g:=((S.ch.trans c:Ch Z (λb=>Fp z d W b\/j b) k s g)).mono (λb o e f=>f.elim id λf=>by exact nS ((t b f).symm.trans e)) λi x f=>absurd (w i f) (uQ.mpr x);induction r using Rs.casesOn with
 |ret v=>(refine A2 h λu a y=>?_;rw[a]);exact⟨_,rfl,p,u,rfl,y⟩
 |nx E B=>obtain⟨rfl,F⟩:=h;exact⟨_,rfl,Post.nx p F⟩
variable(O:Z.Ok)(G:Wd Z)(I:B2 Z G cl n)(H:Av Z G n)
include O G I H in
theorem lX{k:Nat}{x:X}{b:Cs}(g:PB Z n A cl b):PC Z n A cl (.wl k x b):=by
 intro z st h lp d l W s E B r i F
 (refine M9 (Z2 h) λe u p a j m=>?_;refine a▸?_)
 refine wpAny_While (uV (ec (AF O G I H x z e j).2 g m k F i) λq v o=>?_)
 (refine A2 (o.post (lp:=lp) Same.refl (λy f=>f.elim) (λy f=>f.elim)) λf c t=>?_;refine c▸?_)
 exact t
theorem Its.frame{u:f0}{p:List V}{v:gx}{j:lb}(F:Fr Z n A z d l W s E B)(h:Its Z A u (C8 l W) s p v j):
  ∃g k J,Trn Z A u v g k J/\J (C8 (λb=>l b/\¬g b) W) p j/\Fr Z n A z d (λb=>l b/\¬g b) W j E B/\Same Z s j/\(∀b,g b->s.heap.get? b=eu)/\(∀i,k i->s.gens.size<=i)/\
   (∀b,g b->b≠d.locals/\∀m,d.cells.lookup m≠dD b)/\∀b,g b->l b:=by
 refine Je h λg k J w y S c r=>?_;have t:∀b o,s.heap.get? b=dD o->¬g b:=λb o e f=>by
  have:=(c b f).1;rw[e]at this;exact sN this
 refine⟨g,k,J,w,w.goal _ _ p j y λb o Y q=>⟨⟨q.1.1,q.2⟩,q.1.2⟩,F.move S (λb q=>q.1) (λb o e q=>⟨q,t b o e⟩) (λa x=>⟨S.hok F.k a x,λf=>by
   refine A2 ((c a f).2) λo e Y=>?_;rw[x]at e;exact nS e⟩),S,λb f=>(c b f).1,r,λb f=>⟨?_,λm e=>?_⟩,λb f=>F.k b (c b f).1⟩
 ·exact λq=>F.f.lv (q▸(c b f).1)
 ·exact F.f.cv e (c b f).1
include O G I H in
theorem hH{t:T}{it:It}{b:Cs}(hb:PB Z n A cl b):PC Z n A cl (.lp t it b):=by
 intro z st h lp d l W s E B r hr F
 (refine UO (Wo h) λte ie bs p e h1 h2 u h4=>?_;rw[e])
 refine fg hr λY w C=>?_;rcases u with u|u
 ·have D:=D' (A:=A) O G I H it z te ie u h2;refine ABK (pF (D.2 d _ s E Y w F.frz) (λy s1 Q=>pF Q (λiv s2 g2=>?_) λX X f=>f) λX X f=>f) (D.1 d);refine eZ (Its.frame F g2) λfp gp J hJ hj F2 U c g a0 a1=>?_;refine uV (Ld O (BodyOK.of hb h4) h1 hJ a0 (λb q=>q.1) a1 F.nl F.nc (λb f q=>q.2 f) Y hj F2 C (qd _)) λq s3 g3=>?_
  (refine A2 (g3.post (lp:=lp) U c g) λf i hp=>?_;refine i▸?_)
  exact hp
 ·(refine cZ (cr u) λx m q a p' j k h5 h6=>?_;subst j;rw[k])
  refine ABK (pF (QW O G H (te:=te) (AF O G I H x) h5 h6 w F.frz) (λy s1 Q=>pF Q.2 (λiv s2 g2=>?_) λX X f=>f) λX X f=>f) (λv=>rfl);obtain⟨rfl,rfl⟩:=g2
  (refine CB λX kk=>?_;obtain⟨⟨fp,gp,J,hJ,hj,U,c,g⟩,_⟩:=Q<;>refine kk ?_)
  refine uV (XX O hb h4 h1 hJ F.nl F.nc Y U F c hj C) λq s3 g3=>?_
  (refine A2 (g3.post (lp:=lp) U c g) λf o hp=>?_;refine o▸?_)
  exact hp
include O G I H in
theorem j8{t:T}{x:X}{b:Cs}(hb:PB Z n A cl b):PC Z n A cl (.loc t x b):=by
 intro z st h lp d l W s E B r hr F
 (refine UO (YC h) λte ie bs p j h1 h2 h3 h4=>?_;rw[j])
 refine gF hr λvs k U Y=>?_
 (refine fP (Zb h3 h2) λel t' a0 fi gs fr m=>?_;subst m)
 (obtain⟨y,a1,a2,fs,cs,u,p',qz,k1,k2,k3,k4,k5,k6,k7,k8⟩:=Gg h3<;>try rw[qz])
 refine oL k λus a3 k=>Le k λzs hz hl e=>?_
 ·cases e;refine ABK ?_ (λV=>rfl);refine FI Mon.t O F.all k1 k2 k3 (D' O G I H a0 z a1 a2 k5 k4) ((FK O G I H fi).2 u fs k6) (HM O G I H gs u cs k7) (AF O G I H el u y k8).1.i trivial a3 hz hl λD C s1 V V V V fD fC Q hD SS=>?_;obtain⟨mC,Q⟩:=Q;refine F.compOut O SS fC Q (F.compIn SS fC Q) (Ch.refl (fp:=λV=>False) (gp:=λV=>False)) id λh' kp c2 V=>?_;have S2:Same Z s {s1 with heap:=h'}:=c2.same (λV V V=>id) λV V=>id;have a4:VR Z.prog Z.w (C8 l W) h' (.ref D) (.l vs):=by
   refine L6 hD.of_lst λa' V V q a g r=>?_;have q:=vf q;subst q;exact .l ⟨a.1,λi hi=>A2 (F.c i D hi) λw V c=>A2 c.there λo e V=>nS (fD.symm.trans e)⟩ (kp _ _ a.2 g) (JK U r)
  refine pF (Mi (target:=te) O (S2.inv F.i) F.a.1 a4) (λiv s2 g2=>?_) λV V f=>f.elim;refine eZ (Its.frame F (Its.trans S2 g2)) λfp gp J hJ hj F2 S3 a5 a6 a7 a8=>?_;refine uV (Ld O (BodyOK.of hb h4) h1 hJ a7 (λb q=>q.1) a8 F.nl F.nc (λb f q=>q.2 f) vs hj F2 Y (qd _)) λq s3 g3=>?_
  (refine A2 (g3.post (lp:=lp) S3 a5 a6) λf v hp=>?_;refine v▸?_)
  exact hp
end
section
variable{Z:Bs}{n:Nat}{A:mx}{B:o5}{d:t8}{D M L:ls->Prop}{W:Jc}{s G:lb}{C E:Ev}{J:Bool}{cl:Cl}
theorem J3(F:Fr Z n A B d D W s C E){i:Nat}{a:ls}{m:pw}{k:qE}{q:tE}(t:(i,a)∈W)(o:B.names[i]?=dD (m,k))(hd:(m==("__debug__" :pw))=fG):WP Z A (tW (.Name m q) d) (λu G=>u=.ref a/\G=s) s:=by
 (refine D1 (F.o i a t) λz z z b=>?_;refine AE b λx y p v=>?_)
 rw[o]at p;cases p;have r:=A8 F.f.nd o;refine yr ?_ hd
 (refine CB λz w=>?_;rcases v with⟨rfl,f,g,j⟩|⟨rfl,c,g,j⟩<;>refine w ?_)
 ·have e:d.kindOf m=dD .local:=by rcases F.f.kd m _ r with h|⟨h,_⟩;exact h;cases h
  exact wh F.f.fn e g j ⟨rfl,rfl⟩
 ·have e:d.kindOf m=dD .cell:=by rcases F.f.kd m _ r with h|⟨h,_⟩;exact h;cases h
  exact tJ F.f.fn e g j ⟨rfl,rfl⟩
theorem Eu(F:Fr Z n A B d D W s C E):uv d=fG:=by unfold uv;rw[F.f.fn];rfl
variable(O:Z.Ok)(l:Wd Z)(H:B2 Z l cl n)(I:Av Z l n)
include O l H I in
theorem lV{i:Nat}{x:X}:PC Z n A cl (.app i x):=by
 intro B st h J d D W s C E r z F;obtain⟨m,q,N,e,p,Q,rfl,U,Y,j⟩:=YT h;refine fZ z λxs v b hv hl=>?_;refine AW (GP U) λk hn d1 d2=>?_;obtain⟨a,o⟩:=F.w i _ b;have c:WP Z A (tW (.Call (.Attribute (.Name m q) "append" N) [e] [] p) d) (λu G=>u=.none/\Post Z n A B d D W J s (.nx C (E.put i (.l (xs++ [v])))) u9 G) s:=by
  refine v' rfl (by rw[Bl j];rfl) Y (Ce (J3 F o hn d1) ?_);refine A2 (F.c i a o) λw t hc=>?_
  (replace t:=dE (b.symm.trans t);subst t)
  refine Cont.kLst hc λV V g rr=>?_;refine⟨"list","list.append",tQ,PySem.F.slot_list_append,PySem.F.type_list_append,⟨_,g,rfl⟩,λV e=>by cases e;exact⟨_,g,rfl⟩,?_⟩;rw[Bl j];refine uh rfl (sQ (qM (A1 ((AF O l H I x B e j).1 d _ s C v hv F.frz) (λu s1 f=>rq ?_))));exact A1 ((F.turn f.2).app O o b f.1 hl) (λu s2 y=>⟨y.1,Post.nx (f.2.ch.trans y.2.2) y.2.1⟩)
 rw[exec_Expr d _ Q (Eu F) rfl];exact fX (rj (fX (GH c λs1 f=>mM f)))
theorem kY{i:Nat}(O:Z.Ok):PC Z n A cl (.rev i):=by
 intro B st h J d D W s C E r v F
 (refine nh (V3 h) λm q x p y b z N=>?_;subst b)
 refine gQ v λQ c U=>?_;refine AW (GP z) λk Y d1 d2=>?_;obtain⟨a,j⟩:=F.w i _ c;have f:WP Z A (tW (.Call (.Attribute (.Name m q) "reverse" x) [] [] p) d) (λu G=>u=.none/\Post Z n A B d D W J s (.nx C (E.put i (.l Q.reverse))) u9 G) s:=by
  refine v' rfl rfl N (Ce (J3 F j Y d1) ?_);refine A2 (F.c i a j) λw o hc=>?_
  (replace o:=dE (c.symm.trans o);subst o)
  refine Cont.kLst hc λl l g rr=>?_;refine⟨"list","list.reverse",tQ,y',PySem.F.type_list_reverse,⟨_,g,rfl⟩,λl e=>by cases e;exact⟨_,g,rfl⟩,?_⟩;refine uh rfl (AD4 ?_);exact A1 (F.reversed O j c U) (λu s2 t=>⟨t.1,Post.nx t.2.2 t.2.1⟩)
 rw[exec_Expr d _ y (Eu F) rfl];exact fX (rj (fX (GH f λs1 g1=>mM g1)))
include O l H I in
theorem gj{i:Nat}{k x:X}:PC Z n A cl (.put i k x):=by
 intro B st h J d D W s C E r hr F;obtain⟨m,q,f,sq,e,p,rfl,h1,h3,h4,h5⟩:=Y7 h;refine gB hr λv u y hv hu hf hp=>?_;refine AW (GP h1) λkd hn d1 d2=>?_;refine ABa (A1 ((AF O l H I x B e h5).1 d _ s _ v hv F.all) (λvv s1 g1=>?_)) (Fs h3 _ _ _);have F1:=F.turn g1.2;have fin:∀{a:ls} {old new:V} (g:(i,a)∈W),(∀o U c,Fr Z n A B d D W o C E->VR Z.prog Z.w (C8 D W) o.heap U u->VR Z.prog Z.w (C8 D W) o.heap c v->WP Z A (z0 (.ref a) U c) (λT Y=>Fr Z n A B d D W Y C y/\Ch Z (Fp B d W) (λT=>False) o Y) o)->
   WP Z A (tW (.Name m q) d) (λov z=>WP Z A (tW f d) (λiv N=>WP Z A (z0 ov iv vv) (λT=>Post Z n A B d D W J s (.nx C y) u9) N) z) s1:=λ{a old new} g Q=>by
  refine Ce (J3 F1 g hn d1) ?_;refine A1 ((AF O l H I k B f h4).1 d _ s1 C u hu F1.frz) (λiv Y g3=>?_);exact A1 (Q Y iv vv (F1.turn g3.2) g3.1 (BZ hf g1.1)) (λT s4 g4=>Post.nx (g1.2.ch.trans (g3.2.ch.trans g4.2)) g4.1)
 refine lY hp (λxs j b ek hl h0 a0 e1=>?_) λks xs sk b ek hl e1=>?_
 ·subst ek e1;refine yY (F.w i _ b) λa g=>?_;refine fin (old:=.none) (new:=.none) g λo U c F2 t w=>VR.kInt t λt'=>?_;have:=F2.setl O (k:=j.toNat) (t:=t') g b w hl a0;rw[<-((ABL h0).symm)]at this;exact this
 ·subst ek e1;refine yY (F.w i _ b) λa g=>?_;exact fin (old:=.none) (new:=.none) g λo U c F2 t w=>VR.kStr t λt'=>F2.setd O (t:=t') g b w hl
set_option tactic.hygienic true in
theorem FQ{f:Ev}:∀{r:Ev} {i:Nat} {v:V},(De f r).get i=dD v->r.get i=dD v/\∃w,f.get i=dD w/\By w=er
 |[],_,_,h=>by exact nS h
 |(j,u)::r,i,v,h=>by
  rewrite [Lj]at h
  split at h
  ·rename_i w k;split at h
   ·rename_i o
    rewrite [AC]at h
    split at h
    ·rename_i b
     (replace h:=dE h;subst h)
     have:=lk b;subst this;refine⟨?_,w,k,o⟩
     rewrite [AC];rw[b]
    ·rename_i b;obtain⟨g,a⟩:=FQ h;refine⟨?_,a⟩
     rewrite [AC];exact b▸g
   ·rename_i o
    (obtain⟨g,c⟩:=FQ h;refine A2 c λp a m=>?_)
    refine⟨?_,p,a,m⟩
    rewrite [AC]
    cases b:lf j i with
    |false=>exact g
    |true=>have:=lk b;subst this;rw[k]at a;(replace a:=dE a;subst a);exact fT (o.symm.trans m)
  ·rename_i k
   (obtain⟨g,e⟩:=FQ h;refine A2 e λp a m=>?_)
   refine⟨?_,p,a,m⟩
   rewrite [AC]
   cases b:lf j i with
   |false=>exact g
   |true=>have:=lk b;(replace this:=this.symm;subst this);rw[k]at a;exact nS a
theorem Dh{C:Ev}{i:Nat}{v:V}(h:(Dj C).get i=dD v):C.get i=dD v/\By v=er:=by
 (obtain⟨c,a⟩:=FQ h;refine A2 a λw b e=>?_)
 (replace b:=dE (c.symm.trans b);subst b)
 exact⟨c,e⟩
theorem Fr.fl(F:Fr Z n A B d D W s C E):St Z n A B d (λb=>s.heap.get? b=eu) s (Dj C):=by
 have R:=F.f;refine⟨F.a,{R with nm:=λi v e=>R.nm i v (Dh e).1,ns:=?_,cl:=λi v m k e f g=>?_,cx:=λm c e=>⟨(R.cx m c e).1,(R.cx m c e).2.1,λq=>?_⟩,nl:=λq=>?_},F.i,λw q=>q⟩
 ·refine A2 R.ns λf a b=>?_;exact⟨f,a,λi v m e h=>(b i v m (Dh e).1 h).imp λu x=>⟨x.1,BZ (Dh e).2 x.2⟩⟩
 ·refine BJ (R.cl i v m k (Dh e).1 f g) λc u x y z=>?_;exact⟨c,u,x,y,BZ (Dh e).2 z⟩
 ·exact R.cv e q
 ·exact R.lv q
variable(O:Z.Ok)(l:Wd Z)(H:B2 Z l cl n)(I:Av Z l n)
theorem Post.made{i:Nat}{a:ls}{g k:Ev}(m:s.heap.get? a=eu)(F:Fr Z n A B d D ((i,a)::W) G g k)(c:Ch Z (Fp B d ((i,a)::W)) (λz=>False) s G):Post Z n A B d D W fG s (.nx g k) .next G:=by
 refine⟨c.mono (λb o e f=>?_) λz z q=>q,rfl,(i,a)::W,λj b h=>oP _ h,λj b h=>?_,(λh=>by exact fT h),F⟩
 ·rcases f with f|⟨j,f⟩
  ·exact .inl f
  ·rcases md.mp f with f|f
   ·rw[(qP f).2,m]at e;exact nS e
   ·exact .inr ⟨j,f⟩
 ·rcases md.mp h with h|h
  ·right;exact(congrArg _ ((qP h).2)).trans (m)
  ·exact .inl h
include O l H I in
theorem gA{i:Nat}{x:X}:PC Z n A cl (.own i x):=by
 intro B st h J d D W s C E r v F
 (refine OP (PA h) λm q e p a w y z=>?_;subst a)
 refine hX v λxs b c f N j=>?_;rw[b];refine A2 (Bh w) λk Q U=>?_;refine B9 (Fs y _ _ _) (A1 ((AF O l H I x B e z).1 d _ s _ _ N F.fl) (λu s1 Y=>?_));obtain⟨gv,S1⟩:=Y;refine VR.kLst gv λV V V o g rr=>?_;exact uU (A1 (F.make O Q U f c S1 o (.l g (JK j rr))) (λV s2 t=>Post.made o t.1 t.2))
end
section
variable{Z:Bs}{n:Nat}{A:mx}{w:o5}{d:t8}{v l j:ls->Prop}{W:Jc}{s u:lb}{C B:Ev}{z:Bool}{cl:Cl}
theorem A3(O:Z.Ok)(i:Inv Z s):(s.heap.objs.size==ux)=fG:=by refine A2 O.nolimit λb a z=>?_;refine AW (An a) λo e t z=>?_;exact beq_eq_false_iff_ne.mpr (um (qS (by decide) (rR (i.keep _ _ e t))))
theorem mw{G:f0->Bool}{e f:f0}(h:G e=fG)(a:G f=fG):¬([e,f].any G=er):=by rw[wI,h,wI,a];exact sR
noncomputable def pQ(e:f0):Bool:=match e with
 |.Starred _ _=>er
 |_=>fG
theorem Jb{e:f0}(a:∀g p,e≠.Starred g p):pQ e=fG:=by
 induction e using ur with
 |Starred g p=>exact absurd rfl (a g p)
 |_=>rfl
theorem ik{a:Type}(c:Bool)(x:a):(if c=er then dD x else eu)=eu\/(if c=er then dD x else eu)=dD x:=by
 cases c
 ·exact .inl rfl
 ·exact .inr rfl
theorem rN{f h:Type}{g:f->Option h}{a b:f}{x y:h}(c:g a=eu\/g a=dD x)(e:g b=eu\/g b=dD y):[a,b].filterMap g=[x,y]\/([a,b].filterMap g).length≠2:=by
 simp only[wX,wX,ABM];rcases c with c|c<;>rcases e with e|e<;>rw[c,e]
 ·exact .inr (show(0:Nat)≠2 by decide)
 ·exact .inr (show(1:Nat)≠2 by decide)
 ·exact .inr (show(1:Nat)≠2 by decide)
 ·exact .inl rfl
theorem Kz{m a:pw}{q q' tq vq:tE}{k k':Nat}{e f:f0}(b:d.scope.kind=.function)(o:m≠a)(t:∀g p,e≠.Starred g p)(x:∀g p,f≠.Starred g p)(y:(uf 8 e&&uf 8 f)=fG)(D:(uE 8 e&&uE 8 f)=fG):
  ∃r,yg [.Tuple [.Name m q,.Name a q'] k tq] (.Tuple [e,f] k' vq) d=tS r/\(r=eu\/r=dD [m,a]):=by
 have E:d.blockKind=.function:=by unfold ACm;rw[b];rfl
 show∃r,(@ite (xL (Option (List pw))) _ _ _ _)=(tS r:xL (Option (List pw)))/\_;have G:([e,f].all (uf 8))=fG:=by simpa using y
 have H:([e,f].all (uE 8))=fG:=by simpa using D
 rw[if_neg (by rw[E];exact sR),if_neg (mw (by exact Jb t) (by exact Jb x))];show∃r,(@ite (xL (Option (List pw))) _ _ _ _)=(tS r:xL (Option (List pw)))/\_;generalize I:List.filterMap _ _=N;have c:N=[m,a]\/N.length≠2:=by
  rw[<-I];refine rN ?_ ?_
  ·exact ik _ _
  ·exact ik _ _
 by_cases i:(N.length !=[ADu m q,ADu a q'].length||N.eraseDups.length != N.length)=er
 ·rw[if_pos i];exact⟨_,rfl,.inl rfl⟩
 ·rw[if_neg i,G,if_neg (by decide),H,if_neg (by decide)];rcases c with h|h
  ·exact⟨_,rfl,.inr (by rw[h])⟩
  ·exact absurd (show(N.length != 2||N.eraseDups.length != N.length)=er by rw[show(N.length != 2)=er from bne_iff_ne.mpr h,Bool.true_or]) i
end
section
variable{Z:Bs}{n:Nat}{A:mx}{l:o5}{d:t8}{ok L J:ls->Prop}{W:Jc}{s H:lb}{z C E D:Ev}{M:Bool}{cl:Cl}
theorem Fr.cong(F:Fr Z n A l d ok W s z C)(g:∀i,E.get i=z.get i)(h:∀i,D.get i=C.get i):Fr Z n A l d ok W s E D:=
 ⟨F.a,F.i,F.k,F.f.sub λi v e=>by rw[g]at e;exact e,F.nl,F.nc,λi a b=>D1 (F.o i a b) λc f j k=>⟨c,f,(g i).trans j,k⟩,λi a b=>A2 (F.c i a b) λv c f=>⟨v,(h i).trans c,f⟩,λi v e=>F.w i v (by rw[h]at e;exact e),F.ap⟩
theorem M4{i j:Nat}(h:i≠j)(u v:V)(z:Ev)(k:Nat):((z.put i u).put j v).get k=((z.put j v).put i u).get k:=by
 rw[Ev.get_put,Ev.get_put,Ev.get_put,Ev.get_put];by_cases a:j=k
 ·subst a;rw[if_pos rfl,if_neg h,if_pos rfl]
 ·rw[if_neg a,if_neg a]
theorem Fr.adopt(O:Z.Ok){a:ls}(F:Fr Z n A l d (λx=>ok x/\x≠a) W s z C){i:Nat}{v:V}{m:pw}{k:qE}(hn:l.names[i]?=dD (m,k))(hk:k=.local\/k=.cell)(hr:z.get i=eu)(U:C.get i=eu)
  (N:ok a) (p:Z.B.heap.get? a=eu) (nl:¬ok d.locals) (nc:∀m c,d.cells.lookup m=dD c->¬ok c) (hc:Cont Z.prog Z.w (C8 (λx=>ok x/\x≠a) W) s.heap a v):
  WP Z A (t5 d m (.ref a)) (λ_ H=>Fr Z n A l d ok ((i,a)::W) H z (C.put i v)/\Ch Z (Fo l d) (λ_=>False) s H) s:=by
 have Y:∀b,C8 (λx=>ok x/\x≠a) W b->C8 ok ((i,a)::W) b:=λb q=>⟨q.1.1,λj r=>by
  rcases md.mp r with h|h
  ·exact q.1.2 (qP h).2
  ·exact q.2 j h⟩
 have R1:EnvR Z l d (C8 ok ((i,a)::W)) s.heap z:=F.f.turn (λ_ _ _ e _=>e) (λb _ _ q=>Y b q) λb p q=>by
  rcases p with rfl|⟨m,e⟩
  ·exact nl q.1
  ·exact nc m b e q.1
 refine A1 (R1.storeG O hn hk (u:=.ref a)) (λ_ s2 u=>?_);refine D1 u λhR c ot hl=>?_;have R2:=hR z λj w e=>.inr ⟨(λq=>by rw[<-q,hr]at e;exact nS e),e⟩;have a0:∀b,Fo l d b->¬ok b:=λb p=>by
  rcases p with rfl|⟨m,_,e⟩
  ·exact nl
  ·exact nc m b e
 have g:∀b o,ok b->s.heap.get? b=dD o->AB o=fG->s2.heap.get? b=dD o:=λb o q e t=>c.heap b o e t λf=>a0 b f q;have nw:∀j b,(j,b)∈W->b≠a:=λj b r=>(F.o j b r).1.2;refine⟨⟨F.a,c.inv F.i,c.hok (λx hx=>(F.k x hx).1) λb p=>R2.fo_live p,R2,nl,nc,λj b r=>?_,λj b r=>?_,λj w e=>?_,λj b j' b' Q u=>?_⟩,c⟩
 ·rcases md.mp r with h|h
  ·cases h;exact⟨N,p,hr,m,k,hn,hl⟩
  ·(refine D1 (F.o j b h) λQ u h3 y=>?_;refine AE y λm' k' h4 h5=>?_)
   refine⟨Q.1,u,h3,m',k',h4,ot j m' k' _ (λq=>?_) h4 h5⟩;simp only[md,r4,or_false]at q
   (replace q:=q.symm;subst q);exact F.wr U b h
 ·rcases md.mp r with h|h
  ·cases h;exact⟨v,by rw[Ev.get_put,if_pos rfl],hc.turn (λo e t=>g a o N e t) (λb o q e t=>g b o q.1.1 e t) λb o e q=>Y b q⟩
  ·refine A2 (F.c j b h) λw Q u=>?_;refine⟨w,(by rw[Ev.get_put,if_neg];exact Q;rintro rfl;exact F.wr U b h),u.turn (λo e t=>g b o (F.o j b h).1.1 e t) (λb o q e t=>g b o q.1.1 e t) λb o e q=>Y b q⟩
 ·rw[Ev.get_put]at e;split at e
  ·rename_i q;subst q;exact⟨a,pg⟩
  ·obtain⟨b,p⟩:=F.w j w e;exact⟨b,oP _ p⟩
 ·rcases md.mp Q with g1|g1<;>rcases md.mp u with g2|g2
  ·cases g1;cases g2;simp
  ·obtain⟨e1,e2⟩:=qP g1;exact⟨λq=>absurd (q.symm.trans e2) (nw j' b' g2),λq=>absurd g2 (F.wr (by rw[<-q,e1];exact U) b')⟩
  ·obtain⟨e1,e2⟩:=qP g2;exact⟨λq=>absurd (q.trans e2) (nw j b g1),λq=>absurd g1 (F.wr (by rw[q,e1];exact U) b)⟩
  ·exact F.ap j b j' b' g1 g2
theorem Mh(O:Z.Ok){m w:pw}{q N tq U p:tE}{k Y:Nat}{e f:f0}{Q:xg->lb->Prop}(hh:A.handled=eu)(a0:d.scope.kind=.function)(a1:m≠w)(he:∀g p,e≠.Starred g p)(hf:∀g p,f≠.Starred g p)
  (h1:(uf 8 e&&uf 8 f)=fG) (h2:(uE 8 e&&uE 8 f)=fG)
  (h:WP Z A (tW (.Tuple [e,f] Y U) d) (λv a=>∃T c i n,v=.ref T/\a.heap.get? T=dD ⟨.type "tuple",.none,.seq #[c,i] n,#[]⟩/\∀s2,Same Z a s2->
   WP Z A (t5 d m c) (λz x=>WP Z A (t5 d w i) (λz=>Q u9) x) s2/\WP Z A (t5 d w i) (λz x=>WP Z A (t5 d m c) (λz=>Q u9) x) s2) s):
  WP Z A (yL (.Assign [.Tuple [.Name m q,.Name w N] k tq] (.Tuple [e,f] Y U) p) d) Q s:=by
 refine A2 (Kz (q:=q) (q':=N) (tq:=tq) (vq:=U) (k:=k) (k':=Y) a0 a1 he hf h1 h2) λr hr a2=>?_;have S0:∀(a:lb) (j:qX),sm a.heap.objs.size a.heap j->Same Z a {a with heap:=j}:=λa j y=>Same.of_keep (tk:=a.toks) O λb o e=>y b o (Ar e) e;rcases a2 with rfl|rfl
 ·refine ABZ (A1 h (λv a g1=>?_)) rfl hr
  (refine Jo g1 λT c i n' t gT hs=>?_;subst t)
  refine ACW hh ⟨_,gT,rfl,n',rfl⟩ rfl rfl λj y=>?_;show qH _ _ (xf [uT (.Name m q) d,uT (.Name w N) d] [c,i]) _ _ _;refine vp (assign_Name (pF (hs _ (S0 a j y)).1 (λz x g3=>?_) λz z f=>f));exact vp (assign_Name (A1 g3 (λz s4 g4=>zJ g4)))
 ·refine Assign_Tuple_swapped (A1 h (λv a g1=>?_)) rfl hr
  (refine Jo g1 λT c i n' u gT hs=>?_;subst u)
  refine wpAny_unpackItems_tuple (items:= #[c,i]) hh ⟨_,gT,rfl,n',rfl⟩ λj y=>?_;show qH _ _ (xf [bindName d w,bindName d m] [i,c]) _ _ _;refine vp (bindName_ (pF (hs _ (S0 a j y)).2 (λz x g3=>?_) λz z f=>f));exact vp (bindName_ (A1 g3 (λz s4 g4=>zJ g4)))
variable(O:Z.Ok)(B:Wd Z)(G:B2 Z B cl n)(I:Av Z B n)
theorem SK{x:X}{e:f0}(h:AH l x e=er):∀g p,e≠.Starred g p:=by rintro g p rfl;exact Pw h
theorem M'{i j:Nat}{m a:pw}{k b:qE}(c:(l.names.map (·.1)).Nodup)(h:i≠j)(e:l.names[i]?=dD (m,k))(f:l.names[j]?=dD (a,b)):m≠a:=by rintro rfl;exact h (Cz c e f)
include O B G I in
theorem iB{i j:Nat}{x y:X}:PC Z n A cl (.sw i j x y):=by
 intro l st h M d ok W s z C r hr F;obtain⟨m,q,m',q',k,tq,e,f,k',vq,p,rfl,Y,h2,h3,h4,h5,h6⟩:=Xg h;refine ii hr λv u c1 c2 t hv hu=>?_;refine A2 (Bh Y) λkk hn V=>?_;refine A2 (Bh h2) λa1 a0 V=>?_;refine Mh O F.a.1 F.f.fn (M' F.f.nd t hn a0) (SK h5) (SK h6) h3 h4 ?_;refine w4 ?_;simp only[Bl h5,Bl h6];refine qM (A1 ((AF O B G I x l e h5).1 d _ s z v hv F.frz) (λu1 s1 g1=>?_));refine qM (A1 ((AF O B G I y l f h6).1 d _ s1 z u hu (F.turn g1.2).frz) (λu2 U g2=>rq ?_));refine⟨by simp[wH],U.heap.objs.size,u1,u2,_,rfl,mA _ rfl,λs3 S3=>?_⟩;have g:Same Z s s3:=(g1.2.trans g2.2).trans ((Same.push (tk:=U.toks) O).trans S3);have w:Same Z U s3:=(Same.push (tk:=U.toks) O).trans S3;have F3:=F.turn g;have v1:=(g1.1.same g2.2).same w;have v2:=g2.1.same w;have a:∀{u x} {sa sb:lb},VR Z.prog Z.w (C8 ok W) sa.heap u x->Ch Z (Fp l d W) (λV=>False) sa sb->VR Z.prog Z.w (C8 ok W) sb.heap u x:=λv c=>v.ch c λb hb N=>by
  rcases N with N|⟨j',N⟩
  ·exact F.fo N hb.1
  ·exact hb.2 j' N
 constructor
 ·refine A1 (F3.sto O Y v1 c1) (λV s4 o=>?_);exact A1 (o.1.sto O h2 (a v2 o.2) c2) (λV s5 Q=>Post.nx (g.ch.trans (o.2.trans Q.2)) Q.1)
 ·refine A1 (F3.sto O h2 v2 c2) (λV s4 o=>?_);exact A1 (o.1.sto O Y (a v1 o.2) c1) (λV s5 Q=>Post.nx (g.ch.trans (o.2.trans Q.2)) (Q.1.cong (M4 t v u z) λV=>rfl))
end
section
variable{Z:Bs}{n:Nat}{A:mx}{C:o5}{g:t8}{ok J I:ls->Prop}{W:Jc}{s N:lb}{D E M L:Ev}{H:Bool}{cl:Cl}
variable(O:Z.Ok)(d:Wd Z)(z:B2 Z d cl n)(B:Av Z d n)
theorem GF(s:lb):∃o,(s.heap.push {cls:=.type "dict",data:=.dict #[]}).get? s.heap.objs.size=dD o/\o.IsDictOf (qW Z.prog Z.w) []:=
 wV.mp (ADv (knd:=qW Z.prog Z.w) s.heap)
include O d z B in
theorem fU{i:Nat}{x y:X}:PC Z n A cl (.dc1 i x y):=by
 intro C st h H g ok W s D E r hr F;obtain⟨m,q,e,f,q',p,rfl,h1,h3,h4⟩:=Wp h;refine f9 hr λG v Q U Y hk hv a0=>?_;simp only[Q];refine A2 (Bh h1) λkd hn a1=>?_;have fa:s.heap.get? s.heap.objs.size=eu:=A6 _;have ne:∀b o,s.heap.get? b=dD o->b≠s.heap.objs.size:=λb o e=>Ar e;have SA:Same Z s {s with heap:=s.heap.push {cls:=.type "dict",data:=.dict #[]}}:=Same.push (tk:=s.toks) O;refine B9 rfl ?_;refine wpAny_Dict_walk (knd:=qW Z.prog Z.w) rfl rfl (by simp) (by simp) ?_;refine A2 (GF (Z:=Z) s) λod u k=>?_;have FA:Fr Z n A C g (λb=>ok b/\b≠s.heap.objs.size) W {s with heap:=s.heap.push {cls:=.type "dict",data:=.dict #[]}} D E:=
  F.move SA (λV q=>q.1) (λb o e q=>⟨q,ne b o e⟩) λa ha=>⟨SA.hok F.k a ha,λq=>by
   have:(s.heap.push {cls:=.type "dict",data:=.dict #[]}).get? s.heap.objs.size=eu:=q▸ha;rw[u]at this;exact sN this⟩
 refine evalPairs_cons (A1 ((AF O d z B x C e h3).1 g _ _ D _ hk FA.frz) (λkv s1 g1=>?_));obtain⟨g1,S1⟩:=g1;cases g1 with|str _ t=>
 refine fX (A1 ((AF O d z B y C f h4).1 g _ s1 D v hv (FA.turn S1).frz) (λvv l g2=>fX (rj (mM (evalPairs_nil ?_)))));obtain⟨g2,S2⟩:=g2;have w:=S1.trans S2;have j:l.heap.get? s.heap.objs.size=dD od:=w.heap _ _ u (Ci k);refine⟨[(AP G,vv)],?_,wV.mpr ⟨od,j,k⟩,λh' hd hs=>?_⟩
 ·exact⟨by simp[qW,ACD],rfl,trivial⟩
 ·refine A2 (wV.mp hd) λo2 a2 a3=>?_
  have kp:∀b o,b≠s.heap.objs.size->l.heap.get? b=dD o->h'.get? b=dD o:=λb o e q=>hs.extBut b o e q;have c2:Ch Z (λb=>b=s.heap.objs.size) (λV=>False) l {l with heap:=h',toks:=l.toks+ [((ABb (AP G) t),vv)].length}:=Ch.of_keep' O (λb e=>by exact(congrArg _ e).trans (F.i.fresh fa)) (λb o e q=>by
   subst e;(replace q:=dE (j.symm.trans q);subst q);refine AE k λV V hx V=>?_;obtain⟨c,_⟩:=hx;rintro⟨h|h,_⟩
   ·exact nomatch (c.symm.trans h)
   ·rw[c]at h;injection h with h;exact absurd h (by decide)) kp
  have SS:Same Z s {l with heap:=h',toks:=l.toks+ [((ABb (AP G) t),vv)].length}:=((SA.trans w).ch.trans c2).same (λb o e f=>ne b o e f) λV V f=>f;refine uU (A1 (F.make O hn a1 Y U SS fa (.d (A3 O F.i) a2 a3 rfl (.cons (BZ a0 g2) .nil))) (λV s3 g3=>Post.made fa g3.1 g3.2))
include O in
theorem kc{i j:Nat}:PC Z n A cl (.dc0 i j):=by
 intro C st h H g ok W s D E r hr F;obtain⟨m,q,m',q',k,tq,d1,d2,k',vq,p,rfl,h1,h2⟩:=Wf h;refine fK hr λa9 c1 c2 c3 c4 v=>?_;simp only[a9];refine A2 (Bh h1) λkk hn Y=>?_;refine A2 (Bh h2) λy G u=>?_;refine Mh O F.a.1 F.f.fn (M' F.f.nd v hn G) (λz z e=>by cases e) (λz z e=>by cases e) rfl rfl ?_;refine w4 ?_;show qH _ _ (ABY [(fG,tW (.Dict [] [] d1) g),(fG,tW (.Dict [] [] d2) g)]) _ _ _;refine qM (AC0 (qM (AC0 (rq ?_))));refine A2 (GF (Z:=Z) s) λo1 g1 e1=>?_;have SA:Same Z s {s with heap:=s.heap.push {cls:=.type "dict",data:=.dict #[]}}:=Same.push (tk:=s.toks) O
 revert g1 SA
 generalize aa:({s with heap:=s.heap.push {cls:=.type "dict",data:=.dict #[]}}:lb)=w;have ac:w.heap=s.heap.push {cls:=.type "dict",data:=.dict #[]}:=by rw[<-aa]
 rw[<-ac];intro g1 SA;refine A2 (GF (Z:=Z) w) λo2 g2 e2=>?_;have SB:Same Z w {w with heap:=w.heap.push {cls:=.type "dict",data:=.dict #[]}}:=Same.push (tk:=w.toks) O;generalize ae:({w with heap:=w.heap.push {cls:=.type "dict",data:=.dict #[]}}:lb)=sB at SB⊢;have af:sB.heap=w.heap.push {cls:=.type "dict",data:=.dict #[]}:=by rw[<-ae]
 rw[<-af]at g2;have fa:s.heap.get? s.heap.objs.size=eu:=A6 _;have a7:w.heap.get? w.heap.objs.size=eu:=A6 _;have fb:s.heap.get? w.heap.objs.size=eu:=SA.live _ a7;have Q:=A3 O (SA.inv F.i);generalize ha:s.heap.objs.size=a at*;generalize hb:w.heap.objs.size=b at*;have a0:a≠b:=λq=>by rw[q,a7]at g1;exact nS g1
 refine⟨by simp[wH],sB.heap.objs.size,.ref a,.ref b,_,rfl,mA _ rfl,λs3 S3=>?_⟩;have a4:Same Z sB s3:=(Same.push (tk:=sB.toks) O).trans S3;have a5:=(SA.trans SB).trans a4;have G1:s3.heap.get? a=dD o1:=(SB.trans a4).heap _ _ g1 (Ci e1);have G2:s3.heap.get? b=dD o2:=a4.heap _ _ g2 (Ci e2);have a1:∀x o,s.heap.get? x=dD o->x≠a:=λx o e q=>by rw[q,fa]at e;exact nS e
 have a2:∀x o,s.heap.get? x=dD o->x≠b:=λx o e q=>by rw[q,fb]at e;exact nS e
 have a3:∀{W':Jc} {a6:Ev} {U:lb},(∀l x,(l,x)∈W'->(l,x)∈W\/x=a\/x=b)->(∀l x,(l,x)∈W->(l,x)∈W')->Fr Z n A C g ok W' U D a6->(∀l,a6.get l=((E.put i (.d [] [])).put j (.d [] [])).get l)->Ch Z (Fo C g) (λz=>False) s3 U->
   Post Z n A C g ok W fG s (.nx D ((E.put i (.d [] [])).put j (.d [] []))) u9 U:=λ{W' a6 U} hw ag F5 ah c=>by
  refine⟨(λc=>a5.ch.trans (c.mono (λx o z f=>.inl f) λz z q=>q)) c,rfl,W',λl x t=>ag l x t,λl x t=>?_,(λh=>by exact fT h),F5.cong (λz=>rfl) λl=>(ah l).symm⟩;rcases hw l x t with h|h|h
  ·exact .inl h
  ·right;rw[h];exact fa
  ·right;rw[h];exact fb
 have two:∀{a b:ls} {i j:Nat} {m m':pw} {kk y:qE} {o1 o2:xE},a≠b->i≠j->C.names[i]?=dD (m,kk)->(kk=.local\/kk=.cell)->C.names[j]?=dD (m',y)->(y=.local\/y=.cell)->E.get i=eu->D.get i=eu->E.get j=eu->D.get j=eu->
   s.heap.get? a=eu->s.heap.get? b=eu->s3.heap.get? a=dD o1->s3.heap.get? b=dD o2->o1.IsDictOf (qW Z.prog Z.w) []->o2.IsDictOf (qW Z.prog Z.w) []->(a==ux)=fG->(b==ux)=fG->(∀x o,s.heap.get? x=dD o->x≠a)->(∀x o,s.heap.get? x=dD o->x≠b)->
   WP Z A (t5 g m (.ref a)) (λz s4=>WP Z A (t5 g m' (.ref b)) (λz U=>Fr Z n A C g ok ((j,b)::(i,a)::W) U D ((E.put i (.d [] [])).put j (.d [] []))/\Ch Z (Fo C g) (λz=>False) s3 U) s4) s3:=by
  intro a b i j m m' kk y o1 o2 a0 v hn Y G u c1 c2 c3 c4 fa fb G1 G2 e1 e2 l1 l2 a1 a2;refine A1 ((F.move a5 (λz q=>q.1.1) (λx o e q=>⟨⟨q,a2 x o e⟩,a1 x o e⟩) λx t=>⟨⟨a5.hok F.k x t,λq=>by rw[q,G2]at t;exact sN t⟩,λq=>by rw[q,G1]at t;exact sN t⟩).adopt (ok:=λx=>ok x/\x≠b) O hn Y c2 c1 ⟨F.k a fa,a0⟩ (F.i.fresh fa) (λq=>F.nl q.1) (λm c e q=>F.nc m c e q.1) (.d (ks:=[]) (xs:=[]) l1 G1 e1 rfl .nil)) (λz s4 g4=>?_);obtain⟨F4,a8⟩:=g4;have ai:¬Fo C g b:=λq=>by
   rcases q with q|⟨aj,_,q⟩
   ·exact F.nl (q▸F.k b fb)
   ·exact F.nc aj b q (F.k b fb)
  have ak:s4.heap.get? b=dD o2:=a8.heap _ _ G2 (Ci e2) ai;refine A1 (F4.adopt O G u c4 (by rw[Ev.get_put,if_neg v];exact c3) (F.k b fb) (F.i.fresh fb) F.nl F.nc (.d (ks:=[]) (xs:=[]) l2 ak e2 rfl .nil)) (λz U g5=>⟨g5.1,a8.trans g5.2⟩)
 have la:(a==ux)=fG:=by rw[<-ha];exact A3 O F.i
 constructor
 ·refine A1 (two a0 v hn Y G u c1 c2 c3 c4 fa fb G1 G2 e1 e2 la Q a1 a2) (λz s4 g4=>A1 g4 (λz U g5=>a3 ?_ ?_ g5.1 (λz=>rfl) g5.2))
  ·intro l x t;rcases md.mp t with h|h
   ·exact .inr (.inr (qP h).2)
   ·rcases md.mp h with h|h
    ·exact .inr (.inl (qP h).2)
    ·exact .inl h
  ·intro l x t;exact oP _ (oP _ t)
 ·refine A1 (two (ub a0) (ub v) G u hn Y c3 c4 c1 c2 fb fa G2 G1 e2 e1 Q la a2 a1) (λz s4 g4=>A1 g4 (λz U g5=>a3 ?_ ?_ g5.1 (λl=>M4 (ub v) _ _ E l) g5.2))
  ·intro l x t;rcases md.mp t with h|h
   ·exact .inr (.inl (qP h).2)
   ·rcases md.mp h with h|h
    ·exact .inr (.inr (qP h).2)
    ·exact .inl h
  ·intro l x t;exact oP _ (oP _ t)
theorem bP:PC Z n A cl .ju:=by exact λz z z z z z z z z z z a z=>nS a
theorem il:PB Z n A cl .nil:=by intro C b h H g ok W s D E r a F;cases Rq h;cases (dE a:_=r);exact td (Post.nx Ch.refl F)
theorem dk{c:Cm}{b:Cs}(hc:PC Z n A cl c)(hb:PB Z n A cl b):PB Z n A cl (.cons c b):=by
 intro C ss h H g ok W s D E r Q F
 (refine BJ (QZ h) λst ss a h1 h2=>?_;subst a)
 change (match BK cl H c D E with|some (.nx j k)=>AX cl H b j k|some (.ret v)=>dD (.ret v)|none=>eu)=dD r at Q;cases hq:BK cl H c D E with
 |none=>rw[hq]at Q;exact nS Q
 |some r1=>
  rw[hq]at Q;refine pz (A1 (hc C st h1 H g ok W s D E r1 hq F) (λf s1 Y=>?_));obtain⟨c1,Y⟩:=Y;induction r1 using Rs.casesOn with
  |ret v=>refine dE Q▸?_;(refine A2 Y λu m hu=>?_;rw[m]);exact⟨c1,u,rfl,hu⟩
  |nx j k=>
   (obtain⟨p,t⟩:=Y;subst p;refine LN t λW' i1 i2 i3 F1=>?_)
   refine A1 (hb C ss h2 H g ok W' s1 j k r Q F1) (λf s2 g2=>?_);obtain⟨c2,g2⟩:=g2;have Mt:Ch Z (Fp C g W) (λz=>False) s s2:=((c1.mono (fp':=Fp C g W') (λb o z f=>f.imp id λ⟨i,x⟩=>⟨i,i1 i b x⟩) λz z q=>q).trans c2).mono (λb o e f=>by
    rcases f with f|⟨i,x⟩
    ·exact .inl f
    ·rcases i2 i b x with h|h
     ·exact .inr ⟨i,h⟩
     ·exact nS (h.symm.trans e)) λz z q=>q
   refine⟨Mt,?_⟩;induction r using Rs.casesOn with
   |ret v=>exact g2
   |nx a1 a2=>
    (obtain⟨y,G⟩:=g2;subst y;refine LN G λW2 j1 j2 j3 F2=>?_)
    refine⟨rfl,W2,λi b x=>j1 i b (i1 i b x),λi b x=>?_,λhl=>(j3 hl).trans (i3 hl),F2⟩;rcases j2 i b x with h|h
    ·exact i2 i b h
    ·by_cases hw:(i,b)∈W
     ·exact .inl hw
     ·right;cases e:s.heap.get? b with
      |none=>rfl
      |some o=>
       by_cases hf:Fp C g W b
       ·rcases hf with hf|⟨l,hl⟩
        ·obtain⟨o',U⟩:=F1.f.fo_live hf;rw[h]at U;exact nS U
        ·refine A2 (F1.c l b (i1 l b hl)) λw z a0=>?_;refine A2 a0.there λo' U z=>?_;rw[h]at U;exact nS U
       ·have:=c1.live b hf h;rw[e]at this;exact sN this
include O d z B in
theorem lZ{t:T}{x:X}:PC Z n A cl (.ag t x):=by
 induction t using T.casesOn with
 |one i=>exact cu O d z B
 |many a=>exact cA O d z B
include O d z B in
theorem C7(b:Cs):PB Z n A cl b:=
 Cs.rec (motive_1:=PC Z n A cl) (motive_2:=PB Z n A cl)
  (λy y=>lZ O d z B) (λy y=>jD O d z B) (λy y y=>gh O d z B) (λy y y y=>iB O d z B) (λy y y=>kh O d z B) (λy y=>gA O d z B)
  (λy y y=>fU O d z B) (λy y=>kc O) (λy y=>lV O d z B) (λy=>kY O) (λy y y=>gj O d z B) (λy=>fm O d z B) (λy y y c a=>gz O d z B c a)
  (λy y y a=>hH O d z B a) (λy y y a=>j8 O d z B a) (λy y y a=>lX O d z B a) bP il (λy y e a=>dk e a) b
end
noncomputable def Ah:Nat->List V->Ev
 |_,[]=>[]
 |i,v::r=>(i,v)::Ah (i+1) r
theorem DG{x:Nat}:Ah x []=[]:=rfl
theorem Ct{x:Nat}{v:V}{r:List V}:Ah x (v::r)=(x,v)::Ah (x+1) r:=rfl
theorem Gn:∀(c:List V) (i j:Nat),(Ah i c).get j=if i<=j then c[j-i]? else eu
 |[],i,j=>by simp[DG,Ct,DN,AC]
 |v::r,i,j=>by
  rewrite [Ct,AC]
  cases h:lf i j with
  |true=>have:=lk h;refine this▸?_;simp
  |false=>
   have b:=mP h;show(Ah (i+1) r).get j=_;rw[Gn r (i+1) j];by_cases a:i<=j
   ·rw[if_pos a,if_pos (by lia)];have:=NW (vT a b);simp only[this,vU]
   ·rw[if_neg a,if_neg (by lia)]
theorem JR{a:pw->Option qE}{p:pw}:∀(r:List (pw×gx)) (m:pw->Option gx),p∉r.map (·.1)->bindL a r m p=m p
 |[],_,_=>rfl
 |(n,v)::r,m,h=>by
  simp only[pj,md,not_or]at h;unfold bindL;rw[JR r _ h.2];split
  ·simp only;rw[if_neg h.1]
  ·rfl
theorem Iq{a:pw->Option qE}{p:pw}:∀(r:List (pw×gx)) (m:pw->Option gx),p∉r.map (·.1)->bindC a r m p=m p
 |[],_,_=>rfl
 |(n,v)::r,m,h=>by
  simp only[pj,md,not_or]at h;unfold bindC;rw[Iq r _ h.2];split
  ·rfl
  ·simp only;rw[if_neg h.1]
theorem KG{b:pw->Option qE}{p:pw}{u:gx}(c:b p=dD .local):∀(r:List (pw×gx)) (m:pw->Option gx),(r.map (·.1)).Nodup->(p,u)∈r->bindL b r m p=dD u
 |(n,v)::r,m,a,h=>by
  rw[pj,vK]at a;unfold bindL;rcases md.mp h with q|q
  ·cases q;rw[JR r _ a.1,if_pos c];simp
  ·exact KG c r _ a.2 q
theorem KH{b:pw->Option qE}{p:pw}{u:gx}(c:b p≠dD .local):∀(r:List (pw×gx)) (m:pw->Option gx),(r.map (·.1)).Nodup->(p,u)∈r->bindC b r m p=dD u
 |(n,v)::r,m,a,h=>by
  rw[pj,vK]at a;unfold bindC;rcases md.mp h with q|q
  ·cases q;rw[Iq r _ a.1,if_neg c];simp
  ·exact KH c r _ a.2 q
noncomputable def Es:Option Rs->Option V
 |some (.ret v)=>dD v
 |some (.nx _ _)=>dD .none
 |none=>eu
noncomputable def Dg(a:Cl)(b:Cs)(c:List V):Option V:=Es (AX a fG b (Ah 0 c) [])
structure FnAt(Z:Bs)(a:ls)(name:pw)(params:t7)(body:List pt)(scope:o5):Prop where
 ex:∃o pm cd doc,Z.B.heap.get? a=dD o/\o.data=.func (sF name params body scope pm cd doc)/\∃c oc vs t,cd=.ref c/\Z.B.heap.get? c=dD oc/\AB oc=fG/\oc.data=.fields vs/\vs[1]?=dD (.str name t)
structure AZ(name:pw)(params:t7)(body:List pt)(scope:o5)(ps:List pw):Prop where
 co:scope.isCoroutine=fG
 gen:scope.isGenerator=fG
 kind:scope.kind=.function
 free:∀p∈scope.names,p.2≠.free
 nd:(scope.names.map (·.1)).Nodup
 pk:∀(i:Nat) (p:pw),ps[i]?=dD p->∃k:qE,scope.names[i]?=dD (p,k)/\(k=.local\/k=.cell)
 pn:ps.Nodup
 bind:∀(pm cd doc:gx) (us:List gx),us.length=ps.length->xu (sF name params body scope pm cd doc) ⟨us,[]⟩=tS (ps.zip us)
theorem zip_get{a:List pw}{b:List gx}{i:Nat}{p:pw}{u:gx}(c:a[i]?=dD p)(d:b[i]?=dD u):(p,u)∈a.zip b:=by
 have:(a.zip b)[i]?=dD (p,u):=by rw[w5];exact⟨c,d⟩
 exact qk this
noncomputable def Sj:xg->gx:=λf=>match f with|.ret v=>v|_=>.none
theorem OkA.room{n:Nat}{A:mx}(h:OkA n A):A.depth<uj:=nR (nR (mJ (tN _ n) (z6 (by decide))) (qF (A.depth+n+20))) h.2.1
theorem OkA.in1{n:Nat}{A:mx}(h:OkA (n+1) A):A.depth+1+n+20<=uj:=by rw[vV A.depth 1 n];exact h.2.1
theorem OkA.in2{n:Nat}{A:mx}(h:OkA (n+1) A):A.units+3+64+8*n+200<=AAC:=by have:=h.2.2;lia
theorem Fj{Z:Bs}{n:Nat}(O:Z.Ok){a:ls}{B:pw}{C:t7}{G:List pt}{l:o5}{J:List pw}(FA:FnAt Z a B C G l)(D:AZ B C G l J)
  {vs:List V} (hl:vs.length=J.length)
  {A:mx} {L:ls->Prop} {s:lb} {M:List gx} (ha:OkA (n+1) A) (i:Inv Z s) (k:∀a,s.heap.get? a=eu->L a) (hv:VRs Z.prog Z.w L s.heap M vs) {Q E:gx->lb->Prop}
  (h:∀d y tk o U,Z.B.heap.get? a=dD o->(∃fd,o.data=.func fd/\fd.code=U)->d.code=U->d.qual=B++".<locals>." ->d.scope=l->s.heap.get? d.locals=eu->(∀m c,d.cells.lookup m=dD c->s.heap.get? c=eu)->
   Same Z s {s with heap:=y,toks:=tk}->(∀b o,s.heap.get? b=dD o->y.get? b=dD o)->d.frame=dD d.locals->Fr Z n (A.deeper d) l d (λb=>L b/\b≠d.locals/\∀m,d.cells.lookup m≠dD b) [] {s with heap:=y,toks:=tk} (Ah 0 vs) []->
   qH (qQ Z.prog Z.w) (A.deeper d) (uO G d) (λf s'=>Q (Sj f) s') (λe s'=>qH (qQ Z.prog Z.w) (A.deeper d) (leaving d e) (λW a0=>E e a0) (λe' a0=>E e' a0) s') {s with heap:=y,toks:=tk}):qH (qQ Z.prog Z.w) A (t9 (.ref a) M) Q E s:=by
 (refine Jo FA.ex λo pm U a8 ho hd a1=>?_;refine UO a1 λc oc a9 t aa ac a5 ae af=>?_)
 have tf:AB o=fG:=by exact C9 hd rfl
 have a2:s.heap.CodeRec U B:=⟨c,oc,a9,t,aa,i.keep _ _ ac a5,ae,af⟩
 have a6:s.heap.NoLimit:=by refine A2 O.nolimit λmc hn h0=>?_;refine AW (An hn) λo' e t' W=>?_;exact⟨mc,hn.at' λah e'=>by rw[e]at e';(replace e':=dE e';subst e');exact i.keep _ _ e t',h0⟩
 have ag:M.length=J.length:=hv.length.trans hl;have a3:=ha.room;have zn:((J.zip M).map (·.1))=J:=by rw[ABs];lia
 have N:∀p u,(p,u)∈J.zip M->∃(i:Nat) (k:qE),J[i]?=dD p/\M[i]?=dD u/\l.names[i]?=dD (p,k)/\(k=.local\/k=.cell):=λp u h=>by
  obtain⟨j,hj⟩:=u5 h;rw[w5]at hj;refine A2 (D.pk j p hj.1) λk h1 h2=>?_;exact⟨j,k,hj.1,hj.2,h1,h2⟩
 have w:∀p,l.names.lookup p=dD .cell->((ru (s.heap.objs.size+1) l.names []).lookup p).isSome=er:=λp h=>by
  obtain⟨c,hc⟩:=Bw (N:=s.heap.objs.size+1) (mem_of_lookup h);obtain⟨c',h'⟩:=AV hc;exact congrArg _ h'
 refine ACZ (call_cells a3 (i.keep _ _ ho tf) hd a6 a2 (D.bind pm U a8 M ag) (λp hp=>?_) (λy tk F X=>?_) D.co D.gen D.kind)
 ·refine HI (N p.1 p.2 hp) λj kk W W h3 Y=>?_;have:=A8 D.nd h3;rcases Y with rfl|rfl
  ·exact .inl this
  ·exact .inr ⟨this,w _ this⟩
 ·generalize z:envOfC B l s.heap.objs.size a U=d at F X⊢;have e1:d.scope=l:=by exact congrArg _ (z).symm
  have e2:d.locals=s.heap.objs.size:=by rw[<-z];rfl
  have e3:d.cells=ru (s.heap.objs.size+1) l.names []:=by rw[<-z];rfl
  have a4:∀p,d.kindOf p=l.names.lookup p:=λp=>by rw[<-z];rfl
  have H:∀m c,d.cells.lookup m=dD c->s.heap.objs.size<c:=λm c h=>X.above m c (mem_of_lookup (e3▸h));have fr:∀m c,d.cells.lookup m=dD c->s.heap.get? c=eu:=λm c h=>Cp _ (nV (H m c h));have S1:Same Z s {s with heap:=y,toks:=tk}:=Same.of_keep O F.keep;have I:∀{u v},VR Z.prog Z.w L s.heap u v->VR Z.prog Z.w (λb=>L b/\b≠d.locals/\∀m,d.cells.lookup m≠dD b) y u v:=λr=>(r.goal (ok':=λb=>L b/\b≠d.locals/\∀m,d.cells.lookup m≠dD b) λb o e q=>⟨q,(by rw[e2];exact Ar e),λm h=>by rw[fr m b h]at e;exact nS e⟩).mono (λb o W e W=>F.keep b o e) λW W q W=>q
  have R:EnvR Z l d (λb=>L b/\b≠d.locals/\∀m,d.cells.lookup m≠dD b) y (Ah 0 vs):=by
   have val:∀{j v},(Ah 0 vs).get j=dD v->∃(p:pw) (u:gx) (k:qE),J[j]?=dD p/\M[j]?=dD u/\l.names[j]?=dD (p,k)/\(k=.local\/k=.cell)/\VR Z.prog Z.w L s.heap u v:=λ{j v} h=>by
    rw[Gn,if_pos (qd _),AAS]at h;refine A2 (hv.get h) λu hu r=>?_;have ai:j<M.length:=(qR.mp hu).1;have hp:J[j]?=dD (J[j]'(by lia)):=uP (by lia);refine A2 (D.pk j _ hp) λk h1 h2=>?_;exact⟨_,u,k,hp,hu,h1,h2,r⟩
   refine{fn:=by exact e1▸D.kind,gl:=by rw[<-z];rfl,bt:=by rw[<-z];rfl,nd:=D.nd,kd:=λm k h=>.inl (by rw[a4];exact h),nm:=λj v h=>?_,ns:=⟨_,by rw[e2];exact F.ns,λj v m h hm=>?_⟩,cl:=λj v m k h hm hk=>?_,ap:=λm m' c h h'=>?_,cx:=λm c h=>⟨⟨_,X.cell m c (e3▸h)⟩,?_,λq=>q.2.2 m h⟩,ce:=λm h=>?_,fe:=λm h=>?_,nl:=λq=>q.2.1 rfl,nb:=by exact(congrArg _ e2).trans (i.fresh (A6 _))}
   ·refine Je (val h) λp u k W W h3 Y W=>?_;exact⟨p,k,h3,Y.imp id .inl⟩
   ·refine Je (val h) λp u k h1 h2 h3 Y r=>?_;have qn:=(qP (dE (hm.symm.trans h3))).1;subst qn;exact⟨u,KG (by rw[a4];exact A8 D.nd hm) _ _ (by rw[zn];exact D.pn) (zip_get h1 h2),I r⟩
   ·refine Je (val h) λp u k' h1 h2 h3 Y r=>?_;have qn:=qP (dE (hm.symm.trans h3));replace Y:=qn.2▸Y;have qn:=qn.1;subst qn;rcases Y with rfl|rfl
    ·rcases hk with q|q<;>exact nomatch q
    ·have hl:=A8 D.nd hm;have hs:=w _ hl;obtain⟨c,hc⟩:=vC.mp hs;refine⟨c,u,by rw[e3];exact hc,?_,I r⟩;have:=X.cell _ c hc;rw[KH (p:=m) (u:=u) (by rw[a4,hl];decide) _ _ (by rw[zn];exact D.pn) (zip_get h1 h2)]at this;exact this
   ·rw[e3]at h h';exact name_of_addr X.apart (mem_of_lookup h) (mem_of_lookup h')
   ·rw[e2];exact um (H m c h)
   ·have hs:=w _ h;obtain⟨c,hc⟩:=vC.mp hs;have a7:d.cells.lookup m=dD c:=by rw[e3];exact hc
    exact⟨c,a7,i.fresh (fr m c a7)⟩
   ·exact absurd rfl (D.free _ (mem_of_lookup h))
  have Fm:Fr Z n (A.deeper d) l d (λb=>L b/\b≠d.locals/\∀m,d.cells.lookup m≠dD b) [] {s with heap:=y,toks:=tk} (Ah 0 vs) []:=by
   refine⟨⟨ha.1,?_,?_⟩,S1.inv i,λx hx=>⟨S1.hok k x hx,?_,λm h=>?_⟩,R.turn (λW W W e W=>e) (λb W W q=>⟨q,λj hj=>by cases hj⟩) (λb hb q=>?_),λq=>q.2.1 rfl,λm c h q=>q.2.2 m h,λW W h=>(by exact nomatch h),λW W h=>(by cases h),λW W h=>(by cases h),λW W W W h=>(by exact nomatch h)⟩
   ·exact ha.in1
   ·exact ha.in2
   ·exact λq=>R.lv (q▸hx)
   ·exact R.cv h hx
   ·rcases hb with rfl|⟨m,e⟩
    ·exact q.1.2.1 rfl
    ·exact q.1.2.2 m e
  have q1:d.code=U:=by rw[<-z];rfl
  have q2:d.qual=B++".<locals>." :=by rw[<-z];rfl
  refine pF (h d y tk o U ho ⟨_,hd,rfl⟩ q1 q2 e1 (by exact(congrArg _ e2).trans (A6 _)) fr S1 F.keep (by rw[e2,<-z];rfl) Fm) (λf s' g=>?_) λW W f=>f;cases f<;>exact g
theorem FC{Z:Bs}{n:Nat}(O:Z.Ok){a:ls}{l:pw}{j:t7}{p:List pt}{e:o5}{w:List pw}(z:FnAt Z a l j p e)(B:AZ l j p e w)
  {u:List V} (C:u.length=w.length)
  {A:mx} {v:ls->Prop} {s:lb} {x:List gx} (D:OkA (n+1) A) (i:Inv Z s) (k:∀a,s.heap.get? a=eu->v a) (E:VRs Z.prog Z.w v s.heap x u) {Q:gx->lb->Prop}
  (h:∀d g r o t,Z.B.heap.get? a=dD o->(∃y,o.data=.func y/\y.code=t)->d.code=t->d.qual=l++".<locals>." ->d.scope=e->s.heap.get? d.locals=eu->(∀m c,d.cells.lookup m=dD c->s.heap.get? c=eu)->
   Same Z s {s with heap:=g,toks:=r}->Fr Z n (A.deeper d) e d (λb=>v b/\b≠d.locals/\∀m,d.cells.lookup m≠dD b) [] {s with heap:=g,toks:=r} (Ah 0 u) []->
   WP Z (A.deeper d) (uO p d) (λf G=>Q (Sj f) G) {s with heap:=g,toks:=r}):WP Z A (t9 (.ref a) x) Q s:=
 Fj O z B C D i k E λd g r o t H I J L M N U Y X X F=>pF (h d g r o t H I J L M N U Y F) (λX X q=>q) λX X q=>q.elim
theorem Qm{Z:Bs}{n:Nat}{z:Cl}(O:Z.Ok)(W:Wd Z)(J:B2 Z W z n)(L:Av Z W n){a:ls}{l:pw}{d:t7}{g:List pt}{c:o5}{E:List pw}{b:Cs}(M:FnAt Z a l d g c)(N:AZ l d g c E)
  (Q:C1 c b g=er) {w:List V} {x:V} (U:w.length=E.length) (h:Dg z b w=dD x)
  {A:mx} {B:ls->Prop} {s:lb} {G:List gx} (Y:OkA (n+1) A) (i:Inv Z s) (k:∀a,s.heap.get? a=eu->B a) (hv:VRs Z.prog Z.w B s.heap G w):WP Z A (t9 (.ref a) G) (Gv Z B s x) s:=by
 refine FC (n:=n) O M N U Y i k hv λC H tk o cd X X X X X t fr S1 Fm=>?_;unfold Dg at h;cases D:AX z fG b (Ah 0 w) []with
 |none=>rw[D]at h;exact nomatch h
 |some r=>
  rw[D]at h;refine A1 (C7 O W J L b c g Q fG C _ [] _ _ _ r D Fm) (λf s' y=>?_);obtain⟨ch,y⟩:=y;have I:Same Z s s':=(S1.ch.trans ch).same (λx ox e f=>by
   rcases f with(f|⟨m,_,f⟩)|⟨j,hj⟩
   ·rw[f,t]at e;exact nS e
   ·rw[fr m x f]at e;exact nS e
   ·cases hj) λX X f=>f
  induction r using Rs.casesOn with
  |ret v=>
   (replace h:=dE h;subst h)
   (refine A2 y λu p hu=>?_;rw[p])
   exact⟨hu.mono (λX X X e X=>e) λX X q X=>q.1,I⟩
  |nx a0 a1=>
   (replace h:=dE h;subst h)
   obtain⟨rfl,_⟩:=y;exact⟨.none,I⟩
noncomputable def qc(s:pt):Option (pw×t7×List pt×o5×tE):=by
 induction s using Stmt.casesOn with
 |FunctionDef n a b _ _ _ c _ _ p=>exact dD (n,a,b,c,p)
 |_=>exact eu
noncomputable def EU:List (pw×t7×List pt×o5):=(ACa.main.body:List pt).filterMap λs=>(qc s).map λq=>(q.1,q.2.1,q.2.2.1,q.2.2.2.1)
noncomputable def DA(k:Nat)(c:Cs):Bool:=match EU[k]? with
 |some (_,_,b,a)=>C1 a c b
 |none=>fG
noncomputable def B1:Cs:=(.cons (.ie (.q (.c (.str [34])) .NotIn (.v 0))
 (.cons (.ret (.v 0))
 .nil)
 .nil)
 (.cons (.ag (.one 1) (.c (.int 0)))
 (.cons (.ag (.one 2) (.c .none))
 (.cons (.own 3 (.l .nil))
 (.cons (.lp (.many [4,5]) (.gen (.v 0))
 (.cons (.ie (.q (.v 5) .Eq (.c (.str [34])))
 (.cons (.ie (.q (.v 2) .Is (.c .none))
 (.cons (.ag (.one 2) (.v 4))
 .nil)
 (.cons (.ie (.q (.v 1) .NotEq (.v 2))
 (.cons (.app 3 (.sl (.v 0) (.yes (.v 1)) (.yes (.v 2)) .no))
 .nil)
 .nil)
 (.cons (.ag (.one 1) (.b .Add (.v 4) (.c (.int 1))))
 (.cons (.ag (.one 2) (.c .none))
 .nil))))
 .nil)
 .nil)
 .nil))
 (.cons (.ie (.q (.v 1) .Lt (.bi .len (.cons (.v 0) .nil)))
 (.cons (.app 3 (.sl (.v 0) (.yes (.v 1)) .no .no))
 .nil)
 .nil)
 (.cons (.ret (.me (.c (.str [])) .join (.cons (.v 3) .nil)))
 .nil)))))))
noncomputable def Bi:Cs:=(.cons (.ag (.one 0) (.call 1 (.cons (.v 0) .nil)))
 (.cons (.ag (.one 1) (.c (.int 0)))
 (.cons (.lp (.many [2,3]) (.gen (.v 0))
 (.cons (.ie (.q (.v 3) .Eq (.c (.str [40])))
 (.cons (.aug 1 .Add (.c (.int 1)))
 .nil)
 (.cons (.ie (.q (.v 3) .Eq (.c (.str [41])))
 (.cons (.aug 1 .Sub (.c (.int 1)))
 (.cons (.ie (.q (.v 1) .Lt (.c (.int 0)))
 (.cons (.ret (.c (.bool fG)))
 .nil)
 .nil)
 .nil))
 .nil)
 .nil))
 .nil))
 (.cons (.ret (.q (.v 1) .Eq (.c (.int 0))))
 .nil))))
noncomputable def BE:Cs:=(.cons (.own 1 (.l .nil))
 (.cons (.lp (.one 2) (.val (.v 0))
 (.cons (.ie (.not (.call 2 (.cons (.v 2) .nil)))
 (.cons (.ag (.one 2) (.c (.str [40,39,39,44,32,39,39,41])))
 .nil)
 .nil)
 (.cons (.app 1 (.v 2))
 .nil)))
 (.cons (.ret (.v 1))
 .nil)))
noncomputable def CW:Cs:=(.cons (.ie (.q (.b .Sub (.me (.v 0) .bitLength .nil) (.v 2)) .LtE (.gl 3))
 (.cons (.ret (.bi .divmod (.cons (.v 0) (.cons (.v 1) .nil))))
 .nil)
 .nil)
 (.cons (.ag (.one 3) (.b .BitAnd (.v 2) (.c (.int 1))))
 (.cons (.ie (.v 3)
 (.cons (.aug 0 .LShift (.c (.int 1)))
 (.cons (.aug 1 .LShift (.c (.int 1)))
 (.cons (.aug 2 .Add (.c (.int 1)))
 .nil)))
 .nil)
 (.cons (.ag (.one 4) (.b .RShift (.v 2) (.c (.int 1))))
 (.cons (.ag (.one 5) (.b .Sub (.b .LShift (.c (.int 1)) (.v 4)) (.c (.int 1))))
 (.cons (.sw 6 7 (.b .RShift (.v 1) (.v 4)) (.b .BitAnd (.v 1) (.v 5)))
 (.cons (.ag (.many [8,9]) (.call 5 (.cons (.b .RShift (.v 0) (.v 2)) (.cons (.b .BitAnd (.b .RShift (.v 0) (.v 4)) (.v 5)) (.cons (.v 1) (.cons (.v 6) (.cons (.v 7) (.cons (.v 4) .nil))))))))
 (.cons (.ag (.many [10,9]) (.call 5 (.cons (.v 9) (.cons (.b .BitAnd (.v 0) (.v 5)) (.cons (.v 1) (.cons (.v 6) (.cons (.v 7) (.cons (.v 4) .nil))))))))
 (.cons (.ie (.v 3)
 (.cons (.aug 9 .RShift (.c (.int 1)))
 .nil)
 .nil)
 (.cons (.ret (.t (.cons (.b .BitOr (.b .LShift (.v 8) (.v 4)) (.v 10)) (.cons (.v 9) .nil))))
 .nil))))))))))
noncomputable def BS:Cs:=(.cons (.ag (.one 2) (.me (.v 1) .bitLength .nil))
 (.cons (.ag (.one 3) (.call 6 (.cons (.v 0) (.cons (.v 2) .nil))))
 (.cons (.ag (.one 4) (.c (.int 0)))
 (.cons (.own 5 (.l .nil))
 (.cons (.lp (.one 6) (.rev (.v 3))
 (.cons (.ag (.many [7,4]) (.call 4 (.cons (.b .Add (.b .LShift (.v 4) (.v 2)) (.v 6)) (.cons (.v 1) (.cons (.v 2) .nil)))))
 (.cons (.app 5 (.v 7))
 .nil)))
 (.cons (.rev 5)
 (.cons (.as 8 (.call 7 (.cons (.v 5) (.cons (.v 2) .nil))))
 (.cons (.ret (.t (.cons (.v 8) (.cons (.v 4) .nil))))
 .nil))))))))
noncomputable def At:Cs:=(.cons (.ie (.q (.v 1) .Eq (.c (.int 0)))
 (.cons .ju
 .nil)
 (.cons (.ie (.q (.v 1) .Lt (.c (.int 0)))
 (.cons (.ag (.many [2,3]) (.call 9 (.cons (.neg (.v 0)) (.cons (.neg (.v 1)) .nil))))
 (.cons (.ret (.t (.cons (.v 2) (.cons (.neg (.v 3)) .nil))))
 .nil))
 (.cons (.ie (.q (.v 0) .Lt (.c (.int 0)))
 (.cons (.ag (.many [2,3]) (.call 9 (.cons (.inv (.v 0)) (.cons (.v 1) .nil))))
 (.cons (.ret (.t (.cons (.inv (.v 2)) (.cons (.b .Add (.v 1) (.inv (.v 3))) .nil))))
 .nil))
 (.cons (.ret (.call 8 (.cons (.v 0) (.cons (.v 1) .nil))))
 .nil))
 .nil))
 .nil))
 .nil)
noncomputable def EF:Cs:=(.cons (.ag (.one 3) (.bi .max (.cons (.v 0) (.cons (.v 1) (.cons (.v 2) .nil)))))
 (.cons (.ag (.one 4) (.bi .min (.cons (.v 0) (.cons (.v 1) (.cons (.v 2) .nil)))))
 (.cons (.ag (.one 5) (.b .Add (.v 3) (.v 4)))
 (.cons (.ag (.one 6) (.b .Sub (.v 3) (.v 4)))
 (.cons (.ag (.one 7) (.b .Div (.v 5) (.c (.fl 4611686018427387904))))
 (.cons (.ie (.q (.v 4) .Eq (.v 3))
 (.cons (.ret (.t (.cons (.c (.fl 0)) (.cons (.v 7) (.cons (.c (.fl 0)) .nil)))))
 .nil)
 .nil)
 (.cons (.ie (.q (.v 7) .LtE (.c (.fl 4602678819172646912)))
 (.cons (.ag (.one 8) (.b .Div (.v 6) (.v 5)))
 .nil)
 (.cons (.ag (.one 8) (.b .Div (.v 6) (.b .Sub (.b .Sub (.c (.fl 4611686018427387904)) (.v 3)) (.v 4))))
 .nil))
 (.cons (.ag (.one 9) (.b .Div (.b .Sub (.v 3) (.v 0)) (.v 6)))
 (.cons (.ag (.one 10) (.b .Div (.b .Sub (.v 3) (.v 1)) (.v 6)))
 (.cons (.ag (.one 11) (.b .Div (.b .Sub (.v 3) (.v 2)) (.v 6)))
 (.cons (.ie (.q (.v 0) .Eq (.v 3))
 (.cons (.ag (.one 12) (.b .Sub (.v 11) (.v 10)))
 .nil)
 (.cons (.ie (.q (.v 1) .Eq (.v 3))
 (.cons (.ag (.one 12) (.b .Sub (.b .Add (.c (.fl 4611686018427387904)) (.v 9)) (.v 11)))
 .nil)
 (.cons (.ag (.one 12) (.b .Sub (.b .Add (.c (.fl 4616189618054758400)) (.v 10)) (.v 9)))
 .nil))
 .nil))
 (.cons (.ag (.one 12) (.b .Mod (.b .Div (.v 12) (.c (.fl 4618441417868443648))) (.c (.fl 4607182418800017408))))
 (.cons (.ret (.t (.cons (.v 12) (.cons (.v 7) (.cons (.v 8) .nil)))))
 .nil)))))))))))))
noncomputable def Dx:Cs:=(.cons (.ie (.q (.v 2) .Eq (.c (.fl 0)))
 (.cons (.ret (.t (.cons (.v 1) (.cons (.v 1) (.cons (.v 1) .nil)))))
 .nil)
 .nil)
 (.cons (.ie (.q (.v 1) .LtE (.c (.fl 4602678819172646912)))
 (.cons (.ag (.one 3) (.b .Mult (.v 1) (.b .Add (.c (.fl 4607182418800017408)) (.v 2))))
 .nil)
 (.cons (.ag (.one 3) (.b .Sub (.b .Add (.v 1) (.v 2)) (.b .Mult (.v 1) (.v 2))))
 .nil))
 (.cons (.ag (.one 4) (.b .Sub (.b .Mult (.c (.fl 4611686018427387904)) (.v 1)) (.v 3)))
 (.cons (.ret (.t (.cons (.call 12 (.cons (.v 4) (.cons (.v 3) (.cons (.b .Add (.v 0) (.gl 0)) .nil)))) (.cons (.call 12 (.cons (.v 4) (.cons (.v 3) (.cons (.v 0) .nil)))) (.cons (.call 12 (.cons (.v 4) (.cons (.v 3) (.cons (.b .Sub (.v 0) (.gl 0)) .nil)))) .nil)))))
 .nil))))
noncomputable def eW:Cs:=(.cons (.ag (.one 2) (.b .Mod (.v 2) (.c (.fl 4607182418800017408))))
 (.cons (.ie (.q (.v 2) .Lt (.gl 1))
 (.cons (.ret (.b .Add (.v 0) (.b .Mult (.b .Mult (.b .Sub (.v 1) (.v 0)) (.v 2)) (.c (.fl 4618441417868443648)))))
 .nil)
 .nil)
 (.cons (.ie (.q (.v 2) .Lt (.c (.fl 4602678819172646912)))
 (.cons (.ret (.v 1))
 .nil)
 .nil)
 (.cons (.ie (.q (.v 2) .Lt (.gl 2))
 (.cons (.ret (.b .Add (.v 0) (.b .Mult (.b .Mult (.b .Sub (.v 1) (.v 0)) (.b .Sub (.gl 2) (.v 2))) (.c (.fl 4618441417868443648)))))
 .nil)
 .nil)
 (.cons (.ret (.v 0))
 .nil)))))
noncomputable def E8:Cs:=(.cons (.ag (.one 3) (.bi .max (.cons (.v 0) (.cons (.v 1) (.cons (.v 2) .nil)))))
 (.cons (.ag (.one 4) (.bi .min (.cons (.v 0) (.cons (.v 1) (.cons (.v 2) .nil)))))
 (.cons (.ag (.one 5) (.b .Sub (.v 3) (.v 4)))
 (.cons (.ag (.one 6) (.v 3))
 (.cons (.ie (.q (.v 4) .Eq (.v 3))
 (.cons (.ret (.t (.cons (.c (.fl 0)) (.cons (.c (.fl 0)) (.cons (.v 6) .nil)))))
 .nil)
 .nil)
 (.cons (.ag (.one 7) (.b .Div (.v 5) (.v 3)))
 (.cons (.ag (.one 8) (.b .Div (.b .Sub (.v 3) (.v 0)) (.v 5)))
 (.cons (.ag (.one 9) (.b .Div (.b .Sub (.v 3) (.v 1)) (.v 5)))
 (.cons (.ag (.one 10) (.b .Div (.b .Sub (.v 3) (.v 2)) (.v 5)))
 (.cons (.ie (.q (.v 0) .Eq (.v 3))
 (.cons (.ag (.one 11) (.b .Sub (.v 10) (.v 9)))
 .nil)
 (.cons (.ie (.q (.v 1) .Eq (.v 3))
 (.cons (.ag (.one 11) (.b .Sub (.b .Add (.c (.fl 4611686018427387904)) (.v 8)) (.v 10)))
 .nil)
 (.cons (.ag (.one 11) (.b .Sub (.b .Add (.c (.fl 4616189618054758400)) (.v 9)) (.v 8)))
 .nil))
 .nil))
 (.cons (.ag (.one 11) (.b .Mod (.b .Div (.v 11) (.c (.fl 4618441417868443648))) (.c (.fl 4607182418800017408))))
 (.cons (.ret (.t (.cons (.v 11) (.cons (.v 7) (.cons (.v 6) .nil)))))
 .nil))))))))))))
noncomputable def Dy:Cs:=(.cons (.ie (.q (.v 1) .Eq (.c (.fl 0)))
 (.cons (.ret (.t (.cons (.v 2) (.cons (.v 2) (.cons (.v 2) .nil)))))
 .nil)
 .nil)
 (.cons (.ag (.one 3) (.bi .int (.cons (.b .Mult (.v 0) (.c (.fl 4618441417868443648))) .nil)))
 (.cons (.ag (.one 4) (.b .Sub (.b .Mult (.v 0) (.c (.fl 4618441417868443648))) (.v 3)))
 (.cons (.ag (.one 5) (.b .Mult (.v 2) (.b .Sub (.c (.fl 4607182418800017408)) (.v 1))))
 (.cons (.ag (.one 6) (.b .Mult (.v 2) (.b .Sub (.c (.fl 4607182418800017408)) (.b .Mult (.v 1) (.v 4)))))
 (.cons (.ag (.one 7) (.b .Mult (.v 2) (.b .Sub (.c (.fl 4607182418800017408)) (.b .Mult (.v 1) (.b .Sub (.c (.fl 4607182418800017408)) (.v 4))))))
 (.cons (.ag (.one 3) (.b .Mod (.v 3) (.c (.int 6))))
 (.cons (.ie (.q (.v 3) .Eq (.c (.int 0)))
 (.cons (.ret (.t (.cons (.v 2) (.cons (.v 7) (.cons (.v 5) .nil)))))
 .nil)
 .nil)
 (.cons (.ie (.q (.v 3) .Eq (.c (.int 1)))
 (.cons (.ret (.t (.cons (.v 6) (.cons (.v 2) (.cons (.v 5) .nil)))))
 .nil)
 .nil)
 (.cons (.ie (.q (.v 3) .Eq (.c (.int 2)))
 (.cons (.ret (.t (.cons (.v 5) (.cons (.v 2) (.cons (.v 7) .nil)))))
 .nil)
 .nil)
 (.cons (.ie (.q (.v 3) .Eq (.c (.int 3)))
 (.cons (.ret (.t (.cons (.v 5) (.cons (.v 6) (.cons (.v 2) .nil)))))
 .nil)
 .nil)
 (.cons (.ie (.q (.v 3) .Eq (.c (.int 4)))
 (.cons (.ret (.t (.cons (.v 7) (.cons (.v 5) (.cons (.v 2) .nil)))))
 .nil)
 .nil)
 (.cons (.ie (.q (.v 3) .Eq (.c (.int 5)))
 (.cons (.ret (.t (.cons (.v 2) (.cons (.v 5) (.cons (.v 6) .nil)))))
 .nil)
 .nil)
 .nil)))))))))))))
noncomputable def Al:Cs:=(.cons (.ie (.q (.v 0) .Eq (.v 1))
 (.cons (.ret (.c (.int 0)))
 .nil)
 .nil)
 (.cons (.ie (.q (.me (.v 0) .lower .nil) .Eq (.me (.v 1) .lower .nil))
 (.cons (.ret (.gl 6))
 .nil)
 .nil)
 (.cons (.ret (.gl 5))
 .nil)))
noncomputable def AM:Cs:=(.cons (.ie (.q (.v 0) .Eq (.v 1))
 (.cons (.ret (.c (.int 0)))
 .nil)
 .nil)
 (.cons (.ag (.one 3) (.c (.int 0)))
 (.cons (.wl 60 (.and (.cons (.sl (.v 0) (.yes (.v 3)) .no .no) (.cons (.sl (.v 1) (.yes (.v 3)) .no .no) (.cons (.q (.sub (.v 0) (.v 3)) .Eq (.sub (.v 1) (.v 3))) .nil))))
 (.cons (.aug 3 .Add (.c (.int 1)))
 .nil))
 (.cons (.ag (.one 0) (.sl (.v 0) (.yes (.v 3)) .no .no))
 (.cons (.ag (.one 1) (.sl (.v 1) (.yes (.v 3)) .no .no))
 (.cons (.ag (.one 4) (.c (.int 0)))
 (.cons (.wl 60 (.and (.cons (.sl (.v 0) .no (.yes (.or (.cons (.v 4) (.cons (.c .none) .nil)))) .no) (.cons (.sl (.v 1) .no (.yes (.or (.cons (.v 4) (.cons (.c .none) .nil)))) .no) (.cons (.q (.sub (.v 0) (.b .Sub (.v 4) (.c (.int 1)))) .Eq (.sub (.v 1) (.b .Sub (.v 4) (.c (.int 1))))) .nil))))
 (.cons (.aug 4 .Sub (.c (.int 1)))
 .nil))
 (.cons (.ag (.one 0) (.sl (.v 0) .no (.yes (.or (.cons (.v 4) (.cons (.c .none) .nil)))) .no))
 (.cons (.ag (.one 1) (.sl (.v 1) .no (.yes (.or (.cons (.v 4) (.cons (.c .none) .nil)))) .no))
 (.cons (.ie (.or (.cons (.not (.v 0)) (.cons (.not (.v 1)) .nil)))
 (.cons (.ret (.b .Mult (.gl 5) (.b .Add (.bi .len (.cons (.v 0) .nil)) (.bi .len (.cons (.v 1) .nil)))))
 .nil)
 .nil)
 (.cons (.ie (.or (.cons (.q (.bi .len (.cons (.v 0) .nil)) .Gt (.gl 4)) (.cons (.q (.bi .len (.cons (.v 1) .nil)) .Gt (.gl 4)) .nil)))
 (.cons (.ret (.b .Add (.v 2) (.c (.int 1))))
 .nil)
 .nil)
 (.cons (.ie (.q (.bi .len (.cons (.v 1) .nil)) .Lt (.bi .len (.cons (.v 0) .nil)))
 (.cons (.sw 0 1 (.v 1) (.v 0))
 .nil)
 .nil)
 (.cons (.ie (.q (.b .Mult (.b .Sub (.bi .len (.cons (.v 1) .nil)) (.bi .len (.cons (.v 0) .nil))) (.gl 5)) .Gt (.v 2))
 (.cons (.ret (.b .Add (.v 2) (.c (.int 1))))
 .nil)
 .nil)
 (.cons (.own 5 (.lr (.cons (.gl 5) (.cons (.b .Mult (.gl 5) (.b .Add (.bi .len (.cons (.v 0) .nil)) (.c (.int 1)))) (.cons (.gl 5) .nil)))))
 (.cons (.ag (.one 6) (.c (.int 0)))
 (.cons (.lp (.one 7) (.rg (.cons (.bi .len (.cons (.v 1) .nil)) .nil))
 (.cons (.ag (.one 8) (.sub (.v 1) (.v 7)))
 (.cons (.as2 9 6 (.b .Mult (.v 7) (.gl 5)))
 (.cons (.ag (.one 10) (.c (.int 9223372036854775807)))
 (.cons (.lp (.one 11) (.rg (.cons (.bi .len (.cons (.v 0) .nil)) .nil))
 (.cons (.ag (.one 12) (.b .Add (.v 9) (.call 15 (.cons (.v 8) (.cons (.sub (.v 0) (.v 11)) .nil)))))
 (.cons (.as 9 (.sub (.v 5) (.v 11)))
 (.cons (.ag (.one 13) (.b .Add (.bi .min (.cons (.v 6) (.cons (.v 9) .nil))) (.gl 5)))
 (.cons (.ag (.one 6) (.bi .min (.cons (.v 13) (.cons (.v 12) .nil))))
 (.cons (.put 5 (.v 11) (.v 6))
 (.cons (.ie (.q (.v 6) .Lt (.v 10))
 (.cons (.ag (.one 10) (.v 6))
 .nil)
 .nil)
 .nil)))))))
 (.cons (.ie (.q (.v 10) .Gt (.v 2))
 (.cons (.ret (.b .Add (.v 2) (.c (.int 1))))
 .nil)
 .nil)
 .nil))))))
 (.cons (.ret (.v 6))
 .nil)))))))))))))))))
noncomputable def DO:Cs:=(.cons (.ag (.one 3) (.cm (.t (.cons (.b .Mult (.c (.int 1000)) (.v 1)) (.cons (.b .Mult (.c (.int 1000)) (.v 2)) (.cons (.b .Mult (.c (.int 1000)) (.v 3)) .nil)))) (.many [1,2,3]) (.val (.t (.cons (.t (.cons (.v 0) (.cons (.v 1) (.cons (.v 2) .nil)))) (.cons (.t (.cons (.v 2) (.cons (.v 0) (.cons (.v 1) .nil)))) (.cons (.t (.cons (.v 1) (.cons (.v 2) (.cons (.v 0) .nil)))) .nil))))) .no .nil []))
 (.cons (.ag (.one 4) (.cm (.call 13 (.cons (.v 1) (.cons (.v 2) (.cons (.v 3) .nil)))) (.many [1,2,3]) (.val (.v 3)) .no .nil []))
 (.cons (.ag (.one 5) (.cm (.call 10 (.cons (.b .Div (.v 1) (.c (.int 8000))) (.cons (.b .Div (.v 2) (.c (.int 8000))) (.cons (.b .Div (.v 3) (.c (.int 8000))) .nil)))) (.many [1,2,3]) (.val (.v 3)) .no .nil []))
 (.cons (.dc0 6 7)
 (.cons (.lp (.one 8) (.rg (.cons (.c (.int 3)) .nil))
 (.cons (.lp (.one 9) (.rg (.cons (.c (.int 3)) .nil))
 (.cons (.ag (.one 10) (.b .Add (.sub (.c (.str [48,49,50])) (.v 8)) (.sub (.c (.str [48,49,50])) (.v 9))))
 (.cons (.put 6 (.v 10) (.b .Mod (.b .FloorDiv (.bi .int (.cons (.b .Add (.b .Mult (.c (.int 10080)) (.b .Add (.b .Sub (.sub (.sub (.v 4) (.v 9)) (.c (.int 0))) (.sub (.sub (.v 5) (.v 8)) (.c (.int 0)))) (.c (.int 1)))) (.c (.int 1))) .nil)) (.c (.int 2))) (.c (.int 5040))))
 (.cons (.ie (.q (.v 8) .NotEq (.v 9))
 (.cons (.ag (.one 11) (.cm (.b .Add (.v 1) (.v 2)) (.many [1,2]) (.zip (.sub (.v 3) (.v 8)) (.sub (.v 3) (.v 9))) .no .nil []))
 (.cons (.ag (.one 12) (.b .Add (.sub (.call 13 (.cons (.sub (.v 11) (.c (.int 0))) (.cons (.sub (.v 11) (.c (.int 1))) (.cons (.sub (.v 11) (.c (.int 2))) .nil)))) (.c (.int 0))) (.sub (.call 13 (.cons (.c (.int 0)) (.cons (.c (.int 1)) (.cons (.c (.int 1)) .nil)))) (.c (.int 0)))))
 (.cons (.ag (.one 13) (.ite (.q (.v 8) .Lt (.v 9)) (.cm (.b .Mult (.c (.int 2)) (.v 1)) (.one 1) (.val (.call 14 (.cons (.v 12) (.cons (.sub (.sub (.v 4) (.v 8)) (.c (.int 1))) (.cons (.sub (.sub (.v 4) (.v 8)) (.c (.int 2))) .nil))))) .no .nil []) (.cm (.b .Mult (.c (.int 16000)) (.v 1)) (.one 1) (.val (.call 11 (.cons (.v 12) (.cons (.sub (.sub (.v 5) (.v 8)) (.c (.int 1))) (.cons (.sub (.sub (.v 5) (.v 8)) (.c (.int 2))) .nil))))) .no .nil [])))
 (.cons (.put 7 (.v 10) (.sub (.c (.str [48,49,50])) (.me (.v 3) .index (.cons (.bi .tuple (.cons (.cm (.b .FloorDiv (.bi .int (.cons (.b .Add (.v 1) (.c (.int 1))) .nil)) (.c (.int 2))) (.one 1) (.val (.v 13)) .no .nil []) .nil)) .nil))))
 .nil))))
 .nil)
 .nil))))
 .nil))
 (.cons (.ret (.t (.cons (.v 6) (.cons (.v 7) .nil))))
 .nil))))))
noncomputable def EZ:Cs:=(.cons (.ag (.one 3) (.b .Add (.b .Add (.b .Add (.sub (.v 0) (.b .Sub (.v 1) (.c (.int 4)))) (.sub (.v 0) (.b .Sub (.v 1) (.c (.int 1))))) (.sub (.v 0) (.b .Add (.v 1) (.c (.int 1))))) (.sub (.v 0) (.b .Add (.v 1) (.c (.int 4))))))
 (.cons (.ret (.ite (.q (.v 3) .Eq (.b .Mult (.sub (.v 3) (.c (.int 0))) (.c (.int 4)))) (.b .Add (.b .Add (.sl (.v 0) .no (.yes (.v 1)) .no) (.sub (.v 2) (.b .Add (.sub (.v 0) (.v 1)) (.sub (.v 3) (.c (.int 0)))))) (.sl (.v 0) (.yes (.b .Add (.v 1) (.c (.int 1)))) .no .no)) (.v 0)))
 .nil))
noncomputable def DR:Cs:=(.cons (.dc1 2 (.v 0) (.c (.int 0)))
 (.cons (.lp (.one 3) (.rg (.cons (.c (.int 4)) .nil))
 (.cons (.loc (.one 4) (.cm (.v 1) (.one 1) (.val (.v 2)) (.yes (.q (.sub (.v 2) (.v 1)) .Eq (.v 3))) .nil [(2,2),(3,3)])
 (.cons (.lp (.one 5) (.val (.t (.cons (.c (.int 5)) (.cons (.c (.int 6)) (.cons (.c (.int 9)) (.cons (.c (.int 10)) .nil))))))
 (.cons (.ag (.one 6) (.call 18 (.cons (.v 4) (.cons (.v 5) (.cons (.v 1) .nil)))))
 (.cons (.ie (.q (.v 6) .NotIn (.v 2))
 (.cons (.put 2 (.v 6) (.b .Add (.v 3) (.c (.int 1))))
 .nil)
 .nil)
 .nil)))
 .nil))
 .nil))
 (.cons (.ret (.v 2))
 .nil)))
noncomputable def Dv:Cs:=(.cons (.own 2 (.b .Mult (.l (.cons (.neg (.c (.int 1))) .nil)) (.c (.int 6))))
 (.cons (.lp (.one 3) (.rg (.cons (.c (.int 6)) .nil))
 (.cons (.lp (.one 4) (.rg (.cons (.b .Add (.v 3) (.c (.int 1))) (.cons (.c (.int 6)) (.cons (.c (.int 2)) .nil))))
 (.cons (.ie (.and (.cons (.q (.sub (.v 2) (.v 3)) .Lt (.c (.int 0))) (.cons (.q (.b .Add (.sub (.v 0) (.v 3)) (.sub (.v 0) (.v 4))) .Eq (.c (.str [40,41]))) (.cons (.q (.call 2 (.cons (.b .Add (.b .Add (.b .Add (.sub (.v 1) (.c (.int 0))) (.sl (.v 0) (.yes (.v 3)) (.yes (.v 4)) .no)) (.sub (.v 1) (.c (.int 1)))) (.sub (.v 0) (.v 4))) .nil)) .Is (.c (.bool er))) .nil))))
 (.cons (.put 2 (.v 3) (.v 4))
 (.cons (.put 2 (.v 4) (.v 3))
 .nil))
 .nil)
 .nil))
 .nil))
 (.cons (.ret (.v 2))
 .nil)))
noncomputable def Em:Cs:=(.cons (.ret (.cm (.ite (.q (.v 1) .Eq (.v 2)) (.v 3) (.ite (.q (.v 1) .Eq (.v 3)) (.v 2) (.ite (.q (.v 1) .Eq (.sub (.v 4) (.v 2))) (.sub (.v 4) (.v 3)) (.ite (.q (.v 1) .Eq (.sub (.v 4) (.v 3))) (.sub (.v 4) (.v 2)) (.sub (.v 4) (.v 1)))))) (.one 1) (.rg (.cons (.c (.int 6)) .nil)) .no .nil [(2,1),(3,2),(4,0)]))
 .nil)
noncomputable def Zp:Cs:=(.cons (.ag (.many [1,2,3,4,5]) (.cm (.b .Add (.v 2) (.bi .sum (.cons (.cm (.b .Mod (.v 1) (.c (.int 5040))) (.one 1) (.val (.sl (.v 4) (.yes (.v 1)) (.yes (.c (.int 60))) (.yes (.c (.int 5))))) .no .nil []) .nil))) (.many [1,2]) (.en (.t (.cons (.c (.int 92)) (.cons (.c (.int 26)) (.cons (.c (.int 51)) (.cons (.c (.int 1)) (.cons (.c (.int 1234)) .nil))))))) .no .nil [(4,0)]))
 (.cons (.ag (.many [6,7]) (.call 17 (.cons (.b .Add (.c (.int 1)) (.b .Mod (.v 1) (.c (.int 8)))) (.cons (.b .Mod (.b .FloorDiv (.v 1) (.c (.int 8))) (.c (.int 9))) (.cons (.b .Mod (.b .FloorDiv (.v 1) (.c (.int 72))) (.b .Add (.c (.int 1)) (.b .Mod (.v 1) (.c (.int 8))))) .nil)))))
 (.cons (.ag (.one 8) (.b .Mult (.c (.int 1680)) (.b .Add (.c (.int 1)) (.b .Mod (.v 2) (.c (.int 2))))))
 (.cons (.ag (.one 9) (.me (.c (.str [])) .join (.cons (.cm (.sub (.c (.str [48,49,50])) (.b .Mod (.b .Add (.b .FloorDiv (.v 5) (.c (.int 2))) (.b .Mult (.b .Add (.c (.int 1)) (.b .Mod (.v 5) (.c (.int 2)))) (.bi .abs (.cons (.b .Sub (.v 1) (.v 2)) .nil)))) (.c (.int 3)))) (.one 1) (.rg (.cons (.c (.int 4)) .nil)) .no (.cons (.one 2) (.rg (.cons (.c (.int 4)) .nil)) .no .nil) [(5,2)]) .nil)))
 (.cons (.ag (.one 10) (.call 19 (.cons (.v 9) (.cons (.v 7) .nil))))
 (.cons (.ag (.one 11) (.sub (.bi .list (.cons (.v 10) .nil)) (.b .Mod (.b .FloorDiv (.v 2) (.c (.int 6))) (.c (.int 7)))))
 (.cons (.ag (.one 12) (.call 19 (.cons (.v 11) (.cons (.v 7) .nil))))
 (.cons (.ag (.one 13) (.bi .list (.cons (.v 12) .nil)))
 (.cons (.ag (.one 14) (.cm (.call 20 (.cons (.v 1) (.cons (.v 3) (.cons (.v 4) (.cons (.c (.int 0)) .nil))))) (.one 1) (.val (.v 13)) .no .nil [(3,6),(4,8)]))
 (.cons (.ag (.one 15) (.sub (.t (.cons (.c (.str [])) (.cons (.c (.str [45])) (.cons (.c (.str [92,41])) (.cons (.c (.str [34,41,34])) (.cons (.c (.str [34,92,34,40,34])) (.cons (.c (.str [92,92])) (.cons (.c (.str [92,34])) .nil)))))))) (.b .Mod (.b .FloorDiv (.v 3) (.c (.int 2))) (.c (.int 7)))))
 (.cons (.ag (.one 16) (.cm (.me (.c (.str [])) .join (.cons (.cm (.ite (.q (.v 1) .In (.t (.cons (.v 2) (.cons (.v 3) (.cons (.v 4) .nil))))) (.c (.str [40])) (.c (.str [41]))) (.one 1) (.rg (.cons (.c (.int 6)) .nil)) .no .nil [(2,1),(3,2),(4,4)]) .nil)) (.one 1) (.rg (.cons (.c (.int 6)) .nil)) .no (.cons (.one 2) (.rg (.cons (.v 1) .nil)) .no (.cons (.one 4) (.rg (.cons (.v 2) .nil)) .no .nil)) []))
 (.cons (.ag (.one 17) (.cm (.me (.v 2) .join (.cons (.l (.cons (.c (.str [])) (.cons (.sl (.v 1) .no (.yes (.c (.int 3))) .no) (.cons (.sl (.v 1) (.yes (.c (.int 3))) .no .no) (.cons (.c (.str [])) .nil))))) .nil)) (.one 1) (.val (.v 16)) .no .nil [(2,15)]))
 (.cons (.ag (.one 18) (.bi .list (.cons (.v 17) .nil)))
 (.cons (.ag (.one 19) (.cm (.t (.cons (.q (.v 1) .Is (.c (.bool er))) (.cons (.q (.v 1) .Is (.c (.bool fG))) .nil))) (.one 1) (.val (.cm (.call 2 (.cons (.v 1) .nil)) (.one 1) (.val (.v 16)) .no .nil [])) .no .nil []))
 (.cons (.ie (.or (.cons (.q (.call 3 (.cons (.v 18) .nil)) .NotEq (.cm (.ite (.q (.v 1) .In (.v 3)) (.v 2) (.c (.str [40,39,39,44,32,39,39,41]))) (.many [1,2]) (.zip (.v 16) (.v 17)) .no .nil [(3,14)])) (.cons (.q (.v 18) .NotEq (.v 17)) (.cons (.q (.v 19) .NotEq (.cm (.t (.cons (.q (.v 1) .In (.v 2)) (.cons (.q (.v 1) .NotIn (.v 2)) .nil))) (.one 1) (.val (.v 16)) .no .nil [(2,14)])) .nil))))
 (.cons (.ret (.c (.bool fG)))
 .nil)
 .nil)
 (.cons (.ag (.one 20) (.cm (.v 1) (.one 1) (.val (.v 16)) (.yes (.q (.v 1) .In (.v 2))) .nil [(2,14)]))
 (.cons (.ag (.one 21) (.cm (.call 21 (.cons (.v 1) (.cons (.t (.cons (.v 3) (.cons (.v 3) .nil))) .nil))) (.one 1) (.val (.v 20)) .no .nil [(3,15)]))
 (.cons (.ag (.one 22) (.cm (.sub (.v 2) (.me (.v 3) .index (.cons (.v 1) .nil))) (.one 1) (.val (.v 14)) .no .nil [(2,21),(3,20)]))
 (.cons (.ag (.one 23) (.cm (.call 18 (.cons (.call 18 (.cons (.call 18 (.cons (.call 18 (.cons (.v 1) (.cons (.c (.int 5)) (.cons (.v 3) .nil)))) (.cons (.c (.int 10)) (.cons (.v 3) .nil)))) (.cons (.c (.int 6)) (.cons (.v 3) .nil)))) (.cons (.c (.int 9)) (.cons (.v 3) .nil)))) (.one 1) (.val (.v 13)) .no .nil [(3,7)]))
 (.cons (.ag (.one 24) (.cm (.call 21 (.cons (.call 20 (.cons (.v 1) (.cons (.v 4) (.cons (.v 5) (.cons (.c (.int 1)) .nil))))) (.cons (.t (.cons (.c (.str [34,40,34])) (.cons (.c (.str [34])) .nil))) .nil))) (.one 1) (.val (.t (.cons (.sub (.v 23) (.c (.int 0))) (.cons (.v 11) .nil)))) .no .nil [(4,6),(5,8)]))
 (.cons (.ag (.one 25) (.b .Add (.cm (.t (.cons (.sub (.v 3) (.v 1)) (.cons (.sub (.v 3) (.me (.v 2) .index (.cons (.sub (.v 4) (.v 1)) .nil))) .nil))) (.one 1) (.rg (.cons (.c (.int 7)) .nil)) .no .nil [(2,13),(3,22),(4,23)]) (.l (.cons (.t (.cons (.sub (.v 24) (.c (.int 0))) (.cons (.sub (.v 24) (.c (.int 1))) .nil))) .nil))))
 (.cons (.ie (.q (.cm (.cm (.b .Mod (.b .Sub (.sub (.v 2) (.b .Mod (.b .Add (.v 1) (.c (.int 1))) (.c (.int 6)))) (.c (.int 1))) (.c (.int 6))) (.one 1) (.rg (.cons (.c (.int 6)) .nil)) .no .nil [(2,1)]) (.many [1,2]) (.val (.v 25)) .no .nil []) .NotEq (.cm (.v 2) (.many [1,2]) (.val (.v 25)) .no .nil []))
 (.cons (.ret (.c (.bool fG)))
 .nil)
 .nil)
 (.cons (.sw 26 27 (.b .Add (.c (.int 2)) (.b .Mod (.b .FloorDiv (.v 3) (.c (.int 14))) (.c (.int 8)))) (.b .Sub (.c (.int 1)) (.b .Mult (.b .Mod (.v 3) (.c (.int 2))) (.c (.int 2)))))
 (.cons (.ag (.one 28) (.cm (.call 22 (.cons (.v 1) (.cons (.v 2) (.cons (.b .Mod (.b .Add (.v 2) (.c (.int 1))) (.c (.int 6))) .nil)))) (.one 1) (.val (.v 22)) .no (.cons (.one 2) (.rg (.cons (.c (.int 6)) .nil)) .no .nil) []))
 (.cons (.ag (.one 29) (.cm (.me (.v 2) .count (.cons (.v 1) .nil)) (.one 1) (.val (.v 20)) .no .nil [(2,14)]))
 (.cons (.ag (.one 30) (.call 7 (.cons (.cm (.me (.v 2) .count (.cons (.v 1) .nil)) (.one 1) (.val (.v 21)) .no .nil [(2,28)]) (.cons (.v 26) .nil))))
 (.cons (.ag (.one 31) (.call 7 (.cons (.v 29) (.cons (.v 26) .nil))))
 (.cons (.ag (.one 32) (.b .Mod (.v 5) (.v 31)))
 (.cons (.ag (.one 33) (.l (.cons (.call 9 (.cons (.b .Mult (.v 27) (.b .Add (.v 30) (.v 32))) (.cons (.b .Mult (.v 27) (.v 31)) .nil))) (.cons (.call 9 (.cons (.b .Mult (.neg (.v 27)) (.b .Add (.v 30) (.v 32))) (.cons (.b .Mult (.v 27) (.v 31)) .nil))) .nil))))
 (.cons (.ie (.or (.cons (.q (.v 33) .NotEq (.l (.cons (.t (.cons (.c (.int 6)) (.cons (.b .Mult (.v 27) (.v 32)) .nil))) (.cons (.ite (.q (.v 32) .Gt (.c (.int 0))) (.t (.cons (.neg (.c (.int 7))) (.cons (.b .Mult (.v 27) (.b .Sub (.v 31) (.v 32))) .nil))) (.t (.cons (.neg (.c (.int 6))) (.cons (.c (.int 0)) .nil)))) .nil)))) (.cons (.q (.call 6 (.cons (.v 31) (.cons (.v 26) .nil))) .NotEq (.v 29)) .nil)))
 (.cons (.ret (.c (.bool fG)))
 .nil)
 .nil)
 (.cons (.ag (.one 34) (.b .Mult (.b .Sub (.b .Mod (.v 4) (.c (.int 9))) (.c (.int 4))) (.b .Pow (.b .Add (.b .Pow (.c (.int 10)) (.c (.int 9))) (.v 5)) (.b .Mod (.b .FloorDiv (.v 4) (.c (.int 9))) (.c (.int 2))))))
 (.cons (.ag (.one 35) (.t (.cons (.c (.int 0)) (.cons (.c (.int 1)) (.cons (.c (.int 2)) (.cons (.c (.int 4)) (.cons (.c (.int 5)) (.cons (.c (.int 6)) (.cons (.c (.int 8)) (.cons (.c (.int 9)) (.cons (.c (.int 10)) .nil)))))))))))
 (.cons (.ag (.one 36) (.cm (.bi .len (.cons (.cm (.v 1) (.one 1) (.val (.v 4)) (.yes (.q (.sub (.v 2) (.b .Add (.sub (.v 3) (.v 1)) (.sub (.v 3) (.b .Add (.v 1) (.c (.int 5)))))) .Eq (.b .Sub (.c (.int 5040)) (.v 4)))) .nil [(2,3),(3,1),(4,5)]) .nil)) (.one 1) (.val (.v 13)) .no .nil [(3,6),(4,35),(5,8)]))
 (.cons (.ag (.one 37) (.cm (.bi .len (.cons (.cm (.v 1) (.one 1) (.val (.v 4)) (.yes (.and (.cons (.q (.b .Add (.sub (.v 3) (.v 1)) (.sub (.v 3) (.b .Add (.v 1) (.c (.int 1))))) .Eq (.b .Add (.sub (.v 3) (.b .Add (.v 1) (.c (.int 5)))) (.sub (.v 3) (.b .Add (.v 1) (.c (.int 4)))))) (.cons (.q (.sub (.v 2) (.b .Add (.sub (.v 3) (.b .Add (.v 1) (.c (.int 1)))) (.sub (.v 3) (.v 1)))) .Eq (.v 4)) .nil)))) .nil [(2,3),(3,1),(4,5)]) .nil)) (.one 1) (.val (.v 13)) .no .nil [(3,6),(4,35),(5,8)]))
 (.cons (.ag (.one 38) (.bi .sum (.cons (.cm (.b .Mult (.b .Pow (.v 4) (.sub (.v 3) (.v 1))) (.b .Pow (.b .Add (.c (.int 1)) (.v 4)) (.sub (.v 2) (.v 1)))) (.one 1) (.rg (.cons (.c (.int 7)) .nil)) .no .nil [(2,37),(3,36),(4,34)]) .nil)))
 (.cons (.ag (.one 39) (.ite (.q (.v 34) .NotEq (.neg (.c (.int 1)))) (.b .Mod (.v 5) (.b .Pow (.b .Add (.c (.int 1)) (.v 34)) (.c (.int 3)))) (.c (.int 0))))
 (.cons .ju
 (.cons (.ie (.q (.v 33) .NotEq (.ite (.q (.v 34) .NotEq (.neg (.c (.int 1)))) (.t (.cons (.c (.int 1)) (.cons (.v 39) .nil))) (.t (.cons (.c (.str [114,101,102,117,115,101,100])) (.cons (.c (.int 0)) .nil)))))
 (.cons (.ret (.c (.bool fG)))
 .nil)
 .nil)
 (.cons (.ag (.one 40) (.cm (.sub (.c (.str [97,98,107,122])) (.b .Mod (.b .FloorDiv (.v 2) (.b .Pow (.c (.int 4)) (.b .Add (.v 1) (.c (.int 1))))) (.c (.int 4)))) (.one 1) (.rg (.cons (.c (.int 4)) .nil)) .no .nil [(2,5)]))
 (.cons (.ag (.one 41) (.cm (.me (.c (.str [])) .join (.cons (.cm (.ite (.q (.sub (.v 3) (.v 2)) .NotEq (.sub (.v 4) (.v 2))) (.me (.sub (.v 5) (.v 1)) .upper .nil) (.sub (.v 5) (.v 1))) (.many [1,2]) (.en (.t (.cons (.c (.int 5)) (.cons (.c (.int 6)) (.cons (.c (.int 9)) (.cons (.c (.int 10)) .nil)))))) .no .nil [(3,1),(4,3),(5,4)]) .nil)) (.one 1) (.val (.v 13)) .no .nil [(3,9),(4,40)]))
 (.cons (.ag (.one 42) (.cm (.me (.c (.str [])) .join (.cons (.cm (.ite (.q (.sub (.v 3) (.v 2)) .Eq (.sub (.v 5) (.v 2))) (.sub (.v 6) (.v 1)) (.b .Mult (.c (.str [120])) (.b .Mod (.v 4) (.c (.int 2))))) (.many [1,2]) (.en (.t (.cons (.c (.int 5)) (.cons (.c (.int 6)) (.cons (.c (.int 9)) (.cons (.c (.int 10)) .nil)))))) .no .nil [(3,2),(4,1),(5,4),(6,5)]) .nil)) (.many [1,2]) (.en (.v 13)) .no .nil [(4,9),(5,40)]))
 (.cons (.ag (.one 43) (.b .Add (.cm (.t (.cons (.sub (.v 5) (.c (.int 0))) (.cons (.sub (.v 5) (.v 1)) (.cons (.b .Sub (.b .Add (.sub (.v 2) (.sub (.v 3) (.v 1))) (.b .Mod (.v 4) (.c (.int 4)))) (.c (.int 1))) .nil)))) (.one 1) (.rg (.cons (.c (.int 7)) .nil)) .no .nil [(2,12),(3,13),(4,5),(5,41)]) (.cm (.t (.cons (.me (.c (.str [])) .join (.cons (.v 6) .nil)) (.cons (.sub (.v 3) (.v 1)) (.cons (.b .Add (.b .Mult (.c (.int 2)) (.sub (.v 5) (.sub (.v 2) (.v 1)))) (.b .Mod (.v 4) (.c (.int 3)))) .nil)))) (.one 1) (.rg (.cons (.c (.int 7)) .nil)) .no .nil [(2,13),(3,42),(4,5),(5,10),(6,40)])))
 (.cons (.ret (.q (.cm (.call 16 (.cons (.v 1) (.cons (.v 2) (.cons (.v 3) .nil)))) (.many [1,2,3]) (.val (.v 43)) .no .nil []) .Eq (.b .Add (.cm (.sub (.v 2) (.v 1)) (.one 1) (.val (.v 13)) .no .nil [(2,12)]) (.cm (.b .Mult (.c (.int 2)) (.sub (.v 2) (.v 1))) (.one 1) (.val (.v 13)) .no .nil [(2,10)]))))
 .nil)))))))))))))))))))))))))))))))))))))))))))
theorem oN:DA 1 B1=er:=by nofun
theorem nz:DA 2 Bi=er:=by nofun
theorem og:DA 3 BE=er:=by nofun
theorem me:DA 4 CW=er:=by nofun
theorem ma:DA 8 BS=er:=by nofun
theorem pa:DA 9 At=er:=by nofun
theorem fQ:DA 10 EF=er:=by nofun
theorem fA:DA 11 Dx=er:=by nofun
theorem l0:DA 12 eW=er:=by nofun
theorem kU:DA 13 E8=er:=by nofun
theorem jU:DA 14 Dy=er:=by nofun
theorem lW:DA 15 Al=er:=by nofun
theorem lF:DA 16 AM=er:=by nofun
theorem kf:DA 17 DO=er:=by nofun
theorem jb:DA 18 EZ=er:=by nofun
theorem jT:DA 19 DR=er:=by nofun
theorem gC:DA 21 Dv=er:=by nofun
theorem ke:DA 22 Em=er:=by nofun
theorem Lu:EU.map (·.1)=jw:=by nofun
section
variable{p:qK}{g:List pw}{l:z7->Option gx}{mg mb:pw->Option gx}
theorem Ye{Z:Bs}(T:Top p g l Z.mg Z.mb Z.B.heap){d:DefRec}(hd:d∈yu p):∃a,Z.mg d.name=dD (.ref a)/\FnAt Z a d.name d.params d.body d.scope:=by
 (refine cZ (T.fn d hd) λa o r s f i j k b=>?_;refine OP b λc u v t m n w x=>?_)
 (refine eg (T.tab d hd) λJ L M N P y z A B O e Q=>?_;(refine CB λX C=>?_;obtain⟨D,U,h,E,Y,k4⟩:=e<;>refine C ?_))
 have G:=vf (dE (i.symm.trans y));subst G;have H:=dE (j.symm.trans z);subst H;have I:=AEC (k.symm.trans A);subst I;have q:=vf (m.symm.trans B);subst q
 (replace h:=dE (n.symm.trans h);subst h)
 refine⟨a,i,⟨o,r,s,f,j,k,c,u,v,t,m,n,?_,w,x⟩⟩;exact H5 E rfl
structure HV(Z:Bs) where
 fnA:Nat->ls
 fn:∀k n a b sc,EU[k]?=dD (n,a,b,sc)->Z.mg n=dD (.ref (fnA k))/\FnAt Z (fnA k) n a b sc
theorem XC{Z:Bs}(T:Top p g l Z.mg Z.mb Z.B.heap)(f:((yu p).map λd=>(d.name,d.params,d.body,d.scope))=EU):Nonempty (HV Z):=by
 have c:∀k:Nat,∃A:ls,∀q,EU[k]?=dD q->Z.mg q.1=dD (.ref A)/\FnAt Z A q.1 q.2.1 q.2.2.1 q.2.2.2:=λk=>by
  cases h:EU[k]? with
  |none=>exact⟨0,λz e=>nS e⟩
  |some q=>
   refine A2 (u8.mp (f▸qk h)) λd hd e=>A2 (Ye T hd) λA x y=>⟨A,λm i=>?_⟩
   exact dE i▸e▸⟨x,y⟩
 exact⟨⟨λk=>(c k).choose,λk n a b j h=>(c k).choose_spec (n,a,b,j) h⟩⟩
theorem Z'{k:Nat}{n:pw}(h:jw[k]?=dD n):∃a b c,EU[k]?=dD (n,a,b,c):=by
 rw[<-Lu,uF]at h;cases e:EU[k]? with
 |none=>rw[e]at h;exact nS h
 |some q=>rw[e]at h;obtain⟨m,a,b,c⟩:=q;refine dE h▸?_;exact⟨a,b,c,rfl⟩
noncomputable def Gc:List pw:=["len","list","tuple","sum","abs","min","max","int","divmod","range","enumerate","zip","reversed"]
theorem Y':(BI.len::[BI.list,.tuple,.sum,.abs,.min,.max,.int,.divmod]).all (λf=>w8 f.nm==dD f.val)=er:=by nofun
theorem RK:w8 "range" =dD (.type "range")/\w8 "enumerate" =dD (.type "enumerate")/\w8 "zip" =dD (.type "zip")/\w8 "reversed" =dD (.type "reversed"):=by refine⟨?_,?_,?_,?_⟩<;>kernel_rfl
theorem dp(f:BI):f∈BI.len::[BI.list,.tuple,.sum,.abs,.min,.max,.int,.divmod]:=by induction f using BI.casesOn<;>(repeat (first|exact List.Mem.head _|refine List.Mem.tail _ ?_))
theorem Zg(f:BI):f.nm∈Gc/\f.nm≠"__name__" :=by cases f<;>decide
theorem Tq{b x:UInt64}(h:zL b=x)(a:(x==zu)=fG):b=x:=by
 unfold zL at h;split at h
 ·rw[<-h]at a;simp at a
 ·exact h
def kb(d:vD)(v:gx):Prop:=match d with
 |.int i=>∃t,v=.int i t
 |_=>True
theorem QC{h:qX}{v:gx}{d:vD}{a:List ls}(r:Reads h v d a):kb d v:=by
 induction r using Reads.casesOn with
 |int j t=>exact⟨t,rfl⟩
 |_=>trivial
def gS(d:w6)(v:gx):Prop:=match d with
 |.float x=>∃b t,v=.float b t/\zL b=x
 |_=>True
theorem Qd{h:qX}{v:gx}{d:w6}{a:List ls}(r:PySem.W.ReadsLit h v d a):gS d v:=by
 induction r using ACn with
 |float b t=>exact⟨b,t,rfl,rfl⟩
 |_=>trivial
noncomputable def mf(q:pw×w6):Bool:=match q.2 with
 |.float x=>decide ((x==zu)=fG)
 |_=>er
theorem lS:[(("ONE_THIRD" :pw),xI 4599676419421066581),("ONE_SIXTH",.float 4595172819793696085),("TWO_THIRD",.float 4604180019048437077)].all mf=er:=by nofun
theorem j0{Z:Bs}(T:Top p g l Z.mg Z.mb Z.B.heap)(B:HV Z)
  (m:∀x∈Gc,x∉ABc/\x∉g/\x∉(yu p).map (·.name)/\x∉(litsOf p).map (·.1)/\x∉(clssOf p g).map (·.name))
  (V:ABd [("ONE_THIRD",.float 4599676419421066581),("ONE_SIXTH",.float 4595172819793696085),("TWO_THIRD",.float 4604180019048437077)] Z.mg Z.B.heap)
  (D:[("_DIV_LIMIT" :pw),"_MAX_STRING_SIZE","_MOVE_COST","_CASE_COST"].map (valOf p)=[dD (sV 4000),dD (sV 40),dD (sV 2),dD (sV 1)]):
  ∃W:Wd Z,W.fnA=B.fnA:=by
 have r:∀x∈Gc,Z.mg x=eu:=λx E=>JG (m x E) λa b c d e=>T.free x a b c d e;have s:∀x:pw,x≠"__name__" ->Z.mb x=w8 x:=T.builtins;refine D1 RK λG H I J=>?_;have C:∀n x,(n,xI x)∈ [(("ONE_THIRD" :pw),xI 4599676419421066581),("ONE_SIXTH",.float 4595172819793696085),("TWO_THIRD",.float 4604180019048437077)]->∃u:gx,Z.mg n=dD u/\∀w h,VR Z.prog Z.w w h u (.fl x):=λn x y=>by
  refine A2 (V.val _ y) λv z A=>?_;have L:(x==zu)=fG:=of_decide_eq_true (mH.mp lS _ y);exact(Qd A:gS (.float x) v).elim λb e=>e.elim λt e=>⟨v,z,λw h=>e.1▸Tq e.2 L▸.fl _ _⟩
 have j:∀n i,valOf p n=dD (sV i)->∃u:gx,Z.mg n=dD u/\∀w h,VR Z.prog Z.w w h u (.int i):=λn i M=>by
  refine A2 (T.const n _ M) λv z A=>?_;refine⟨v,z,λw h=>?_⟩;exact(QC (A h):kb (.int i) v).elim λt e=>e▸.int _ _
 simp only[pj,ACo,w9]at D;refine JG D λN O Q U X=>?_;refine⟨{fnA:=B.fnA,fn:=λf n h=>?_,bi:=λf=>⟨r _ (Zg f).1,?_⟩,range:=⟨r _ (by decide),(s _ (by decide)).trans G⟩,enum:=⟨r _ (by decide),(s _ (by decide)).trans H⟩,zip:=⟨r _ (by decide),(s _ (by decide)).trans I⟩,rev:=⟨r _ (by decide),(s _ (by decide)).trans J⟩,gl:=λk q h=>?_},rfl⟩
 ·refine Xt (Z' h) λa b Y e=>?_
  (refine CB λX kk=>?_;obtain⟨z,⟨o,pm,cd,a0,A,h3,_⟩⟩:=B.fn f n a b Y e<;>refine kk ?_)
  exact⟨z,o,_,A,h3⟩
 ·rw[s _ (Zg f).2];exact qy (mH.mp Y' f (dp f))
 ·have y:=qk h;simp only[Ni,md,r4,or_false]at y;rcases y with rfl|rfl|rfl|rfl|rfl|rfl|rfl
  ·exact C _ _ (by nofun)
  ·exact C _ _ (by simp)
  ·exact C _ _ (by simp)
  ·exact j _ _ N
  ·exact j _ _ O
  ·exact j _ _ Q
  ·exact j _ _ U
end
noncomputable def DV(k:Nat):t7:=match EU[k]? with
 |some (_,a,_,_)=>a
 |none=>ABe
noncomputable def CN(k:Nat):List pt:=match EU[k]? with
 |some (_,_,b,_)=>b
 |none=>[]
noncomputable def Aq(k:Nat):o5:=match EU[k]? with
 |some (_,_,_,a)=>a
 |none=>ABe
noncomputable def D4(k:Nat):pw:=match EU[k]? with
 |some (n,_,_,_)=>n
 |none=>ABe
noncomputable def Ab(k:Nat):List pw:=(DV k).args.map (·.arg)
theorem Cb{k:Nat}(h:pq k 24=er):EU[k]?=dD (D4 k,DV k,CN k,Aq k):=by
 unfold D4 DV CN Aq;cases e:EU[k]? with
 |none=>
  have a:k<24:=nY h;have b:EU.length=24:=by have:=congrArg ug Lu;rw[px]at this;exact this
  rw[tI]at e
  lia
 |some q=>rfl
noncomputable def jq(a:List (pw×qE))(b:List pw):Bool:=match b with
 |[]=>er
 |p::r=>match a with
  |[]=>fG
  |q::a=>p==q.1&&(q.2== .local||q.2== .cell)&&jq a r
theorem ZA{a:List (pw×qE)}{p n:pw}{k:qE}{r:List pw}:jq ((n,k)::a) (p::r)=(p==n&&(k== .local||k== .cell)&&jq a r):=rfl
noncomputable def Tz(k:Nat):Bool:=(Aq k).isCoroutine==fG&&(Aq k).isGenerator==fG&&(Aq k).kind== .function&&(Aq k).names.all (λp=>p.2 !=.free)&&decide ((Aq k).names.map (·.1)).Nodup&&jq (Aq k).names (Ab k)&&decide (Ab k).Nodup
theorem Pc:∀(c:List pw) (b:List (pw×qE)),jq b c=er->∀(i:Nat) (p:pw),c[i]?=dD p->∃k:qE,b[i]?=dD (p,k)/\(k=.local\/k=.cell)
 |[],_,_,i,p,h=>by simp at h
 |p::r,[],a,i,q,h=>by cases a
 |p::r,(n,k)::b,a,0,q,h=>by
  simp only[ZA,pl,vJ,beq_iff_eq]at a;obtain⟨⟨rfl,d⟩,_⟩:=a;simp only[List.getElem?_cons_zero,ADw]at h;subst h;exact⟨k,rfl,d⟩
 |p::r,(n,k)::b,a,i+1,q,h=>by
  simp only[ZA,pl]at a;simp only[vU]at h⊢;exact Pc r b a.2 i q h
def Ap(k:Nat):Prop:=∀(c d a:gx) (b:List gx),b.length=(Ab k).length->xu (sF (D4 k) (DV k) (CN k) (Aq k) c d a) ⟨b,[]⟩=tS ((Ab k).zip b)
theorem Ax{k:Nat}(h:Tz k=er)(a:Ap k):AZ (D4 k) (DV k) (CN k) (Aq k) (Ab k):=by
 unfold Tz at h;simp only[pl,beq_iff_eq,decide_eq_true_eq]at h
 (refine CB λz b=>?_;obtain⟨⟨⟨⟨⟨⟨c,d⟩,e⟩,f⟩,g⟩,i⟩,j⟩:=h<;>refine b ?_)
 exact⟨c,d,e,λp l q=>by have:=mH.mp f p l;rw[q]at this;simp at this,g,Pc _ _ i,j,a⟩
theorem Aw:[1,2,3,4,5,6,7,8,9,10,11,12,13,14,15,16,17,18,19,20,21,22,23].all Tz=er:=by nofun
@[elab_as_elim] theorem Ac {n:Nat} {P:List gx->Prop} {l:List gx} (h:l.length=n+1) (k:∀a r,r.length=n->P (a::r)):P l:=by
 induction l using lz with
 |nil=>exact absurd h (ABy n).symm
 |cons a r=>exact k a r (ABp h)
@[elab_as_elim] theorem D8 {P:List gx->Prop} {l:List gx} (h:l.length=0) (k:P []):P l:=by rw[tP h];exact k
theorem cB:Ap 1:=by
 intro c d a b h;replace h:b.length=1:=h.trans (by nofun);refine Ac h λz z h=>?_;refine D8 h ?_
 kernel_rfl
theorem oI:AZ (D4 1) (DV 1) (CN 1) (Aq 1) (Ab 1):=Ax (mH.mp Aw 1 (by decide)) cB
theorem iO:(Ab 1).length=1:=by nofun
theorem bv:Ap 2:=by
 intro c d a b h;replace h:b.length=1:=h.trans (by nofun);refine Ac h λz z h=>?_;refine D8 h ?_
 kernel_rfl
theorem pO:AZ (D4 2) (DV 2) (CN 2) (Aq 2) (Ab 2):=Ax (mH.mp Aw 2 (by decide)) bv
theorem fI:(Ab 2).length=1:=by nofun
theorem aQ:Ap 3:=by
 intro c d a b h;replace h:b.length=1:=h.trans (by nofun);refine Ac h λz z h=>?_;refine D8 h ?_
 kernel_rfl
theorem pN:AZ (D4 3) (DV 3) (CN 3) (Aq 3) (Ab 3):=Ax (mH.mp Aw 3 (by decide)) aQ
theorem kA:(Ab 3).length=1:=by nofun
theorem cR:Ap 4:=by
 intro c d a b h;replace h:b.length=3:=h.trans (by nofun);refine Ac h λz z h=>?_;refine Ac h λz z h=>?_;refine Ac h λz z h=>?_;refine D8 h ?_
 kernel_rfl
theorem nr:AZ (D4 4) (DV 4) (CN 4) (Aq 4) (Ab 4):=Ax (mH.mp Aw 4 (by decide)) cR
theorem hY:(Ab 4).length=3:=by nofun
theorem dc:Ap 6:=by
 intro c d a b h;replace h:b.length=2:=h.trans (by nofun);refine Ac h λz z h=>?_;refine Ac h λz z h=>?_;refine D8 h ?_
 kernel_rfl
theorem p9:AZ (D4 6) (DV 6) (CN 6) (Aq 6) (Ab 6):=Ax (mH.mp Aw 6 (by decide)) dc
theorem hG:(Ab 6).length=2:=by nofun
theorem dL:Ap 7:=by
 intro c d a b h;replace h:b.length=2:=h.trans (by nofun);refine Ac h λz z h=>?_;refine Ac h λz z h=>?_;refine D8 h ?_
 kernel_rfl
theorem my:AZ (D4 7) (DV 7) (CN 7) (Aq 7) (Ab 7):=Ax (mH.mp Aw 7 (by decide)) dL
theorem jl:(Ab 7).length=2:=by nofun
theorem bG:Ap 8:=by
 intro c d a b h;replace h:b.length=2:=h.trans (by nofun);refine Ac h λz z h=>?_;refine Ac h λz z h=>?_;refine D8 h ?_
 kernel_rfl
theorem oM:AZ (D4 8) (DV 8) (CN 8) (Aq 8) (Ab 8):=Ax (mH.mp Aw 8 (by decide)) bG
theorem io:(Ab 8).length=2:=by nofun
theorem cg:Ap 9:=by
 intro c d a b h;replace h:b.length=2:=h.trans (by nofun);refine Ac h λz z h=>?_;refine Ac h λz z h=>?_;refine D8 h ?_
 kernel_rfl
theorem kR:AZ (D4 9) (DV 9) (CN 9) (Aq 9) (Ab 9):=Ax (mH.mp Aw 9 (by decide)) cg
theorem aD:(Ab 9).length=2:=by nofun
theorem Z0:Ap 10:=by
 intro c d a b h;replace h:b.length=3:=h.trans (by nofun);refine Ac h λz z h=>?_;refine Ac h λz z h=>?_;refine Ac h λz z h=>?_;refine D8 h ?_
 kernel_rfl
theorem jR:AZ (D4 10) (DV 10) (CN 10) (Aq 10) (Ab 10):=Ax (mH.mp Aw 10 (by decide)) Z0
theorem dY:(Ab 10).length=3:=by nofun
theorem YG:Ap 11:=by
 intro c d a b h;replace h:b.length=3:=h.trans (by nofun);refine Ac h λz z h=>?_;refine Ac h λz z h=>?_;refine Ac h λz z h=>?_;refine D8 h ?_
 kernel_rfl
theorem jN:AZ (D4 11) (DV 11) (CN 11) (Aq 11) (Ab 11):=Ax (mH.mp Aw 11 (by decide)) YG
theorem eF:(Ab 11).length=3:=by nofun
theorem Yk:Ap 12:=by
 intro c d a b h;replace h:b.length=3:=h.trans (by nofun);refine Ac h λz z h=>?_;refine Ac h λz z h=>?_;refine Ac h λz z h=>?_;refine D8 h ?_
 kernel_rfl
theorem jk:AZ (D4 12) (DV 12) (CN 12) (Aq 12) (Ab 12):=Ax (mH.mp Aw 12 (by decide)) Yk
theorem cN:(Ab 12).length=3:=by nofun
theorem XD:Ap 13:=by
 intro c d a b h;replace h:b.length=3:=h.trans (by nofun);refine Ac h λz z h=>?_;refine Ac h λz z h=>?_;refine Ac h λz z h=>?_;refine D8 h ?_
 kernel_rfl
theorem kG:AZ (D4 13) (DV 13) (CN 13) (Aq 13) (Ab 13):=Ax (mH.mp Aw 13 (by decide)) XD
theorem bD:(Ab 13).length=3:=by nofun
theorem Xl:Ap 14:=by
 intro c d a b h;replace h:b.length=3:=h.trans (by nofun);refine Ac h λz z h=>?_;refine Ac h λz z h=>?_;refine Ac h λz z h=>?_;refine D8 h ?_
 kernel_rfl
theorem jf:AZ (D4 14) (DV 14) (CN 14) (Aq 14) (Ab 14):=Ax (mH.mp Aw 14 (by decide)) Xl
theorem dx:(Ab 14).length=3:=by nofun
theorem Yt:Ap 15:=by
 intro c d a b h;replace h:b.length=2:=h.trans (by nofun);refine Ac h λz z h=>?_;refine Ac h λz z h=>?_;refine D8 h ?_
 kernel_rfl
theorem jP:AZ (D4 15) (DV 15) (CN 15) (Aq 15) (Ab 15):=Ax (mH.mp Aw 15 (by decide)) Yt
theorem cH:(Ab 15).length=2:=by nofun
theorem XU:Ap 16:=by
 intro c d a b h;replace h:b.length=3:=h.trans (by nofun);refine Ac h λz z h=>?_;refine Ac h λz z h=>?_;refine Ac h λz z h=>?_;refine D8 h ?_
 kernel_rfl
theorem kT:AZ (D4 16) (DV 16) (CN 16) (Aq 16) (Ab 16):=Ax (mH.mp Aw 16 (by decide)) XU
theorem aJ:(Ab 16).length=3:=by nofun
theorem XE:Ap 17:=by
 intro c d a b h;replace h:b.length=3:=h.trans (by nofun);refine Ac h λz z h=>?_;refine Ac h λz z h=>?_;refine Ac h λz z h=>?_;refine D8 h ?_
 kernel_rfl
theorem iy:AZ (D4 17) (DV 17) (CN 17) (Aq 17) (Ab 17):=Ax (mH.mp Aw 17 (by decide)) XE
theorem da:(Ab 17).length=3:=by nofun
theorem Wm:Ap 18:=by
 intro c d a b h;replace h:b.length=3:=h.trans (by nofun);refine Ac h λz z h=>?_;refine Ac h λz z h=>?_;refine Ac h λz z h=>?_;refine D8 h ?_
 kernel_rfl
theorem iZ:AZ (D4 18) (DV 18) (CN 18) (Aq 18) (Ab 18):=Ax (mH.mp Aw 18 (by decide)) Wm
theorem cK:(Ab 18).length=3:=by nofun
theorem Yr:Ap 19:=by
 intro c d a b h;replace h:b.length=2:=h.trans (by nofun);refine Ac h λz z h=>?_;refine Ac h λz z h=>?_;refine D8 h ?_
 kernel_rfl
theorem jS:AZ (D4 19) (DV 19) (CN 19) (Aq 19) (Ab 19):=Ax (mH.mp Aw 19 (by decide)) Yr
theorem bX:(Ab 19).length=2:=by nofun
theorem XA:Ap 20:=by
 intro c d a b h;replace h:b.length=4:=h.trans (by nofun);refine Ac h λz z h=>?_;refine Ac h λz z h=>?_;refine Ac h λz z h=>?_;refine Ac h λz z h=>?_;refine D8 h ?_
 kernel_rfl
theorem l5:AZ (D4 20) (DV 20) (CN 20) (Aq 20) (Ab 20):=Ax (mH.mp Aw 20 (by decide)) XA
theorem aU:(Ab 20).length=4:=by nofun
theorem Wz:Ap 21:=by
 intro c d a b h;replace h:b.length=2:=h.trans (by nofun);refine Ac h λz z h=>?_;refine Ac h λz z h=>?_;refine D8 h ?_
 kernel_rfl
theorem kI:AZ (D4 21) (DV 21) (CN 21) (Aq 21) (Ab 21):=Ax (mH.mp Aw 21 (by decide)) Wz
theorem ej:(Ab 21).length=2:=by nofun
theorem Ys:Ap 22:=by
 intro c d a b h;replace h:b.length=3:=h.trans (by nofun);refine Ac h λz z h=>?_;refine Ac h λz z h=>?_;refine Ac h λz z h=>?_;refine D8 h ?_
 kernel_rfl
theorem iE:AZ (D4 22) (DV 22) (CN 22) (Aq 22) (Ab 22):=Ax (mH.mp Aw 22 (by decide)) Ys
theorem eL:(Ab 22).length=3:=by nofun
theorem YL:Ap 23:=by
 intro c d a b h;replace h:b.length=1:=h.trans (by nofun);refine Ac h λz z h=>?_;refine D8 h ?_
 kernel_rfl
theorem kD:AZ (D4 23) (DV 23) (CN 23) (Aq 23) (Ab 23):=Ax (mH.mp Aw 23 (by decide)) YL
theorem dv:(Ab 23).length=1:=by nofun
noncomputable def Kc(b:Cl)(n:Nat)(c:Cs)(a:List V):Option V:=match lf a.length n with
 |true=>Dg b c a
 |false=>eu
noncomputable def ij:List (Nat×Nat×Cs):=[(1,1,B1),(2,1,Bi),(3,1,BE),(4,3,CW),(8,2,BS),(9,2,At),(10,3,EF),(11,3,Dx),(12,3,eW),(13,3,E8),(14,3,Dy),(15,2,Al),(16,3,AM),(17,3,DO),(18,3,EZ),(19,2,DR),(21,2,Dv),(22,3,Em)]
noncomputable def Kd:List (Nat×Nat×Cs)->Nat->Option (Nat×Cs)
 |[],_=>eu
 |q::r,f=>match lf q.1 f with
  |true=>dD q.2
  |false=>Kd r f
theorem WW{x:Nat}{q:Nat×Nat×Cs}{r:List (Nat×Nat×Cs)}:Kd (q::r) x=
  match q.fst.beq x with
  |true=>dD q.snd
  |false=>Kd r x:=rfl
noncomputable def gn(H:Nat->List V->Option V)(b:Cl):Cl:=λf a=>match Kd ij f with
 |some p=>Kc b p.1 p.2 a
 |none=>H f a
noncomputable def AR(H:Nat->List V->Option V):Nat->Cl
 |0=>λz z=>eu
 |n+1=>gn H (AR H n)
def Ng(Z:Bs)(W:Wd Z)(H:Nat->List V->Option V)(n:Nat):Prop:=∀f c x,H f c=dD x->∀A b s d,OkA n A->Inv Z s->(∀a,s.heap.get? a=eu->b a)->VRs Z.prog Z.w b s.heap d c->
 WP Z A (t9 (.ref (W.fnA f)) d) (Gv Z b s x) s
theorem Nl{b:Cl}{n:Nat}{c:Cs}{a:List V}{x:V}(h:Kc b n c a=dD x):a.length=n/\Dg b c a=dD x:=by unfold Kc at h;refine bS h λe h=>?_;exact⟨lk e,h⟩
theorem OI{Z:Bs}{n:Nat}{f:Cl}(O:Z.Ok)(W:Wd Z)(g:HV Z)(o:W.fnA=g.fnA)(p:B2 Z W f n)(q:Av Z W n){k m:Nat}{c:Cs}(r:pq k 24=er)(b:DA k c=er)(t:AZ (D4 k) (DV k) (CN k) (Aq k) (Ab k))(u:(Ab k).length=m)
  {j:List V} {x:V} (h:Kc f m c j=dD x) {A:mx} {d:ls->Prop} {s:lb} {l:List gx} (v:OkA (n+1) A) (i:Inv Z s) (w:∀a,s.heap.get? a=eu->d a) (y:VRs Z.prog Z.w d s.heap l j):WP Z A (t9 (.ref (W.fnA k)) l) (Gv Z d s x) s:=by
 obtain⟨z,B⟩:=Nl h;have e:=Cb r;have C:C1 (Aq k) c (CN k)=er:=by unfold DA at b;rw[e]at b;exact b
 rw[o];exact Qm O W p q (g.fn k _ _ _ _ e).2 t C (z.trans u.symm) B v i w y
noncomputable def On{a:Type}(P:a->Prop):List a->Prop
 |[]=>True
 |i::r=>P i/\On P r
theorem On.all{a:Type}{P:a->Prop}:∀{l:List a},On P l->∀i∈l,P i
 |[],_,_,h=>nomatch h
 |_::_,h,_,b=>(md.mp b).elim (λe=>e▸h.1) λq=>On.all h.2 _ q
theorem MG{P:Nat×Nat×Cs->Prop}{f:Nat}{p:Nat×Cs}:∀{l},On P l->Kd l f=dD p->P (f,p)
 |[],_,h=>nS h
 |q::r,g,h=>by
  rewrite [WW]at h
  split at h
  ·rename_i e;have e:=lk e;have h:=dE h;subst e h;exact g.1
  ·exact MG g.2 h
def qr(q:Nat×Nat×Cs):Prop:=pq q.1 24=er/\DA q.1 q.2.2=er/\AZ (D4 q.1) (DV q.1) (CN q.1) (Aq q.1) (Ab q.1)/\(Ab q.1).length=q.2.1
theorem Xv:On qr ij:=⟨⟨rfl,oN,oI,iO⟩,⟨rfl,nz,pO,fI⟩,⟨rfl,og,pN,kA⟩,⟨rfl,me,nr,hY⟩,⟨rfl,ma,oM,io⟩,⟨rfl,pa,kR,aD⟩,⟨rfl,fQ,jR,dY⟩,⟨rfl,fA,jN,eF⟩,⟨rfl,l0,jk,cN⟩,⟨rfl,kU,kG,bD⟩,⟨rfl,jU,jf,dx⟩,⟨rfl,lW,jP,cH⟩,⟨rfl,lF,kT,aJ⟩,⟨rfl,kf,iy,da⟩,⟨rfl,jb,iZ,cK⟩,⟨rfl,jT,jS,bX⟩,⟨rfl,gC,kI,ej⟩,⟨rfl,ke,iE,eL⟩,trivial⟩
set_option tactic.hygienic true in
theorem Qr{Z:Bs}{n:Nat}{a:Cl}{H:Nat->List V->Option V}(O:Z.Ok)(W:Wd Z)(b:HV Z)(g:W.fnA=b.fnA)(j:B2 Z W a n)(l:Av Z W n)(HH:Ng Z W H (n+1)):B2 Z W (gn H a) (n+1):=by
 intro f m x h A o s q c i k d;unfold gn at h;split at h
 ·rename_i p e;have⟨r,t,u,v⟩:=MG Xv e;exact OI O W b g j l r t u v h c i k d
 ·exact HH f m x h A o s q c i k d
theorem K1{Z:Bs}{H:Nat->List V->Option V}(O:Z.Ok)(W:Wd Z)(a:HV Z)(b:W.fnA=a.fnA)(c:∀n,Av Z W (n+1))(HH:∀n,Ng Z W H (n+8)):∀n,B2 Z W (AR H n) (n+7)
 |0=>λf d x h=>by cases h
 |n+1=>Qr O W a b (K1 O W a b c HH n) (c (n+6)) (HH n)
def Yv(a:ls)(l:List Nat)(t:yE)(i:Nat)(h:qX):Prop:=h.IsStrIter a (uw (AP l)) (AP l) t i
theorem N'(l:List Nat):(AP l).cps.size=l.length:=AU l
theorem Sh{prog:qK}{w:sO}{A:mx}(d:A.handled=eu)(a:ls)(l:List Nat)(t:yE):Draws prog w A a [a] l.length (λi v=>∃c u,l[i]?=dD c/\v=.str (AP [c]) u) (Yv a l t):=by
 have e:∀(i:Nat) (v:gx),(∃c u,(AP l).cps[i]?=dD c/\v=ABb ⟨#[c]⟩ u)↔ ∃c u,l[i]?=dD c/\v=.str (AP [c]) u:=λi v=>by
  have:(AP l).cps[i]?=l[i]?:=by show(l.toArray)[i]?=l[i]?;simp
  rw[this];rfl
 cases f:(AP l).cps.all (·<128)
 ·have b:uw (AP l)="str_iterator" :=by simp[uw,f]
  have:=Draws.strWide (prog:=prog) (w:=w) (A:=A) d a (AP l) t;simp only[e,N']at this;unfold Yv;rw[b];exact this
 ·have b:uw (AP l)="str_ascii_iterator" :=by simp[uw,f]
  have:=Draws.strAscii (prog:=prog) (w:=w) (A:=A) d a (AP l) t;simp only[e,N']at this;unfold Yv;rw[b];exact this
theorem CA{a:ls}{l:List Nat}{t:yE}{i:Nat}{h:qX}(x:Yv a l t i h):∃o T,h.get? a=dD o/\o.cls=.type T/\T≠"code" :=by refine AW x λo b c z=>?_;refine⟨o,_,b,c,?_⟩;unfold uw;split<;>decide
noncomputable def lH(c:Nat):V:=.str [c]
section
variable{Z:Bs}(O:Z.Ok){A:mx}
def JS(e b:ls)(l:List Nat)(t:yE)(_:ls->Prop)(c:List V)(s:lb):Prop:=∃i a,i<=l.length/\c=Fl i ((l.drop i).map lH)/\AAL s.heap e b i a/\Yv b l t i s.heap
include O in
theorem OY{m:List f0}{L}{w:tE}{e h:ls}{l:List Nat}{t:yE}{ok:ls->Prop}{x:V}{H:List V}{s:lb}(M:A.handled=eu)
  (n:e≠h) (z:Z.B.heap.get? e=eu) (B:Z.B.heap.get? h=eu) (N:JS e h l t ok (x::H) s) (C:∀a,s.heap.get? a=eu->ok a) (D:∀b,b=e\/b=h->¬ok b):
  WP Z A (tb (.ref e)) (λr o=>∃v,r=dD v/\Ch Z (λb=>b=e\/b=h) (λX=>False) s o/\WP Z A (rA (.Tuple m L w) (.ref e) v) (λX f=>VR Z.prog Z.w ok f.heap v x/\JS e h l t ok H f/\Ch Z (λb=>b=e\/b=h) (λX=>False) o f) o) s:=
 HI N λi Q U I Y hj=>by
  rw[zm]at I;refine AW (J2 I) λy hd e1 J=>?_;rw[uF]at hd;refine A2 (Option.map_eq_some_iff.mp hd) λc E ey=>?_;rw[<-zm]at J;exact A1 (J1 (y:=y) O (Sh (A:=A.in1) M h l t) (λX X j=>CA j) Y hj (qR.mp E).1 n (λq=>n (qw.mp q)) z B C D λu h' hP X=>AE hP λp tu G zz=>ey▸zz▸dE (E.symm.trans G)▸VR.str _ _)
   λX o g=>AW g λv e p g=>⟨v,e,p,A1 g λX f g=>JG g λa b d k p=>b.elim λu b=>⟨e1▸a,⟨i+1,u,(qR.mp E).1,J,b,d⟩,p⟩⟩
end
section
variable{prog:qK}{w:sO}{A:mx}{E:gx->lb->Prop}{s:lb}
theorem Hq{a:ls}{g n:Nat}{q:xv}{P:Nat->lb->lb->Prop}{Y:AAT}{Q:Option gx->lb->Prop}(z:A.handled=eu)
  (C:s.heap.NoLimit) (h:A.depth<uj) (t:s.heap.IsGen a g) (p:s.gens[g]?=dD q)
  (l:q.Goes (qQ prog w) A.in1 (λn i r e=>r=.ok (.ret .none)/\P n i e) Y n (.send .none) (s.setGen g .running))
  (D:∀v e f,f.bare=er->Y (n-1) (s.setGen g .running) v e (λG u=>match n with
    |0=>False
    |m+1=>f.Goes (qQ prog w) A.in1 (λn i r e=>r=.ok (.ret .none)/\P n i e) Y m G u)->Q (dD v) (e.setGen g f))
  (I:∀e,P n (s.setGen g .running) e->∀B,(∀b o,e.heap.get? b=dD o->B.get? b=dD o)->Q eu {e.setGen g .finished with heap:=B}):
  qH (qQ prog w) A (tb (.ref a)) Q E s:=by
 unfold tb;refine fX (AAx (sS (name:=sj "__next__") t.typeIs AD7
  (tz AD7 t.typeIs entry_gen_next ?_ (args_gen_next _))))
 show qH _ A.in1 (xx (.ref a) (.send .none)) _ _ s;unfold xx;refine fX (tU (wpAny_genNumber t (fX (wpAny_genState p ?_))));induction q using ACp with
 |running=>exact l.elim
 |finished=>exact l.elim
 |_=>
  refine fX (wpAny_roomToWake C h ?_);refine wpAny_resumeQ p l (λx e J=>?_) (λv e f y L=>mM ⟨v,rfl,mM (D v e f y L)⟩);obtain⟨rfl,N⟩:=J;show qH _ A.in1 (AAJ (.type "StopIteration") [] >>= _) _ _ _;refine fX ?_;rw[AAJ,AAK];refine fX (sP ?_ (by size_fits));refine fX (m:=ul _ _) (yI (a:=wA) (by first|rfl|(simp only[ul];rfl)) ?_);refine sP ?_ (by size_fits);rw[ABz];refine fX (fX (ye ?_))
  first|rw[show A.in1.handled=eu from z]|rw[z]
  refine zj ?_;refine fX (zW (T:="StopIteration") (b:=true) ⟨_,mA _ rfl,rfl⟩ AAM ?_);exact mM (I e N _ λb o y=>lh _ (lh _ y))
end
section
variable{M:Model}{A:mx}{R:GenEnd}{Y:AAT}{n:Nat}{i:lb}{c:Code}{j:List Frame}{s:lb}{d:t8}
 {K:xg->xL Fin} {H:gx->xL Fin} {k:Bool->Bool} {lv:List gx->List gx}
theorem Nn{e:f0}{f a:List pt}{g:tE}
  (h:qH M (A.over c j) (isTrue e d (tW e d)) (λb l=>zR M A R Y n i c ((uO (if b=er then f else a) d).wrap K H k lv) j l) (λz z=>False) s):
  zR M A R Y n i c ((yL (.If e f a g) d).wrap K H k lv) j s:=by
 simp only[exec_If];refine seg_at ?_;show zR M A R Y n i c ((isTrue e d (tW e d) >>= λb=>if b=er then uO f d else uO a d).wrap K H k lv) j s;rw[uL,vL];refine xJ (pF h (λb l m=>?_) λz z=>False.elim);cases b
 ·exact m
 ·exact m
noncomputable abbrev Gj(K:xg->xL Fin)(H:gx->xL Fin)(k:Bool->Bool)(lv:List gx->List gx)(d:t8)(c:Code)(p:tE):Frame:=
 .ret (λr=>((match r with|.ok f=>(.pure f:xL xg)|.error e=>.raise e).onRaise λ(x:gx)=>do
    if(<-yd x 1)==wA then unsupported "frame.own-activation:exception-without-traceback"
    setFlight x d.frame).wrap K H k lv) eu (k fG) (lv []) c p []
theorem X0{a e:f0}{f b:List pt}{r:tE}(t:∀x,wL e d x=tS x)
  (h:qH M (A.over c j) (tW e d) (λx g=>qH M (A.over c j) (wK x) (λm l=>∀p,zR M A R Y n i (.forLoop a m f b d) (M.den (.forLoop a m f b d)) (Gj K H k lv d c p::j) l) (λz z=>False) g) (λz z=>False) s):
  zR M A R Y n i c ((yL (.For a e f b r) d).wrap K H k lv) j s:=by
 simp only[exec_For];refine seg_at ?_;show zR M A R Y n i c ((tW e d >>= λy=>wL e d y >>= λx=>xV e.pos >>= λz=>zy [x] (wK x) >>= λm=>runOwn (.forLoop a m f b d) d).wrap K H k lv) j s;rw[uL,vL];refine xJ (pF h (λx g o=>?_) λz z=>False.elim);rw[t x,yQ];refine seg_at ?_;show zR M A R Y n i c ((zy [x] (wK x) >>= λm=>runOwn (.forLoop a m f b d) d).wrap K H _ _) j g;rw[uL,vL];refine xJ (tU (pF o (λm l q=>?_) λz z=>False.elim));exact seg_call q
end
section
variable{prog:qK}{w:sO}{A:mx}{R:GenEnd}{Y:AAT}{n:Nat}{i:lb}{j:List Frame}{s:lb}{d:t8}
noncomputable abbrev Zs(a:f0)(e:gx)(b:List pt)(d:t8):xg->xL Fin:=λf=>match f with
 |.next|.cont=>.pure (.again (.forLoop a e b [] d))
 |.brk=>.pure (.done .next)
 |.ret v=>.pure (.done (.ret v))
noncomputable abbrev Ze(d:t8):gx->xL Fin:=λe=>(do wY e d;tc e:xL Unit).wrap (λz=>.raise e) .raise id id
theorem Hf{a:f0}{g:gx}{b:List pt}
  (h:qH (qQ prog w) (A.over (.forLoop a g b [] d) j) (tb g) (λr l=>match r with
   |none=>zR (qQ prog w) A R Y n i (.forLoop a g b [] d) (.pure (.again (.block [] d))) j l
   |some v=>qH (qQ prog w) (A.over (.forLoop a g b [] d) j) (rA a g v) (λz m=>qH (qQ prog w) (A.over (.forLoop a g b [] d) j) (uT a d v)
     (λz o=>zR (qQ prog w) A R Y n i (.forLoop a g b [] d) ((uO b d).wrap (Zs a g b d) (Ze d) id id) j o) (λz z=>False) m) (λz z=>False) l) (λz z=>False) s):
  zR (qQ prog w) A R Y n i (.forLoop a g b [] d) ((qQ prog w).den (.forLoop a g b [] d)) j s:=by
 show zR _ A R Y n i _ ((z5 a g b [] d).onRaise (λx=>do wY x d;tc x)) j s;unfold z5;rw[Sem.onRaise_eq_wrap];refine seg_at ?_;show zR _ A R Y n i _ (AA0 _ _ _ _ ((tb g).onRaise (λz=>xV {a.pos with line:=0}) >>= _)) j s;rw[uL,vL];refine xJ (xd (pF h (λr l p=>?_) λz z=>False.elim));induction r using m8 with
 |none=>exact p
 |some v=>
  show zR _ A R Y n i _ (AA0 _ _ _ _ (rA a g v >>= _)) j l;rw[uL,vL];refine xJ (pF p (λz m q=>?_) λz z=>False.elim);show zR _ A R Y n i _ (AA0 _ _ _ _ (uT a d v >>= _)) j m;rw[uL,vL];refine xJ (pF q (λz o t=>?_) λz z=>False.elim);show zR _ A R Y n i _ (AA0 _ _ _ _ (uO b d >>= _)) j o;rw[uL,vL];rw[Sem.wrap_congr (uO b d) _ _ (K':=Zs a g b d) (H':=Ze d)
    (λf=>by cases f<;>rfl)
    (λe=>by first|exact AB7 _ _|(show(do wY e d;tc e:xL Unit).bind (λz=>.raise e)=_;rw[AB7]))]
  exact t
end
theorem Aa{Z:Bs}{n:Nat}{A:mx}{e:Cl}(O:Z.Ok)(W:Wd Z)(f:B2 Z W e n)(x:X):PX Z n A e x:=
 X.rec (motive_1:=PX Z n A e) (motive_2:=PL Z n A e) (motive_3:=PO Z n A e) (motive_4:=PG Z n A e) (motive_5:=PI Z n A e)
  (λz=>Zx O) (λz=>Zl O) (λz=>Z9 O W) (λz z z a b=>ZS O a b) (λz a=>aC O a) (λz a=>ZZ O a) (λz a=>ZE O a) (λz a=>Zq a) (λz a=>jV a)
  (λz z z a b=>ZO O a b) (λz z z a b c=>ZU a b c) (λz z a b=>Z8 O a b) (λz z z z a b c d=>Zz O a b c d) (λz z a=>Sv O W f a) (λz z a=>ki O W a) (λz a=>Th O W a)
  (λz z z a b=>VB O a b) (λz a=>ZV O a) (λz a=>ZH O a) (λz z z z z z a b c d=>Un O a b c d)
  Vl (λz z a b=>Ow O a b) aZ (λz a=>UU a) OS (λz z z z a b c=>Lf a b c)
  (λz a=>V6 a O) (λz a=>TR O W a) (λz z a b=>Ve O W a b) (λz a=>VD O W a) (λz a=>TO O W a) (λz z=>SG) x
noncomputable def D9:Cl:=λz z=>eu
theorem Au{Z:Bs}(W:Wd Z)(n:Nat):B2 Z W D9 n:=λz z z h=>by exact nomatch h
section
variable{Z:Bs}{A:mx}{j:o5}{g:t8}{r w:ls->Prop}{s l:lb}{t:Ev}
theorem EnvR.storeL(O:Z.Ok)(R:EnvR Z j g r s.heap t){i:Nat}{u:gx}{v:V}{n:pw}(a:j.names[i]?=dD (n,.local))(b:VR Z.prog Z.w r s.heap u v):
  WP Z A (t5 g n u) (λz l=>EnvR Z j g r l.heap (t.put i v)/\Ch Z (Fo j g) (λz=>False) s l/\l.heap.objs.size=s.heap.objs.size) s:=
 A1 (R.storeGl O a) λz z h=>⟨h.1 _ (U9 b),h.2.1,h.2.2.2.2⟩
theorem EnvR.flatMove{h d:qX}(R:EnvR Z j g r h t)(p:g.cells=[])(q:∀i v,t.get i=dD v->By v=er)(z:∀o,h.get? g.locals=dD o->d.get? g.locals=dD o)(nl:¬w g.locals):EnvR Z j g w d t:=by
 have f:∀{n c},g.cells.lookup n=dD c->False:=λ{n c} e=>by rw[p]at e;exact nomatch e
 refine{R with ns:=?_,cl:=λi v n k e a b=>?_,cx:=λn c e=>(f e).elim,nl:=nl}
 ·refine A2 R.ns λm a b=>?_;refine⟨m,a.at' z,λi v n e c=>?_⟩;refine A2 (b i v n e c) λu x y=>?_;exact⟨u,x,BZ (q i v e) y⟩
 ·refine AE (R.cl i v n k e a b) λc u x s=>?_;exact(f x).elim
theorem So{v:V}{c:ABG}{k:_}{pp:_}{Q:gx->lb->Prop}(h:Qp v c=er)(a:∀{u:gx} {tk:yE},VR Z.prog Z.w r s.heap u v->Q u {s with toks:=tk}):WP Z A (tW (.Constant c k pp) g) Q s:=
 VQ (P:=λv c=>(∀{u:gx} {tk:yE},VR Z.prog Z.w r s.heap u v->Q u {s with toks:=tk})->WP Z A (tW (.Constant c k pp) g) Q s) h
  (λa=>(mM (a (tk:=s.toks) .none)))
  (λz a=>(mM (a (tk:=s.toks) (.bool _))))
  (λz a=>ACY (a (.int _ _))) (λz a=>wj (a (.str _ _))) (λz a=>AB4 (a (.fl _ _))) a
theorem LK(O:Z.Ok)(R:EnvR Z j g r s.heap t){i:Nat}{v:V}{n:pw}(x:j.names[i]?=dD (n,.local))(E:By v=er){st:pt}(y:Bm j (.ag (.one i) (.c v)) st=er):
  WP Z A (yL st g) (λf l=>f=.next/\EnvR Z j g r l.heap (t.put i v)/\Ch Z (Fo j g) (λY=>False) s l/\l.heap.objs.size=s.heap.objs.size) s:=by
 (obtain⟨m,q,e,p,z,B,C⟩:=IJ y<;>try simp only[z])
 refine BU (LL C) λc k pp b h=>b▸BY (by rfl) ?_;have a:=B;unfold BA at a;rw[x]at a;rw[pl,beq_iff_eq]at a;obtain⟨rfl,_⟩:=a;have o:∀{u:gx} {d:yE},VR Z.prog Z.w r s.heap u v->WP Z A (uT (.Name n q) g u) (λY l=>u9=.next/\EnvR Z j g r l.heap (t.put i v)/\Ch Z (Fo j g) (λY=>False) s l/\l.heap.objs.size=s.heap.objs.size) {s with toks:=d}:=λ{u d} D=>by
  have S:Same Z s {s with toks:=d}:=Same.tok O;refine uU (A1 (EnvR.storeL (s:={s with toks:=d}) O R x D) (λY G h=>?_));exact⟨rfl,h.1,S.ch.trans h.2.1,h.2.2⟩
 exact So h o
end
noncomputable def Y1:X:=.t (.cons (.v 1) (.cons (.b .Add (.c (.str [92])) (.v 3)) .nil))
noncomputable def Y2:X:=.t (.cons (.v 1) (.cons (.v 3) .nil))
noncomputable def Y3:X:=.t (.cons (.v 1) (.cons (.c (.str [92])) .nil))
noncomputable def T2:X:=.q (.v 3) .Eq (.c (.str [92]))
inductive IsGen(p:o5)(y:List pt):Prop
 |mk (s1) (s2) (te) (ie) (t1) (y1) (q1) (q2) (s3) (t2) (s4) (y2) (q3) (q4) (q5) (q6) (q7) (t3) (y3) (q8) (q9) (q10):y=[s1,s2,(.For te ie [(.If t1 [(.Expr (.Yield (dD y1) q1) q2),s3] [(.If t2 [s4] [(.Expr (.Yield (dD y2) q3) q4)] q5)] q6)] [] q7),(.If t3 [(.Expr (.Yield (dD y3) q8) q9)] [] q10)]->Bm p (.ag (.one 1) (.c (.int 0))) s1=er->Bm p (.ag (.one 2) (.c (.bool fG))) s2=er->D2 p (.many [1,3]) te=er->Gh p (.en (.v 0)) ie=er->AH p (.v 2) t1=er->AH p Y1 y1=er->Bm p (.ag (.one 2) (.c (.bool fG))) s3=er->AH p T2 t2=er->Bm p (.ag (.one 2) (.c (.bool er))) s4=er->AH p Y2 y2=er->AH p (.v 2) t3=er->AH p Y3 y3=er->IsGen p y
theorem Xu:IsGen (Aq 0) (CN 0):=⟨_,_,_,_,_,_,_,_,_,_,_,_,_,_,_,_,_,_,_,_,_,_,rfl,by nofun,by nofun,by nofun,by nofun,by nofun,by nofun,by nofun,by nofun,by nofun,by nofun,by nofun,by nofun⟩
def Kp(Z:Bs)(fp:ls->Prop)(s E:lb):Prop:=(∀b o,fp b->s.heap.get? b=dD o->AB o=fG->E.heap.get? b=dD o)/\Inv Z E
noncomputable def MQ(Z:Bs)(L:List V)(a:ls)(C:xE)(fp:ls->Prop)(gp:Nat->Prop):AAT:=λm g v E c=>∃x,L[L.length-1-m]?=dD x/\VR Z.prog Z.w (λb=>g.heap.get? b=eu/\¬fp b) E.heap v x/\Ch Z fp gp g E/\(∀b,fp b->∃o,E.heap.get? b=dD o/\AB o=fG)/\E.heap.get? a=dD C/\∀w,Kp Z fp E w->c (.send .none) w
noncomputable def dO(Z:Bs)(fp:ls->Prop)(gp:Nat->Prop):Nat->lb->lb->Prop:=λn g b=>n=0/\Ch Z fp gp g b
noncomputable def MU(Z:Bs)(fp:ls->Prop)(gp:Nat->Prop):GenEnd:=λn g r b=>r=.ok (.ret .none)/\dO Z fp gp n g b
noncomputable def JE(e z:ls)(l:List Nat)(t:yE)(i:Nat):Bool->lb->Prop
 |true,s=>JS e z l t (λy=>False) (Fl i ((l.drop i).map lH)) s
 |false,s=>(∃o,s.heap.get? e=dD o/\AB o=fG)/\∃o,s.heap.get? z=dD o/\AB o=fG
structure GI(Z:Bs)(p:o5)(d:t8)(l:List Nat)(t:yE)(a:ls)(C:xE)(z e:ls)(fp:ls->Prop)(gp:Nat->Prop)(g s:lb)(i:Nat)(B:Bool)(ρ:Ev)(on:Bool):Prop where
 R:EnvR Z p d (λb=>¬fp b) s.heap ρ
 r0:ρ.get 0=dD (.str l)
 r1:ρ.get 1=dD (.int ((i-1:Nat):Int))
 r2:ρ.get 2=dD (.bool B)
 fl:∀j v,ρ.get j=dD v->By v=er
 inv:Inv Z s
 js:JE e z l t i on s
 ch:Ch Z fp gp g s
 le:i<=l.length
 es:B=er->0<i
 lv:s.heap.get? a=dD C/\AB C=fG
section
variable{Z:Bs}(O:Z.Ok){I:mx}{p:o5}{d:t8}{l:List Nat}{t:yE}{a z e:ls}{C:xE}{fp:ls->Prop}{gp:Nat->Prop}{g s E w:lb}{i:Nat}{B on:Bool}{ρ:Ev}
theorem JS.keep{j:List V}{ok ok':ls->Prop}(h:JS e z l t ok j s)(k:∀b o,b=e\/b=z->s.heap.get? b=dD o->AB o=fG->E.heap.get? b=dD o):JS e z l t ok' j E:=by refine HI h λi c f n q u=>?_;refine AW u λo v m r=>?_;exact⟨i,c,f,n,k _ _ (.inl rfl) q rfl,o,k _ _ (.inr rfl) v (A9 m),m,r⟩
theorem JE.keep{on:Bool}(h:JE e z l t i on s)(j:∀b o,b=e\/b=z->s.heap.get? b=dD o->AB o=fG->E.heap.get? b=dD o):JE e z l t i on E:=by
 induction on using qV with
 |true=>exact JS.keep (ok:=λy=>False) (ok':=λy=>False) h j
 |false=>
  (obtain⟨c,f⟩:=h;obtain⟨o,n,k⟩:=c;refine A2 f λq r m=>?_)
  exact⟨⟨o,j _ _ (.inl rfl) n k,k⟩,q,j _ _ (.inr rfl) r m,m⟩
theorem JE.liveT{on:Bool}(h:JE e z l t i on s){b:ls}(f:b=e\/b=z):∃o,s.heap.get? b=dD o/\AB o=fG:=by
 induction on using qV with
 |true=>
  refine HI h λi j k u m n=>?_;refine BJ (CA n) λv T q r y=>?_
  ((rcases f with c|c<;>try (replace c:=c.symm;subst c))<;>try rw[c])
  ·exact⟨_,m,rfl⟩
  ·exact⟨_,q,A9 r⟩
 |false=>(rcases f with c|c<;>(replace c:=c.symm;subst c));exact h.1;exact h.2
theorem JE.live{on:Bool}(h:JE e z l t i on s){b:ls}(c:b=e\/b=z):∃o,s.heap.get? b=dD o:=(h.liveT c).imp λy q=>q.1
structure Ad(p:o5)(d:t8)(a z e:ls)(fp:ls->Prop):Prop where
 fp:∀b,fp b↔(b=d.locals\/b=a\/b=z\/b=e)
 ne:e≠z
 nl:e≠d.locals/\z≠d.locals
 na:a≠d.locals/\a≠e/\a≠z
 cells:d.cells=[]
theorem Ja{b:ls->Prop}{h:qX}(R:EnvR Z p d b h ρ):∃o,h.get? d.locals=dD o/\AB o=fG:=by refine A2 R.ns λm x z=>?_;refine AW (An x) λo e t z=>?_;exact⟨o,e,t⟩
variable(D:Ad p d a z e fp)
include D
theorem GI.live(G:GI Z p d l t a C z e fp gp g s i B ρ on){b:ls}(f:fp b):∃o,s.heap.get? b=dD o:=by
 (rcases(D.fp b).mp f with c|c|c|c<;>(replace c:=c.symm;refine c▸?_))
 ·refine A2 (Ja G.R) λo e y=>?_;exact⟨o,e⟩
 ·exact⟨C,G.lv.1⟩
 ·exact G.js.live (.inr rfl)
 ·exact G.js.live (.inl rfl)
theorem Ad.fo{b:ls}(h:Fo p d b):fp b:=by
 rcases h with rfl|⟨n,_,h⟩
 ·exact(D.fp _).mpr (.inl rfl)
 ·rw[D.cells]at h;exact nomatch h
theorem Ad.fo_l{b:ls}(h:Fo p d b):b=d.locals:=by
 rcases h with rfl|⟨n,_,h⟩
 ·rfl
 ·rw[D.cells]at h;exact nomatch h
theorem GI.st(G:GI Z p d l t a C z e fp gp g s i B ρ on){A:mx}(c:OkA 0 A):St Z 0 A p d (λb=>s.heap.get? b=eu) s ρ:=by refine⟨c,G.R.flatMove D.cells G.fl (λy e=>e) ?_,G.inv,λy h=>h⟩;refine A2 (Ja G.R) λo e y=>?_;intro q;exact sN (e.symm.trans q)
theorem GI.put{r:lb}{h:Ev}{k:Bool}(G:GI Z p d l t a C z e fp gp g s i B ρ on)(R:EnvR Z p d (λb=>¬fp b) r.heap h)(c:Ch Z (Fo p d) (λy=>False) s r)
  (r0:h.get 0=dD (.str l)) (r1:h.get 1=dD (.int ((i-1:Nat):Int))) (r2:h.get 2=dD (.bool k)) (fl:∀j v,h.get j=dD v->By v=er) (es:k=er->0<i):GI Z p d l t a C z e fp gp g r i k h on:=by
 refine⟨R,r0,r1,r2,fl,c.inv G.inv,G.js.keep λb o u q m=>c.heap b o q m λf=>?_,G.ch.trans (c.mono (λb y y f=>Ad.fo D f) λy y q=>q.elim),G.le,es,?_⟩
 ·have:=Ad.fo_l D f
  (rcases u with n|n<;>(replace n:=n.symm;subst n))
  ·exact D.nl.1 this
  ·exact D.nl.2 this
 ·obtain⟨q,m⟩:=G.lv;exact⟨c.heap _ _ q m λf=>D.na.1 (Ad.fo_l D f),m⟩
theorem GI.resume(G:GI Z p d l t a C z e fp gp g s i B ρ on)(S:Same Z s E)(j:Kp Z fp E w):GI Z p d l t a C z e fp gp w w i B ρ on:=by
 have k:∀b o,fp b->s.heap.get? b=dD o->AB o=fG->w.heap.get? b=dD o:=λb o f e c=>j.1 b o f (S.heap b o e c) c;refine⟨?_,G.r0,G.r1,G.r2,G.fl,j.2,G.js.keep λb o n q c=>k b o ((D.fp b).mpr ?_) q c,Ch.refl,G.le,G.es,?_⟩
 ·refine G.R.flatMove D.cells G.fl (λo e=>?_) λq=>q ((D.fp _).mpr (.inl rfl));refine A2 (Ja G.R) λr m c=>?_
  (replace e:=dE (m.symm.trans e);subst e)
  exact k _ _ ((D.fp _).mpr (.inl rfl)) m c
 ·((rcases n with h|h<;>try (replace h:=h.symm;subst h))<;>try rw[h])
  ·exact .inr (.inr (.inr rfl))
  ·exact .inr (.inr (.inl rfl))
 ·obtain⟨q,c⟩:=G.lv;exact⟨k _ _ ((D.fp _).mpr (.inr (.inl rfl))) q c,c⟩
include O in
theorem KR(W:Wd Z)(G:GI Z p d l t a C z e fp gp g s i B ρ on){c:Code}{j:List Frame}(U:OkA 0 (I.over c j)){n:Nat}{L:List V}{x:X}{y:f0}{v:V}{m r:tE}{K:xg->xL Fin}{H:gx->xL Fin}(Y:AH p x y=er)(hv:ev D9 x ρ=dD v)
  (hL:L[L.length-1-n]?=dD v) (A:splitAtGen j=eu) (J:j.any Frame.guarded=fG) (M:d.scope.isCoroutine=fG) (hi:uv d=fG)
  (k:∀w,GI Z p d l t a C z e fp gp w w i B ρ on->zR (qQ Z.prog Z.w) I (MU Z fp gp) (MQ Z L a C fp gp) n w c (K .next) j w):
  zR (qQ Z.prog Z.w) I (MU Z fp gp) (MQ Z L a C fp gp) (n+1) g c ((yL (.Expr (.Yield (dD y) m) r) d).wrap K H id id) j s:=by
 refine seg_Expr_Yield A rfl J (pF ((Aa O W (Au W 0) x p y Y).1 d _ s ρ v hv (G.st D U)) (λu s1 h1 a0 hk=>?_) λT T=>False.elim) M hi;obtain⟨hu,S⟩:=h1;refine⟨v,hL,hu.mono (λT T T e T=>e) λb T q T=>?_,G.ch.trans S.ch,λb hb=>?_,S.heap _ _ G.lv.1 G.lv.2,λw kp=>hk .none w (k w (G.resume D S kp))⟩
 ·have N:¬fp b:=λf=>by
   obtain⟨o,e⟩:=G.live D f;exact nS (q.symm.trans e)
  exact⟨G.ch.live b N q,N⟩
 ·obtain⟨o,e,Q⟩:∃o,s.heap.get? b=dD o/\AB o=fG:=by
   (rcases(D.fp b).mp hb with h|h|h|h<;>(replace h:=h.symm;refine h▸?_))
   ·exact Ja G.R
   ·exact⟨C,G.lv⟩
   ·exact G.js.liveT (.inr rfl)
   ·exact G.js.liveT (.inl rfl)
  exact⟨o,S.heap _ _ e Q,Q⟩
end
section
variable{Z:Bs}(O:Z.Ok){y:mx}{n:o5}{d:t8}{l:List Nat}{t:yE}{a u e:ls}{r:xE}{fp:ls->Prop}{p:Nat->Prop}{m s x w:lb}{i:Nat}{g on:Bool}{k:Ev}
theorem GI.same(G:GI Z n d l t a r u e fp p m s i g k on)(S:Same Z s x):GI Z n d l t a r u e fp p m x i g k on:=by refine⟨G.R.same S,G.r0,G.r1,G.r2,G.fl,S.inv G.inv,G.js.keep λb o z q c=>S.heap b o q c,G.ch.trans S.ch,G.le,G.es,?_⟩;obtain⟨q,c⟩:=G.lv;exact⟨S.heap _ _ q c,c⟩
theorem PV(h:k.get 2=dD (.bool g)):tr (ev D9 (.v 2) k)=dD g:=by rw[Af,h];rfl
theorem ir{j:Nat}(b:k.get 1=dD (.int (j:Int))):ev D9 Y3 k=dD (.t [.int j,.str [92]]):=by simp only[Y3,C6,Af,ER,Bt,Bj,b,Hw,A5];rfl
theorem go{j:Nat}{c:Nat}(b:k.get 1=dD (.int (j:Int)))(f:k.get 3=dD (.str [c])):ev D9 Y2 k=dD (.t [.int j,.str [c]]):=by simp only[Y2,Af,ER,Bt,Bj,b,f,Hw,A5];rfl
theorem jW{j:Nat}{c:Nat}(b:k.get 1=dD (.int (j:Int)))(f:k.get 3=dD (.str [c])):ev D9 Y1 k=dD (.t [.int j,.str [92,c]]):=by simp only[Y1,C6,Af,Do,ER,Bt,Bj,b,f,Hw,A5];rfl
theorem kH{c:Nat}(b:k.get 3=dD (.str [c])):tr (ev D9 T2 k)=dD (lf c 92):=by
 simp only[T2,C6,Af,DW,b];cases h:lf c 92 with
 |true=>have:=lk h;rw[this];rfl
 |false=>
  have:c≠92:=mP h;have q:KP (.str [c]) (.str [92])=dD fG:=by show dD (FW [c] [92])=_;rw[HU];simp[this]
  simp only[Cd,q,Ao,tr,AI]
noncomputable abbrev K0:xg->xL Fin:=λf=>.pure (.done (.ret (match f with|.ret v=>v|_=>.none)))
noncomputable abbrev H0(d:t8):gx->xL Fin:=λe=>(leaving d e).wrap (λz=>.raise e) .raise id id
noncomputable abbrev KF(SI:pt)(d:t8):xg->xL Fin:=λf=>match f with|.next=>(uO [SI] d).wrap K0 (H0 d) id id|f=>K0 f
variable(D:Ad n d a u e fp)
include D O
theorem WQ(W:Wd Z)(G:GI Z n d l t a r u e fp p m s i g k on){c:List pt}(A:OkA 0 (y.over (.func c d) [])){L o:List V}(B:L=o++Br i g []){q C:f0}{H I J:tE}(M:AH n (.v 2) q=er)(N:AH n Y3 C=er)
  (v:d.scope.isCoroutine=fG) (Q:uv d=fG):
  zR (qQ Z.prog Z.w) y (MU Z fp p) (MQ Z L a r fp p) (Br i g []).length m (.func c d) ((uO [.If q [.Expr (.Yield (dD C) H) I] [] J] d).wrap K0 (H0 d) id id) [] s:=by
 refine tX (Nn (pF ((Aa O W (Au W 0) (.v 2) n q M).2 d _ s k g (PV G.r2) (G.st D A)) (λb s1 h=>?_) λx x f=>f.elim));obtain⟨rfl,S⟩:=h;have z:=G.same S;induction b using qV with
 |false=>refine vZ (vZ ?_);exact seg_end (.ok (.ret .none)) ⟨rfl,rfl,z.ch⟩
 |true=>
  obtain⟨j,E⟩:∃j,i=j+1:=⟨_,(z8 (G.es rfl)).symm⟩
  have U:Br i er []=[.t [.int j,.str [92]]]:=by rw[E];rfl
  rw[U]at B⊢;refine tX (KR O D W z A N (ir (j:=j) (by have:=z.r1;rw[E]at this;exact this)) (by rw[B];simp) rfl rfl v Q λw Y=>?_);refine vZ (vZ ?_);exact seg_end (.ok (.ret .none)) ⟨rfl,rfl,Y.ch⟩
end
section
variable{prog:qK}{w:sO}{A:mx}{E:gx->lb->Prop}{s:lb}
theorem QU{b:ls}{x:pw}{t:yE}{i:Nat}{Q:gx->lb->Prop}(f:A.handled=eu)
  (a:s.heap.IsStrIter b "str_ascii_iterator" x t i) (g:x.cps[i]?=eu)
  (h:∀c e,sm b s.heap c->(∃o,c.get? b=dD o/\AB o=fG)->(∃o,c.get? e=dD o/\o.cls=.type "StopIteration")->E (.ref e) {s with heap:=c}):
  qH (qQ prog w) A (qT (.ref b)) Q E s:=by
 refine AW (id a) λo d j hd=>?_;unfold qT;refine fX (sS (name:=sj "__next__") a.typeIs zM
  (tz zM a.typeIs F.entry_str_ascii_iterator_next ?_ (F.args_str_ascii_iterator_next_1 _)))
 show qH _ _ (yd (.ref b) 0 >>= _) _ _ s;refine fX (ut d hd (x:=.str x t) rfl ?_);show qH _ _ (yd (.ref b) 1 >>= _) _ _ s;refine fX (ut d hd (x:=.int i 0) rfl ?_);simp only[p7,g];refine fX (x4 (fX (yH d hd (by simp) (fX (zk ?_)))));show qH _ _ (AAJ (.type "StopIteration") [] >>= _) _ _ _;refine fX ?_;simp only[AAJ,AAK];refine fX (sP ?_ (by size_fits));refine fX (m:=ul _ _) (yI (a:=wA) (by first|rfl|(simp only[ul];rfl)) ?_);refine sP ?_ (by size_fits);rw[ABz];refine fX (ye ?_)
 first|rw[show A.in1.handled=eu from f]|rw[f]
 refine fX (mM (zj ?_));exact h _ _ (((tO ..).extBut.push _).push _) ⟨_,lh _ (lh _ (uu _ d (xn (wq hd _)))),A9 ((yW ..).trans j)⟩ ⟨_,mA _ rfl,rfl⟩
theorem Vf{b:ls}{x:pw}{t:yE}{i:Nat}{Q:gx->lb->Prop}(f:A.handled=eu)
  (a:s.heap.IsStrIter b "str_iterator" x t i) (g:x.cps[i]?=eu)
  (h:∀c e,sm b s.heap c->(∃o,c.get? b=dD o/\AB o=fG)->(∃o,c.get? e=dD o/\o.cls=.type "StopIteration")->E (.ref e) {s with heap:=c}):
  qH (qQ prog w) A (qT (.ref b)) Q E s:=by
 refine AW (id a) λo d j hd=>?_;unfold qT;refine fX (sS (name:=sj "__next__") a.typeIs AAU
  (tz AAU a.typeIs F.entry_str_iterator_next ?_ (F.args_str_iterator_next_1 _)))
 show qH _ _ (yd (.ref b) 0 >>= _) _ _ s;refine fX (ut d hd (x:=.str x t) rfl ?_);show qH _ _ (yd (.ref b) 1 >>= _) _ _ s;refine fX (ut d hd (x:=.int i 0) rfl ?_);simp only[p7,g];refine fX (x4 (fX (yH d hd (by simp) (fX (zk ?_)))));show qH _ _ (AAJ (.type "StopIteration") [] >>= _) _ _ _;refine fX ?_;simp only[AAJ,AAK];refine fX (sP ?_ (by size_fits));refine fX (m:=ul _ _) (yI (a:=wA) (by first|rfl|(simp only[ul];rfl)) ?_);refine sP ?_ (by size_fits);rw[ABz];refine fX (ye ?_)
 first|rw[show A.in1.handled=eu from f]|rw[f]
 refine fX (mM (zj ?_));exact h _ _ (((tO ..).extBut.push _).push _) ⟨_,lh _ (lh _ (uu _ d (xn (wq hd _)))),A9 ((yW ..).trans j)⟩ ⟨_,mA _ rfl,rfl⟩
theorem X9{b:ls}{l:List Nat}{t:yE}{Q:gx->lb->Prop}(d:A.handled=eu)(a:Yv b l t l.length s.heap)
  (f:∀c e,sm b s.heap c->(∃o,c.get? b=dD o/\AB o=fG)->(∃o,c.get? e=dD o/\o.cls=.type "StopIteration")->E (.ref e) {s with heap:=c}):
  qH (qQ prog w) A (qT (.ref b)) Q E s:=by
 have g:(AP l).cps[l.length]?=eu:=by show(l.toArray)[l.length]?=eu;simp
 unfold Yv at a;cases h:(AP l).cps.all (·<128)
 ·rw[show uw (AP l)="str_iterator" from by simp[uw,h]]at a;exact Vf d a g f
 ·rw[show uw (AP l)="str_ascii_iterator" from by simp[uw,h]]at a;exact QU d a g f
theorem OF{a e:ls}{l:List Nat}{t:yE}{c:gx}{Q:Option gx->lb->Prop}(i:A.handled=eu)
  (g:AAL s.heap e a l.length c) (j:Yv a l t l.length s.heap) (k:∀b,sm a s.heap b->(∃o,b.get? a=dD o/\AB o=fG)->Q eu {s with heap:=b}):qH (qQ prog w) A (tb (.ref e)) Q E s:=by
 have h:s.TypeIs (.ref e) "enumerate" :=⟨_,g,rfl⟩
 unfold tb;refine fX (AAx (sS (name:=sj "__next__") h ABN
  (tz ABN h F.entry_enumerate_next ?_ (F.args_enumerate_next_1 _))))
 show qH _ _ (yd (.ref e) 2 >>= _) _ _ _;refine fX (ut g rfl (x:=.ref a) rfl ?_);refine fX (X9 (A:=A.in1) i j λb x d m f=>?_);refine A2 f λo n p=>?_;refine fX (zW (T:="StopIteration") (b:=true) ⟨o,n,p⟩ AAM ?_);exact mM (k _ d m)
end
section
variable{M:Model}{z:mx}{R:GenEnd}{Y:AAT}{I:List Frame}{g:t8}{u:o5}{c:Code}{U:List pt}{KK:xg->xL Fin}{HH:gx->xL Fin}{G:lb->lb->Nat->Bool->Ev->Bool->Prop}{l:List Nat}{L:List V}
theorem dC{C:Bool->List V->Prop}{i x:Nat}{r:List Nat}(b:C er (Br (i+1) er r))(f:C fG (.t [.int i,.str [x]]::Br (i+1) fG r)):C (lf x 92) (Br i fG (x::r)):=by
 simp only[Ox];induction lf x 92 using qV with
 |true=>exact b
 |false=>exact f
theorem DY{ρ:Ev}{x:V}{i:Nat}(h:∀j v,ρ.get j=dD v->By v=er)(b:By x=er)(j:Nat)(v:V)(q:(ρ.put i x).get j=dD v):By v=er:=by
 rw[Ev.get_put]at q;by_cases e:i=j
 ·rw[if_pos e]at q;exact dE q▸b
 ·rw[if_neg e]at q;exact h j v q
theorem WF{n:Nat}{d s:lb}{m:xL Fin}(b:m=.pure (.again c))(f:c.quiet=er)(h:zR M z R Y n d c (M.den c) I s):zR M z R Y n d c m I s:=b▸seg_again f h
theorem Z1{i j:Nat}{x:List Nat}(h:Fl i ([]:List V)=Fl j (x.map lH)):x=[]:=by cases x with|nil=>rfl|cons x r=>cases h
theorem RC{t1 t2 y1 Q:f0}{s3 s4:pt}{p1 p2 p3 p4 p5 p6:tE}(hq:c.quiet=er)(o:KK .next=.pure (.again c))
  (a0:U=[.If t1 [.Expr (.Yield (dD y1) p1) p2,s3] [.If t2 [s4] [.Expr (.Yield (dD Q) p3) p4] p5] p6])
  (h1:AH u (.v 2) t1=er) (a1:AH u Y1 y1=er) (a2:Bm u (.ag (.one 2) (.c (.bool fG))) s3=er) (h2:AH u T2 t2=er)
  (a3:Bm u (.ag (.one 2) (.c (.bool er))) s4=er) (a4:AH u Y2 Q=er)
  (g1:∀{d s i b ρ},G d s (i+1) b ρ er->ρ.get 1=dD (.int (i:Int))) (g2:∀{d s i b ρ},G d s i b ρ er->ρ.get 2=dD (.bool b))
  (hs:∀{d s i b ρ pre},l.drop i=[]->G d s i b ρ er->L=pre++Br i b []->zR M z R Y (Br i b []).length d c (M.den c) I s)
  (hn:∀{n d s i b ρ x r},l.drop i=x::r->G d s i b ρ er->(∀sx k,G d sx (i+1) b k er->k.get 3=dD (.str [x])->zR M z R Y n d c ((uO U g).wrap KK HH id id) I sx)->zR M z R Y n d c (M.den c) I s)
  (ht:∀{d s i b ρ x t v} {P:Bool->lb->Prop},AH u x t=er->tr (ev D9 x ρ)=dD v->G d s i b ρ er->(∀f,G d f i b ρ er->P v f)->qH M (z.over c I) (isTrue t g (tW t g)) P (λw w=>False) s)
  (ha:∀{d s i b ρ st v} {P:xg->lb->Prop} {E:gx->lb->Prop},Bm u (.ag (.one 2) (.c (.bool v))) st=er->G d s (i+1) b ρ er->(∀f A,G d f (i+1) v A er->P .next f)->qH M (z.over c I) (yL st g) P E s)
  (hy:∀{d s i b ρ x y v n p q K H},G d s i b ρ er->AH u x y=er->ev D9 x ρ=dD v->L[L.length-1-n]?=dD v->(∀f,G f f i b ρ er->zR M z R Y n f c (K .next) I f)->zR M z R Y (n+1) d c ((yL (.Expr (.Yield (dD y) p) q) g).wrap K H id id) I s):
  ∀(r:List Nat) (i:Nat) (b:Bool) (ρ:Ev) (d s:lb) (pre:List V),l.drop i=r->G d s i b ρ er->L=pre++Br i b r->zR M z R Y (Br i b r).length d c (M.den c) I s:=by
 intro r;induction r with
 |nil=>exact λi b ρ d s pre=>hs
 |cons x r ih=>
  intro i b ρ d s pre hd G0 h;have B:l.drop (i+1)=r:=by rw[<-ACE,hd];rfl
  have j:∀{v d sa b ρ st K H pre},L=pre++Br (i+1) v r->Bm u (.ag (.one 2) (.c (.bool v))) st=er->G d sa (i+1) b ρ er->K .next=.pure (.again c)->
    zR M z R Y (Br (i+1) v r).length d c ((uO [st] g).wrap K H id id) I sa:=by
   intro v d sa b ρ st K H pre h a5 Ga o;refine tX (xJ (ha a5 Ga λsb A Gb=>?_));exact vZ (WF o hq (ih (i+1) _ _ _ _ _ B Gb h))
  refine hn hd G0 λsx k m g3=>?_;rw[a0];refine tX (Nn (ht h1 (PV (g2 m)) m λs1 m=>?_));induction b using qV with
  |true=>exact tX (hy m a1 (jW (g1 m) g3) (by rw[h];simp[WE,Ox,TJ,Vy]) λs2 C=>j (pre:=pre++ [.t [.int i,.str [92,x]]]) (by simp only[h];simp[WE,Ox,TJ,Vy]) a2 C o)
  |false=>
   refine tX (Nn (ht h2 (kH g3) m λs2 C=>?_));exact dC (C:=λb l=>L=pre++l->zR M z R Y l.length d c ((uO (if b=er then [s4]else [.Expr (.Yield (dD Q) p3) p4]) g).wrap _ _ id id) I s2) (λh=>j (pre:=pre) h a3 C o)
    (λh=>tX (hy C a4 (go (g1 C) g3) (by rw[h];simp) λs3 G3=>vZ (vZ (WF o hq (ih (i+1) fG _ _ _ (pre++ [.t [.int i,.str [x]]]) B G3 (by simp only[h];simp)))))) h
end
section
variable{Z:Bs}(O:Z.Ok){z:mx}{u:o5}{g:t8}{l:List Nat}{t:yE}{a J e:ls}{N:xE}{fp:ls->Prop}{gp:Nat->Prop}{d s:lb}{i:Nat}{w:Bool}{ρ:Ev}
variable(D:Ad u g a J e fp)
include D
theorem Ad.up{b:ls}(q:b=e\/b=J):fp b:=(D.fp b).mpr (.inr (.inr q.symm))
theorem Ad.nle{b:ls}(h:b=g.locals\/b=a)(q:b=e\/b=J):False:=
 h.elim (λh=>q.elim (λq=>D.nl.1 (q.symm.trans h)) λq=>D.nl.2 (q.symm.trans h)) λh=>q.elim (λq=>D.na.2.1 (h.symm.trans q)) λq=>D.na.2.2 (h.symm.trans q)
theorem SX(G:GI Z u g l t a N J e fp gp d s i w ρ er){x:ls}(b:s.heap.get? x=eu):¬fp x:=λf=>(G.live D f).elim λz q=>nS (b.symm.trans q)
include O
theorem Rj{A:mx}{Q:Option gx->lb->Prop}(C:A.handled=eu)(E:∀b,fp b->Z.B.heap.get? b=eu)(hd:l.drop i=[])(G:GI Z u g l t a N J e fp gp d s i w ρ er)
  (k:∀h,GI Z u g l t a N J e fp gp d {s with heap:=h} i w ρ fG->Q eu {s with heap:=h}):qH (qQ Z.prog Z.w) A (tb (.ref e)) Q (λz z=>False) s:=by
 refine HI G.js λH a0 v x n p=>?_;have j:H=l.length:=by rw[hd]at x;exact vM v (List.drop_eq_nil_iff.mp (Z1 x))
 replace p:=j▸p;replace n:=j▸n;refine OF C n p λy r hl=>k y ?_;have m:=D.up (.inr rfl);have c:Ch Z fp gp s {s with heap:=y}:=(Ch.of_keep (tk:=s.toks) (fp:=λb=>b=J) (gp:=gp) O (λb q=>q▸E _ m) (λb o q e'=>?_) λb o f q=>r b o f q).mono (λb z z q=>q▸m) λz z q=>q
 ·exact⟨G.R.flatMove D.cells G.fl (λo q=>r _ o (λq=>D.nle (.inl rfl) (.inr q)) q) (λq=>q ((D.fp _).mpr (.inl rfl))),G.r0,G.r1,G.r2,G.fl,c.inv G.inv,⟨⟨_,r _ _ D.ne n,rfl⟩,hl⟩,G.ch.trans c,G.le,G.es,r _ _ (λq=>D.nle (.inr rfl) (.inr q)) G.lv.1,G.lv.2⟩
 ·refine BJ (CA p) λo' T e2 B hT=>?_;have q':=dE (e2.symm.trans (q▸e'));exact q'▸⟨(by rw[B];intro q;cases q),(by rw[B];intro q;injection q with q;exact hT q)⟩
theorem U5{A:mx}{E:f0}{x:Nat}{r:List Nat}{Q:Option gx->lb->Prop}{P:lb->Prop}(hA:A.handled=eu)(hB:∀b,fp b->Z.B.heap.get? b=eu)(a0:D2 u (.many [1,3]) E=er)(a1:∃es k tp,E=.Tuple es k tp)(hd:l.drop i=x::r)(G:GI Z u g l t a N J e fp gp d s i w ρ er)
  (hQ:∀v H,WP Z A (rA E (.ref e) v) (λz s2=>WP Z A (uT E g v) (λz s3=>P s3) s2) H->Q (dD v) H)
  (k:∀C m,GI Z u g l t a N J e fp gp d C (i+1) w m er->m.get 3=dD (.str [x])->P C):WP Z A (tb (.ref e)) Q s:=by
 have a2:l.drop (i+1)=r:=by rw[<-ACE,hd];rfl
 have hj:=G.js;simp only[JE,hd,pj]at hj;refine A1 (Xt a1 λes ek a5 q=>q▸OY (ok:=λb=>¬fp b) O hA D.ne (hB _ (D.up (.inl rfl))) (hB _ (D.up (.inr rfl))) (JS.keep (ok':=λb=>¬fp b) hj λz z z q z=>q) (λx=>SX D G) (λb q f=>f (D.up q))) (λy H p=>?_);refine AW p λv q c1 p=>q▸hQ v H (A1 p λz s2 a3=>BO a3 λhv a4 c2=>?_);have B:=c1.trans c2;have hb:BM (.many [1,3]) (.t [.int i,lH x]) ρ=dD ((ρ.put 1 (.int i)).put 3 (.str [x])):=rfl;refine A1 (Gi O hA a0 hb hv (G.R.flatMove D.cells G.fl (λo q=>A2 (Ja G.R) λo' q' tt=>dE (q'.symm.trans q)▸B.heap _ _ q' tt (D.nle (.inl rfl))) λq=>q ((D.fp _).mpr (.inl rfl)))) λz C n=>?_;have g1:((ρ.put 1 (.int i)).put 3 (.str [x])).get 1=dD (.int (i:Int)):=by rw[Ev.get_put,Ev.get_put];rfl
 have g0:((ρ.put 1 (.int i)).put 3 (.str [x])).get 0=dD (.str l):=by rw[Ev.get_put,Ev.get_put];exact G.r0
 have g2:((ρ.put 1 (.int i)).put 3 (.str [x])).get 2=dD (.bool w):=by rw[Ev.get_put,Ev.get_put];exact G.r2
 have g3:((ρ.put 1 (.int i)).put 3 (.str [x])).get 3=dD (.str [x]):=by rw[Ev.get_put];rfl
 have gf:∀j v,((ρ.put 1 (.int i)).put 3 (.str [x])).get j=dD v->By v=er:=DY (DY G.fl rfl) rfl
 revert g0 g1 g2 g3 gf n
 generalize(ρ.put 1 (.int i)).put 3 (.str [x])=m;intro n g1 g0 g2 g3 gf;have c3:=n.2;have c:Ch Z fp gp s C:=(B.mono (λb z z q=>D.up q) λz z q=>q.elim).trans (c3.mono (λb z z f=>Ad.fo D f) λz z q=>q.elim);refine k C m ⟨n.1,g0,g1,g2,gf,c.inv G.inv,?_,G.ch.trans c,?_,λz=>tG _,c3.heap _ _ (B.heap _ _ G.lv.1 G.lv.2 (D.nle (.inr rfl))) G.lv.2 λf=>D.na.1 (Ad.fo_l D f),G.lv.2⟩ g3
 ·show JS e J l t (λz=>False) (Fl (i+1) ((l.drop (i+1)).map lH)) C;rw[a2];exact JS.keep a4 λb o hb q tt=>c3.heap b o q tt λf=>D.nle (.inl (Ad.fo_l D f)) hb
 ·exact Nat.lt_of_not_le λh=>List.cons_ne_nil _ _ (hd.symm.trans (vg h))
theorem WC(W:Wd Z){j U:List pt}{q t1 t2 y y1 y2 A:f0}{s3 s4:pt}{p1 p2 p3 p4 p5 p6 q1 q2 q3:tE}(hB:∀b,fp b->Z.B.heap.get? b=eu)
  (B:U=[.If t1 [.Expr (.Yield (dD y1) p1) p2,s3] [.If t2 [s4] [.Expr (.Yield (dD y2) p3) p4] p5] p6])
  (hA:OkA 0 (z.over (.func j g) [])) (n:∀p,OkA 0 (z.over (.forLoop q (.ref e) U [] g) [Gj (KF (.If y [.Expr (.Yield (dD A) q1) q2] [] q3) g) (H0 g) id id g (.func j g) p])) {L:List V}
  (C:D2 u (.many [1,3]) q=er) (E:∃es k tp,q=.Tuple es k tp) (h1:AH u (.v 2) t1=er) (H:AH u Y1 y1=er) (Q:Bm u (.ag (.one 2) (.c (.bool fG))) s3=er) (h2:AH u T2 t2=er)
  (a0:Bm u (.ag (.one 2) (.c (.bool er))) s4=er) (a1:AH u Y2 y2=er) (h3:AH u (.v 2) y=er) (a2:AH u Y3 A=er) (a3:∃m,u.names[2]?=dD (m,.local)) (v:g.scope.isCoroutine=fG) (hi:uv g=fG):
  ∀(r:List Nat) (i:Nat) (w:Bool) (ρ:Ev) (d s:lb) (o:List V),l.drop i=r->GI Z u g l t a N J e fp gp d s i w ρ er->L=o++Br i w r->∀p,
   zR (qQ Z.prog Z.w) z (MU Z fp gp) (MQ Z L a N fp gp) (Br i w r).length d (.forLoop q (.ref e) U [] g) ((qQ Z.prog Z.w).den (.forLoop q (.ref e) U [] g)) [Gj (KF (.If y [.Expr (.Yield (dD A) q1) q2] [] q3) g) (H0 g) id id g (.func j g) p] s:=by
 subst B;refine λr i w ρ d s o hd G x p=>RC (G:=GI Z u g l t a N J e fp gp) rfl rfl rfl h1 H Q h2 a0 a1 (λG=>G.r1) (λG=>G.r2) (λhd G x=>?_) (λhd G k=>Hf (U5 O D (n p).1 hB C E hd G (λc c h=>h) k))
  (λhx hv G k=>GH ((Aa O W (Au W 0) _ u _ hx).2 g _ _ _ _ hv (G.st D (n p))) λs' S=>k s' (G.same S)) (λa4 G k=>?_) (λG hx hv x k=>KR O D W G (n p) hx hv x rfl rfl v hi k) r i w ρ d s o hd G x
 ·exact Hf (Rj O D (n p).1 hB hd G λh G1=>seg_again rfl (seg_leaf (.ok .next) (WQ O D W G1 hA x h3 a2 v hi)))
 ·refine a3.elim λm2 a5=>pF (LK O G.R a5 rfl a4) (λf sb hb=>?_) λc c f=>f.elim;refine D1 hb λe Rb cb c=>e▸k sb _ (G.put D Rb cb ?_ ?_ ?_ (DY G.fl rfl) λc=>tG _)
  ·rw[Ev.get_put];exact G.r0
  ·rw[Ev.get_put];exact G.r1
  ·rw[Ev.get_put];rfl
end
theorem oW{d n r:Nat}(h:d+(n+1)+20<=r):d+0+1+0+20<=r:=by lia
theorem oU{u n r:Nat}(h:u+64+8*(n+1)+200<=r):u+1+0+3+64+8*0+200<=r:=by lia
theorem ni{d n r:Nat}(h:d+(n+1)+20<=r):d+1+0+0+20<=r:=by lia
theorem pL{u n r:Nat}(h:u+64+8*(n+1)+200<=r):u+1+3+0+64+8*0+200<=r:=by lia
theorem NR{n:Nat}{A:mx}(h:OkA (n+1) A)(b:List pt)(g:t8):OkA 0 (A.in1.over (.func b g) []):=⟨h.1,oW h.2.1,oU h.2.2⟩
theorem Ud{n:Nat}{A:mx}(h:OkA (n+1) A)(b:List pt)(g:t8)(c:f0)(d:gx)(e:List pt)(K:xg->xL Fin)(H:gx->xL Fin)(p:tE):
  OkA 0 (A.in1.over (.forLoop c d e [] g) [Gj K H id id g (.func b g) p]):=⟨h.1,ni h.2.1,pL h.2.2⟩
section
variable{Z:Bs}(O:Z.Ok){A:mx}{k:o5}{g:t8}{l:List Nat}{a:ls}{oa:xE}{fp:ls->Prop}{gp:Nat->Prop}{s:lb}
include O in
theorem QS(W:Wd Z){n:Nat}(L:OkA (n+1) A){d:List pt}(hc:IsGen k d)(D:Ad k g a s.heap.objs.size (s.heap.objs.size+1) fp)(hB:∀b,fp b->Z.B.heap.get? b=eu)(R:EnvR Z k g (λb=>¬fp b) s.heap [(0,.str l)])(hi:Inv Z s)(M:s.heap.get? a=dD oa/\AB oa=fG)
  (N:∃m,k.names[1]?=dD (m,.local)) (Q:∃m,k.names[2]?=dD (m,.local)) (U:g.scope.isCoroutine=fG) (Y:uv g=fG):
  zR (qQ Z.prog Z.w) A.in1 (MU Z fp gp) (MQ Z (Br 0 fG l) a oa fp gp) (Br 0 fG l).length s (.func d g) ((qQ Z.prog Z.w).den (.func d g)) [] s:=by
 obtain⟨s1,s2,te,ie,t1,y1,q1,q2,s3,t2,s4,y2,q3,q4,q5,q6,q7,t3,y3,q8,q9,a0,rfl,c1,c2,c3,c4,c5,c6,c7,c8,c9,a1,a2,a3⟩:=hc;obtain⟨m1,a4⟩:=N;obtain⟨m2,G⟩:=Q;refine seg_func (tX (xJ (pF (LK O R a4 rfl c1) (λf sa ha=>?_) λ_ _=>False.elim)))
 (refine D1 ha λw Ra ca za=>?_;simp only[w])
 refine tX (xJ (pF (LK O Ra G rfl c2) (λf x hb=>?_) λ_ _=>False.elim))
 (refine D1 hb λy J cb zb=>?_;refine y▸?_)
 have z:=ca.trans cb;generalize r:(Ev.put (Ev.put [(0,V.str l)] 1 (V.int 0)) 2 (V.bool fG))=E at J;have g0:E.get 0=dD (.str l):=by rw[<-r];rfl
 have g1:E.get 1=dD (.int ((0-1:Nat):Int)):=by rw[<-r];rfl
 have g2:E.get 2=dD (.bool fG):=by rw[<-r];rfl
 have gf:∀j v,E.get j=dD v->By v=er:=r▸DY (DY (DY (ρ:=[]) (i:=0) (λ_ _ q=>nS q) rfl) rfl) rfl
 (refine Jo (P1 c4) λmm qq ex pp B d1 d2=>?_;simp only[B])
 (refine AE (Pf d2) λm0 p0 C d3=>?_;subst C)
 refine AW (GP d3) λk0 e0 e1 e2=>?_;have Sb:St Z 0 (A.in1.over (.func [s1,s2,.For te (.Call (.Name mm qq) [.Name m0 p0] [] pp) [.If t1 [.Expr (.Yield (dD y1) q1) q2,s3] [.If t2 [s4] [.Expr (.Yield (dD y2) q3) q4] q5] q6] [] q7,.If t3 [.Expr (.Yield (dD y3) q8) q9] [] a0] g) []) k g (λb=>x.heap.get? b=eu) x E:=by refine⟨NR L _ _,J.flatMove D.cells gf (λ_ e=>e) ?_,(z.inv hi),λ_ h=>h⟩;refine A2 (Ja J) λo e _=>?_;intro q;exact sN (e.symm.trans q)
 refine tX (X0 (λ_=>rfl) ?_);simp only[sZ];refine fX (dS (Et O Sb d1 W.enum) ?_);rw[Bl d2];refine r9 (T:="enumerate") rfl (sQ (qM (Yg (Sb.e.load g0 e0 e1 e2) λu hu=>rq ?_)))
 (refine VR.kStr hu λ_=>?_;clear hu)
 rename_i t;refine call_enumerate_str λh' he H a5 hk=>?_;refine xU he ?_;intro p;rw[(zb.trans za)]at he H⊢;have I:Ch Z (λ_=>False) gp x {x with heap:=h'}:=(Same.of_keep (tk:=x.toks) O hk).ch;have i:Ch Z fp gp s {x with heap:=h'}:=(z.mono (λb _ _ f=>Ad.fo D f) λ_ _ q=>q.elim).trans (I.mono (λ_ _ _ q=>q.elim) λ_ _ q=>q);refine WC (t:=t) O D W hB rfl (NR L _ _) (λp=>Ud L _ _ _ _ _ _ _ p) c3 ?_ c5 c6 c7 c8 c9 a1 a2 a3 ⟨m2,G⟩ U Y l 0 fG E s {x with heap:=h'} [] rfl ?_ rfl p
 ·exact BU (MS c3) λa b c e _=>⟨a,b,c,e⟩
 ·refine⟨J.flatMove D.cells gf (λo e=>hk _ o e) (λq=>q ((D.fp _).mpr (.inl rfl))),g0,g1,g2,gf,i.inv hi,⟨0,.none,qd _,rfl,he,H⟩,i,qd _,(λh=>by exact fT h),?_⟩;refine⟨hk _ _ (z.heap _ _ M.1 M.2 λf=>D.na.1 (Ad.fo_l D f)),M.2⟩
end
theorem IT:(Aq 0).names=[(("addr" :pw),NameKind.local),(("pos" :pw),NameKind.local),(("escape" :pw),NameKind.local),(("ch" :pw),NameKind.local),(("enumerate" :pw),w7)]:=by kernel_rfl
theorem py:Ab 0=[("addr" :pw)]:=by kernel_rfl
theorem bK:(Aq 0).isCoroutine=fG/\(Aq 0).isGenerator=er/\(Aq 0).kind=.function:=by nofun
theorem mr{c:Type}{b:List c}{P:List c->Prop}(h:b.length=1)(k:∀a,P [a]):P b:=by
 induction b using lz with
 |nil=>cases h
 |cons a r=>induction r using lz with
  |nil=>exact k a
  |cons _ _=>cases h
theorem dP:Ap 0:=by intro e f c b h;replace h:b.length=1:=h.trans (by nofun);exact mr (P:=λb=>xu (sF (D4 0) (DV 0) (CN 0) (Aq 0) e f c) ⟨b,[]⟩=tS ((Ab 0).zip b)) h λa=>by kernel_rfl
section
variable{Z:Bs}(O:Z.Ok){A:mx}{fp:ls->Prop}{gp:Nat->Prop}{s d:lb}{g:Nat}
theorem AllBare.setGen{a:Array xv}{x:xv}(h:AllBare a)(b:x.bare=er):AllBare (a.setIfInBounds g x):=λy c=>by
 obtain⟨j,e,rfl⟩:=Array.mem_iff_getElem.mp c;rw[Array.getElem_setIfInBounds];split
 ·exact b
 ·exact h _ (Array.getElem_mem _)
 ·simpa using e
theorem Inv.setGen(i:Inv Z s){x:xv}(a:x.bare=er):Inv Z (s.setGen g x):=⟨i.keep,i.there,AllBare.setGen i.bare a,i.os,i.ti⟩
theorem Ch.setGen{x:xv}(b:x.bare=er)(c:gp g):Ch Z fp gp s (s.setGen g x):=by
 refine⟨λz z e z z=>e,λi y e f=>?_,?_,λi=>i.setGen b,λz z e=>e⟩
 ·have a:g≠i:=λq=>f (q▸c);exact(Array.getElem?_setIfInBounds_ne a).trans (e)
 ·show s.gens.size<=(s.gens.setIfInBounds g x).size;simp only[zc];exact qF _
theorem OO{x y:xv}(h:s.gens[g]?=dD y):(s.setGen g x).gens[g]?=dD x:=by show(s.gens.setIfInBounds g x)[g]?=dD x;obtain⟨a,_⟩:=rm.mp h;rw[Array.getElem?_setIfInBounds_self_of_lt a]
def aH(Z:Bs)(A:mx)(L:List V)(a:ls)(h:xE)(g:Nat)(fp:ls->Prop)(gp:Nat->Prop)(_:ls->Prop)(i:List V)(s:lb):Prop:=
 s.heap.get? a=dD h/\(∀b,fp b->∃o,s.heap.get? b=dD o/\AB o=fG)/\∃e f,L=f++i/\s.gens[g]?=dD e/\e.bare=er/\
  ∀c,Kp Z fp s c->e.Goes (qQ Z.prog Z.w) A.in1 (MU Z fp gp) (MQ Z L a h fp gp) i.length (.send .none) c
theorem Dt(O:Z.Ok)(i:Inv Z s):s.heap.NoLimit:=by refine A2 O.nolimit λc b f=>?_;refine AW (An b) λk e h z=>?_;exact⟨c,b.at' λj a=>by rw[e]at a;(replace a:=dE a;subst a);exact i.keep _ _ e h,f⟩
include O in
theorem M0{te:f0}{L:List V}{a:ls}{m:xE}{H:xv}{x:V}{z pre:List V}(I:A.handled=eu/\A.depth<uj)(B:L=pre++x::z)(ha:s.heap.get? a=dD m)(C:m.cls=.type "generator")(Q:s.heap.IsGen a g)(n:s.gens[g]?=dD H)(p:gp g)(i:Inv Z s)
  (U:∀b,fp b->∃o,s.heap.get? b=dD o/\AB o=fG->True) {ok:ls->Prop} (k:∀b,s.heap.get? b=eu->ok b)
  (D:H.Goes (qQ Z.prog Z.w) A.in1 (MU Z fp gp) (MQ Z L a m fp gp) (z.length+1) (.send .none) (s.setGen g .running)):
  WP Z A (tb (.ref a)) (λr d=>∃v,r=dD v/\Ch Z fp gp s d/\WP Z A (rA te (.ref a) v) (λX j=>VR Z.prog Z.w (λb=>ok b/\¬fp b) j.heap v x/\aH Z A L a m g fp gp (λb=>ok b/\¬fp b) z j/\Ch Z fp gp d j) d) s:=by
 refine Hq (P:=dO Z fp gp) I.1 (Dt O i) I.2 Q n D (λv h u J Y=>?_) (λh hp=>(nomatch hp.1));refine OR Y λM l hv c E w G=>?_;have ex:M=x:=by
  have:L.length-1-(z.length+1-1)=pre.length:=by rw[B];simp
  rw[this,B]at l;simp at l;exact l.symm
 subst ex;have c1:Ch Z fp gp s (h.setGen g u):=((Ch.setGen rfl p).trans c).trans (Ch.setGen J p);refine⟨v,rfl,c1,Eh (o:=m) (T:="generator") w C (by decide) ?_⟩;refine⟨hv.mono (λX X X e X=>e) λb X q X=>⟨k b q.1,q.2⟩,⟨w,E,u,pre++ [M],by rw[B];simp,?_,J,λj N=>G j ⟨λb o f e t=>N.1 b o f e t,N.2⟩⟩,Ch.refl⟩;have hs:∃y,h.gens[g]?=dD y:=by have h1:(s.setGen g .running).gens.size<=h.gens.size:=c.size;have h2:g<s.gens.size:=(rm.mp n).1;have h3:(s.setGen g .running).gens.size=s.gens.size:=zc ..;have:g<h.gens.size:=nR h2 (h3▸h1);exact⟨_,ty this⟩
 obtain⟨y,hy⟩:=hs;exact OO hy
include O in
theorem Mu{L:List V}{a:ls}{t:xE}{n:xv}(p:A.handled=eu/\A.depth<uj)(u:s.heap.IsGen a g)(k:s.gens[g]?=dD n)(j:gp g)(i:Inv Z s)
  (l:n.Goes (qQ Z.prog Z.w) A.in1 (MU Z fp gp) (MQ Z L a t fp gp) 0 (.send .none) (s.setGen g .running)):
  WP Z A (tb (.ref a)) (λr d=>r=eu/\Ch Z fp gp s d) s:=by
 refine Hq (P:=dO Z fp gp) p.1 (Dt O i) p.2 u k l (λv h w E x=>?_) (λh y G z=>?_)
 ·refine OR x λH B I c C D m=>?_;exact(m h ⟨λY Y Y e Y=>e,c.inv (i.setGen rfl)⟩).elim
 ·refine⟨rfl,((Ch.setGen rfl j).trans y.2).trans ((Ch.setGen (x:=.finished) rfl j).trans ?_)⟩;exact Ch.of_keep' (s:=h.setGen g .finished) (tk:=h.toks) (fp:=λY=>False) O (λY f=>f.elim) (λY Y f=>f.elim) (λb o Y e=>z b o e)|>.mono (λY Y Y f=>f.elim) λY Y q=>q
include O in
theorem YK{te:f0}{L:List V}{a:ls}{C:xE}(hA:A.handled=eu/\A.depth<uj)(G:C.cls=.type "generator")(H:∀h:qX,h.get? a=dD C->h.IsGen a g)(n:∀i,gp i↔i=g)(I:fp a)(J:AB C=fG):
  Trn Z A te (.ref a) fp gp (aH Z A L a C g fp gp) where
 item:=λok x D s j i k a1=>by
  (refine BO j λB p u=>?_;refine HI u λM w E l N m=>?_)
  refine A1 (M0 O (te:=te) (ok:=ok) hA E B G (H _ B) l ((n g).mpr rfl) i (λb f=>⟨C,λX=>trivial⟩) k (m _ ⟨λX X X e X=>e,i.setGen rfl⟩)) (λr s1 h=>?_);refine AW h λv e c h=>?_;refine⟨v,e,c,A1 h (λX s2 Q=>?_)⟩;exact⟨Q.1.mono (λX X X e X=>e) λb X q X=>q.1,Q.2.1,Q.2.2⟩
 done:=λok s j i=>by
  (refine BO j λB p y=>?_;refine HI y λM w E l N m=>?_)
  exact Mu O hA (H _ B) l ((n g).mpr rfl) i (m _ ⟨λX X X e X=>e,i.setGen rfl⟩)
 self:=λok D s j=>AC1 (H _ j.1) ⟨rfl,rfl⟩
 keep:=λok D s d j U Y=>by
  (refine BO j λB p z=>?_;refine HI z λM w E l N m=>?_)
  refine⟨U _ _ (.inr I) B J,λb f=>?_,M,w,E,Y _ _ ((n g).mpr rfl) l,N,λa0 kp=>m a0 ⟨λb o f e t=>kp.1 b o f (U b o (.inr f) e t) t,kp.2⟩⟩;refine A2 (p b f) λo e t=>?_;exact⟨o,U b o (.inr f) e t,t⟩
 goal:=λok a2 D s j X=>j
 live:=λok D s b j f=>(j.2.1 b f).imp λX q=>q.1
end
theorem eB{w v:V}{j:Nat}(h:Ev.get [(0,w)] j=dD v):j=0/\v=w:=by
 rewrite [AC]at h
 cases a:lf 0 j with
 |true=>rw[a]at h;exact⟨(lk a).symm,(dE h).symm⟩
 |false=>rw[a]at h;exact nS h
theorem dz{Z:Bs}(O:Z.Ok)(W:Wd Z)(T0:HV Z)(hW:W.fnA=T0.fnA)(n:Nat):Av Z W (n+1):=by
 intro l hl A ok s u te ha i k hv;rw[hW];obtain⟨aa,FA⟩:=T0.fn 0 _ _ _ _ (Cb (k:=0) rfl)
 (refine Jo FA.ex λo y w a ho hd M=>?_;refine UO M λc oc a4 tq a5 a6 Y a7 a8=>?_)
 have tf:AB o=fG:=by exact C9 hd rfl
 have N:s.heap.CodeRec w (D4 0):=⟨c,oc,a4,tq,a5,i.keep _ _ a6 Y,a7,a8⟩
 have z:=ha.room;refine BO bK λf1 f2 f3=>?_;refine ACZ (codeAny_call_generator (fd:=sF (D4 0) (DV 0) (CN 0) (Aq 0) y w a) z (i.keep _ _ ho tf) hd f1 f2 rfl N ?_);rw[dP y w a [u] (by rw[py];rfl),py];refine mM (wpAny_newFunctionEnv (λx hx=>?_) (λx hx=>?_) (λU hn hs=>?_) f3)
 ·rw[show(sF (D4 0) (DV 0) (CN 0) (Aq 0) y w a).scope.names=(Aq 0).names from rfl]at hx
  revert x
  nofun
 ·simp only[List.zip_cons_cons,ABO,md,r4,or_false]at hx;subst hx;show(Aq 0).names.lookup (sj "addr")=_;rw[IT];rfl
 ·generalize hC:s.heap.objs.size=C at hn hs⊢;have sz:U.objs.size=C+1:=by rw[hs.1,rx,hC]
  generalize g:newEnv (sF (D4 0) (DV 0) (CN 0) (Aq 0) y w a).scope C (sF (D4 0) (DV 0) (CN 0) (Aq 0) y w a).globals (sF (D4 0) (DV 0) (CN 0) (Aq 0) y w a).closure ((sF (D4 0) (DV 0) (CN 0) (Aq 0) y w a).qualname++".<locals>.") (dD (T0.fnA 0)) (sF (D4 0) (DV 0) (CN 0) (Aq 0) y w a).code eu (sF (D4 0) (DV 0) (CN 0) (Aq 0) y w a).builtins=d;have v1:d.scope=Aq 0:=by rw[<-g];rfl
  have v2:d.locals=C:=by rw[<-g];rfl
  have v3:d.cells=[]:=by rw[<-g];rfl
  have v4:d.globals=sf:=by rw[<-g];rfl
  have v5:d.builtins=yj:=by rw[<-g];rfl
  have v6:∀m,d.kindOf m=(Aq 0).names.lookup m:=λm=>by rw[<-g];rfl
  have v7:uv d=fG:=by rw[<-g];unfold uv;first|rfl|simp[newEnv,sF,f3]
  have k1:∀b o,s.heap.get? b=dD o->U.get? b=dD o:=λb o e=>hs.extBut b o (λq=>by
   have:=rR e;rw[hC]at this;exact vH _ (q▸this)) (lh _ e)
  refine⟨(Dt O i).keeps k1,?_⟩;show Itg Z A te s (Br 0 fG l) (.ref U.objs.size) _;rw[sz];have fr:∀b,C<=b->s.heap.get? b=eu:=λb hb=>Cp _ (by rw[hC];exact hb);generalize B:({cls:=.type "generator",data:=.fields #[.int s.gens.size 0,.str (sF (D4 0) (DV 0) (CN 0) (Aq 0) y w a).name (s.toks+ [((sj "addr"),u)].length),.str (sF (D4 0) (DV 0) (CN 0) (Aq 0) y w a).qualname (s.toks+ [((sj "addr"),u)].length+1)]}:xE)=E;have I:E.cls=.type "generator" :=by rw[<-B]
  have a0:AB E=fG:=A9 I;have hg:∀h:qX,h.get? (C+1)=dD E->h.IsGen (C+1) s.gens.size:=λh e=>⟨E,_,_,e,I,by rw[<-B],by rw[<-B]⟩
  have ac:(sF (D4 0) (DV 0) (CN 0) (Aq 0) y w a).body=.stmts (CN 0):=rfl;generalize J:({heap:=U.push E,gens:=s.gens.push (.fresh (.func (CN 0) d)),drawn:=s.drawn,toks:=s.toks+ [((sj "addr"),u)].length+1+1,os:=s.os}:lb)=p
  suffices H:Itg Z A te s (Br 0 fG l) (.ref (C+1)) p by rw[<-J,<-B]at H;exact H
  have e1:p.heap=U.push E:=by rw[<-J]
  have e2:p.gens=s.gens.push (.fresh (.func (CN 0) d)):=by rw[<-J]
  have e3:p.os=s.os:=by rw[<-J]
  have k3:∀b o,s.heap.get? b=dD o->p.heap.get? b=dD o:=λb o e=>by rw[e1];exact lh _ (k1 b o e)
  have z3:p.heap.objs.size=C+2:=by rw[e1,rx,sz]
  have ga:p.heap.get? (C+1)=dD E:=by
   rw[e1];have:E.isFreed=fG:=by rw[<-B];rfl
   have:=mA U this;rw[sz]at this;exact this
  have i3:Inv Z p:=by
   refine⟨λb o e t=>k3 b o (i.keep b o e t),λb o e=>(i.there b o e).imp λo' e'=>k3 b o' e',?_,?_,O.ti _ _ i.ti λb o e X=>k3 b o e⟩
   ·rw[e2];exact AllBare.push i.bare rfl
   ·exact e3.trans (i.os)
  have S3:Same Z s p:=⟨λb o e X=>k3 b o e,λj x e=>by
   rw[e2,Array.getElem?_push];have:=(rm.mp e).1;rw[if_neg (by lia)];exact e,λX=>i3,PZ k3⟩
  have a1:p.gens[s.gens.size]?=dD (.fresh (.func (CN 0) d)):=by simp only[e2];exact Array.getElem?_push_size ..
  have G:A.handled=eu/\A.depth<uj:=⟨ha.1,z⟩
  have a9:p.heap.Ns C (λx=>[((sj "addr"),u)].reverse.lookup x):=by rw[e1];exact hn.push _
  have D:Ad (Aq 0) d (C+1) p.heap.objs.size (p.heap.objs.size+1) (λb=>b=C\/b=C+1\/b=C+2\/b=C+3):=by
   rw[z3];refine⟨λb=>by simp only[v2],?_,?_,?_,v3⟩
   ·exact nn (by lia)
   ·rw[v2];exact⟨nn (by lia),nn (by lia)⟩
   ·rw[v2];exact⟨nn (by lia),nn (by lia),nn (by lia)⟩
  have a2:∀b,(b=C\/b=C+1\/b=C+2\/b=C+3)->s.heap.get? b=eu:=λb h=>fr b (by(rcases h with qz|rfl|rfl|rfl<;>try (replace qz:=qz.symm;subst qz))<;>lia);have Q:(Aq 0).names[0]?=dD (sj "addr",.local):=by rw[IT];rfl
  have r:∀m,(Aq 0).names.lookup m≠dD .cell/\(Aq 0).names.lookup m≠dD .free:=λm=>by
   have a3:∀x∈(Aq 0).names,x.2≠.cell/\x.2≠.free:=by nofun
   exact⟨λq=>(a3 _ (mem_of_lookup q)).1 rfl,λq=>(a3 _ (mem_of_lookup q)).2 rfl⟩
  have R:EnvR Z (Aq 0) d (λb=>¬(b=C\/b=C+1\/b=C+2\/b=C+3)) p.heap [(0,.str l)]:=by
   refine{fn:=(by rw[v1];exact f3),gl:=v4,bt:=v5,nd:=(by rw[IT];decide),kd:=λm k h=>.inl (by rw[v6];exact h),nm:=λj v h=>?_,ns:=⟨_,v2▸a9,λj v m h hm=>?_⟩,cl:=λj v m k h hm hk=>?_,ap:=λm m' c h X=>(by rw[v3]at h;cases h),cx:=λm c h=>(by rw[v3]at h;exact nomatch h),ce:=λm h=>((r m).1 h).elim,fe:=λm h=>((r m).2 h).elim,nl:=λq=>q (.inl v2),nb:=v2▸i.fresh (fr C (qF _))}
   ·obtain⟨rfl,rfl⟩:=eB h;exact⟨_,_,Q,.inl rfl⟩
   ·(obtain⟨qz,rfl⟩:=eB h<;>try subst qz)
    have qm:=(qP (dE (Q.symm.trans hm))).1;subst qm;exact⟨u,rfl,BZ rfl hv⟩
   ·obtain⟨rfl,rfl⟩:=eB h;have qm:=(qP (dE (Q.symm.trans hm))).2;exact hk.elim (λq=>qj (qm.trans q)) λq=>qj (qm.trans q)
  have iR:Inv Z (p.setGen s.gens.size .running):=i3.setGen rfl;have start:=QS (s:=p.setGen s.gens.size .running) (gp:=λj=>j=s.gens.size) (oa:=E) O W ha Xu D (λb h=>i.fresh (a2 b h)) R iR ⟨ga,a0⟩ ⟨_,by rw[IT];rfl⟩ ⟨_,by rw[IT];rfl⟩ (by rw[v1];exact f1) v7;refine⟨⟨(λb=>b=C\/b=C+1\/b=C+2\/b=C+3),λj=>j=s.gens.size,aH Z A (Br 0 fG l) (C+1) E s.gens.size (λb=>b=C\/b=C+1\/b=C+2\/b=C+3) (λj=>j=s.gens.size),YK O G I hg (λX=>Iff.rfl) (.inr (.inl rfl)) a0,?_,S3,a2,λj hj=>by rw[hj];exact qF _⟩,AC1 (hg _ ga) ⟨rfl,rfl⟩⟩;generalize Br 0 fG l=L at start⊢;induction L using lz with
  |nil=>exact Mu O G (hg _ ga) a1 rfl i3 ⟨rfl,start⟩
  |cons x xs=>intro ae k';exact M0 O (gp:=λj=>j=s.gens.size) (fp:=λb=>b=C\/b=C+1\/b=C+2\/b=C+3) (L:=x::xs) G (pre:=[]) rfl ga I (hg _ ga) a1 rfl i3 (λb f=>⟨E,λX=>trivial⟩) k' ⟨rfl,start⟩
section
open PySem.W
theorem Q1{l:List (pw×qE)}(fs:List pw){P:pw->Prop}(h:l.all (λq=>(match q.2 with|.free=>fG|_=>er)||fs.contains q.1)=er)(g:On P fs)(q)(e:q∈l)(o:q.2=.free):P q.1:=by have b:=mH.mp h q e;rw[o]at b;exact g.all _ (List.contains_iff_mem.mp b)
def D6(h:qX)(c P:ls)(a:tE)(d:pw):Prop:=yv h c P/\(h.get? P=dD (vt #[])\/
 ∃e b g t,h.get? P=dD (vt #[uC a.line,uC a.col,.ref e])/\h.get? e=dD b/\b.cls=.type "code" /\b.data=.fields g/\g[1]?=dD (.str d t))
section
variable{M:Model}{A:mx}{E:gx->lb->Prop}{s:lb}{p d:pw}{j:t7}{n:List pt}{f:o5}{m:t8}{c P:ls}{a:tE}{k:Nat}{mg:pw->Option gx}{i:List (pw×ls)}{Q:gx->lb->Prop}
theorem V7(U:yt f m=tS i)(Y:i≠[])(B:m.globals=sf)(hg:s.heap.Ns sf mg)(u:m.code=.ref c)(C:yv s.heap c P)(hP:s.heap.get? P=dD (vt #[]))(a0:sf≠P)(hb:s.heap.BuiltinsAt mg P)
  (h:∀l O vs t a1 a2 g tk,sm P s.heap g->s.heap.objs.size<=l->g.get? P=dD (vt #[uC a.line,uC a.col,.ref l])->g.get? l=dD O->O.cls=.type "code" ->O.data=.fields vs->vs[1]?=dD (.str d t)->
   Q (.ref g.objs.size) {s with heap:=g.push (ABf p d j n f i a2 ((mg "__name__").getD .none) l a1),toks:=tk}):
  qH M A (makeFunction p d j (.stmts n) f m [] [] [] a k) Q E s:=by
 rw[makeFunction_eq];simp only[ABO,ABM,List.isEmpty_nil,if_true,yQ];refine iQ hb λbm ob a3 D Z G a4 H v w=>?_;unfold makeTail;rw[U,B];refine fX (mM ?_);have a5:i.isEmpty=fG:=by induction i using lz with|nil=>exact absurd rfl Y|cons=>rfl
 simp only[a5,ui,if_false];refine fX (wpAny_newTextTuple ?_);have I:∀(x:xE) b o,s.heap.get? b=dD o->(s.heap.push x).get? b=dD o:=λx b o e=>lh _ e;refine fX (wpAny_functionCodeX u ((C.keeps (I _)).code (I _ _ _ hP) trivial) ((C.keeps (I _)).tab (I _ _ _ hP)) rfl λl g tk hx a6 aa Z J a7 q=>?_);have L:=(hg.push _).extBut hx a0;have y:sm P s.heap g:=λb o a8 e=>hx b o a8 (I _ _ _ e);have r:s.heap.objs.size<=l:=mE (by simp only[rx];lia) a6
 (refine AW q λP' Z Z z=>?_;(refine CB λZ kk=>?_;obtain⟨⟨O,vs,g1,g2,g3,_⟩,_⟩:=z<;>refine kk ?_))
 refine OP J λc2 o2 v2 t2 q1 q2 q3 q4=>?_;cases q1
 (replace q2:=dE (g1.symm.trans q2);subst q2)
 rw[g3]at q3;cases q3;have N:g.get? P=dD (vt #[uC a.line,uC a.col,.ref l]):=a7.2;refine fX (wpAny_builtinsFor L a3 D (y _ _ G a4) H v w ?_);refine fX (wpAny_nsGet L ?_);cases a9:docOf n with
 |none=>exact fX (mM (sP (h l _ _ _ _ .none g tk y r N g1 g2 g3 q4) (by size_fits)))
 |some t=>exact fX (wpAny_mkText (sP (h l _ _ _ _ _ g _ y r N g1 g2 g3 q4) (by size_fits)))
theorem made(z:yt f m=tS i)(H:i≠[])(v:m.globals=sf)(hg:s.heap.Ns sf mg)(g:m.code=.ref c)(T:D6 s.heap c P a d)(I:sf≠P)(D:s.heap.BuiltinsAt mg P)
  (h:∀F r w x t l q u B,sm P s.heap u->s.heap.get? F=eu->u.get? F=dD (ABf p d j n f i q ((mg "__name__").getD .none) r l)->u.get? r=dD w->w.cls=.type "code" ->w.data=.fields x->x[1]?=dD (.str d t)->
   u.get? P=dD (vt #[uC a.line,uC a.col,.ref r])->(∃op,s.heap.get? P=dD op/\AB op=er)->Q (.ref F) {s with heap:=u,toks:=B}):
  qH M A (makeFunction p d j (.stmts n) f m [] [] [] a k) Q E s:=by
 (refine CB λZ kk=>?_;obtain⟨C,y|⟨r,w,x,t,y,G,J,L,N⟩⟩:=T<;>refine kk ?_)
 ·refine V7 z H v hg g C y I D λr w x t l q u B hx O U G J L N=>?_;refine h u.objs.size r w x t l q _ B (λb o D e=>lh _ (hx b o D e)) ?_ (mA _ rfl) (lh _ G) J L N (lh _ U) ⟨_,y,rfl⟩;exact Cp _ (mE O (nV (rR G)))
 ·refine makeFunction_hit (cv:=.ref r) z v hg g C y ?_ ?_ D λl q u B Y a0=>?_
  ·exact trivial
  ·show codeAmong a [uC a.line,uC a.col,.ref r]=_;simp[codeAmong,uC]
  ·refine h u.objs.size r w x t l q _ B (λb o Z e=>lh _ (Y b o e)) (Cp _ a0) (mA _ rfl) (lh _ (Y _ _ G)) J L N (lh _ (Y _ _ y)) ⟨_,y,rfl⟩
end
end
section
open PySem.W
structure Mp(scope:o5)(ps:List pw):Prop where
 co:scope.isCoroutine=fG
 gen:scope.isGenerator=fG
 kind:scope.kind=.function
 nocell:∀x∈scope.names,x.2≠.cell
 nd:(scope.names.map (·.1)).Nodup
 pk:∀(i:Nat) (p:pw),ps[i]?=dD p->scope.names[i]?=dD (p,.local)
 pn:ps.Nodup
theorem Ia{c:Type}:∀{l:List (pw×c)} {p:pw} {u:c},(l.map (·.1)).Nodup->(p,u)∈l->l.lookup p=dD u
 |(n,v)::r,p,u,a,h=>by
  rw[pj,vK]at a;simp only[ua];rcases md.mp h with q|q
  ·cases q;simp
  ·have b:p≠n:=by
    rintro rfl;exact a.1 (u8.mpr ⟨_,q,rfl⟩)
   rw[show(p==n)=fG from beq_eq_false_iff_ne.mpr b];exact Ia a.2 q
theorem OL{a:List pw}{b:List gx}(f:b.length=a.length){i:Nat}{p:pw}{u:gx}(c:a.Nodup)(d:a[i]?=dD p)(e:b[i]?=dD u):(a.zip b).reverse.lookup p=dD u:=by refine Ia ?_ (yh.mpr (zip_get d e));rw[xM,ABs (by lia)];unfold List.Nodup at c⊢;rw[List.pairwise_reverse];exact c.imp λh=>ub h
def CellAt(s:lb)(a:List (pw×ls))(m:pw)(u:gx):Prop:=∃c,a.lookup m=dD c/\s.heap.IsCell c (dD u)
structure CS(ok:ls->Prop)(s:lb)(F c':ls)(fo:xE)(qual:pw)(clos:List (pw×ls)):Prop where
 hF:s.heap.get? F=dD fo/\AB fo=fG
 hc:∃oc cvs t,s.heap.get? c'=dD oc/\AB oc=fG/\oc.data=.fields cvs/\cvs[1]?=dD (.str qual t)
 cl:∀m c,clos.lookup m=dD c->(∃v,s.heap.IsCell c v)/\¬ok c
 ap:∀m m' c,clos.lookup m=dD c->clos.lookup m'=dD c->m=m'
def Frees(Z:Bs)(d:ls->Prop)(s:lb)(a:o5)(b:List (pw×ls))(e:Ev):Prop:=∀i v,e.get i=dD v->∃m c u,a.names[i]?=dD (m,.free)/\b.lookup m=dD c/\s.heap.IsCell c (dD u)/\VR Z.prog Z.w d s.heap u v
theorem Frees.nil{Z:Bs}{c:ls->Prop}{s:lb}{a:o5}{b:List (pw×ls)}:Frees Z c s a b []:=λz z e=>nS e
theorem Frees.cons{Z:Bs}{d:ls->Prop}{s:lb}{a:o5}{b:List (pw×ls)}{f:Ev}{i:Nat}{v:V}{m:pw}{u:gx}(n:a.names[i]?=dD (m,.free))(x:CellAt s b m u)(r:VR Z.prog Z.w d s.heap u v)(h:Frees Z d s a b f):Frees Z d s a b ((i,v)::f):=λj w e=>by
 rewrite [AC]at e
 cases q:lf i j with
 |false=>rw[q]at e;exact h j w e
 |true=>rw[q]at e;refine x.elim λc x=>⟨m,c,u,lk q▸n,x.1,x.2,dE e▸r⟩
theorem M8{Z:Bs}(O:Z.Ok){n:Nat}{A:mx}{U:ls->Prop}{s:lb}(ha:OkA (n+1) A)(i:Inv Z s)(k:∀a,s.heap.get? a=eu->U a){F:ls}{M I:pw}{E:t7}{J:List pt}{d:o5}{B:List (pw×ls)}{Y pm a0:gx}{c':ls}{ps:List pw}{us:List gx}{vs:List V}{ρf:Ev}{Q:gx->lb->Prop}
  (C:CS U s F c' (ABf M I E J d B Y pm c' a0) I B) (H:Mp d ps)
  (hb:xu (fnX M I E J d B .none .none Y pm eu (.ref c') a0) ⟨us,[]⟩=tS (ps.zip us)) (hl:us.length=ps.length) (hv:VRs Z.prog Z.w U s.heap us vs)
  (a1:∀m,d.names.lookup m=dD .free->∃c,B.lookup m=dD c)
  (a2:Frees Z U s d B ρf)
  (h:∀l D tk,l.cells=B->l.locals=s.heap.objs.size->l.scope=d->(∀b o,s.heap.get? b=dD o->D.get? b=dD o)->Fr Z n (A.deeper l) d l (λb=>U b/\b≠l.locals) [] {s with heap:=D,toks:=tk} (Ah 0 vs++ρf) []->
   WP Z (A.deeper l) (uO J l) (λf s'=>Q (Sj f) s') {s with heap:=D,toks:=tk}):
  WP Z A (t9 (.ref F) us) Q s:=by
 refine L6 C.hc λoc a5 t q1 _ q2 q3=>?_;have a3:=ha.room;refine ACZ (codeAny_call_def (fd:=fnX M I E J d B .none .none Y pm eu (.ref c') a0) a3 C.hF.1 rfl (Dt O i) ⟨c',oc,a5,t,rfl,q1,q2,q3⟩ rfl (BindsTo.of_eq hb) H.nocell (λx hx=>?_) (λD hn hk=>?_) H.co H.gen H.kind)
 ·obtain⟨j,hj⟩:=u5 hx;rw[w5]at hj;exact A8 H.nd (H.pk j _ hj.1)
 ·generalize G:callEnv (fnX M I E J d B .none .none Y pm eu (.ref c') a0) s.heap.objs.size F=l;have v1:l.scope=d:=by exact congrArg _ (G).symm
  have v2:l.locals=s.heap.objs.size:=by exact congrArg _ (G).symm
  have v3:l.cells=B:=by exact congrArg _ (G).symm
  have v4:l.globals=sf:=by exact congrArg _ (G).symm
  have v5:l.builtins=yj:=by exact congrArg _ (G).symm
  have v6:∀m,l.kindOf m=d.names.lookup m:=λm=>by rw[<-G];rfl
  have N:s.heap.get? l.locals=eu:=by exact(congrArg _ v2).trans (A6 _)
  have S1:Same Z s {s with heap:=D,toks:=s.toks+(ps.zip us).length}:=Same.of_keep O hk;have mv:∀{u v},VR Z.prog Z.w U s.heap u v->VR Z.prog Z.w (C8 (λb=>U b/\b≠l.locals) []) D u v:=λr=>(r.goal (ok':=C8 (λb=>U b/\b≠l.locals) []) λb o e q=>⟨⟨q,λq'=>by rw[q',N]at e;exact nS e⟩,λj hj=>by cases hj⟩).mono (λb o _ e _=>hk b o e) λ_ _ q _=>q
  have val:∀j v,(Ah 0 vs++ρf).get j=dD v->(∃p u,ps[j]?=dD p/\us[j]?=dD u/\VR Z.prog Z.w U s.heap u v)\/(ρf.get j=dD v):=λj v e=>by
   rw[Ev.get_append,Gn,if_pos (qd _),AAS]at e;split at e
   ·rename_i w hw
    (replace e:=dE e;subst e)
    refine A2 (hv.get hw) λu hu r=>?_;have a7:j<us.length:=(qR.mp hu).1;exact .inl ⟨_,u,uP (by lia),hu,r⟩
   ·exact .inr e
  have R:EnvR Z d l (C8 (λb=>U b/\b≠l.locals) []) D (Ah 0 vs++ρf):=by
   refine{fn:=(by exact(congrArg _ v1).trans (H.kind)),gl:=v4,bt:=v5,nd:=H.nd,kd:=λm kk e=>.inl (by rw[v6];exact e),nm:=λj v e=>?_,ns:=⟨_,v2▸hn,λj v m e hm=>?_⟩,cl:=λj v m kk e hm a6=>?_,ap:=λm m' c e L=>C.ap m m' c (v3▸e) (v3▸L),cx:=λm c e=>?_,ce:=λm e=>?_,fe:=λm e=>?_,nl:=λq=>q.1.2 rfl,nb:=i.fresh N}
   ·(refine CB λ_ kk=>?_;rcases val j v e with⟨p,u,h1,_⟩|L<;>refine kk ?_)
    ·exact⟨_,_,H.pk j p h1,.inl rfl⟩
    ·refine BU (a2 j v L) λm _ _ hm _=>?_;exact⟨_,_,hm,.inr (.inr rfl)⟩
   ·(refine CB λ_ kk=>?_;rcases val j v e with⟨p,u,h1,h2,r⟩|L<;>refine kk ?_)
    ·have:=H.pk j p h1;have qn:=(qP (dE (hm.symm.trans this))).1;subst qn;exact⟨u,OL hl H.pn h1 h2,mv r⟩
    ·refine BU (a2 j v L) λm' _ _ a4 _=>?_;exact qj (qP (dE (hm.symm.trans a4))).2
   ·rcases val j v e with⟨p,u,h1,h2,r⟩|L
    ·have:=H.pk j p h1;have qn:=(qP (dE (this.symm.trans hm))).2;exact a6.elim (λq=>qj (qn.trans q)) λq=>qj (qn.trans q)
    ·refine L6 (a2 j v L) λm' c u a4 x y z=>?_;have qn:=(qP (dE (hm.symm.trans a4))).1;subst qn;exact⟨c,u,by rw[v3];exact x,y.keeps hk,mv z⟩
   ·rw[v3]at e;obtain⟨⟨v,x⟩,y⟩:=C.cl m c e;refine⟨⟨v,x.keeps hk⟩,λq=>?_,λq=>y q.1.1⟩;refine A2 x λo L _=>?_;rw[q,N]at L;exact nS L
   ·exact absurd rfl (H.nocell _ (mem_of_lookup e))
   ·obtain⟨c,L⟩:=a1 m e;exact⟨c,by exact(congrArg _ v3).trans (L)⟩
  refine pF (h l D _ v3 v2 v1 hk ⟨⟨ha.1,?_,?_⟩,S1.inv i,λa e=>⟨S1.hok k a e,λq=>?_⟩,R,λq=>q.2 rfl,λm c e q=>?_,λ_ _ e=>(by exact nomatch e),λ_ _ e=>(by cases e),λ_ _ e=>(by cases e),λ_ _ _ _ e=>(by exact nomatch e)⟩) (λf s' g=>g) λ_ _=>False.elim
  ·exact ha.in1
  ·exact ha.in2
  ·refine A2 (Ja R) λo L _=>?_;rw[q]at e;rw[show D.get? l.locals=eu from e]at L;exact nS L
  ·rw[v3]at e;exact(C.cl m c e).2 q.1
end
section
open PySem.W
theorem A'(a:List pt)(d:t8):∀b:List pt,uO (b++a) d=uO b d >>= λf=>match f with|.next=>uO a d|f=>tS f
 |[]=>by
  show uO a d=tS u9 >>= _
  rw[yQ]
 |st::r=>by
  rw[xN,execs_cons,execs_cons,bind_assoc];congr 1;funext f;cases f<;>first|exact A' a d r|(rw[yQ])
section
variable{Z:Bs}{n:Nat}{A:mx}{j:o5}{d:t8}{k:ls->Prop}{s:lb}{t:Ev}{cl:Cl}
theorem Fr.noW{W:Jc}(F:Fr Z n A j d k W s t []):W=[]:=by rw[List.eq_nil_iff_forall_not_mem];rintro⟨i,a⟩ h;refine A2 (F.c i a h) λv e z=>?_;exact nS e
theorem GO{b:Cs}{p q:List pt}(x:PB Z n A cl b)(y:C1 j b p=er){r:Rs}(z:AX cl fG b t []=dD r)(F:Fr Z n A j d k [] s t []){Q:xg->lb->Prop}
  (h:∀(f:xg) (a:lb),Ch Z (Fp j d []) (λY=>False) s a->(match r with
   |.ret v=>∃u,f=AD8 u/\VR Z.prog Z.w k a.heap u v
   |.nx m o=>f=u9/\(o=[]->Fr Z n A j d k [] a m []))->(match f with|Flow.next=>WP Z A (uO q d) Q a|f=>Q f a)):
  WP Z A (uO (p++q) d) Q s:=by
 rw[A'];refine fX (A1 (x j p y fG d k [] s t [] r z F) (λf a g=>?_));obtain⟨c,g⟩:=g;have:=h f a c (by
  cases r with
  |ret v=>exact g
  |nx m o=>
   (obtain⟨i,l⟩:=g;subst i;refine LN l λB Y Y Y w=>?_)
   refine⟨rfl,λe=>?_⟩;subst e;have:=w.noW;rw[<-this];exact w)
 cases f<;>first|exact this|exact mM this
theorem MW(R:EnvR Z j d k s.heap t){i:Nat}{m:pw}{c:ls}{u:gx}{p:tE}(a:j.names[i]?=dD (m,.free))(x:d.cells.lookup m=dD c)(y:s.heap.IsCell c (dD u))(hd:(m==("__debug__" :pw))=fG)(b:(m==("__classdict__" :pw))=fG):
  WP Z A (tW (.Name m p) d) (λv e=>v=u/\e=s) s:=by
 refine yr ?_ hd;rcases R.kd m _ (A8 R.nd a)with h|⟨_,h⟩
 ·exact yX R.fn h x y ⟨rfl,rfl⟩ b
 ·exact tJ R.fn h x y ⟨rfl,rfl⟩
theorem Kf(O:Z.Ok)(b:Wd Z)(y:Av Z b n)(S:St Z n A j d k s t){m:pw}{F:ls}{o:xE}{fd:FuncData}{q p:tE}{l:List f0}{xs:XL}{vs:List V}{Q:gx->lb->Prop}(r:WP Z A (tW (.Name m q) d) (λv z=>v=.ref F/\z=s) s)
  (B:s.heap.get? F=dD o) (c:o.data=.func fd) (w:Bo j xs l=er) (e:EE D9 xs t=dD vs)
  (h:∀i g,VRs Z.prog Z.w k g.heap i vs->Same Z s g->WP Z A (t9 (.ref F) i) Q g):WP Z A (tW (.Call (.Name m q) l [] p) d) Q s:=by
 simp only[sZ];refine fX (pF r (λH C D=>?_) λY Y f=>f)
 (obtain⟨E,rfl⟩:=D<;>try subst E)
 refine vO (fd:=fd) (o:=o) (pF (Ds w e ((FS O b (Au b n) y xs j l w).l d k C t vs p e S)) (λa g u=>?_) λY Y f=>f);obtain⟨i,rfl,u,x⟩:=u;have G:AB o=fG:=by exact C9 c rfl
 exact⟨⟨x.heap _ _ B G,c⟩,h i g u x⟩
theorem KN(O:Z.Ok)(a:Wd Z)(v:Av Z a n)(S:St Z n A j d k s t){i:Nat}{m:pw}{c F:ls}{o:xE}{w:FuncData}{q p:tE}{g:List f0}{l:XL}{r:List V}{Q:gx->lb->Prop}(z:j.names[i]?=dD (m,.free))(x:d.cells.lookup m=dD c)(y:s.heap.IsCell c (dD (.ref F)))
  (hd:(m==("__debug__" :pw))=fG) (B:(m==("__classdict__" :pw))=fG) (C:s.heap.get? F=dD o) (b:o.data=.func w) (D:Bo j l g=er) (e:EE D9 l t=dD r)
  (h:∀u f,VRs Z.prog Z.w k f.heap u r->Same Z s f->WP Z A (t9 (.ref F) u) Q f):WP Z A (tW (.Call (.Name m q) g [] p) d) Q s:=
 Kf O a v S (MW S.e z x y hd B) C b D e h
end
end
noncomputable def JA:Cs:=.cons (.ie (.q (.b .Add (.v 0) (.c (.int 1))) .Eq (.v 1)) (.cons (.ret (.sub (.v 4) (.v 0))) .nil) .nil) (.cons (.ag (.one 2) (.b .RShift (.b .Add (.v 0) (.v 1)) (.c (.int 1)))) (.cons (.ag (.one 3) (.b .Mult (.b .Sub (.v 2) (.v 0)) (.v 6))) .nil))
noncomputable def NZ(L R:Nat)(a:List V)(w:Nat):Ev:=[(0,.int L),(1,.int R),(4,.l a),(6,.int w)]
theorem YP{L:Nat}(h:L<2^62):VM (L:Int)=er:=by unfold VM;rw[vS];exact mK h
theorem B8{L:Nat}(h:L<2^4000):FP (L:Int)=er:=by unfold FP;rw[vS];exact mK h
theorem Yn{b:Type}{L:Nat}{a:List b}{v:b}(c:a[L]?=dD v):(tY (L:Int) a.length).bind (a[·]?)=dD v:=by
 unfold tY;have d:¬((L:Int)<0):=by lia
 simp only[d,if_false];have e:(decide (0<=(L:Int))&&decide ((L:Int)<(a.length:Int)))=er:=by simp;exact((qR.mp c).1)
 rw[if_pos e];simp only[p7];exact c
theorem Ql{L R w:Nat}{a:List V}{v:V}(h:L+1=R)(b:a[L]?=dD v)(c:L<2^62):AX D9 fG JA (NZ L R a w) []=dD (.ret v):=by
 have d:C0 (.l a) (.int L)=dD v:=by show(if VM (L:Int)=er then(tY (L:Int) a.length).bind (a[·]?)else eu)=dD v;rw[if_pos (YP c),Yn b]
 have e:((L:Int)+1==(R:Int))=er:=by simp;lia
 simp only[JA,GG,Ef,DS,C6,Af,Do,DW,CC,NZ,sg,AC,lf,Aj,AD,binI,Cd,KP,e,Ao,tr,AI,d]
theorem Y9{L R:Nat}(h:L<=R):L<=(L+R)/2/\(L+R)/2<=R:=
 ⟨(wB (by decide)).mpr (by rw[xB];exact qf h L),x6 (by rw[zA];exact sn h R)⟩
theorem QH{L R w:Nat}{xs:List V}(h:L+1<R)(a:R<2^62)(b:w<2^62):AX D9 fG JA (NZ L R xs w) []=dD (.nx ((Ev.put (NZ L R xs w) 2 (.int (((L+R)/2:Nat):Int))).put 3 (.int ((((L+R)/2-L)*w:Nat):Int))) []):=by
 have c:((L:Int)+1==(R:Int))=fG:=by exact beq_eq_false_iff_ne.mpr (AC2 (sG.mpr h))
 have d:((L:Int)+(R:Int)).fdiv (2^(1:Int).toNat)=(((L+R)/2:Nat):Int):=by show((L:Int)+(R:Int)).fdiv 2=_;rw[tw _ (by decide)];rfl
 have e:(((L+R)/2:Nat):Int)-(L:Int)=(((L+R)/2-L:Nat):Int):=(th (Y9 (nV (rb h))).1).symm;have f:(L+R)/2-L<2^62:=mJ (mE (sX _ _) (Y9 (nV (rb h))).2) a;have o2:FP (w:Int)=er:=B8 (qS b (qJ (by decide) (by decide)));have g:decide ((0:Int)<=1)=er:=rfl;simp only[JA,Ht,GG,RV,DS,C6,Af,Do,DW,NZ,sg,DN,AC,GV,FO,lf,Aj,AD,binI,Cd,KP,c,Ao,tr,AI,T.names,Dk,Bz,BM,g,if_true,d,e,(B8 (qS f (qJ (by decide) (by decide)))),o2,rt,xm]
noncomputable def CM(w:Nat):List Int->Int
 |[]=>0
 |d::r=>d+2^w*CM w r
theorem Rh{w:Nat}:CM w []=0:=rfl
theorem Gr{w:Nat}{d:Int}{r:List Int}:CM w (d::r)=d+2^w*CM w r:=rfl
theorem HY(w:Nat):∀a b:List Int,CM w (a++b)=CM w a+2^(w*a.length)*CM w b
 |[],b=>by simp[Rh,Gr]
 |d::r,b=>by
  rw[xN,Gr,Gr,HY w r b,zB,<-xK,<-Int.pow_add,pJ,xC,AA1,rZ (w*r.length) w,Int.add_assoc]
theorem JN(w:Nat):∀a:List Int,(∀d∈a,d.natAbs<2^1000)->(CM w a).natAbs<2^(1000+(w+1)*a.length)
 |[],_=>by simp only[Rh];exact ADc (by decide)
 |d::r,h=>by
  have g:=h d pg;have b:=JN w r λx i=>h x (oP _ i);simp only[Gr,pJ];have c:(d+2^w*CM w r).natAbs<=d.natAbs+2^w*(CM w r).natAbs:=by refine mE (yZ _ _) ?_;simp only[ACb,zd];exact qF _
  have j:1000+(w+1)*(r.length+1)=(1000+(w+1)*r.length)+w+1:=by rw[xC];lia
  rw[j,ACw,xD];have e:2^1000<=2^(1000+(w+1)*r.length):=rv (by decide) (tN _ _);generalize 2^(1000+(w+1)*r.length)=P at b e⊢;have f:1<=2^w:=ADc (by decide);generalize 2^w=W at c f⊢;have k:P<=P*W:=Nat.le_mul_of_pos_right _ f;have l:W*(CM w r).natAbs<=P*W:=by simp only[uI P W];exact yB _ (nV b)
  rw[xB];exact mJ c (Nat.add_lt_add_of_lt_of_le (nR g (mE e k)) l)
section
open PySem.W
section
variable{Z:Bs}{ok ok':ls->Prop}{s C:lb}{F D:ls}{E:xE}{B:pw}{l:List (pw×ls)}{m:pw}{u:gx}
theorem IsCell.keep{c:ls}{v}(x:s.heap.IsCell c v)(e:∀o,s.heap.get? c=dD o->AB o=fG->C.heap.get? c=dD o):C.heap.IsCell c v:=by
 refine AW (Cj x) λo b t z=>?_;refine A2 x λf a d=>?_
 (replace a:=dE (b.symm.trans a);subst a)
 exact⟨o,e o b t,d⟩
theorem CellAt.same(x:CellAt s l m u)(S:Same Z s C):CellAt C l m u:=by refine A2 x λc h y=>?_;exact⟨c,h,IsCell.keep y λo e t=>S.heap _ _ e t⟩
theorem CS.same(x:CS ok s F D E B l)(S:Same Z s C)(d:∀b,ok' b->ok b):CS ok' C F D E B l:=by
 refine⟨⟨S.heap _ _ x.hF.1 x.hF.2,x.hF.2⟩,?_,λm c e=>?_,x.ap⟩
 ·refine M9 x.hc λf v t e a r=>?_;exact⟨f,v,t,S.heap _ _ e a,a,r⟩
 ·obtain⟨⟨v,y⟩,h⟩:=x.cl m c e;exact⟨⟨v,IsCell.keep y λo=>S.heap _ _⟩,λq=>h (d c q)⟩
end
inductive eS(sc:o5)(y:List pt):Prop
 |mk (s1) (s2) (s3) (q1) (a1) (a2) (q2) (b) (q3) (q4) (a3) (a4) (q5) (q6) (q7):y=[s1,s2,s3,(.Return (dD (.BinOp (.BinOp (.Call (.Name "inner" q1) [a1,a2] [] q2) (.LShift) b q3) (.Add) (.Call (.Name "inner" q4) [a3,a4] [] q5) q6)) q7)]->C1 sc JA [s1,s2,s3]=er->AH sc (.v 2) a1=er->AH sc (.v 1) a2=er->AH sc (.v 3) b=er->AH sc (.v 0) a3=er->AH sc (.v 2) a4=er->eS sc y
theorem G9{Z:Bs}{a:o5}{d:t8}{s g C:lb}(i:Same Z s g)(k:∀x∈a.names,x.2≠.cell)(n:s.heap.get? d.locals=eu)(c:Ch Z (Fp a d []) (λz=>False) g C):Same Z s C:=
 (i.ch.trans c).same (λb o e f=>by
  rcases f with(f|⟨m,h,_⟩)|⟨j,p⟩
  ·rw[f,n]at e;exact nS e
  ·exact(k _ (mem_of_lookup h) rfl)
  ·cases p) λz z f=>f
theorem KL{L R m:Nat}(h:L<R)(c:¬L+1=R)(b:R-L<=2^m):∃a,m=a+1/\L<(L+R)/2/\(L+R)/2<R/\R-(L+R)/2<=2^a/\(L+R)/2-L<=2^a:=by
 cases m with
 |zero=>exact absurd (AAh.mp b) (uQ.mpr (rZ L 1▸vT h c))
 |succ a=>
  have b:R<=2^a*2+L:=AAh.mp b;have d:=vT h c;refine⟨a,rfl,(wB (yw 1)).mpr ?_,AAr ?_,AA2 ?_,AA2 (x6 ?_)⟩
  ·rw[xB];exact wM L 1 (L+1)▸qf (rZ 1 (L+1)▸d) L
  ·rw[zA];exact Nat.add_lt_add_right h R
  ·rw[rZ (2^a),<-xw _ _ (yw 1)];refine(wB (yw 1)).mpr ?_;rw[xB,vV];exact sn (rZ L _▸b) R
  ·rw[zA,rZ L,Nat.add_add_add_comm,<-xB (2^a),<-wM];exact sn b L
theorem eX{b:List Int}{w:Nat}(g:w<=300)(c:b.length<=8)(hd:∀d∈b,d.natAbs<2^1000)(a e:Nat):(FP (CM w ((b.drop a).take (e-a))))=er:=by
 have h:=JN w ((b.drop a).take (e-a)) λd f=>hd d (xy (xz f));have i:((b.drop a).take (e-a)).length<=8:=by rw[tM,rH];exact mE (to _ _) (mE (sX _ _) c)
 have j:1000+(w+1)*((b.drop a).take (e-a)).length<=4000:=by have:(w+1)*((b.drop a).take (e-a)).length<=301*8:=vi (xO g) i;exact mE (qf this 1000) (by decide)
 exact mK (nR h (rv (by decide) j))
theorem XB{x:Int}{k:Nat}(a:FP x=er)(d:k<=8*300):AD .LShift (.int x) (.int (k:Int))=dD (.int (x*2^k)):=by have b:decide ((0:Int)<=(k:Int))=er:=decide_eq_true (pP _);have c:decide ((k:Int)<=1000000)=er:=decide_eq_true (by lia);simp only[AD,binI,a,b,c,rt,if_true,p7]
theorem YM{b:List Int}{w L a R:Nat}(c:L<a)(d:a<R)(e:R<=b.length):CM w ((b.drop L).take (R-L))=CM w ((b.drop a).take (R-a))*2^((a-L)*w)+CM w ((b.drop L).take (a-L)):=by
 have:(b.drop L).take (R-L)=(b.drop L).take (a-L)++(b.drop a).take (R-a):=by simp only[(AAV (nV d) (nV c)).symm.trans (rZ _ _),List.take_add,tR,vF (nV c)]
 have f:((b.drop L).take (a-L)).length=a-L:=by simp only[tM,rH];exact uo (Nat.sub_le_sub_right (mE (nV d) e) L)
 simp only[this,HY,f,wf,AC3,uI w]
theorem YY{a:List Int}{w L R:Nat}(b:L+1=R)(c:L<a.length):CM w ((a.drop L).take (R-L))=a[L]:=by rw[<-b,z9,w3 c];show a[L]+2^w*0=a[L];rw[AC4,AC5]
def I7(l:List (pw×ls))(F D:ls)(E:xE)(B:pw)(a b:gx)(ok:ls->Prop)(s:lb):Prop:=CS ok s F D E B l/\CellAt s l "inner" (.ref F)/\CellAt s l "digits" a/\CellAt s l "n" b
theorem I7.same{Z:Bs}{l:List (pw×ls)}{F D:ls}{E:xE}{B:pw}{a c:gx}{ok ok':ls->Prop}{s C:lb}(x:I7 l F D E B a c ok s)(S:Same Z s C)(g:∀b,ok' b->ok b):I7 l F D E B a c ok' C:=⟨x.1.same S g,x.2.1.same S,x.2.2.1.same S,x.2.2.2.same S⟩
theorem dG{Z:Bs}(O:Z.Ok)(W:Wd Z)(HG:∀n,Av Z W (n+1)){F D:ls}{B:pw}{G:t7}{M:List pt}{h:o5}{l:List (pw×ls)}{ac pm ae:gx}{E:xE}(af:E=ABf "inner" B G M h l ac pm D ae)
  (am:eS h M) (H:Mp h [("L" :pw),"R"]) (hb:∀a b,xu (fnX "inner" B G M h l .none .none ac pm eu (.ref D) ae) ⟨[a,b],[]⟩=tS ([("L" :pw),"R"].zip [a,b]))
  (n4:h.names[4]?=dD (("digits" :pw),.free)) (n5:h.names[5]?=dD (("inner" :pw),.free)) (n6:h.names[6]?=dD (("n" :pw),.free)) (a5:∀m,h.names.lookup m=dD .free->∃c,l.lookup m=dD c)
  {z:List Int} {w:Nat} (hw:w<=300) (N:z.length<=8) (hd:∀d∈z,d.natAbs<2^1000):
  ∀(m:Nat) {A:mx} {ok:ls->Prop} {s:lb} {L R:Nat} {us:List gx} {ud un:gx},OkA (m+2) A->Inv Z s->(∀a,s.heap.get? a=eu->ok a)->I7 l F D E B ud un ok s->VR Z.prog Z.w ok s.heap ud (.l (z.map V.int))->VR Z.prog Z.w ok s.heap un (.int w)->L<R->R<=z.length->R-L<=2^m->VRs Z.prog Z.w ok s.heap us [.int L,.int R]->
   WP Z A (t9 (.ref F) us) (Gv Z ok s (.int (CM w ((z.drop L).take (R-L))))) s:=by
 intro m;induction m using ACF with
 |ind m ih=>
  intro A ok s L R us ud un ha i k I vd vn an hR hm hv;refine VRs.kCons hv λu1 us v1 hv=>VRs.kCons hv λu2 us v2 hv=>?_;have e:=VRs.of_nil hv;subst e;refine M8 (ρf:=[(4,.l (z.map V.int)),(6,.int w)]) O ha i k (af▸I.1) H (hb u1 u2) rfl (.cons v1 (.cons v2 .nil)) a5 (.cons n4 I.2.2.1 vd (.cons n6 I.2.2.2 vn .nil)) λt ag tk ao ap av hk F0=>?_;have a6:s.heap.get? t.locals=eu:=by exact(congrArg _ ap).trans (A6 _)
  have S1:Same Z s {s with heap:=ag,toks:=tk}:=Same.of_keep O hk;have ah:R<2^62:=mJ hR (mJ N (by decide))
  (obtain⟨s1,s2,s3,q1,a1,a2,q2,b,q3,q4,a3,a4,q5,q6,q7,qz,k0,k1,k2,k3,k4,k5⟩:=am<;>try refine qz▸?_)
  have ai:∀{C:lb} {u:gx} {v:V},VR Z.prog Z.w (C8 (λb=>ok b/\b≠t.locals) []) C.heap u v->VR Z.prog Z.w ok C.heap u v:=λr=>r.mono (λX X X e X=>e) λX X q X=>q.1.1;have aj:PB Z (m+1) (A.deeper t) D9 JA:=C7 O W (Au W _) (HG m) JA;by_cases hq:L+1=R
  ·have hL:L<z.length:=by lia
   have hx:(z.map V.int)[L]?=dD (.int z[L]):=by simp[hL]
   refine GO aj k0 (Ql hq hx (by lia)) F0 λf C c g=>?_;obtain⟨u,rfl,hu⟩:=g;exact⟨YY hq hL▸BZ rfl hu,G9 S1 H.nocell a6 c⟩
  ·refine LN (KL an hq hm) λm' e a7 Q hp=>?_;have⟨ak,al⟩:=hp;subst e;refine GO aj k0 (QH (xs:=z.map V.int) (by lia) ah (mJ hw (by decide))) F0 λf C c g=>?_;obtain⟨rfl,g⟩:=g;have F1:=g rfl;clear g;have S2:Same Z s C:=G9 S1 H.nocell a6 c;generalize(L+R)/2=y at F1 a7 Q ak al;generalize Y:((Ev.put (NZ L R (z.map V.int) w) 2 (.int (y:Int))).put 3 (.int (((y-L)*w:Nat):Int)))=J at F1;have g0:J.get 0=dD (.int L):=by rw[<-Y];rfl
   have g1:J.get 1=dD (.int R):=by rw[<-Y];rfl
   have g2:J.get 2=dD (.int y):=by rw[<-Y];rfl
   have g3:J.get 3=dD (.int (((y-L)*w:Nat):Int)):=by rw[<-Y];rfl
   have U:=F1.frz;have a8:∃fd,E.data=.func fd:=⟨_,congrArg zX af⟩
   have a0:∀{es:List f0} {xl:XL} {P:Nat} {L2 R2:Nat} {sa:lb} {q p:tE},Same Z C sa->Bo h xl es=er->EE D9 xl J=dD [.int (L2:Int),.int (R2:Int)]->L2<R2->R2<=z.length->R2-L2<=2^m'->
     WP Z (A.deeper t) (tW (.Call (.Name "inner" q) es [] p) t) (Gv Z (C8 (λb=>ok b/\b≠t.locals) []) sa (.int (CM w ((z.drop L2).take (R2-L2))))) sa:=by
    intro es xl P L2 R2 sa q p Sa aq ar h1 h2 h3;have a9:=S2.trans Sa;refine(I.2.1.same a9).elim λX x=>a8.elim λX a8=>KN O W (HG _) (U.same Sa) n5 ((congrArg _ ao).trans x.1) x.2 (by decide) (by decide) (a9.heap _ _ I.1.hF.1 I.1.hF.2) a8 aq ar λus sb as Sb=>?_;have aa:=a9.trans Sb;have mv:∀{u v},VR Z.prog Z.w ok s.heap u v->VR Z.prog Z.w (C8 (λb=>ok b/\b≠t.locals) []) sb.heap u v:=λr=>(r.goal (ok':=C8 (λb=>ok b/\b≠t.locals) []) λb o e q=>⟨⟨q,λq'=>nS (a6.symm.trans (q'▸e))⟩,λj hj=>nomatch hj⟩).same aa
    refine A1 (ih m' (rn _) F1.a (aa.inv i) (Sb.hok ((U.same Sa).k)) (I.same aa λb q=>q.1.1) (mv vd) (mv vn) h1 h2 h3 as) (λv au g=>⟨g.1,Sb.trans g.2⟩)
   refine pz (xX ?_);refine AB5 (AB5 (A1 (a0 (P:=0) (xl:=.cons (.v 2) (.cons (.v 1) .nil)) Same.refl (D5 k1 (D5 k2 rfl)) (by simp only[Bt,Bj,Af,g2,g1]) Q hR ak) (λva sa ga=>?_)));refine A1 ((Aa O W (Au W _) (.v 3) h b k3).1 t _ sa J _ (by exact g3) (U.same ga.2)) (λvb sb gb=>?_);have Sb:=ga.2.trans gb.2;refine A1 (G7 O (XB (eX hw N hd y R) (vi (mE (sX _ _) (nV (nR Q (mE hR N)))) hw)) (Sb.hok U.k) (ga.1.same gb.2) gb.1) (λvc au gc=>?_);have Sc:=Sb.trans gc.2;refine A1 (a0 (P:=0) (xl:=.cons (.v 0) (.cons (.v 2) .nil)) Sc (D5 k4 (D5 k5 rfl)) (by simp only[Bt,Bj,Af,g0,g2]) a7 (mE (nV Q) hR) al) (λaw sd gd=>?_);have Sd:=Sc.trans gd.2;refine A1 (G7 O (o:=.Add) (z:=.int (CM w ((z.drop y).take (R-y))*2^((y-L)*w)+CM w ((z.drop L).take (y-L)))) rfl (Sd.hok U.k) (gc.1.same gd.2) gd.1) (λve se ge=>?_);exact⟨YM a7 Q hR▸ai ge.1,S2.trans (Sd.trans ge.2)⟩
end
section
open PySem.W
structure Gm(Z:Bs)(a c P:ls)(pos:tE)(qual:pw):Prop where
 code:∀o fd,Z.B.heap.get? a=dD o->o.data=.func fd->fd.code=.ref c
 ti:∀h,Z.TI h->D6 h c P pos qual
 up:∀h h' c' oc vs t,Z.TI h->(∃op,h.get? P=dD op/\AB op=er)->sm P h h'->h'.get? P=dD (vt #[uC pos.line,uC pos.col,.ref c'])->h'.get? c'=dD oc->oc.cls=.type "code" ->oc.data=.fields vs->vs[1]?=dD (.str qual t)->Z.TI h'
 gP:sf≠P
 bm:Z.B.heap.BuiltinsAt Z.mg P
section
variable{Z:Bs}{n:Nat}{A:mx}{l:o5}{d:t8}{ok:ls->Prop}{s:lb}{ρ:Ev}
theorem Rl{P:ls}(i:Inv Z s)(h:Z.B.heap.BuiltinsAt Z.mg P):s.heap.BuiltinsAt Z.mg P:=by refine iQ h λb c e f g j k a m o=>?_;exact⟨b,c,e,f,g,j,i.keep _ _ k (A9 a),a,m,o⟩
theorem Jz(O:Z.Ok){a c P:ls}{H:tE}{r y:pw}(N:Gm Z a c P H r)(u:Fr Z n A l d ok [] s ρ [])(z:d.code=.ref c)(hq:yx d y y=r){i:Nat}(hn:l.names[i]?=dD (y,.cell))(a3:ρ.get i=eu)
  {p:t7} {v:List pt} {h:o5} (a4:p.defaults=[]) (a5:p.kw_defaults=[]) (ha:ADx p eu d=[]) (B:∀q∈h.names,q.2=.free->∃c,d.cells.lookup q.1=dD c) (a6:∃m,(m,rX)∈h.names):
  WP Z A (yL (.FunctionDef y p v [] eu [] h eu y H) d) (λf G=>f=.next/\∃F I C pm D,Ch Z (Fo l d) (λX=>False) s G/\Fr Z n A l d ok [] G ρ []/\LocAt d G.heap y .cell (.ref F)/\s.heap.get? F=eu/\
   G.heap.get? F=dD (ABf y r p v h (B4 d.cells h.names []) C pm I D)/\(∃J L t,G.heap.get? I=dD J/\AB J=fG/\J.data=.fields L/\L[1]?=dD (.str r t))/\
   (∀j m k w,j≠i->l.names[j]?=dD (m,k)->LocAt d s.heap m k w->LocAt d G.heap m k w)) s:=by
 have a7:B4 d.cells h.names []≠[]:=by obtain⟨m,hm⟩:=a6;obtain⟨c,hc⟩:=Cy (cells:=d.cells) (acc:=[]) hm;intro q;rw[q]at hc;exact nomatch hc
 refine nestDef_K a4 a5 ha ?_;rw[hq];refine made (Ff (scope:=h) (env:=d) B) a7 u.f.gl (u.i.ns_g O) z (N.ti _ u.i.ti) N.gP (Rl u.i N.bm) λF I J vs t D C h' tk M Q hF g1 g2 g3 g4 hP U=>?_;refine A2 U λop Y a0=>?_;have nP:∀b o,s.heap.get? b=dD o->AB o=fG->b≠P:=λb o e E q=>by rw[q,Y]at e;(replace e:=dE e;subst e);exact tF (a0.symm.trans E)
 have S:Same Z s {s with heap:=h',toks:=tk}:=by
  refine⟨λb o e E=>M b o (nP b o e E) e,λX X e=>e,λi=>⟨λb o e E=>M b o (nP b o (i.keep b o e E) E) (i.keep b o e E),λb o e=>?_,i.bare,i.os,N.up _ _ _ _ _ _ i.ti (U) M hP g1 g2 g3 g4⟩,λb e=>?_⟩
  ·by_cases hb:b=P
   ·exact⟨_,hb▸hP⟩
   ·obtain⟨o',e'⟩:=i.there b o e;exact⟨o',M b o' hb e'⟩
  ·cases q:s.heap.get? b with
   |none=>rfl
   |some o=>
    by_cases hb:b=P
    ·subst hb;rw[show h'.get? b=dD _ from hP]at e;exact sN e
    ·rw[show h'.get? b=dD o from M b o hb q]at e;exact sN e
 have F1:=u.turn S;refine A1 (F1.f.storeG O hn (.inr rfl)) (λX s2 g=>?_);refine D1 g λhR c hO hL=>?_;have R2:=hR ρ λj w e=>.inr ⟨λq=>(by rw[<-q,a3]at e;exact nS e),e⟩;have a1:¬Fo l d F:=λq=>u.f.foN q Q;have a2:¬Fo l d I:=λq=>F1.f.fo_code q g1 ⟨.inr g2,_,g3⟩;refine⟨rfl,F,I,C,_,D,S.ch.trans c,?_,hL,Q,c.heap _ _ hF rfl a1,⟨J,vs,t,c.heap _ _ g1 (A9 g2) a2,A9 g2,g3,g4⟩,λj m k w hj hm x=>hO j m k w (by simpa using hj) hm (x.turn λb o X e t=>S.heap b o e t)⟩;refine⟨u.a,c.inv F1.i,λx e=>F1.k x (c.live x (λf=>?_) e),R2,u.nl,u.nc,λX X e=>(by exact nomatch e),λX X e=>(by cases e),λX X e=>(by exact nS e),λX X X X e=>(by exact nomatch e)⟩;obtain⟨o,e'⟩:=R2.fo_live f;rw[e]at e';exact nS e'
end
end
section
open PySem.W
noncomputable def mS(k:Nat):pw×t7×List pt×o5×tE:=((CN k).findSome? qc).getD ABe
noncomputable def ip(k:Nat):t7:=(mS k).2.1
noncomputable def ib(k:Nat):List pt:=(mS k).2.2.1
noncomputable def Jd(k:Nat):o5:=(mS k).2.2.2.1
noncomputable def Hv(k:Nat):tE:=(mS k).2.2.2.2
noncomputable def TA:List pt:=(CN 7).tail
noncomputable def CF(k:Nat):pw:=(D4 k++".<locals>.")++"inner"
theorem iX:CN 7=.FunctionDef "inner" (ip 7) (ib 7) [] eu [] (Jd 7) eu "inner" (Hv 7)::TA:=by kernel_rfl
theorem Y4(c:pw)(d:List (pw×ls))(e g h f a b:gx):xu (fnX "inner" c (ip 7) (ib 7) (Jd 7) d .none .none e g eu h f) ⟨[a,b],[]⟩=tS ([("L" :pw),"R"].zip [a,b]):=by kernel_rfl
theorem mo(a:t8):(ip 7).defaults=[]/\(ip 7).kw_defaults=[]/\ADx (ip 7) eu a=[]:=by refine⟨?_,?_,?_⟩<;>kernel_rfl
theorem Dl:(Jd 7).names=[(("L" :pw),NameKind.local),(("R" :pw),NameKind.local),(("mid" :pw),NameKind.local),(("shift" :pw),NameKind.local),(("digits" :pw),rX),(("inner" :pw),rX),(("n" :pw),rX)]:=by kernel_rfl
theorem Lk:(Aq 7).names=[(("digits" :pw),tL),(("n" :pw),tL),(("inner" :pw),tL),(("len" :pw),w7)]:=by kernel_rfl
theorem Vc:(Jd 7).isCoroutine=fG/\(Jd 7).isGenerator=fG/\(Jd 7).kind=.function:=by nofun
theorem dR:eS (Jd 7) (ib 7):=⟨_,_,_,_,_,_,_,_,_,_,_,_,_,_,_,rfl,by nofun,by nofun,by nofun,by nofun,by nofun,by nofun⟩
inductive hN(sc:o5)(y:List pt):Prop
 |mk (t) (q1) (e0) (e1) (q2) (z) (q3) (q4):y=[(.Return (dD (.IfExp t (.Call (.Name "inner" q1) [e0,e1] [] q2) z q3)) q4)]->AH sc (.v 0) t=er->AH sc (.c (.int 0)) e0=er->AH sc (.bi .len (.cons (.v 0) .nil)) e1=er->AH sc (.c (.int 0)) z=er->hN sc y
theorem dK:hN (Aq 7) TA:=⟨_,_,_,_,_,_,_,_,rfl,by nofun,by nofun,by nofun,by nofun⟩
theorem d6:Mp (Jd 7) [("L" :pw),"R"]:=by
 refine BO Vc λa b c=>?_;refine⟨a,b,c,?_,by rw[Dl];decide,λi p h=>?_,by decide⟩
 ·nofun
 ·rw[Dl]
  match i,h with
  |0,h=>simp at h;subst h;rfl
  |1,h=>simp at h;subst h;rfl
  |i+2,h=>simp at h
end
section
open PySem.W
theorem OkA.mono{n a:Nat}{A:mx}(h:OkA a A)(b:n<=a):OkA n A:=⟨h.1,mE (sn (qf b _) _) h.2.1,mE (sn (qf (yB 8 b) _) _) h.2.2⟩
section
variable{Z:Bs}{n:Nat}{A:mx}{B:o5}{j:t8}{r:ls->Prop}{s:lb}{C:Ev}
theorem JD(R:EnvR Z B j r s.heap C){i:Nat}{m:pw}{u:gx}{p:tE}(a:B.names[i]?=dD (m,.cell))(x:LocAt j s.heap m .cell u)(hd:(m==("__debug__" :pw))=fG):
  WP Z A (tW (.Name m p) j) (λv b=>v=u/\b=s) s:=by
 refine yr ?_ hd
 (refine CB λz d=>?_;rcases x with⟨q,_⟩|⟨_,c,e,f⟩<;>refine d ?_)
 ·cases q
 ·rcases R.kd m _ (A8 R.nd a)with h|⟨h,_⟩
  ·exact tJ R.fn h e f ⟨rfl,rfl⟩
  ·cases h
theorem HE{a:List (pw×ls)}{b:List (pw×qE)}(d:∀q∈b,q.2=.free->∃c,a.lookup q.1=dD c){m:pw}(f:(m,rX)∈b){c:ls}(g:a.lookup m=dD c):(B4 a b []).lookup m=dD c:=by
 obtain⟨l,i⟩:=Cy (cells:=a) (acc:=[]) f;obtain⟨k,e⟩:=AV i;have:=Db d (λz z h=>by cases h) m k (mem_of_lookup e)
 (replace this:=dE (g.symm.trans this);refine this▸?_)
 exact e
theorem KY{b:List (pw×ls)}{a:List (pw×qE)}(d:∀q∈a,q.2=.free->∃c,b.lookup q.1=dD c)(m:pw)(h:a.lookup m=dD .free):∃c,(B4 b a []).lookup m=dD c:=
 (d _ (mem_of_lookup h) rfl).imp λz e=>HE d (mem_of_lookup h) e
theorem Zc{Z:Bs}{B:o5}{j:t8}{r:ls->Prop}{s:lb}{C:Ev}(E:EnvR Z B j r s.heap C){F k:ls}{f:xE}{b:pw}(l:s.heap.get? F=dD f/\AB f=fG)(o:∃g e t,s.heap.get? k=dD g/\AB g=fG/\g.data=.fields e/\e[1]?=dD (.str b t)){a:List (pw×qE)}
  (d:∀q∈a,q.2=.free->∃c,j.cells.lookup q.1=dD c):CS r s F k f b (B4 j.cells a []):=by
 have i:∀{m c},(B4 j.cells a []).lookup m=dD c->j.cells.lookup m=dD c:=λ{m c} h=>Db d (λz z h=>by cases h) m c (mem_of_lookup h);exact⟨l,o,λm c h=>(E.cx m c (i h)).imp id And.right,λm p c h u=>E.ap m p c (i h) (i u)⟩
theorem cellOf{j:t8}{s:lb}{m:pw}{u:gx}{a:List (pw×qE)}(b:∀q∈a,q.2=.free->∃c,j.cells.lookup q.1=dD c)(x:LocAt j s.heap m .cell u)(d:(m,rX)∈a):CellAt s (B4 j.cells a []) m u:=
 x.elim (λq=>qj q.1) λq=>q.2.imp λz y=>⟨HE b d y.1,y.2⟩
theorem TP{Z:Bs}{B:o5}{j:t8}{r:ls->Prop}{s:lb}{C:Ev}(E:EnvR Z B j r s.heap C){a:List (pw×qE)}(b:∀q∈a,q.2=.free->∃c,j.cells.lookup q.1=dD c){i:Nat}{v:V}{m:pw}(g:C.get i=dD v)(n:B.names[i]?=dD (m,.cell))(d:(m,rX)∈a):
  ∃u,CellAt s (B4 j.cells a []) m u/\VR Z.prog Z.w r s.heap u v:=
 BJ (E.cl i v m _ g n (.inl rfl)) λc u x y z=>⟨u,⟨c,HE b d x,y⟩,z⟩
end
theorem XQ:(Jd 7).names.all (λq=>(match q.2 with|.free=>fG|_=>er)||[("digits" :pw),"inner","n"].contains q.1)=er:=by rw[Dl];decide
theorem iI{Z:Bs}(O:Z.Ok)(W:Wd Z)(T0:HV Z)(hW:W.fnA=T0.fnA)(HG:∀n,Av Z W (n+1)){c P:ls}(N:Gm Z (T0.fnA 7) c P (Hv 7) (CF 7)){n:Nat}{xs:List Int}{w:Nat}(hw:w<=300)(a1:xs.length<=8)(hd:∀d∈xs,d.natAbs<2^1000)
  {A:mx} {r:ls->Prop} {s:lb} {us:List gx} (ha:OkA (n+8) A) (i:Inv Z s) (k:∀a,s.heap.get? a=eu->r a) (hv:VRs Z.prog Z.w r s.heap us [.l (xs.map V.int),.int w]):WP Z A (t9 (.ref (W.fnA 7)) us) (Gv Z r s (.int (CM w xs))) s:=by
 rw[hW];refine FC (n:=n+7) O (T0.fn 7 _ _ _ _ (Cb (k:=7) rfl)).2 my (by simp only[jl];rfl) ha i k hv λj a9 tk o cd ho G H I aa a2 v S1 F0=>?_;refine A2 G λfd G a5=>?_;have x:j.code=.ref c:=by rw[H,<-a5];exact N.code o fd ho G
 have n0:(Aq 7).names[0]?=dD (("digits" :pw),.cell):=by rw[Lk];rfl
 have n1:(Aq 7).names[1]?=dD (("n" :pw),.cell):=by rw[Lk];rfl
 have n2:(Aq 7).names[2]?=dD (("inner" :pw),.cell):=by rw[Lk];rfl
 have nd:=F0.f.nd;have J:j.kindOf "inner" =dD .cell:=by
  (refine CB λX kk=>?_;rcases F0.f.kd _ _ (A8 nd n2)with h|⟨h,_⟩<;>refine kk ?_)
  ·exact h
  ·cases h
 have hq:yx j "inner" "inner" =CF 7:=by unfold yx CF;rw[J,I];rfl
 have l:∀q∈(Jd 7).names,q.2=.free->∃c,j.cells.lookup q.1=dD c:=Q1 (l:=(Jd 7).names) ["digits","inner","n"] (P:=λm=>∃c,j.cells.lookup m=dD c) XQ ⟨(F0.f.ce _ (A8 nd n0)).imp λX h=>h.1,(F0.f.ce _ (A8 nd n2)).imp λX h=>h.1,(F0.f.ce _ (A8 nd n1)).imp λX h=>h.1,trivial⟩;refine BO (mo j) λd1 d2 d3=>?_;rw[iX];refine pz (A1 (Jz O N F0 x hq n2 rfl d1 d2 d3 l ⟨"inner",by nofun⟩) (λf s2 g=>?_))
 (obtain⟨L,M⟩:=g;subst L;refine eg M λF c' ac pm ae c2 F2 hL af hF a6 X=>?_)
 obtain⟨t,q1,e0,e1,q2,z,q3,q4,Q,k0,k1,k2,k3⟩:=dK;rw[Q];have SS:∀{E},Same Z s2 E->Same Z s E:=λ{E} y=>((S1.ch.trans c2).trans y.ch:Ch Z (Fo (Aq 7) j) (λX=>False) s E).same (λb o e f=>by
  rcases f with f|⟨m,_,f⟩
  ·rw[f,a2]at e;exact nS e
  ·rw[v m b f]at e;exact nS e) λX X f=>f
 have D:=F2.frz;have g0:(Ah 0 [V.l (xs.map V.int),V.int w]).get 0=dD (.l (xs.map V.int)):=rfl;have a3:A5 (xs.map V.int)=er:=by unfold A5;exact mK (by rw[px];lia)
 refine pz (xX ?_);cases hx:xs with
 |nil=>refine zl (GH ((Aa O W (Au W _) (.v 0) _ t k0).2 j _ s2 (Ah 0 [V.l (xs.map V.int),V.int w]) fG (by show tr (ev D9 (.v 0) _)=_;rw[Af,g0,hx];rfl) D) λE y=>?_);refine A1 ((Aa O W (Au W _) (.c (.int 0)) _ z k3).1 j _ E (Ah 0 [V.l (xs.map V.int),V.int w]) (.int 0) (by simp only[C6]) (D.same y)) (λu s4 g=>?_);exact⟨BZ rfl g.1,SS (y.trans g.2)⟩
 |cons d ds=>
  refine zl (GH ((Aa O W (Au W _) (.v 0) _ t k0).2 j _ s2 (Ah 0 [V.l (xs.map V.int),V.int w]) er (by simp only[Af,g0];show(if A5 (xs.map V.int)then dD (!(xs.map V.int).isEmpty)else eu)=_;rw[if_pos a3,hx];rfl) D) λE y=>?_)
  have U:=D.same y;have a4:LocAt j E.heap "inner" .cell (.ref F):=hL.turn λb o X e t=>y.heap b o e t;have Y:0<xs.length:=by rw[hx];exact tG _
  refine Kf O W (HG _) U (JD U.e n2 a4 (by decide)) (y.heap _ _ hF rfl) rfl (xs:=.cons (.c (.int 0)) (.cons (.bi .len (.cons (.v 0) .nil)) .nil)) (vs:=[.int (0:Nat),.int (xs.length:Nat)]) (D5 k1 (D5 k2 rfl)) (by
   have:(xs.map V.int).length=xs.length:=by simp
   simp only[Bt,Bj,C6,Af,FU,g0,Ju,a3,if_true,this];rfl) λag s4 a7 S4=>?_
  have a0:=y.trans S4;have p:=U.same S4;rw[<-hx];have e1:CM w xs=CM w ((xs.drop 0).take (xs.length-0)):=by simp
  simp only[e1];refine A2 (TP p.e l g0 n0 (by nofun)) λud cd vd=>?_;refine A2 (TP p.e l (v:=.int w) rfl n1 (by nofun)) λun cn vn=>?_;exact A1 (dG O W HG rfl dR d6 (λa b=>Y4 _ _ _ _ _ _ a b) (by rw[Dl];rfl) (by rw[Dl];rfl) (by rw[Dl];rfl) (KY l) hw a1 hd 3 (F2.a.mono (by lia)) (p.i) p.k
   ⟨Zc p.e ⟨a0.heap _ _ hF rfl,rfl⟩ (L6 a6 λoc a8 tt y1 y2 y3 y4=>⟨oc,a8,tt,a0.heap _ _ y1 y2,y2,y3,y4⟩) l,cellOf l (a4.turn λb o X e t=>S4.heap b o e t) (by nofun),cd,cn⟩ vd vn Y (qF _) (by assumption) a7) (λu s5 g=>⟨BZ rfl g.1,SS (a0.trans g.2)⟩)
end
noncomputable def CU(w:Nat):Nat->Nat->List Int
 |0,_=>[]
 |1,x=>[(x:Int)]
 |k+2,x=>((x%2^w:Nat):Int)::CU w (k+1) (x/2^w)
theorem bp{w x:Nat}:CU w 0 x=[]:=rfl
theorem VZ{w x:Nat}:CU w 1 x=[↑x]:=rfl
theorem H9{w x k:Nat}:CU w k.succ.succ x= ↑(x%2^w)::CU w (k+1) (x/2^w):=rfl
theorem Eo(w:Nat):∀k x,(CU w k x).length=k
 |0,_=>rfl
 |1,_=>rfl
 |k+2,x=>by rw[H9,pJ,Eo w (k+1)]
theorem Ir(w:Nat):∀(j l x:Nat),0<j->0<l->CU w (j+l) x=CU w j (x%2^(w*j))++CU w l (x/2^(w*j))
 |1,l+1,x,_,_=>by
  simp only[show 1+(l+1)=l+2 by lia,VZ,AA1];rfl
 |j+2,l+1,x,_,_=>by
  simp only[show j+2+(l+1)=(j+1+l)+2 by lia,H9,show j+1+l+1=j+1+(l+1) by lia,(Ir w (j+1) (l+1) (x/2^w) (tG _) (tG _)),H9];have a:2^(w*(j+2))=2^w*2^(w*(j+1)):=by rw[<-xD];congr 1;simp only[xC,xC];lia
  have b:x%2^(w*(j+2))%2^w=x%2^w:=by rw[a];exact Nat.mod_mul_right_mod _ _ _
  have c:x%2^(w*(j+2))/2^w=x/2^w%2^(w*(j+1)):=by exact a▸wz _ _ _
  have d:x/2^(w*(j+2))=x/2^w/2^(w*(j+1)):=by simp only[a,AAE]
  simp only[b,c,d];rfl
theorem Sp(x k:Nat):x &&&(x/2^k*2^k)=x/2^k*2^k:=by
 apply AA3;intro i;simp only[Nat.testBit_and,z',AAA];by_cases h:k<=i
 ·simp[h]
 ·simp[h]
theorem Yc(x k:Nat):x |||(x/2^k*2^k)=x:=by
 apply AA3;intro i;simp only[Nat.testBit_or,z',AAA];by_cases h:k<=i
 ·simp[h]
 ·simp[h]
theorem OG(x k:Nat):yn (x:Int) ((x/2^k*2^k:Nat):Int)=((x%2^k:Nat):Int):=by
 have c:ABS (x:Int) ((x/2^k*2^k:Nat):Int)=((x/2^k*2^k:Nat):Int):=by simp only[bitAnd_pp (pP _) (pP _),p7,p7,Sp]
 have d:zG (x:Int) ((x/2^k*2^k:Nat):Int)=(x:Int):=by
  generalize e:x/2^k*2^k=y;have f:x ||| y=x:=by rw[<-e];exact Yc x k
  unfold zG;have g:¬(0:Int)<=sH (x:Int):=by unfold sH;lia
  have h:¬(0:Int)<=sH (y:Int):=by unfold sH;lia
  have b:∀z:Int,sH (sH z)=z:=λz=>by unfold sH;lia
  simp only[bitAnd_nn g h,b,b,b,p7,p7,f]
 unfold yn;simp only[c,d];have:=zN x (2^k);rw[(uI _ _)];generalize 2^k*(x/2^k)=a at this⊢
 lia
section
open PySem.W
noncomputable def Ps:Cs:=.cons (.ag (.one 3) (.b .RShift (.b .Add (.v 1) (.v 2)) (.c (.int 1)))) (.cons (.ag (.one 4) (.b .Mult (.b .Sub (.v 3) (.v 1)) (.v 9))) (.cons (.ag (.one 5) (.b .RShift (.v 0) (.v 4))) (.cons (.ag (.one 6) (.b .BitXor (.v 0) (.b .LShift (.v 5) (.v 4)))) .nil)))
noncomputable def t6:X:=.q (.b .Add (.v 1) (.c (.int 1))) .Eq (.v 2)
inductive bH(sc:o5)(y:List pt):Prop
 |mk (t) (q1) (ix) (q2) (vx) (q3) (q4) (q5) (s2) (s3) (s4) (s5) (q6) (b1) (b2) (b3) (q7) (q8) (q9) (b4) (b5) (b6) (q10) (q11):y=[(.If t [(.Assign [(.Subscript (.Name "a_digits" q1) ix q2)] vx q3),(.Return eu q4)] [] q5),s2,s3,s4,s5,(.Expr (.Call (.Name "inner" q6) [b1,b2,b3] [] q7) q8),(.Expr (.Call (.Name "inner" q9) [b4,b5,b6] [] q10) q11)]->AH sc t6 t=er->AH sc (.v 1) ix=er->AH sc (.v 0) vx=er->BN vx=fG->C1 sc Ps [s2,s3,s4,s5]=er->AH sc (.v 6) b1=er->AH sc (.v 1) b2=er->AH sc (.v 3) b3=er->AH sc (.v 5) b4=er->AH sc (.v 3) b5=er->AH sc (.v 2) b6=er->bH sc y
theorem dM:bH (Jd 6) (ib 6):=⟨_,_,_,_,_,_,_,_,_,_,_,_,_,_,_,_,_,_,_,_,_,_,_,_,rfl,by nofun,by nofun,by nofun,by nofun,by nofun,by nofun,by nofun,by nofun,by nofun,by nofun,by nofun⟩
noncomputable def Lp(x L R w:Nat):Ev:=[(0,.int x),(1,.int L),(2,.int R),(9,.int w)]
theorem km{x L R w:Nat}:tr (ev D9 t6 (Lp x L R w))=dD (decide (L+1=R)):=by
 have e:((L:Int)+1==(R:Int))=decide (L+1=R):=by
  by_cases h:L+1=R
  ·rw[decide_eq_true h];simp;lia
  ·rw[decide_eq_false h,beq_eq_false_iff_ne];lia
 simp only[t6,C6,Af,Do,DW,Lp,AC,lf,Aj,AD,binI,Cd,KP,Ao,tr,AI,e]
theorem nH{x L R w:Nat}(h:L+1<R)(f:R<=8)(d:w<=300)(g:x<2^4000):
  AX D9 fG Ps (Lp x L R w) []=dD (.nx ((((Ev.put (Lp x L R w) 3 (.int (((L+R)/2:Nat):Int))).put 4 (.int ((((L+R)/2-L)*w:Nat):Int))).put 5 (.int ((x/2^(((L+R)/2-L)*w):Nat):Int))).put 6 (.int ((x%2^(((L+R)/2-L)*w):Nat):Int))) []):=by
 have i:((L:Int)+(R:Int)).fdiv (2^(1:Int).toNat)=(((L+R)/2:Nat):Int):=by show((L:Int)+(R:Int)).fdiv 2=_;rw[tw _ (by decide)];rfl
 have j:(((L+R)/2:Nat):Int)-(L:Int)=(((L+R)/2-L:Nat):Int):=(th (Y9 (nV (rb h))).1).symm;have e:(L+R)/2-L<=8:=mE (sX _ _) (mE (Y9 (nV (rb h))).2 f);generalize p:(L+R)/2=a at*;have k:((a-L:Nat):Int)*(w:Int)=(((a-L)*w:Nat):Int):=by simp only[xm]
 have c:(a-L)*w<=8*300:=vi e d;generalize(a-L)*w=b at*;have l:decide ((0:Int)<=1)=er:=rfl;have m:decide ((b:Int)<=1000000)=er:=decide_eq_true (tD.mpr (mE c (by decide)));have n:(x:Int).fdiv (2^b)=((x/2^b:Nat):Int):=by
  have:(2:Int)^b=((2^b:Nat):Int):=by simp
  rw[this,tw _ (pP _)];rfl
 have o:((x/2^b:Nat):Int)*2^b=((x/2^b*2^b:Nat):Int):=by simp only[xm];simp
 simp only[Ps,Ht,GG,RV,C6,Af,Do,Lp,sg,DN,AC,GV,FO,lf,Aj,AD,binI,T.names,Dk,Bz,BM,l,(decide_eq_true (pP _)),m,if_true,i,j,k,n,o,(B8 (mJ e (by nofun))),(B8 (mJ d (by nofun))),(B8 (mJ (ACG _ _) g)),rt,p7,OG]
end
section
open PySem.W
def DL(Z:Bs)(s:lb)(D:ls)(ds:List Int):Prop:=∃a n,s.heap.get? D=dD ⟨.type "list",eu,.seq a n,#[]⟩/\VRs Z.prog Z.w (λz=>True) s.heap a.toList (ds.map V.int)
theorem E6{c:qK}{w:sO}{B J:ls->Prop}{h e:qX}{ds:List Int}:∀{b:List gx},VRs c w B h b (ds.map V.int)->VRs c w J e b (ds.map V.int):=by
 induction ds with
 |nil=>exact λr=>VRs.kNil r .nil
 |cons d ds f=>exact λr=>VRs.kCons r λu b a r=>.cons (BZ rfl a) (f r)
section
variable{Z:Bs}{n:Nat}{A:mx}{U:o5}{z:t8}{B J:ls->Prop}{s C:lb}{N:Ev}{D F G:ls}{E:xE}{l:pw}{j:List (pw×ls)}{m:pw}{u:gx}{ds M:List Int}
theorem DL.same(d:DL Z s D ds)(S:Same Z s C):DL Z C D ds:=by refine AE d λa n e r=>?_;exact⟨a,n,S.heap _ _ e rfl,E6 r⟩
theorem DL.ne_cell(d:DL Z s D ds){c:ls}{v}(x:s.heap.IsCell c v):c≠D:=by rintro rfl;refine AE d λb n e z=>?_;refine A2 x λo a h=>?_;rw[e]at a;(replace a:=dE a;subst a);cases h
theorem CellAt.ch(x:CellAt s j m u)(d:DL Z s D ds){gp}(c:Ch Z (λb=>b=D) gp s C):CellAt C j m u:=by refine A2 x λa h y=>?_;exact⟨a,h,IsCell.keep y λo e t=>c.heap _ _ e t (d.ne_cell y)⟩
theorem CS.ch(x:CS B s F G E l j)(g:∃k,E.data=.func k)(d:DL Z s D ds){gp}(c:Ch Z (λb=>b=D) gp s C):CS B C F G E l j:=by
 refine AE (id d) λI n e z=>?_;refine⟨⟨c.heap _ _ x.hF.1 x.hF.2 ?_,x.hF.2⟩,?_,λm a h=>?_,x.ap⟩
 ·rintro rfl;obtain⟨k,i⟩:=g;have:=x.hF.1;rw[e]at this;(replace this:=dE this;subst this);cases i
 ·refine L6 x.hc λr v t f p q w=>?_;refine⟨r,v,t,c.heap _ _ f p ?_,p,q,w⟩;rintro rfl;rw[e]at f;(replace f:=dE f;subst f);cases q
 ·obtain⟨⟨v,y⟩,H⟩:=x.cl m a h;exact⟨⟨v,IsCell.keep y λo e t=>c.heap _ _ e t (d.ne_cell y)⟩,H⟩
theorem Fr.beside(F:Fr Z n A U z B [] s N [])(g:¬B D)(d:DL Z s D ds)(c:Ch Z (λb=>b=D) (λy=>False) s C)(h:DL Z C D M):Fr Z n A U z B [] C N []:=by
 refine F.chg c (λb e q=>?_) (λy q=>q) (λa f=>F.k a (c.live a (λq=>?_) f)) F.nl F.nc
 ·subst e;refine q.elim g λq=>AE d λi n e y=>F.f.lc_seq q e rfl
 ·refine AE h λi n e y=>?_;rw[q,e]at f;exact sN f
end
def I6(Z:Bs)(j:List (pw×ls))(F G D:ls)(E:xE)(l:pw)(a:gx)(B:ls->Prop)(s:lb)(ds:List Int):Prop:=CS B s F G E l j/\CellAt s j "inner" (.ref F)/\CellAt s j "a_digits" (.ref D)/\CellAt s j "n" a/\DL Z s D ds
theorem I6.same{Z:Bs}{j:List (pw×ls)}{F G D:ls}{E:xE}{l:pw}{a:gx}{B J:ls->Prop}{s C:lb}{ds:List Int}(x:I6 Z j F G D E l a B s ds)(S:Same Z s C)(g:∀b,J b->B b):I6 Z j F G D E l a J C ds:=⟨x.1.same S g,x.2.1.same S,x.2.2.1.same S,x.2.2.2.1.same S,x.2.2.2.2.same S⟩
theorem I6.ch{Z:Bs}{j:List (pw×ls)}{F G D:ls}{E:xE}{l:pw}{f:gx}{B:ls->Prop}{s C:lb}{ds M:List Int}{gp}(x:I6 Z j F G D E l f B s ds)(a:∃g,E.data=.func g)(c:Ch Z (λb=>b=D) gp s C)(d:DL Z C D M):I6 Z j F G D E l f B C M:=
 have e:=x.2.2.2.2;⟨x.1.ch a e c,x.2.1.ch e c,x.2.2.1.ch e c,x.2.2.2.1.ch e c,d⟩
theorem YE{ds:List Int}{w x L a:Nat}(b:L<a)(c:a<=ds.length):(ds.take L++CU w (a-L) x++ds.drop a).length=ds.length:=by simp only[vN,vN,tM,rH,Eo,uo (mE (nV b) c),vF (nV b),vF c]
theorem WT{ds:List Int}{w x L R:Nat}(a:L+1=R)(b:R<=ds.length):ds.take L++CU w (R-L) x++ds.drop R=ds.set L x:=by rw[<-a,z9,List.set_eq_take_append_cons_drop,if_pos (nR (rn L) (mE (uJ a) b))];simp[bp,VZ,H9]
theorem XY{ds:List Int}{w x L a R d:Nat}(e:(a-L)*w=d)(c:L<a)(b:a<R)(g:R<=ds.length):
  (ds.take L++CU w (a-L) (x%2^d)++ds.drop a).take a++CU w (R-a) (x/2^d)++(ds.take L++CU w (a-L) (x%2^d)++ds.drop a).drop R=ds.take L++CU w (R-L) x++ds.drop R:=by
 subst e;have f:(ds.take L++CU w (a-L) (x%2^((a-L)*w))).length=a:=by simp only[vN,tM,Eo,uo (mE (nV c) (mE (nV b) g)),vF (nV c)]
 have h:CU w (R-L) x=CU w (a-L) (x%2^((a-L)*w))++CU w (R-a) (x/2^((a-L)*w)):=by rw[(AAV (nV b) (nV c)).symm.trans (rZ _ _),Ir w (a-L) (R-a) x (yR c) (yR b),uI w]
 simp only[List.take_left' f,List.drop_append,f,vg (mE (uJ f) (nV b)),sg,tR,vF (nV b),h];simp only[uz]
theorem cq{Z:Bs}(O:Z.Ok)(W:Wd Z)(HG:∀n,Av Z W (n+1)){F G D:ls}{l:pw}{r:t7}{a0:List pt}{d:o5}{j:List (pw×ls)}{ae pm af:gx}{E:xE}(ag:E=ABf "inner" l r a0 d j ae pm G af)
  (au:bH d a0) (H:Mp d [("x" :pw),"L","R"]) (hb:∀a b c,xu (fnX "inner" l r a0 d j .none .none ae pm eu (.ref G) af) ⟨[a,b,c],[]⟩=tS ([("x" :pw),"L","R"].zip [a,b,c]))
  (n7:d.names[7]?=dD (("a_digits" :pw),.free)) (n8:d.names[8]?=dD (("inner" :pw),.free)) (n9:d.names[9]?=dD (("n" :pw),.free)) (a9:∀m,d.names.lookup m=dD .free->∃c,j.lookup m=dD c)
  {w:Nat} (hw:w<=300) (av:Z.B.heap.get? D=eu):
  ∀(m:Nat) {A:mx} {B:ls->Prop} {s:lb} {x L R:Nat} {us:List gx} {ds:List Int} {un:gx},OkA (m+2) A->Inv Z s->(∀a,s.heap.get? a=eu->B a)->I6 Z j F G D E l un B s ds->VR Z.prog Z.w B s.heap un (.int w)->¬B D->x<2^4000->L<R->R<=ds.length->ds.length<=8->R-L<=2^m->VRs Z.prog Z.w B s.heap us [.int x,.int L,.int R]->
   WP Z A (t9 (.ref F) us) (λv C=>v=.none/\Ch Z (λb=>b=D) (λu=>False) s C/\DL Z C D (ds.take L++CU w (R-L) x++ds.drop R)) s:=by
 intro m;induction m using ACF with
 |ind m ih=>
  intro A B s x L R us ds un ha i k I vn ah hx a4 hR a5 hm hv;have ai:∃fd,E.data=.func fd:=⟨_,congrArg zX ag⟩
  refine VRs.kCons hv λu0 us v0 hv=>VRs.kCons hv λu1 us v1 hv=>VRs.kCons hv λu2 us v2 hv=>?_;have e:=VRs.of_nil hv;subst e;refine M8 (ρf:=[(9,.int w)]) O ha i k (ag▸I.1) H (hb u0 u1 u2) rfl (.cons v0 (.cons v1 (.cons v2 .nil))) a9 (.cons n9 I.2.2.2.1 vn .nil) λz aj tk ak aw bh hk F0=>?_;have ax:s.heap.get? z.locals=eu:=by exact(congrArg _ aw).trans (A6 _)
  have S1:Same Z s {s with heap:=aj,toks:=tk}:=Same.of_keep O hk;have ay:uv z=fG:=Eu F0;obtain⟨t,q1,ix,q2,vx,q3,q4,q5,s2,s3,s4,s5,q6,b1,b2,b3,q7,q8,q9,b4,b5,b6,bi,bj,aa,k1,k2,k3,k4,k5,k6,k7,k8,k9,az,b0⟩:=au;rw[aa];refine RO λQ al=>?_;have am:¬(C8 (λb=>B b/\b≠z.locals) [] D):=λq=>ah q.1.1;have an:¬((λb=>B b/\b≠z.locals) D):=λq=>ah q.1;refine pz (AAR (GH ((Aa O W (Au W _) t6 d t k1).2 z _ _ (Lp x L R w) (decide (L+1=R)) km F0.frz) λsa Sa=>?_));have ao:=S1.trans Sa;have Fa:=F0.turn Sa;by_cases hq:L+1=R
  ·rw[decide_eq_true hq,if_pos rfl];refine pz (ABa (A1 ((Aa O W (Au W _) (.v 0) d vx k3).1 z _ sa (Lp x L R w) (.int x) (by simp only[Af];rfl) Fa.frz) (λvv sb gb=>?_)) (Fs k4 _ _ _));have a1:=ao.trans gb.2;have Fb:=Fa.turn gb.2;refine(I.2.2.1.same a1).elim λu y=>Ce (MW Fb.f n7 ((congrArg _ ak).trans y.1) y.2 (by decide) (by decide)) ?_;refine A1 ((Aa O W (Au W _) (.v 1) d ix k2).1 z _ sb (Lp x L R w) (.int L) (by simp only[Af];rfl) Fb.frz) (λiv sd gd=>?_);have ap:=a1.trans gd.2;obtain⟨gi,Sd⟩:=gd
   (refine VR.kInt gi λu=>?_;clear gi)
   refine AE (I.2.2.2.2.same ap) λws bk e1 r1=>?_;have b7:ws.size=ds.length:=by have:=r1.length;simpa using this
   refine Fh e1 (pP L) (Z7 (nR a4 (mE hR (mE a5 (by decide))))) (sG.mpr (b7▸nR a4 hR)) λh' n' hp hs=>?_;have cD:Ch Z (λb=>b=D) (λu=>False) sd {sd with heap:=h'}:=Ch.of_keep (tk:=sd.toks) O (λb e=>by exact(congrArg _ e).trans (av)) (λb o e q=>by
    (replace e:=e.symm;subst e);(replace q:=dE (e1.symm.trans q);subst q)
    exact⟨(λq=>by cases q),λq=>by injection q with q;exact absurd q (by decide)⟩) λb o e q=>hs.extBut b o e q
   refine pz (wpAny_Return_none ?_);refine al _ _ ⟨rfl,ap.ch.trans cD,_,n',hp,?_⟩;simp only[WT hq hR,zK];have hu:VR Z.prog Z.w (λu=>True) sd.heap vv (.int x):=BZ rfl gb.1;have a7:=VRs.set hu L r1;rw[show(ds.map V.int).set L (.int x)=(ds.set L x).map V.int by simp only[ACq]]at a7;simp only[p7];exact E6 a7
  ·rw[decide_eq_false hq,if_neg sR];refine td ?_;refine LN (KL a4 hq hm) λm' e a6 a2 hp=>?_;have⟨aq,ar⟩:=hp;subst e;show WP Z (A.deeper z) (uO ([s2,s3,s4,s5]++ [_,_]) z) _ _;refine GO (C7 O W (Au W _) (HG _) Ps) k5 (nH (vT a4 hq) (mE hR a5) hw hx) Fa λf sb c g=>?_;obtain⟨rfl,g⟩:=g;have Fb:=g rfl;clear g;have a1:Same Z s sb:=G9 ao H.nocell ax c;generalize(L+R)/2=ac at Fb a6 a2 hp aq ar;generalize b8:(ac-L)*w=sh at Fb;generalize a3:((((Ev.put (Lp x L R w) 3 (.int (ac:Int))).put 4 (.int (sh:Int))).put 5 (.int ((x/2^sh:Nat):Int))).put 6 (.int ((x%2^sh:Nat):Int)))=h at Fb;have g1:h.get 1=dD (.int L):=by rw[<-a3];rfl
   have g2:h.get 2=dD (.int R):=by rw[<-a3];rfl
   have g3:h.get 3=dD (.int ac):=by rw[<-a3];rfl
   have g5:h.get 5=dD (.int ((x/2^sh:Nat):Int)):=by rw[<-a3];rfl
   have g6:h.get 6=dD (.int ((x%2^sh:Nat):Int)):=by rw[<-a3];rfl
   have b9:∀{sx:lb},VR Z.prog Z.w (C8 (λb=>B b/\b≠z.locals) []) sx.heap un (.int w):=λ{sx}=>BZ rfl vn;have a8:∀{es:List f0} {xl:XL} {x2 L2 R2:Nat} {sx:lb} {Y:List Int} {q p pp:tE} {Q:xg->lb->Prop},Fr Z (m'+2) (A.deeper z) d z (λb=>B b/\b≠z.locals) [] sx h []->I6 Z j F G D E l un B sx Y->
     Bo d xl es=er->EE D9 xl h=dD [.int (x2:Int),.int (L2:Int),.int (R2:Int)]->x2<2^4000->L2<R2->R2<=Y.length->Y.length<=8->R2-L2<=2^m'->
     (∀sy,Ch Z (λb=>b=D) (λu=>False) sx sy->Fr Z (m'+2) (A.deeper z) d z (λb=>B b/\b≠z.locals) [] sy h []->I6 Z j F G D E l un B sy (Y.take L2++CU w (R2-L2) x2++Y.drop R2)->Q .next sy)->
     WP Z (A.deeper z) (yL (.Expr (.Call (.Name "inner" q) es [] p) pp) z) Q sx:=by
    intro es xl x2 L2 R2 sx Y q p pp Q Fx Ix bb bc bd h1 h2 h3 h4 hQ;refine Ix.2.1.elim λu x=>ai.elim λu hf=>wpAny_Expr (KN O W (HG _) Fx.frz n8 ((congrArg _ ak).trans x.1) x.2 (by decide) (by decide) Ix.1.hF.1 hf bb bc λus sy be Sy=>?_) ay (by rfl);refine A1 (ih m' (rn _) Fx.a (Sy.inv Fx.i) (Sy.hok Fx.frz.k) (Ix.same Sy λb q=>q.1.1) b9 am bd h1 h2 h3 h4 be) (λv sz g=>?_);rw[g.1];exact hQ sz (Sy.ch.trans g.2.1) ((Fx.turn Sy).beside an (Ix.2.2.2.2.same Sy) g.2.1 g.2.2) ((Ix.same Sy λu q=>q).ch ai g.2.1 g.2.2)
   have bf:x%2^sh<2^4000:=mJ (Nat.mod_le _ _) hx;have bg:x/2^sh<2^4000:=mJ (ACG _ _) hx;refine pz (a8 (xl:=.cons (.v 6) (.cons (.v 1) (.cons (.v 3) .nil))) Fb (I.same a1 λu q=>q) (D5 k6 (D5 k7 (D5 k8 rfl))) (by simp only[Bt,Bj,Af,g6,g1,g3]) bf a6 (mE (nV a2) hR) a5 ar λsy cy Fy Iy=>?_);have as:=YE (w:=w) (x:=x%2^sh) a6 (mE (nV a2) hR);refine pz (a8 (xl:=.cons (.v 5) (.cons (.v 3) (.cons (.v 2) .nil))) Fy Iy (D5 k9 (D5 az (D5 b0 rfl))) (by simp only[Bt,Bj,Af,g5,g3,g2]) bg a2 (mE hR (uJ as.symm)) (mE (uJ as) a5) aq λsz cz Fz Iz=>?_);refine td (al _ _ ⟨rfl,a1.ch.trans (cy.trans cz),?_⟩);exact XY b8 a6 a2 hR▸Iz.2.2.2.2
end
section
open PySem.W
noncomputable def X6:X:=.b .Mult (.l (.cons (.c (.int 0)) .nil)) (.b .FloorDiv (.b .Sub (.b .Add (.me (.v 0) .bitLength .nil) (.v 1)) (.c (.int 1))) (.v 1))
noncomputable def Su:pt:=(CN 6).head?.getD ABe
noncomputable def Td:List pt:=(CN 6).tail.tail
theorem l7:CN 6=Su:: .FunctionDef "inner" (ip 6) (ib 6) [] eu [] (Jd 6) eu "inner" (Hv 6)::Td:=by kernel_rfl
theorem aN:Bm (Aq 6) (.own 2 X6) Su=er:=by nofun
theorem Xj(e:pw)(h:List (pw×ls))(j m o k a b c:gx):xu (fnX "inner" e (ip 6) (ib 6) (Jd 6) h .none .none j m eu o k) ⟨[a,b,c],[]⟩=tS ([("x" :pw),"L","R"].zip [a,b,c]):=by kernel_rfl
theorem nU(d:t8):(ip 6).defaults=[]/\(ip 6).kw_defaults=[]/\ADx (ip 6) eu d=[]:=by refine⟨?_,?_,?_⟩<;>kernel_rfl
theorem Dn:(Jd 6).names=[(("x" :pw),NameKind.local),(("L" :pw),NameKind.local),(("R" :pw),NameKind.local),(("mid" :pw),NameKind.local),(("shift" :pw),NameKind.local),(("upper" :pw),NameKind.local),(("lower" :pw),NameKind.local),(("a_digits" :pw),rX),(("inner" :pw),rX),(("n" :pw),rX)]:=by kernel_rfl
theorem Kl:(Aq 6).names=[(("a" :pw),NameKind.local),(("n" :pw),tL),(("a_digits" :pw),tL),(("inner" :pw),tL),(("len" :pw),w7)]:=by kernel_rfl
theorem TB:(Jd 6).isCoroutine=fG/\(Jd 6).isGenerator=fG/\(Jd 6).kind=.function:=by nofun
inductive jd(f:o5)(y:List pt):Prop
 |mk (t) (q1) (e0) (e1) (e2) (q2) (q3) (q4) (q5) (q6):y=[(.If t [(.Expr (.Call (.Name "inner" q1) [e0,e1,e2] [] q2) q3)] [] q4),(.Return (dD (.Name "a_digits" q5)) q6)]->AH f (.v 0) t=er->AH f (.v 0) e0=er->AH f (.c (.int 0)) e1=er->AH f (.bi .len (.cons (.v 2) .nil)) e2=er->jd f y
theorem bu:jd (Aq 6) Td:=⟨_,_,_,_,_,_,_,_,_,_,rfl,by nofun,by nofun,by nofun,by nofun⟩
theorem dU:Mp (Jd 6) [("x" :pw),"L","R"]:=by
 refine BO TB λa b c=>?_;refine⟨a,b,c,?_,by rw[Dn];decide,λi p h=>?_,by decide⟩
 ·nofun
 ·rw[Dn]
  match i,h with
  |0,h=>simp at h;subst h;rfl
  |1,h=>simp at h;subst h;rfl
  |2,h=>simp at h;subst h;rfl
  |i+3,h=>simp at h
noncomputable def Bf(a n:Nat):Nat:=(po (a:Int)+n-1)/n
theorem pb{a n:Nat}(c:0<n)(b:n<=300)(e:Bf a n<=8):ev D9 X6 (Dj [(0,.int a),(1,.int n)])=dD (.l ((uY (Bf a n) (0:Int)).map V.int)):=by
 have h:Dj [(0,V.int a),(1,V.int n)]=[(0,V.int a),(1,V.int n)]:=rfl;have j:((n:Int) != 0)=er:=bne_iff_ne.mpr (ya (sT.mpr c));have o1:FP (n:Int)=er:=B8 (mJ b (by nofun));have m:(((po (a:Int):Nat):Int)+(n:Int)-1).fdiv (n:Int)=((Bf a n:Nat):Int):=by have:((po (a:Int):Nat):Int)+(n:Int)-1=((po (a:Int)+n-1:Nat):Int):=(th (mE c (Nat.le_add_left _ _))).symm;rw[this,tw _ (pP _)];rfl
 have o:(pq [V.int 0].length 1000&&decide ((0:Int)<=((Bf a n:Nat):Int))&&decide (((Bf a n:Nat):Int)<=1000))=er:=by rw[decide_eq_true (pP _),decide_eq_true (show((Bf a n:Nat):Int)<=1000 from tD.mpr (mE e (by decide)))];rfl
 have p:rep [V.int 0] ((Bf a n:Nat):Int)=(uY (Bf a n) (0:Int)).map V.int:=by
  unfold rep;simp only[p7,ABA];induction Bf a n with
  |zero=>rfl
  |succ k q=>simp only[wW,yP,q,wW];rfl
 have r:A5 [V.int 0]=er:=rfl;rw[h];simp only[X6,C6,Af,Do,Gl,NS,Bt,Bj,EV,r,AC,lf,Aj,AD,binI,on,Qt,j,o1,m,o,p,rt,if_true]
section
variable{Z:Bs}{n:Nat}{A:mx}{f:o5}{d:t8}{ok:ls->Prop}{s l:lb}{ρ g:Ev}{D:ls}{i:Nat}
theorem Px:C8 ok [(i,D)]=C8 (λb=>ok b/\b≠D) []:=by
 funext b;apply propext;constructor
 ·rintro⟨c,e⟩;exact⟨⟨c,λq=>e i (by exact q▸pg)⟩,λj a=>by cases a⟩
 ·rintro⟨⟨c,e⟩,_⟩;refine⟨c,λj a=>?_⟩;simp only[md,r4,or_false,vz]at a;exact e a.2
theorem Fr.hide(F:Fr Z n A f d ok [(i,D)] s ρ g):Fr Z n A f d (λb=>ok b/\b≠D) [] s ρ []:=by refine⟨F.a,F.i,λa h=>⟨F.k a h,?_⟩,Px▸F.f,λq=>F.nl q.1,λm c e q=>F.nc m c e q.1,λz z e=>(by exact nomatch e),λz z e=>(by exact nomatch e),λz z e=>(by exact nS e),λz z z z e=>(by exact nomatch e)⟩;rintro rfl;refine A2 (F.c i a pg) λv z c=>?_;refine A2 c.there λo e z=>?_;exact nS (h.symm.trans e)
theorem Fr.unhide(F:Fr Z n A f d (λb=>ok b/\b≠D) [] s ρ [])(k:∀a,s.heap.get? a=eu->ok a)(nl:¬ok d.locals)(nc:∀m c,d.cells.lookup m=dD c->¬ok c)(u:ok D)(x:Z.B.heap.get? D=eu)(p:ρ.get i=eu){m:pw}{r:qE}(y:f.names[i]?=dD (m,r))(z:LocAt d s.heap m r (.ref D))
  {v:V} (B:Cont Z.prog Z.w (C8 ok [(i,D)]) s.heap D v):Fr Z n A f d ok [(i,D)] s ρ [(i,v)]:=by
 refine⟨F.a,F.i,k,by rw[Px];exact F.f,nl,nc,λj a h=>?_,λj a h=>?_,λj w e=>?_,λj a C b h t=>?_⟩
 ·simp only[md,r4,or_false,vz]at h;obtain⟨rfl,rfl⟩:=h;exact⟨u,x,p,m,r,y,z⟩
 ·simp only[md,r4,or_false,vz]at h;obtain⟨rfl,rfl⟩:=h;exact⟨v,by rewrite [AC];rw[xh],B⟩
 ·rewrite [AC]at e
  refine bS e λq e=>?_;have:=lk q;refine this▸?_;exact⟨D,pg⟩
 ·simp only[md,r4,or_false,vz]at h t
  ((obtain⟨o,o⟩:=h<;>try (replace o:=o.symm;subst o))<;>try (replace o:=o.symm;subst o))
  ((obtain⟨o,o⟩:=t<;>try (replace o:=o.symm;subst o))<;>try (replace o:=o.symm;subst o))
  simp
end
end
section
open PySem.W
theorem XJ:(Jd 6).names.all (λq=>(match q.2 with|.free=>fG|_=>er)||[("a_digits" :pw),"inner","n"].contains q.1)=er:=by rw[Dn];decide
theorem kx{Z:Bs}(O:Z.Ok)(W:Wd Z)(T0:HV Z)(hW:W.fnA=T0.fnA)(HG:∀n,Av Z W (n+1)){c P:ls}(N:Gm Z (T0.fnA 6) c P (Hv 6) (CF 6)){n:Nat}{a w:Nat}(aq:0<w)(hw:w<=300)(ar:a<2^4000)(af:Bf a w<=8)(ag:0<a->0<Bf a w)(hz:a=0->Bf a w=0)
  {A:mx} {ok:ls->Prop} {s:lb} {us:List gx} (ha:OkA (n+8) A) (i:Inv Z s) (k:∀a,s.heap.get? a=eu->ok a) (hv:VRs Z.prog Z.w ok s.heap us [.int a,.int w]):WP Z A (t9 (.ref (W.fnA 6)) us) (Gv Z ok s (.l ((CU w (Bf a w) a).map V.int))) s:=by
 rw[hW];refine FC (n:=n+7) O (T0.fn 6 _ _ _ _ (Cb (k:=6) rfl)).2 p9 (by simp only[hG];rfl) ha i k hv λd ah tk o cd ho a0 a1 a2 b9 ai I S1 J=>?_;refine A2 a0 λfd a0 as=>?_;have L:d.code=.ref c:=by rw[a1,<-as];exact N.code o fd ho a0
 have n1:(Aq 6).names[1]?=dD (("n" :pw),.cell):=by rw[Kl];rfl
 have n2:(Aq 6).names[2]?=dD (("a_digits" :pw),.cell):=by rw[Kl];rfl
 have n3:(Aq 6).names[3]?=dD (("inner" :pw),.cell):=by rw[Kl];rfl
 have nd:=J.f.nd;have a3:d.kindOf "inner" =dD .cell:=by
  (refine CB λ_ kk=>?_;rcases J.f.kd _ _ (A8 nd n3)with h|⟨h,_⟩<;>refine kk ?_)
  ·exact h
  ·cases h
 have hq:yx d "inner" "inner" =CF 6:=by unfold yx CF;rw[a3,a2];rfl
 have y:∀q∈(Jd 6).names,q.2=.free->∃c,d.cells.lookup q.1=dD c:=Q1 (l:=(Jd 6).names) ["a_digits","inner","n"] (P:=λm=>∃c,d.cells.lookup m=dD c) XJ ⟨(J.f.ce _ (A8 nd n2)).imp λ_ h=>h.1,(J.f.ce _ (A8 nd n3)).imp λ_ h=>h.1,(J.f.ce _ (A8 nd n1)).imp λ_ h=>h.1,trivial⟩;refine BO (nU d) λd1 d2 d3=>?_;generalize b8:(λb=>ok b/\b≠d.locals/\∀m,d.cells.lookup m≠dD b)=G at J;generalize bb:({s with heap:=ah,toks:=tk}:lb)=s1 at S1 J⊢;rw[l7];refine RO λQ hQ=>?_;refine OP (PA aN) λm q e p au h1 h3 h4=>?_;rw[au];refine A2 (Bh h1) λkk aj bc=>?_;have qn:=(qP (dE (n2.symm.trans aj))).1.symm;subst qn;generalize a4:uY (Bf a w) (0:Int)=E;have M:E.length=Bf a w:=by rw[<-a4];simp
 have av:ev D9 X6 (Dj (Ah 0 [V.int a,V.int w]))=dD (.l (E.map V.int)):=by rw[<-a4];exact pb aq hw af
 refine pz (B9 (Fs h3 _ _ _) (A1 ((Aa O W (Au W _) X6 _ e h4).1 d _ s1 _ _ av J.fl) λu s2 g2=>?_));obtain⟨gv,S2⟩:=g2;have a5:∀l:List Int,CP (l.map V.int)=er:=λl=>by
  induction l with
  |nil=>rfl
  |cons x r ih=>exact ih
 refine VR.kLst gv λ_ _ _ fa g rr=>?_;rename_i D ws bd;refine uU (A1 (J.make O n2 (.inr rfl) rfl rfl S2 fa (.l g (JK (a5 E) rr))) λ_ s3 g3=>?_);have⟨Y,c3⟩:=g3;clear g3;have Y:Fr Z (n+7) (A.deeper d) (Aq 6) d G [(2,D)] s3 (Ah 0 [V.int a,V.int w]) ((Ev.put [] 2 (.l (E.map V.int)))):=Y
 (refine D1 (Y.o 2 D pg) λGA DB _ a6=>?_;refine AE a6 λm' be aw a7=>?_)
 have qm:=qP (dE (n2.symm.trans aw));replace a7:LocAt d s3.heap "a_digits" .cell (.ref D):=qm.1▸qm.2▸a7;have ak:DL Z s3 D E:=by
  refine A2 (Y.c 2 D pg) λv C cc=>?_;have C:(dD (.l (E.map V.int)):Option V)=dD v:=C
  (replace C:=dE C;subst C)
  exact Cont.kLst cc λ_ _ g rr=>⟨_,_,g,E6 rr⟩
 have ax:=Y.hide;refine pz (pF (Jz O N ax L hq n3 rfl d1 d2 d3 y ⟨"inner",by nofun⟩) (λf s4 g=>?_) λ_ _ f=>f)
 (obtain⟨a8,a9⟩:=g;subst a8;refine eg a9 λF c' bf pm bg c4 F4 hL bh hF ay al=>?_)
 have am:LocAt d s4.heap "a_digits" .cell (.ref D):=al 2 _ _ _ (by decide) n2 a7;have an:¬Fo (Aq 6) d D:=by exact AE ak λws n' C _ q=>Y.f.fo_seq q C rfl
 have H:DL Z s4 D E:=by refine AE ak λws n' C r=>?_;exact⟨ws,n',c4.heap _ _ C rfl an,E6 r⟩
 have fD:s.heap.get? D=eu:=S1.live D fa;have SS:∀{z},Ch Z (λb=>Fp (Aq 6) d [(2,D)] b) (λ_=>False) s3 z->Same Z s z:=λ{z} c5=>((S1.ch.trans c3).trans c5:Ch Z (Fp (Aq 6) d [(2,D)]) (λ_=>False) s z).same (λb o e f=>by
  rcases f with(f|⟨m,_,f⟩)|⟨j,f⟩
  ·rw[f,ai]at e;exact nS e
  ·rw[I m b f]at e;exact nS e
  ·simp only[md,r4,or_false,vz]at f;rw[f.2,fD]at e;exact nS e) λ_ _ f=>f
 have up:∀{sa sb},Ch Z (Fo (Aq 6) d) (λ_=>False) sa sb->Ch Z (λb=>Fp (Aq 6) d [(2,D)] b) (λ_=>False) sa sb:=λ{sa sb} c=>c.mono (λb _ _ f=>.inl f) λ_ _ q=>q;have az:∀{sa sb},Ch Z (λb=>b=D) (λ_=>False) sa sb->Ch Z (λb=>Fp (Aq 6) d [(2,D)] b) (λ_=>False) sa sb:=λ{sa sb} c=>c.mono (λb _ _ f=>.inr ⟨2,by rw[f];exact pg⟩) λ_ _ q=>q;obtain⟨t,q1,e0,C,e2,q2,q3,q4,q5,q6,aa,k0,k1,k2,k3⟩:=bu;rw[aa];have fin:∀{z:lb} {ds:List Int},Fr Z (n+7) (A.deeper d) (Aq 6) d (λb=>G b/\b≠D) [] z (Ah 0 [V.int a,V.int w]) []->LocAt d z.heap "a_digits" .cell (.ref D)->DL Z z D ds->Ch Z (λb=>Fp (Aq 6) d [(2,D)] b) (λ_=>False) s3 z->ds=CU w (Bf a w) a->
   WP Z (A.deeper d) (uO [.Return (dD (.Name "a_digits" q5)) q6] d) Q z:=λ{z ds} F5 L5 d5 c5 b0=>by
  subst b0;refine pz (xX (Ce (JD F5.f n2 L5 (by decide)) ?_));refine AE d5 λws n' C r=>?_;exact hQ _ _ ⟨.l (k D fD) C (E6 r),SS c5⟩
 have L4:∀{z:lb},Same Z s4 z->LocAt d z.heap "a_digits" .cell (.ref D):=λ{z} S=>am.turn λb o _ e t=>S.heap b o e t;refine pz (AAR (GH ((Aa O W (Au W _) (.v 0) _ t k0).2 d _ s4 (Ah 0 [V.int a,V.int w]) ((a:Int) != 0) (by show tr (ev D9 (.v 0) _)=_;simp only[Af];rfl) F4.frz) λz U=>?_));have F5:=F4.turn U;have ao:Ch Z (λb=>Fp (Aq 6) d [(2,D)] b) (λ_=>False) s3 z:=(up c4).trans U.ch;by_cases h0:a=0
 ·have e0:((a:Int) != 0)=fG:=by rw[h0];rfl
  rw[e0,if_neg sR];refine td (fin F5 (L4 U) (H.same U) ao ?_);rw[<-a4,hz h0];rfl
 ·have b1:((a:Int) != 0)=er:=by simp[h0]
  rw[b1,if_pos rfl];have ap:LocAt d z.heap "inner" .cell (.ref F):=hL.turn λb o _ e t=>U.heap b o e t;have k5:∀b,z.heap.get? b=eu->G b:=λb e=>(F5.k b e).1;have b2:Fr Z (n+7) (A.deeper d) (Aq 6) d G [(2,D)] z (Ah 0 [V.int a,V.int w]) [(2,.l (E.map V.int))]:=F5.unhide k5 Y.nl Y.nc GA DB rfl n2 (L4 U) (by refine AE (H.same U) λws n' C r=>?_;exact .l C (E6 r))
  have b3:A5 (E.map V.int)=er:=by unfold A5;exact mK (by rw[px];lia)
  have b4:uv d=fG:=Eu F5;refine pz (wpAny_Expr (Kf O W (HG _) b2.all (JD F5.f n3 ap (by decide)) (U.heap _ _ hF rfl) rfl (xs:=.cons (.v 0) (.cons (.c (.int 0)) (.cons (.bi .len (.cons (.v 2) .nil)) .nil))) (vs:=[.int (a:Nat),.int ((0:Nat):Int),.int ((Bf a w:Nat):Int)]) (D5 k1 (D5 k2 (D5 k3 rfl))) (by
   have g0:Ev.get ([(2,V.l (E.map V.int))]++Ah 0 [V.int a,V.int w]) 0=dD (.int a):=rfl;have g2:Ev.get ([(2,V.l (E.map V.int))]++Ah 0 [V.int a,V.int w]) 2=dD (.l (E.map V.int)):=rfl;have:(E.map V.int).length=Bf a w:=by rw[px,M]
   simp only[Bt,Bj,C6,Af,FU,g0,g2,Ju,b3,if_true,this];rfl) λbi s6 b5 S6=>?_) b4 (by rfl))
  have F6:=F5.turn S6;have B:=U.trans S6;have ac:=F6.frz;refine A2 (TP ac.e y (v:=.int w) rfl n1 (by nofun)) λun cn vn=>?_;refine A1 (cq O W HG rfl dM dU (λa b c=>Xj _ _ _ _ _ _ a b c) (by rw[Dn];rfl) (by rw[Dn];rfl) (by rw[Dn];rfl) (KY y) hw DB 3 (F6.a.mono (by lia)) F6.i ac.k
   ⟨Zc ac.e ⟨B.heap _ _ hF rfl,rfl⟩ (L6 ay λoc b6 tt y1 y2 y3 y4=>⟨oc,b6,tt,B.heap _ _ y1 y2,y2,y3,y4⟩) y,cellOf y (ap.turn λb o _ e t=>S6.heap b o e t) (by nofun),cellOf y (L4 B) (by nofun),cn,H.same B⟩ vn (λq=>q.1.2 rfl) ar (ag (by lia)) (by rw[M];exact qF _) (by rw[M];exact af) (by assumption) (E6 (ds:=[(a:Int),((0:Nat):Int),((Bf a w:Nat):Int)]) b5)) (λv s7 g=>?_)
  ·(refine BO g λae c7 d7=>?_;rw[ae])
   have b7:¬((λb=>G b/\b≠D) D):=λq=>q.2 rfl;have F7:=F6.beside b7 (H.same B) c7 d7;have L7:LocAt d s7.heap "a_digits" .cell (.ref D):=by
    rcases L4 B with⟨q,_⟩|⟨_,c,hc,hy⟩
    ·cases q
    ·exact .inr ⟨rfl,c,hc,IsCell.keep hy λo e t=>c7.heap _ _ e t ((H.same B).ne_cell hy)⟩
   refine td (fin F7 L7 d7 (ao.trans ((S6.ch).trans (az c7))) ?_);rw[ACH,vg (by rw[M];exact qF _)];simp
end
def TPs(c:List gx)(n:Nat):Prop:=(∀v∈c,∃x t,v=.str x t/\0<t/\t<n)/\c.Pairwise λa b=>∀x t y u,a=.str x t->b=.str y u->t≠u
theorem TPs.mono{c:List gx}{n d:Nat}(h:TPs c n)(f:n<=d):TPs c d:=⟨λv g=>BJ (h.1 v g) λx t e a b=>⟨x,t,e,a,nR b f⟩,h.2⟩
theorem TPs.snoc{f:List gx}{n g t:Nat}{x:pw}(h:TPs f n)(d:n<=t)(o:0<n)(i:t<g):TPs (f++ [.str x t]) g:=by
 refine⟨λv c=>?_,List.pairwise_append.mpr ⟨h.2,List.pairwise_singleton _ _,λa p b j r s y u k l=>?_⟩⟩
 ·rcases tH.mp c with c|c
  ·refine BJ (h.1 v c) λx m e a b=>?_;exact⟨x,m,e,a,qS b (mJ d i)⟩
  ·rw[qw]at c;exact⟨x,t,c,nR o d,i⟩
 ·refine BJ (h.1 a p) λw m e z q=>?_;rw[qw]at j;rw[e]at k;cases k;rw[j]at l;cases l;exact sU (nR q d)
def SET(Z:Bs)(n:Nat)(A:mx)(f:o5)(x:Ev->Option V)(e:f0):Prop:=
 ∀a b s c v,x c=dD v->St Z n A f a b s c->0<s.toks->WP Z A (tW e a) (λu d=>Gv Z b s v u d/\∃y t,u=.str y t/\s.toks<=t/\t<d.toks) s
theorem SET.i{Z:Bs}{n:Nat}{A:mx}{f:o5}{x:Ev->Option V}{e:f0}(h:SET Z n A f x e):ia Z (λi n=>TPs i n/\0<n) n A f x e:=λc j s k v l S i d=>A1 (h c j s k v l S d.2) λu m g=>by
 refine⟨g.1,BJ g.2 λy t e a b=>?_⟩;subst e;exact⟨d.1.snoc a d.2 b,mJ (qd _) b⟩
theorem TPs.m:Mon λb n=>TPs b n/\0<n:=λz z z h a=>⟨h.1.mono a,nR h.2 a⟩
theorem TPs.z{n:Nat}(h:0<n):TPs [] n/\0<n:=⟨⟨λy h=>(by cases h),zQ⟩,h⟩
section
variable{Z:Bs}{n:Nat}{A:mx}{l:o5}{d:t8}{B H G:ls->Prop}{W:Jc}{s r:lb}{E J:Ev}{I:Bool}{cl:Cl}
end
theorem QV{Z:Bs}{A:mx}{s:lb}{D:ls}{c:Array gx}{nn k:Nat}{t:yE}{a b:f0}{u:gx}(g:s.heap.get? D=dD ⟨.type "list",eu,.seq c nn,#[]⟩)(f:k<2^62)(h:c[k]?=dD u):
  WP Z A (xc a b (.ref D) (.int k t)) (λv r=>v=u/\r=s) s:=by
 have e:s.heap.IsList D c:=⟨_,g,rfl,_,rfl⟩
 refine CG e.typeIs xS.lookup ?_;exact ACQ e (pP _) (Z7 f) (by simp only[p7];exact h) ⟨rfl,rfl⟩
theorem YJ{Z:Bs}{A:mx}{l:o5}{d:t8}{B:ls->Prop}{s:lb}{E:Ev}(R:EnvR Z l d B s.heap E){i:Nat}{m:pw}{g:qE}{u:gx}{p:tE}(k:l.names[i]?=dD (m,g))(x:LocAt d s.heap m g u)(hd:(m==("__debug__" :pw))=fG):
  WP Z A (tW (.Name m p) d) (λv r=>v=u/\r=s) s:=by
 refine yr ?_ hd;have j:=A8 R.nd k
 (refine CB λz o=>?_;rcases x with⟨rfl,f,a,b⟩|⟨rfl,c,q,t⟩<;>refine o ?_)
 ·have e:d.kindOf m=dD .local:=by rcases R.kd m _ j with h|⟨h,_⟩;exact h;cases h
  exact wh R.fn e a b ⟨rfl,rfl⟩
 ·rcases R.kd m _ j with h|⟨h,_⟩
  ·exact tJ R.fn h q t ⟨rfl,rfl⟩
  ·exact nomatch h
theorem nZ{Z:Bs}(O:Z.Ok)(W:Wd Z){n:Nat}(HG:Av Z W n){A:mx}{l:o5}{d:t8}{B:ls->Prop}{s:lb}{E:Ev}{i:Nat}{el:X}{t:T}{it:It}{fi:XO}{fr:List (Nat×Nat)}{m:pw}{q p:tE}{e:f0}{xe:Ev->Option V}{vs h:List V}
  (F:Fr Z n A l d B [] s E []) (h1:BA l i m=er) (h4:AH l (.cm el t it fi .nil fr) e=er) (a0:xr e (dD (.Name m q)) p.line d=tS er) (a1:∀g y,AH g el y=er->SET Z n A g xe y)
  (a2:EW D9 it E=dD vs) (hz:Ai t (Bu E fr) (λv=>BD (Hk D9 fi v) (one (xe v))) vs=dD h) (hl:A5 h=er) (a3:0<s.toks):
  WP Z A (yL (.Assign [.Name m q] e p) d) (λf r=>f=.next/\Ch Z (Fp l d []) (λ_=>False) s r/\Fr Z n A l d B [] r (E.put i (.l h)) []/\
   ∃U D k nn,l.names[i]?=dD (m,U)/\LocAt d r.heap m U (.ref D)/\r.heap.get? D=dD ⟨.type "list",eu,.seq k nn,#[]⟩/\TPs k.toList r.toks/\VRs Z.prog Z.w B r.heap k.toList h) s:=by
 obtain⟨y,te,ie,fs,cs,g,p',rfl,k1,k2,k3,k4,k5,k6,k7,k8⟩:=Gg h4;have a4:cs=[]:=by
  induction cs using lz with
  |nil=>rfl
  |cons=>cases k7
 subst a4;refine A2 (Bh h1) λU hn a5=>?_;simp only[ABr _ _ _ _ a0];refine fX (rj (fX ?_));refine fX (FI TPs.m O F.frz k1 k2 k3 (D' O W (Au W n) HG it l te ie k5 k4) ((FK O W (Au W n) HG fi).2 g fs k6) .nil (a1 g y k8).i (TPs.z a3) a2 hz hl λD C s1 k nn gD ⟨tp,_⟩ _ L Y hD SS=>?_);obtain⟨mC,Y⟩:=Y;have u:=F.compIn SS L Y;have M:VR Z.prog Z.w (C8 (λb=>B b/\b≠C) []) s1.heap (.ref D) (.l h):=hD.mono (λ_ _ _ e _=>e) λb o q _=>⟨⟨q.1.1,q.2⟩,q.1.2⟩
 have N:VRs Z.prog Z.w (C8 (λb=>B b/\b≠C) []) s1.heap k.toList h/\D≠C:=by refine L6 M.of_lst λa vs n e x y z=>?_;have ea:=vf e;subst ea;exact⟨(Data.seq.inj (congrArg zX (dE (gD.symm.trans y)))).1▸z,x.1.2⟩
 refine uU (pF (AAW (u.f.storeG O hn a5)) (λ_ s2 g2=>?_) λ_ _ f=>f.2);refine JG g2 λa6 hR Q _ hL=>?_;have R2:=hR (E.put i (.l h)) λj w e=>by
  rw[Ev.get_put]at e;split at e
  ·rename_i qq;refine dE e▸?_;exact .inl ⟨qq,M⟩
  ·rename_i qq;exact .inr ⟨qq,e⟩
 have F2:Fr Z n A l d (λb=>B b/\b≠C) [] s2 (E.put i (.l h)) []:=⟨u.a,Q.inv u.i,Q.hok u.k λb hb=>R2.fo_live hb,R2,u.nl,u.nc,λ_ _ e=>(by exact nomatch e),λ_ _ e=>(by exact nomatch e),λ_ _ e=>(by exact nS e),λ_ _ _ _ e=>(by exact nomatch e)⟩
 refine F.compOut O SS L Y F2 Q (λq=>F.f.foN q L) λh' kp c F'=>mM (mM ?_);refine⟨rfl,c.mono (λb o _ f=>show Fp l d [] b from .inl f) λ_ _ q=>q,F',U,D,k,nn,hn,hL.turn λb o hb e _=>kp b o ?_ e,kp D _ N.2 (Q.heap D _ gD rfl λq=>u.f.fo_seq q gD rfl),tp.mono a6,?_⟩
 ·rcases hb with q|⟨m',q⟩
  ·exact λe=>F.f.lv (q▸e▸L)
  ·exact λe=>F.f.cv q (e▸L)
 ·have r2:VRs Z.prog Z.w (C8 (λb=>B b/\b≠C) []) s2.heap k.toList h:=N.1.ch Q λb a f=>F2.fo f a.1;exact r2.mono (λb o a e _=>kp b o a.1.2 e) λ_ _ a _=>a.1.1
noncomputable def CV:List Nat:=[97,98,99,100,101,102,103,104,105,106,107,108,109,110,111,112,113,114,115,116,117,118,119,120]
noncomputable def Gp:It:=(.val (.t (.cons (.c (.int 0)) (.cons (.c (.int 1)) (.cons (.c (.int 2)) (.cons (.c (.int 4)) (.cons (.c (.int 5)) (.cons (.c (.int 6)) (.cons (.c (.int 8)) (.cons (.c (.int 9)) (.cons (.c (.int 10)) .nil)))))))))))
noncomputable def Du:Cs:=(.cons (.ag (.one 6) (.b .Add (.b .Add (.b .Add (.b .Add (.sub (.v 0) (.v 5)) (.sub (.v 0) (.b .Add (.v 5) (.c (.int 1))))) (.sub (.v 0) (.b .Add (.v 5) (.c (.int 5))))) (.sub (.v 0) (.b .Add (.v 5) (.c (.int 4))))) (.sub (.v 0) (.v 5))))
 (.cons (.ag (.one 7) (.t (.cons (.b .Add (.b .Mult (.b .FloorDiv (.v 5) (.c (.int 4))) (.c (.int 3))) (.b .Mod (.v 5) (.c (.int 4)))) (.cons (.b .Add (.c (.int 13)) (.v 5)) (.cons (.b .Add (.b .Add (.b .Mult (.b .FloorDiv (.v 5) (.c (.int 4))) (.c (.int 3))) (.b .Mod (.v 5) (.c (.int 4)))) (.c (.int 3))) (.cons (.b .Add (.c (.int 12)) (.v 5)) .nil))))))
 .nil))
noncomputable def Lb:X:=(.sub (.v 4) (.sub (.v 7) (.v 1)))
noncomputable def GX:It:=(.rg (.cons (.c (.int 4)) .nil))
noncomputable def HN:XO:=(.yes (.q (.q (.sub (.v 2) (.sl (.v 6) (.yes (.v 1)) (.yes (.b .Add (.v 1) (.c (.int 2)))) .no)) .Eq (.v 8)) .Eq (.q (.b .Mod (.b .Add (.b .Add (.b .FloorDiv (.v 5) (.c (.int 4))) (.v 5)) (.v 3)) (.c (.int 2))) .Eq (.c (.int 0)))))
noncomputable def J9:List (Nat×Nat):=[(2,1),(3,3),(4,4),(5,5),(6,6),(7,7),(8,2)]
noncomputable def Cf:Cs:=(.cons (.ag (.one 9) (.sl (.cm (.sub (.v 2) (.v 1)) (.one 1) (.val (.t (.cons (.c (.int 0)) (.cons (.c (.int 1)) (.cons (.c (.int 2)) (.cons (.c (.int 15)) (.cons (.c (.int 19)) (.cons (.c (.int 23)) (.cons (.c (.int 11)) (.cons (.c (.int 10)) (.cons (.c (.int 9)) (.cons (.c (.int 20)) (.cons (.c (.int 16)) (.cons (.c (.int 12)) .nil)))))))))))))) .no .nil [(2,4)]) (.yes (.v 3)) .no (.yes (.c (.int 2)))))
 (.cons (.ret (.me (.c (.str [])) .join (.cons (.cm (.ite (.q (.sub (.v 2) (.v 1)) .In (.sl (.v 2) (.yes (.b .Add (.v 1) (.c (.int 1)))) .no .no)) (.c (.str [40])) (.c (.str [41]))) (.one 1) (.rg (.cons (.c (.int 6)) .nil)) .no .nil [(2,9)]) .nil)))
 .nil))
inductive Zh(sc:o5)(y:List pt):Prop
 |mk (s0) (te) (ie) (r1) (r2) (tn) (tq) (xe) (xcs) (xsc) (xp) (p3) (mn) (mq) (mq2) (ap) (q1) (k1) (q2) (q3) (k2) (q4) (p5) (p4) (pf) (s5) (s6):y=[s0,(.For te ie [r1,r2,(.Assign [(.Name tn tq)] (.ListComp xe xcs xsc xp) p3),(.Assign [(.Name mn mq)] (.Call (.Attribute (.Name mn mq2) "replace" ap) [(.Subscript (.Name tn q1) k1 q2),(.Subscript (.Name tn q3) k2 q4)] [] p5) p4)] [] pf),s5,s6]->Bm sc (.ag (.one 4) (.c (.str CV))) s0=er->D2 sc (.one 5) te=er->Jh Gp te=er->Gh sc Gp ie=er->C1 sc Du [r1,r2]=er->BA sc 8 tn=er->AH sc (.cm Lb (.one 1) GX HN .nil J9) (.ListComp xe xcs xsc xp)=er->(!(xsc.names.any λ(n,k)=>n==tn&&(k== .local||k== .cell)))=er->(tq.line==xp.line)=er->sc.names.lookup tn=dD .local->BA sc 4 mn=er->(ap.endLine==p5.line)=er->AH sc (.c (.int 1)) k1=er->AH sc (.c (.int 0)) k2=er->C1 sc Cf [s5,s6]=er->Zh sc y
theorem XF:Zh (Aq 20) (CN 20):=⟨_,_,_,_,_,_,_,_,_,_,_,_,_,_,_,_,_,_,_,_,_,_,_,_,_,_,_,rfl,by nofun,by nofun,by nofun,by nofun,by nofun,by nofun,by nofun,by nofun,by nofun,by nofun,by nofun,by nofun,by nofun,by nofun,by nofun⟩
noncomputable def M5(r:Rs):Option Ev:=match r with
 |.nx i a=>(match a with
  |[]=>dD i
  |_::_=>eu)
 |.ret _=>eu
theorem Ln{r:Rs}{i:Ev}(h:M5 r=dD i):r=.nx i []:=by
 induction r using Rs.casesOn with
 |ret _=>exact nS h
 |nx i a=>induction a using lz with
  |nil=>exact dE h▸rfl
  |cons _ _=>exact nS h
noncomputable def QF(r:Rs):Option V:=match r with
 |.ret v=>dD v
 |.nx _ _=>eu
theorem XG{r:Rs}{v:V}(h:QF r=dD v):r=.ret v:=by
 induction r using Rs.casesOn with
 |ret _=>exact dE h▸rfl
 |nx i a=>exact nS h
noncomputable def R9(i:Ev):Option V:=((i.get 4).bind L3).bind λs=>((ev D9 (.sub (.v 7) (.v 1)) i).bind Io).bind λk=>C0 (.str s) (.int k)
noncomputable def KU(i:Ev):Option (List V):=(EW D9 GX i).bind λb=>Ai (.one 1) (Bu i J9) (λa=>BD (Hk D9 HN a) (one (R9 a))) b
noncomputable def HW(x:List Nat)(c d:Nat):List Nat:=(Txt.replace (AP x) (AP [c]) (AP [d])).cps.toList
noncomputable def gE(l:List Nat):Option Nat:=match l with
 |[]=>eu
 |c::r=>match r with
  |[]=>dD c
  |_::_=>eu
theorem Xe{l:List Nat}{c:Nat}(h:gE l=dD c):l=[c]:=by
 induction l using lz with
 |nil=>exact nS h
 |cons a r=>induction r using lz with
  |nil=>exact dE h▸rfl
  |cons _ _=>exact nS h
noncomputable def nF(v:V):Option Nat:=(L3 v).bind gE
noncomputable def two{c:Type}(l:List V)(f:Nat->Nat->Option c):Option c:=QK l λa b=>(nF a).bind λd=>(nF b).bind λe=>f d e
noncomputable def FL(i e:Ev):Option Rs:=match e with
 |[]=>((AX D9 fG Du i []).bind M5).bind λa=>(KU a).bind λl=>two l λb c=>match lf c b with
  |true=>eu
  |false=>((a.get 4).bind L3).bind λd=>match pq d.length 1000 with
   |true=>dD (.nx ((a.put 8 (.l [.str [b],.str [c]])).put 4 (.str (HW d c b))) [])
   |false=>eu
 |_::_=>eu
theorem XH{i:Ev}{l:List V}{C:Prop}(h:KU i=dD l)(k:∀b,EW D9 GX i=dD b->Ai (.one 1) (Bu i J9) (λa=>BD (Hk D9 HN a) (one (R9 a))) b=dD l->C):C:=EY h k
theorem MN{v:V}{c:Nat}(h:nF v=dD c):v=.str [c]:=EY h λz e h=>(FE e).trans (congrArg V.str (Xe h))
theorem gO{g:Type}{l:List V}{f:Nat->Nat->Option g}{z:g}{C:Prop}(h:two l f=dD z)(k:∀c d,l=[.str [c],.str [d]]->f c d=dD z->C):C:=
 Ui h λa b e h=>EY h λc o h=>EY h λd p=>k c d (by rw[e,MN o,MN p])
theorem RQ{i p:Ev}{r:Rs}{C:Prop}(a:FL i p=dD r)(k:∀b c d g,p=[]->AX D9 fG Du i []=dD (.nx b [])->KU b=dD [.str [c],.str [d]]->lf d c=fG->b.get 4=dD (.str g)->pq g.length 1000=er->
  r=.nx ((b.put 8 (.l [.str [c],.str [d]])).put 4 (.str (HW g d c))) []->C):C:=by
 induction p using lz with
 |cons _ _=>exact nS a
 |nil=>
  refine EY a λb h a=>EY a λl t a=>gO a λc d e a=>?_;cases f:lf d c with
  |true=>rw[f]at a;exact nS a
  |false=>rw[f]at a;exact EY a λg q a=>bS a λo a=>k b c d g rfl (bO (g:=λi=>.nx i []) Ln h) (e▸t) f (bO FE q) o (dE a).symm
noncomputable def VG(a:List V):Option V:=match lf a.length 4 with
 |true=>(EW D9 Gp ((Ah 0 a).put 4 (.str CV))).bind λb=>((As (.one 5) FL b ((Ah 0 a).put 4 (.str CV)) []).bind M5).bind λi=>Es (AX D9 fG Cf i [])
 |false=>eu
set_option tactic.hygienic true in
theorem YH{Z:Bs}(O:Z.Ok)(W:Wd Z){n:Nat}(N:Av Z W n){A:mx}:∀e y,AH e Lb y=er->SET Z n A e R9 y:=by
 intro e y h j B s i v d S C;obtain⟨a,b,p,rfl,D,E⟩:=Q5 h;refine EY d λst g d=>EY d λk l d=>?_;replace g:=bO FE g;replace l:=bO Cu l;unfold C0 at d;simp only at d;split at d
 case isFalse=>exact nS d
 rename_i o;split at d
 case h_2=>exact nS d
 rename_i c G
 (replace d:=dE d;subst d)
 have q:=Kk o;refine AAP (pF (AAW ((Aa O W (Au W n) (.v 4) e a D).1 j B s i (.str st) (by exact g) S)) (λu H I=>?_) λ_ _ f=>f.2);obtain⟨r,w,x⟩:=I;refine pF (AAW ((Aa O W (Au W n) (.sub (.v 7) (.v 1)) e b E).1 j B H i _ l (S.same x))) (λv J L=>?_) λ_ _ f=>f.2;obtain⟨t,z,M⟩:=L
 (refine VR.kStr w λ_=>?_;clear w);(refine VR.kInt z λ_=>?_;clear z)
 refine CG (xH _ _ _) yU.lookup (zw (c:=c) (Uc q) (by rw[AU];simpa[AP]using G) ?_);exact⟨⟨.str [c] _,(x.trans M).trans (Same.tok O)⟩,AP [c],J.toks,rfl,mE r t,rn _⟩
section
variable{Z:Bs}{n:Nat}{A:mx}{m:o5}{j:t8}{B:ls->Prop}{s:lb}{i:Ev}{cl:Cl}
theorem Qy{b:Cs}{l o:List pt}(q:PB Z n A cl b)(t:C1 m b l=er){r:Rs}(w:AX cl fG b i []=dD r)(F:Fr Z n A m j B [] s i []){Q:xg->lb->Prop}
  (h:∀(f:xg) (a:lb),s.toks<=a.toks->Ch Z (Fp m j []) (λz=>False) s a->(match r with
   |.ret v=>∃u,f=AD8 u/\VR Z.prog Z.w B a.heap u v
   |.nx d k=>f=u9/\(k=[]->Fr Z n A m j B [] a d []))->(match f with|Flow.next=>WP Z A (uO o j) Q a|f=>Q f a)):
  WP Z A (uO (l++o) j) Q s:=by
 rw[A'];refine fX (pF (AAW (q m l t fG j B [] s i [] r w F)) (λf a g=>?_) λz z f=>f.2);obtain⟨x,c,g⟩:=g;have:=h f a x c (by
  cases r with
  |ret v=>exact g
  |nx d k=>obtain⟨rfl,y,_,_,_,p⟩:=g;refine⟨rfl,λe=>?_⟩;subst e;have:=p.noW;refine this▸?_;exact p)
 cases f<;>first|exact this|exact mM this
end
theorem X5(s:pw):AP s.cps.toList=s:=by cases s;simp[AP]
theorem WS{e:qK}{w:sO}{B:ls->Prop}{h:qX}{c:List gx}{a b:List Nat}(r:VRs e w B h c [.str a,.str b]):∃f g,c=[.str (AP a) f,.str (AP b) g]:=by
 refine VRs.kCons r λz z a b=>VRs.kCons b λz z b d=>?_
 (refine VRs.kNil d ?_;clear d)
 (refine VR.kStr a λz=>?_;clear a);(refine VR.kStr b λz=>?_;clear b)
 exact⟨_,_,rfl⟩
theorem TPs.two{x y:pw}{b c n:Nat}(d:TPs [.str x b,.str y c] n):b≠0/\c≠0/\b≠c:=by
 refine⟨?_,?_,(List.pairwise_cons.mp d.2).1 _ pg _ _ _ _ rfl rfl⟩
 ·obtain⟨x,t,q,a,_⟩:=d.1 _ pg;cases q;exact um a
 ·obtain⟨x,t,q,a,_⟩:=d.1 _ (oP _ pg);cases q;exact um a
theorem Vs{Z:Bs}(O:Z.Ok)(W:Wd Z){n:Nat}(G:Av Z W n){A:mx}{m:o5}{j:t8}{B:ls->Prop}{d mn:pw}{tq q1 q2 q3 q4 mq H ap p3 p4 p5:tE}{e k1 k2:f0}{I J:pt}
  (h1:C1 m Du [I,J]=er) (h2:BA m 8 d=er) (h3:AH m (.cm Lb (.one 1) GX HN .nil J9) e=er) (L:xr e (dD (.Name d tq)) p3.line j=tS er)
  (h4:BA m 4 mn=er) (M:(mn==("__debug__" :pw))=fG) (N:(mn==("__classdict__" :pw))=fG) (Q:(d==("__debug__" :pw))=fG) (h5:(ap.endLine==p5.line)=er) (h6:AH m (.c (.int 1)) k1=er) (h7:AH m (.c (.int 0)) k2=er)
  {s:lb} {i ω:Ev} {r:Rs} (hr:FL i ω=dD r) (F:Fr Z n A m j B [] s i ω) (U:0<s.toks):
  WP Z A (uO [I,J,.Assign [.Name d tq] e p3,.Assign [.Name mn mq] (.Call (.Attribute (.Name mn H) "replace" ap) [.Subscript (.Name d q1) k1 q2,.Subscript (.Name d q3) k2 q4] [] p5) p4] j) (Post Z n A m j B [] er s r) s:=by
 refine RQ hr λY p q t e1 w a a0 a1 x e2=>?_;subst e1 e2;show WP Z A (uO ([I,J]++ [_,_]) j) _ _;refine Qy (C7 O W (Au W n) G Du) h1 w F λf s1 a2 a3 g=>?_;obtain⟨rfl,g⟩:=g;have F1:=g rfl;clear g;refine XH a λvs a4 a=>?_;refine pz (GH (nZ O W G F1 h2 h3 L (YH O W G) a4 a rfl (nR U a2)) λs2 g2=>?_);have⟨c2,z,g2⟩:=g2;refine UO g2 λkd D ws nn hn hL gD tp a5=>?_;refine A2 (Bh h4) λaa a6 X=>?_;have g4:(Y.put 8 (.l [.str [p],.str [q]])).get 4=dD (.str t):=by rw[Ev.get_put,if_neg (by decide)];exact a1
 refine T5 (WS a5) λt0 t1 h=>?_;rw[h]at tp;have⟨p0,p1,a7⟩:=tp.two;have i1:ws[1]?=dD (.str (AP [q]) t1):=by rw[<-ts,h];rfl
 have i0:ws[0]?=dD (.str (AP [p]) t0):=by rw[<-ts,h];rfl
 refine pz (BY (by rfl) ?_);refine v' (JL (by rfl) _ _) (by rfl) h5 (ON (z.f.load g4 a6 M N) λu gu=>VR.kStr gu λtm=>?_);refine⟨"str","str.replace",sp,PySem.F.slot_str_replace,PySem.F.type_str_replace,xH _ _ _,λX e=>(nomatch e),uh (by rfl) (sQ ?_)⟩;have c:∀{k:Nat} {C:f0} {qa qb:tE} {u:gx} {y:lb},AH m (.c (.int (k:Int))) C=er->k<2^62->ws[k]?=dD u->Same Z s2 y->WP Z A (tW (.Subscript (.Name d qa) C qb) j) (λv E=>v=u/\Same Z s2 E) y:=λ{k C qa qb u y} hk a8 hu l=>by
  refine AAP (Ce (YJ (z.turn l).f hn (hL.turn λb o X=>l.heap b o) Q) ?_);refine A1 ((Aa O W (Au W n) (.c (.int (k:Int))) m C hk).1 j _ y _ _ (by rw[C6]) (z.turn l).frz) λv ac gc=>?_;obtain⟨gv,Sc⟩:=gc;refine VR.kInt gv λX=>Ce (QV (Sc.heap _ _ (l.heap _ _ gD rfl) rfl) a8 hu) ?_;exact⟨rfl,l.trans Sc⟩
 refine qM (GH (c (k:=1) h6 (by decide) i1 Same.refl) λy l=>?_);refine qM (GH (c (k:=0) h7 (by decide) i0 l) λE Sb=>rq ?_);have a9:t.length<1000:=nY x;refine SC.replace p1 p0 (ub a7) (by simp only[I1,HU];have:=mP a0;simp[this]) (by rw[AU,AU];simp;lia) λt' tk=>?_;have S4:Same Z E {E with toks:=tk}:=Same.tok O;refine A1 ((z.turn (Sb.trans S4)).ag O (t:=.one 4) (te:=.Name mn mq) h4 rfl (x:=.str (HW t q p)) ?_ rfl) λX s5 g5=>?_
 ·have:Txt.replace (AP t) (AP [q]) (AP [p])=AP (HW t q p):=by unfold HW;rw[X5]
  exact this▸.str _ _
 ·exact td (Post.nx ((a3.trans c2).trans ((Sb.trans S4).ch.trans g5.2)) g5.1)
theorem R0{a:t8}{c:pw}{d:tE}{y:f0}{f:List rc}{b:o5}{p:tE}{l:Nat}(e:a.scope.kind=.function)(g:a.kindOf c=dD .local)(h:(!(b.names.any λ(n,k)=>n==c&&(k== .local||k== .cell)))=er)(i:(d.line==p.line)=er):
  xr (.ListComp y f b p) (dD (.Name c d)) l a=tS er:=by
 have j:(a.blockKind== .function)=er:=by unfold ACm;rw[e];rfl
 show(tS (a.blockKind== .function&&a.kindOf c==dD .local&&d.line==p.line&&!(b.names.any λ(n,k)=>n==c&&(k== .local||k== .cell))):xL Bool)=tS er;simp only[j,g,i,h];rfl
theorem bT{d:List V}{x:V}{C:Prop}(b:VG d=dD x)(k:∀e a,d.length=4->EW D9 Gp ((Ah 0 d).put 4 (.str CV))=dD e->As (.one 5) FL e ((Ah 0 d).put 4 (.str CV)) []=dD (.nx a [])->Es (AX D9 fG Cf a [])=dD x->C):C:=by exact bS b λg b=>EY b λe f b=>EY b λa c b=>k e a (lk g) f (bO (g:=λh=>.nx h []) Ln c) b
theorem dN{o:Option Rs}{x:V}{C:Prop}(h:Es o=dD x)(k:∀v,o=dD (.ret v)->v=x->C)(c:∀a b,o=dD (.nx a b)->.none=x->C):C:=by
 induction o using m8 with
 |none=>exact nS h
 |some r=>
  induction r using Rs.casesOn with
  |ret v=>exact k _ rfl (dE h)
  |nx a b=>exact c _ _ rfl (dE h)
theorem HS{j:Nat}{m:pw}(b:BA (Aq 20) j m=er):(m==("__debug__" :pw))=fG/\(m==("__classdict__" :pw))=fG:=by
 obtain⟨d,c,_⟩:=Bh b;have a:(Aq 20).names.all (λp=>p.1 !=("__debug__" :pw)&&p.1 !=("__classdict__" :pw))=er:=by nofun
 have:=mH.mp a _ (qk c);simpa using this
theorem Ws{Z:Bs}(O:Z.Ok){n:Nat}{A:mx}{b:o5}{a:t8}{j:ls->Prop}{s:lb}{k:Ev}{i:Nat}{l:List Nat}{st:pt}(h:Bm b (.ag (.one i) (.c (.str l))) st=er)(F:Fr Z n A b a j [] s k []):
  WP Z A (yL st a) (λf c=>f=.next/\0<c.toks/\Ch Z (Fp b a []) (λY=>False) s c/\Fr Z n A b a j [] c (k.put i (.str l)) []) s:=by
 (obtain⟨p,q0,x,y,d,q,r⟩:=IJ h<;>try rw[d])
 ((refine CB λY t=>?_;obtain⟨m,u,v,d,e⟩:=LL r<;>refine t ?_)<;>try rw[d])
 have w:m=.str (AP l):=by
  cases m<;>first|(cases e;done)|skip
  rw[show Qp (.str l) _=(AP l==_)from rfl,beq_iff_eq]at e;rw[e]
 rw[w];refine BY (by rfl) (wj ?_);have o:Same Z s {s with toks:=s.toks+1}:=Same.tok O;exact A1 (wT (qF _) ((F.turn o).ag O (t:=.one i) (te:=.Name p q0) q rfl (x:=.str l) (.str _ _) rfl)) λY z g=>⟨rfl,nR (tG _) g.1,o.ch.trans g.2.2,g.2.1⟩
theorem cO{Z:Bs}(O:Z.Ok)(W:Wd Z)(T0:HV Z)(hW:W.fnA=T0.fnA)(U:∀n,Av Z W (n+1)){n:Nat}{vs:List V}{x:V}(z:VG vs=dD x)
  {A:mx} {B:ls->Prop} {s:lb} {us:List gx} (ha:OkA (n+8) A) (i:Inv Z s) (k:∀a,s.heap.get? a=eu->B a) (hv:VRs Z.prog Z.w B s.heap us vs):WP Z A (t9 (.ref (W.fnA 20)) us) (Gv Z B s x) s:=by
 rw[hW];refine bT z λqs Y hl a0 g z=>?_;refine FC (n:=n+7) O (T0.fn 20 _ _ _ _ (Cb (k:=20) rfl)).2 l5 (by rw[aU];exact hl) ha i k hv λc C tk o cd ho ak a1 a2 al D d S1 F0=>?_;generalize E:(λb=>B b/\b≠c.locals/\∀m,c.cells.lookup m≠dD b)=a3 at F0;have a4:∀b,a3 b->B b:=λb q=>by rw[<-E]at q;exact q.1
 generalize am:({s with heap:=C,toks:=tk}:lb)=s1 at S1 F0⊢;refine RO λQ hQ=>?_;obtain⟨s0,te,ie,r1,r2,tn,tq,xe,an,ao,xp,p3,mn,mq,aq,ap,q1,k1,q2,q3,k2,q4,p5,p4,pf,s5,s6,l,h1,h2,h3,h4,h5,h6,h7,h8,h9,a5,p,a6,a7,a8,a9⟩:=XF;rw[l];refine pz (GH (Ws O h1 F0) λs3 g3=>?_);have⟨G,aa,t⟩:=g3;clear g3;have ac:c.kindOf tn=dD .local:=by
  rcases t.f.kd _ _ a5 with h|⟨h,_⟩
  ·exact h
  ·cases h
 have H:=D' (A:=A.deeper c) O W (Au W _) (U (n+6)) Gp (Aq 20) te ie h4 h3;refine pz (ABK (A1 (wT (t0:=1) G (H.2 c _ s3 _ qs a0 t.frz)) λy s4 g4=>A1 (wT g4.1 g4.2) λiv ar g5=>?_) (H.1 c))
 (refine CB λX kk=>?_;refine eZ (Its.frame t g5.2) λfp gp J hJ hj F5 S5 ae af ag ah=>?_<;>refine kk ?_)
 refine uV (Ld (t0:=1) O (λs ρ ω r z F ai=>Vs O W (U (n+6)) h5 h6 h7 (R0 t.f.fn ac h8 h9) p (HS p).1 (HS p).2 (HS h6).1 a6 a7 a8 z F ai) h2 hJ ag (λb q=>q.1) ah t.nl t.nc (λb f q=>q.2 f) qs hj F5 g (g5.1)) λq I g6=>?_
 (obtain⟨f,L,hp⟩:=g6.post (lp:=true) S5 ae af<;>try simp only[L])
 (refine CB λX kk=>?_;(obtain⟨c6,L,W',_,_,aj,F6⟩:=hp<;>try (replace L:=L.symm;subst L))<;>refine kk ?_)
 simp only[aj rfl]at F6;have fin:∀{w},Ch Z (Fp (Aq 20) c []) (λX=>False) I w->Same Z s w:=λ{w} c7=>(S1.ch.trans (aa.trans (c6.trans c7)):Ch Z (Fp (Aq 20) c []) (λX=>False) s w).same (λb o e f=>by
  rcases f with(f|⟨m,_,f⟩)|⟨j,f⟩
  ·rw[f,D]at e;exact nS e
  ·rw[d m b f]at e;exact nS e
  ·cases f) λX X f=>f
 have tl:=λr M=>C7 O W (Au W _) (U (n+6)) Cf (Aq 20) [s5,s6] a9 fG c _ [] I Y [] r M F6;refine dN z (λv M e=>?_) λas au M e=>?_
 ·refine A1 (tl _ M) λf w N=>hQ _ _ ?_;refine A2 N.2 λu ef hu=>?_;subst e ef;exact⟨hu.mono (λX X X e X=>e) λb X q X=>a4 b q,fin N.1⟩
 ·refine A1 (tl _ M) λf w N=>hQ _ _ ?_;rw[<-e];exact⟨N.2.1▸.none,fin N.1⟩
section
open PySem.W
inductive qU(sc:o5)(y:List pt):Prop
 |mk (t) (n) (q1) (q2) (els) (q3):y=[(.If t [(.Raise (dD (.Name n q1)) eu q2)] els q3)]->AH sc (.q (.v 1) .Eq (.c (.int 0))) t=er->B0 sc n "ZeroDivisionError" =er->qU sc y
theorem lM:qU (Aq 9) (CN 9):=⟨_,_,_,_,_,_,rfl,by nofun,by nofun⟩
noncomputable def XZ:String:="ZeroDivisionError"
theorem Rc:AC6 (.type XZ) (.type XZ)=tS er:=by rw[AAX];kernel_rfl
structure ZB(Z:Bs)(s:lb)(l:List t8)(L:ls)(e:gx)(s':lb):Prop where
 ex:∃s1 base h' e' a0 L9,e=.ref e'/\Same Z s s1/\s'={s1 with heap:=h'}/\Heap.FlyingW base l e' (.type XZ) a0 h'/\s1.heap.UpToSlots h'/\(∀b o,s1.heap.get? b=dD o->b≠L->b≠L9->base.get? b=dD o)/\
  s.heap.get? L9=eu/\Z.B.heap.get? L9=eu/\(∃o,s1.heap.get? L9=dD o/\¬CE o/\∀vs,o.data≠.fields vs)
theorem Ol{Z:Bs}(O:Z.Ok)(W:Wd Z)(U:HV Z)(hW:W.fnA=U.fnA)(hz:Z.mg "ZeroDivisionError" =eu/\Z.mb "ZeroDivisionError" =dD (.type XZ)){n:Nat}{Y:Int}
  {A:mx} {ok:ls->Prop} {s:lb} {us:List gx} (ha:OkA (n+1) A) (i:Inv Z s) (k:∀a,s.heap.get? a=eu->ok a) (hv:VRs Z.prog Z.w ok s.heap us [.int Y,.int 0])
  {c:t8} (C:A.frames=dD [c]) (D:c.frame=dD c.locals) (E:c.scope.kind=.function) {m:pw->Option gx} (p:s.heap.Ns c.locals m) {Q:gx->lb->Prop}:
  qH (qQ Z.prog Z.w) A (t9 (.ref (W.fnA 9)) us) Q (ZB Z s [c] c.locals) s:=by
 rw[hW];refine Fj (n:=n) O (U.fn 9 _ _ _ _ (Cb (k:=9) rfl)).2 kR (by simp only[aD];rfl) ha i k hv λd a0 tk o cd ho a3 G H a4 r B S1 a2 u F0=>?_;obtain⟨t,n,q1,q2,a5,q3,v,k0,k1⟩:=lM;simp only[v];refine pz (AAR (pF ((Aa O W (Au W _) (.q (.v 1) .Eq (.c (.int 0))) (Aq 9) t k0).2 d _ _ (Ah 0 [V.int Y,V.int 0]) er rfl F0.frz) (λb j g=>?_) λT T=>False.elim))
 (obtain⟨I,S2⟩:=g<;>try (replace I:=I.symm;subst I))
 have w:=F0.turn S2;rw[if_pos rfl];refine pz (Raise_classB (X:=XZ) w.a.1 AAY Rc (pF (Et O w.frz k1 hz) (λT T q=>q) λT T=>False.elim) λh' e x=>?_);have y:Same Z s j:=S1.trans S2;obtain⟨m9,J,_⟩:=w.f.ns;have nL:j.heap.Ns c.locals m:=by obtain⟨o',l,t',_⟩:=An p;exact p.at' λa6 f=>by rw[l]at f;(replace f:=dE f;subst f);exact y.heap _ _ l t'
 (refine CB λT L=>?_;obtain⟨ob,t0,he,z,hd⟩:=x.there<;>refine L ?_)
 have fresh:(ACr j.heap [c.locals,d.locals]).get? e=eu:=by
  cases q:(ACr j.heap [c.locals,d.locals]).get? e with
  |none=>rfl
  |some o=>have:=of_hideAll _ q;exact nS (x.new.symm.trans this)
 have h:j.heap.FunFrames (ACr j.heap [c.locals,d.locals]) [d,c]:=by refine yy (L:=d.locals) (by rw[w.f.fn];decide) u J (hideAll_none _ (by simp)) (yy (L:=c.locals) (by rw[E];decide) D nL (hideAll_none _ (by simp)) trivial)
 refine wpAny_leaving_firstW (base:=ACr j.heap [c.locals,d.locals]) (a0:=t0) (AAB C) (h.of_keeps λb o v T=>⟨o,x.keeps b o v,rfl⟩) u he (λb o v=>x.keeps b o (of_hideAll _ v)) fresh hd rfl rfl λM hL=>?_
 (refine CB λT L=>?_;obtain⟨l1,⟨_,_,l2⟩,l3,l4⟩:=hL<;>refine L ?_)
 rw[z]at l3;refine⟨j,_,M,e,t0,d.locals,rfl,y,rfl,⟨l1,fresh,l2,l3⟩,(ACs x.keeps).trans l4,(λb o e n1 n2=>hideAll_get _ e (by simp[n1,n2])),r,w.f.nb,?_⟩;obtain⟨o',l,_,nc⟩:=An J;obtain⟨o,es,ep,e,N,_⟩:=J;rw[e]at l;(replace l:=dE l;subst l);exact⟨_,e,nc,λvs q=>by rw[N]at q;cases q⟩
end
section
open PySem.W
section
variable{Z:Bs}{n:Nat}{A:mx}{l:o5}{j:t8}{ok:ls->Prop}{s w:lb}{ρ:Ev}{cl:Cl}
theorem XS(O:Z.Ok)(R:EnvR Z l j ok s.heap ρ)(i:Inv Z s){m x:pw}{p:tE}{v:gx}(c:B0 l m x=er)(b:Z.mg x=eu/\Z.mb x=dD v):WP Z A (tW (.Name m p) j) (λu d=>u=v/\d=s) s:=by
 (refine BO (Iw c) λa e f=>?_;(replace a:=a.symm;subst a))
 exact wi R.fn (Gx R e) (zZ (by rw[R.gl];exact i.ns_g O) b.1 (by rw[R.bt];exact i.ns_b O) b.2 ⟨rfl,rfl⟩) f
theorem Jy(O:Z.Ok)(F:Fr Z n A l j ok [] s ρ [])(S:Same Z s w){C p:qX}{E:ls}(L:C.StaysIn p)(G:w.heap.UpToSlots p)(D:∀b o,w.heap.get? b=dD o->b≠j.locals->b≠E->C.get? b=dD o)
  (Y:s.heap.get? E=eu) (hB:Z.B.heap.get? E=eu) (hc:∃o,w.heap.get? E=dD o/\¬CE o/\∀vs,o.data≠.fields vs):Fr Z n A l j ok [] {w with heap:=p} ρ []/\Ch Z (Fo l j) (λX=>False) s {w with heap:=p}:=by
 have M:=F.turn S
 (refine CB λX N=>?_;obtain⟨o9,e9,c9,d9⟩:=hc<;>refine N ?_)
 have H:∀b o,¬(b=j.locals\/b=E)->w.heap.get? b=dD o->p.get? b=dD o:=λb o q e=>L b o (D b o e (λh=>q (.inl h)) λh=>q (.inr h));have kp:∀b o,b≠j.locals->s.heap.get? b=dD o->AB o=fG->p.get? b=dD o:=λb o q e t=>H b o (λh=>h.elim q λh=>nS (Y.symm.trans (h▸e))) (S.heap b o e t);have Q:Ch Z (λb=>b=j.locals\/b=E) (λX=>False) w {w with heap:=p,toks:=w.toks}:=Ch.of_keep' O (λb f=>f.elim (λq=>q▸F.f.nb) λq=>q▸hB) (λb o f e=>f.elim (λq=>M.f.fo_code (.inl q) e) λq=>by rw[q,e9]at e;(replace e:=dE e;subst e);exact c9) H;have U:∀{m},s.heap.Ns j.locals m->p.Ns j.locals m:=λ{m} x=>by
  obtain⟨o',e',t',_⟩:=An x;exact G.ns (x.at' λa0 B=>by rw[e']at B;(replace B:=dE B;subst B);exact S.heap _ _ e' t')
 have vr:∀{u v},VR Z.prog Z.w (C8 ok []) s.heap u v->VR Z.prog Z.w (C8 ok []) p u v:=λr=>r.mono (λb o a e t=>kp b o (λq=>F.nl (q▸a.1)) e t) λX X a X=>a;have ce:∀{m c v},j.cells.lookup m=dD c->s.heap.IsCell c v->p.IsCell c v:=λ{m c v} e x=>by
  obtain⟨o,e1,t,_⟩:=Cj x;obtain⟨o',I,d⟩:=x;rw[e1]at I;(replace I:=dE I;subst I);exact⟨o,kp c o (F.f.cx m c e).2.1 e1 t,d⟩
 have R:EnvR Z l j (C8 ok []) p ρ:={F.f with
  ns:=by obtain⟨m,a,b⟩:=F.f.ns;exact⟨m,U a,λi v n e f=>(b i v n e f).imp λu x=>⟨x.1,vr x.2⟩⟩
  cl:=λi v n k e f g=>by
   obtain⟨c,u,x,y,z⟩:=F.f.cl i v n k e f g;exact⟨c,u,x,ce x y,vr z⟩
  cx:=λn c e=>by
   obtain⟨⟨v,x⟩,y,z⟩:=F.f.cx n c e;exact⟨⟨v,ce e x⟩,y,z⟩}
 refine⟨⟨F.a,Q.inv M.i,λa e=>Q.hok M.k (λb f=>?_) a e,R,F.nl,F.nc,λX X e=>(by exact nomatch e),λX X e=>(by exact nomatch e),λX X e=>(by exact nS e),λX X X X e=>(by exact nomatch e)⟩,(S.ch.trans Q).mono (λb o e f=>f.elim .inl λq=>nS (Y.symm.trans (q▸e))) λX X q=>q⟩
 (rcases f with J|J<;>(replace J:=J.symm;subst J))
 ·(refine CB λX N=>?_;obtain⟨m,⟨o,_,_,e,_⟩,_⟩:=R.ns<;>refine N ?_)
  exact⟨o,e⟩
 ·obtain⟨sl,e⟩:=G _ _ e9 d9;exact⟨_,e⟩
noncomputable def Cv:V:=.str [114,101,102,117,115,101,100]
noncomputable def We:Cs:=.cons (.ag (.one 33) (.call 9 (.cons (.b .Add (.v 38) (.v 39)) (.cons (.b .Pow (.b .Add (.c (.int 1)) (.v 34)) (.c (.int 3))) .nil)))) .nil
noncomputable def Qb:XL:=(.cons (.b .Add (.v 38) (.v 39)) (.cons (.b .Pow (.b .Add (.c (.int 1)) (.v 34)) (.c (.int 3))) .nil))
inductive Pq(l:o5)(y:pt):Prop
 |mk (p1) (q1) (f) (q2) (es) (q3) (q4) (z) (q5) (p2) (q6) (c) (kk) (kp) (tt) (tp) (kt) (q7) (q8) (q9) (q10):y=.Try [(.Assign [(.Name p1 q1)] (.Call (.Name f q2) es [] q3) q4)] [(.ExceptHandler (dD (.Name z q5)) eu [(.Assign [(.Name p2 q6)] (.Tuple [(.Constant c kk kp),(.Name tt tp)] kt q7) q8)] q9)] [] [] q10->BA l 33 p1=er->B0 l f "int_divmod" =er->WO es=er->Bo l Qb es=er->BA l 33 p2=er->B0 l z "ZeroDivisionError" =er->AH l (.c Cv) (.Constant c kk kp)=er->FT l 38 tt=er->Pq l y
theorem Sf(O:Z.Ok)(W:Wd Z)(b:B2 Z W cl n)(d:Av Z W n){st:pt}(e:Pq l st){r:Rs}(h:AX cl fG We ρ []=dD r)(F:Fr Z n A l j ok [] s ρ [])(i:∃a,r=.nx a []):
  WP Z A (yL st j) (Post Z n A l j ok [] fG s r) s:=by
 obtain⟨t,q1,f,q2,u,q3,q4,z,q5,v,x,c,y,B,C,D,E,G,H,I,k,rfl,m,o,p,q,J,k6,L,k8⟩:=e;refine AC7 (pF (C7 O W b d We l _ ?_ fG j ok [] s ρ [] r h F) (λf M g=>?_) λw w=>False.elim)
 ·show C1 l We [_]=er;exact ab (ab m (ab o (ab p q))) rfl
 ·obtain⟨a,rfl⟩:=i;have:=g.2.1;subst this;exact mM g
end
end
section
open PySem.W
section
variable{Z:Bs}{n:Nat}{A:mx}{p:o5}{d:t8}{ok:ls->Prop}{s w:lb}{u:Ev}{cl:Cl}
set_option tactic.hygienic true in
theorem Mo(O:Z.Ok)(F:Fr Z n A p d ok [] s u []){D:mx}{E G:pw}{c:ABG}{H:Nat}{q1 q2 q3 q4 q5:tE}{Q:Nat}{t:V}(U:BA p 33 E=er)(I:Qp Cv c=er)(k8:FT p 38 G=er)(Y:u.get 38=dD t):
  WP Z D (uO [.Assign [.Name E q1] (.Tuple [.Constant c H q2,.Name G q3] Q q4) q5] d) (Post Z n A p d ok [] fG s (.nx (u.put 33 (.t [Cv,t])) [])) s:=by
 obtain⟨a0,m,r⟩:=Bh U;refine pz (B9 rfl (A1 (w4 (Q:=λv J=>VR Z.prog Z.w (C8 ok []) J.heap v (.t [Cv,t])/\Same Z s J) ?_) (λv i g=>?_)))
 ·obtain rfl:c=.str (AP [114,101,102,117,115,101,100]):=by
   cases c<;>first|cases I;done|skip
   rename_i x;exact congrArg Const.str (beq_iff_eq.mp (show(AP [114,101,102,117,115,101,100]==x)=er from I)).symm
  refine qM (A1 (show WP Z D (tW (.Constant (.str (AP [114,101,102,117,115,101,100])) H q2) d) (Gv Z (C8 ok []) s Cv) s from wj (EA O (ok:=C8 ok []) (s:=s) rfl)) (λL w l=>?_));unfold FT at k8;split at k8
  case h_2=>exact fT k8
  rename_i m' k hn;simp only[pl,beq_iff_eq,bne_iff_ne,ne_eq]at k8;obtain⟨⟨⟨rfl,_⟩,h2⟩,h3⟩:=k8;refine qM (A1 (((F.turn l.2).f).load Y hn (by rw[beq_eq_false_iff_ne];exact h2) (by rw[beq_eq_false_iff_ne];exact h3)) (λM i y=>rq ?_));obtain⟨y,rfl⟩:=y;refine⟨by simp[wH],?_⟩;have z:Same Z i {i with heap:=i.heap.push {cls:=.type "tuple",data:=.seq [L,M].toArray},toks:=i.toks}:=Same.push O;refine⟨.t (vs:=[L,M].toArray) (n:=_) ⟨(F.turn l.2).k _ (A6 _),λj hj=>by cases hj⟩ (mA _ rfl) (.cons (l.1.same z) (.cons (y.same z) .nil)),l.2.trans z⟩
 ·have B:=F.turn g.2;refine assign_Name (A1 (B.f.store O m r g.1) (λ_ s3 h=>?_));obtain⟨N,C⟩:=h;refine td ⟨?_,rfl,[],λ_ _ h=>h,λ_ _ h=>(by cases h),λ_=>rfl,⟨F.a,C.inv B.i,λa e=>C.hok B.k (λb f=>N.fo_live f) a e,N,F.nl,F.nc,λ_ _ e=>(by exact nomatch e),λ_ _ e=>(by cases e),λ_ _ e=>(by exact nS e),λ_ _ _ _ e=>(by exact nomatch e)⟩⟩;exact(g.2.ch.trans C).mono (λb o _ f=>.inl f) λ_ _ q=>q
theorem bF:AC6 (.type XZ) (.type "BaseException")=tS er:=by rw[AAX];kernel_rfl
theorem jJ:AC6 (.type ((Manifest.find? XZ).elim "type" λy=>y.metatype)) (.type "tuple")=tS fG:=by rw[AAX];kernel_rfl
theorem ZT{a:Type}{t:xL a}{c:a}{s:lb}{Q:a->lb->Prop}{E:gx->lb->Prop}(h:WP Z A t (λr b=>r=c/\b=s) s)(k:Q c s):qH (qQ Z.prog Z.w) A t Q E s:=pF h (λz z g=>g.1▸g.2▸k) λz z f=>f.elim
theorem Xs(O:Z.Ok)(W:Wd Z)(T0:HV Z)(hW:W.fnA=T0.fnA)(HC:B2 Z W cl n)(HG:Av Z W n)(hz:Z.mg "ZeroDivisionError" =eu/\Z.mb "ZeroDivisionError" =dD (.type XZ)){st:pt}(hc:Pq p st){a1:Int}{t:V}
  (hr:EE cl Qb u=dD [.int a1,.int 0]) (ht:u.get 38=dD t) (hn:0<n) (F:Fr Z n A p d ok [] s u []) (D:A.frames=dD [d]) (E:d.frame=dD d.locals):
  WP Z A (yL st d) (Post Z n A p d ok [] fG s (.nx (u.put 33 (.t [Cv,t])) [])) s:=by
 obtain⟨p1,q1,f,q2,es,q3,q4,z,q5,p2,q6,c,C,kp,tt,tp,kt,q7,q8,q9,aa,rfl,k1,k2,k3,k4,k5,k6,k7,k8⟩:=hc;obtain⟨n',rfl⟩:∃n',n=n'+1:=⟨_,(z8 hn).symm⟩
 refine AC7 (pF (Q:=λS S=>False) (E:=λe Q=>∃G,Same Z s G/\ZB Z G [d] d.locals e Q) ?_ (λS S=>False.elim) (λe Q g=>?_))
 ·refine pz ?_;simp only[AB6];refine fX (rj ?_);rw[show yf [.Name p1 q1] (.Call (.Name f q2) es [] q3) q4.line d=tS fG from rfl];refine fX (mM ?_);rw[if_neg (by decide)];refine fX ?_
  (refine CB λS C=>?_;obtain⟨o,fd,ho,H⟩:=(W.fn 9 _ rfl).2<;>refine C ?_)
  have ti:AB o=fG:=by exact C9 H rfl
  simp only[sZ];refine fX (ZT (Ks O F.frz k2 ((W.fn 9 _ rfl).1)) ?_);refine vO (fd:=fd) (o:=o) (pF (Ds k4 hr ((FS O W HC HG Qb p es k4).l d _ s u _ q3 hr F.frz)) (λa G U=>?_) λS S=>False.elim);obtain⟨us,rfl,U,I⟩:=U;have B:=F.turn I;refine⟨⟨B.i.keep _ _ ho ti,H⟩,?_⟩
  (refine CB λS C=>?_;obtain⟨m,Y,_⟩:=B.f.ns<;>refine C ?_)
  exact pF (Ol O W T0 hW hz B.a B.i (λa e=>⟨B.k a e,λj hj=>by cases hj⟩) U D E F.f.fn Y (Q:=λS S=>False)) (λS S=>False.elim) λe Q g=>⟨G,I,g⟩
 ·(refine CB λS C=>?_;(obtain⟨G,Sa,w,a6,h',e',a0,L9,qz,I,rfl,J,L,v,h9,hB,M⟩:=g<;>try (replace qz:=qz.symm;subst qz))<;>refine C ?_)
  refine wpAny_looks_onW D E J λa7 r k=>?_;refine wpAny_landsW r λa8 i l=>?_;have B:=F.turn Sa;obtain⟨F5,c5⟩:=Jy O B I i.1 ((L.trans k).trans l) v h9 hB M;obtain⟨ob,a5,N⟩:=i.there;refine wpAny_handleBy_builtin (X:=XZ) (T:=XZ) (b:=true) bF jJ Rc (ZT (XS O F5.f F5.i k6 hz) ?_);refine⟨rfl,⟨ob,a5,N⟩,?_⟩;rw[if_pos rfl];refine lands_againW i λa9 x y=>?_;obtain⟨F6,c6⟩:=Jy O B I x.1 (((L.trans k).trans l).trans y) v h9 hB M;refine pF (Mo O F6 k5 k7 k8 ht) (λf s7 g=>?_) λS S f=>f.elim;exact⟨(Sa.ch.trans (c6.mono (λb o S f=>.inl f) λS S q=>q)).trans g.1,g.2.imp id λ⟨W',a1,a2,a3,a4⟩=>by have:=a4.noW;subst this;exact⟨[],λS S h=>h,λS S h=>(by cases h),λS=>rfl,a4⟩⟩
end
end
section
open PySem.W
section
variable{prog:qK}{w:sO}{A:mx}{E:gx->lb->Prop}{s:lb}
theorem K9{k l:ls}{a:Array gx}(m:l≠k):∀(n i:Nat) (s:lb) (Q:List gx->lb->Prop),s.heap.IsListIter k l i->s.heap.IsList l a->i+n<=a.size->
  (∀x,x.IsListIter k l (i+n)->uG k s.heap x->Q ((a.toList.drop i).take n) {s with heap:=x})->qH (qQ prog w) A (draw (.ref k) n) Q E s
 |0,i,s,Q,g,_,_,y=>by
  exact mM (by simpa using y s.heap g (ADd ..))
 |n+1,i,s,Q,g,z,p,y=>by
  have q:i<a.size:=nR (z6 (tG n)) p;refine fX (wpAny_pyNext_list_item g z (x:=a[i]) (by simp[q]) λB e b=>?_);refine fX (tU (K9 m n (i+1) _ _ e (A2 z λo C r=>⟨o,b.extBut l o m C,r⟩) (by rw[vV];exact p) λu f h=>mM ?_));have hd:a.toList.drop i=a[i]::a.toList.drop (i+1):=by simp[w3,q]
  have:=y u (by simp only[show i+(n+1)=i+1+n from vV i n 1];exact f) (b.trans h);simp only[hd,List.take_succ_cons]at this;exact this
theorem Mv{l:ls}{a:Array gx}{f:List (Bool×(gx->xL Unit))}{Q:Unit->lb->Prop}(H:A.handled=eu)(B:s.heap.IsList l a)
  (I:f.length=a.size) (k:f.findIdx? (·.1)=eu)
  (h:∀C,sm s.heap.objs.size s.heap C->qH (qQ prog w) A (xf (f.map (·.2)) a.toList) Q E {s with heap:=C}):
  qH (qQ prog w) A (unpack (.ref l) f) Q E s:=by
 have q:l≠s.heap.objs.size:=by obtain⟨o,u,_⟩:=B;exact sU (rR u)
 have D:∀o,(s.heap.push o).IsList l a:=λJ=>A2 B λo u r=>⟨o,lh J u,r⟩
 unfold unpack;rw[I,k];refine fX (tU ?_);unfold unpackItems;refine fX ?_;unfold notIterableAtAll;refine fX (wpAny_specialOf B.typeIs PySem.F.slot_list_iter.lookup ?_);refine mM ?_;simp only[ui,if_false];refine fX (tU (ACi B ?_));refine fX (tU (K9 q a.size 0 _ _ ⟨_,mA _ rfl,rfl,rfl⟩ (D _) (by lia) λx i g=>?_));have y:List.take a.size (ADq 0 a.toList)=a.toList:=by exact(congrArg _ sY).trans (xT (by simp))
 rw[y];rw[if_neg (by simp)];have m:x.IsList l a:=A2 (D _) λo u r=>⟨o,g.extBut l o q u,r⟩
 refine fX (tU (wpAny_pyNext_list_end H i m (by simp) λz p=>?_));simp only[Option.isSome_none,ui,if_false];exact mM (h z λb o G e=>p b o G (g.extBut b o G (lh _ e)))
end
section
variable{Z:Bs}{n:Nat}{A:mx}{j:o5}{env:t8}{v:ls->Prop}{s t:lb}{d c:Ev}{cl:Cl}
theorem Qk:∀{f:List Nat} {e:List f0},EK j f e=er->(vo e env).length=f.length/\(vo e env).findIdx? (·.1)=eu:=by
 intro f;induction f with
 |nil=>intro e h;cases HL h;exact⟨rfl,rfl⟩
 |cons i f k=>intro e h;obtain⟨m,p,e,rfl,l,g⟩:=G6 h;obtain⟨a,b⟩:=k g;refine⟨congrArg (·+1) a,?_⟩;show List.findIdx? (·.1) ((fG,uT (.Name m p) env)::vo e env)=eu;rw[ABH,b];rfl
theorem Ee:∀{is:List Nat} {xs:List V} {d c:Ev},putAll is xs d=dD c->is.length=xs.length
 |[],[],_,_,_=>rfl
 |i::is,x::xs,_,_,h=>congrArg (·+1) (Ee (is:=is) (xs:=xs) h)
 |[],_::_,_,_,h=>by exact nS h
 |_::_,[],_,_,h=>by exact nS h
theorem VI(O:Z.Ok)(W:Wd Z)(U:B2 Z W cl n)(Y:Av Z W n){l:List Nat}{x:X}{y:List f0}{k:Nat}{q p H:tE}{I:f0}{J:List rc}{i:o5}(L:EK j l y=er)(h2:AH j x (.ListComp I J i H)=er)
  {z:List V} (hv:ev cl x d=dD (.l z)) (M:putAll l z d=dD c) (F:Fr Z n A j env v [] s d []):
  WP Z A (yL (.Assign [.Tuple y k q] (.ListComp I J i H) p) env) (Post Z n A j env v [] fG s (.nx c [])) s:=by
 refine ABZ (A1 ((AF O W U Y x j _ h2).1 env _ s d _ hv F.frz) (λu t B=>?_)) rfl rfl;obtain⟨B,N⟩:=B;refine VR.kLst B λ_ _ _ a e r=>?_;rename_i a us m;obtain⟨l1,l2⟩:=Qk (env:=env) L;rw[assign_Tuple];refine fX (rj (Mv F.a.1 ⟨_,e,rfl,m,rfl⟩ ?_ l2 λh' hx=>?_))
 ·rw[l1,Ee M,<-r.length];simp
 ·have C:Same Z t {t with heap:=h',toks:=t.toks}:=Same.of_keep O λb o e=>hx b o (Ar e) e;have D:=(F.turn N).turn C;refine A1 (NL O l y us.toList z d c _ L M (r.same C) D.f) (λ_ s3 g=>?_);refine BO g λQ G _=>?_;refine⟨((N.trans C).ch.trans G).mono (λb o _ f=>.inl f) λ_ _ q=>q,rfl,[],λ_ _ h=>h,λ_ _ h=>(by exact nomatch h),λ_=>rfl,⟨F.a,G.inv D.i,λa e=>G.hok D.k (λb f=>Q.fo_live f) a e,Q,F.nl,F.nc,λ_ _ e=>(by exact nomatch e),λ_ _ e=>(by exact nomatch e),λ_ _ e=>(by exact nS e),λ_ _ _ _ e=>(by exact nomatch e)⟩⟩
end
end
section
open PySem.W
noncomputable def Cs.pre:Cs->Cs
 |.nil=>.nil
 |.cons c r=>match c with
  |.ju=>.nil
  |c=>.cons c r.pre
noncomputable def Cs.post:Cs->Cs
 |.nil=>.nil
 |.cons c r=>match c with
  |.ju=>r
  |_=>r.post
noncomputable def Cs.len:Cs->Nat
 |.nil=>0
 |.cons _ r=>r.len+1
noncomputable def mZ(c:Cm):X:=by
 induction c using Cm.casesOn with
 |ag _ x=>exact x
 |_=>exact .c .none
noncomputable def T8:X:=by
 induction Zp using Cs.casesOn with
 |nil=>exact .c .none
 |cons c _=>exact mZ c
noncomputable def l9:Cs:=match Zp with
 |.cons _ r=>r
 |_=>.nil
noncomputable def Am:Cs:=l9.pre
noncomputable def GN:Cs:=l9.post
noncomputable def A0:List Nat:=[1,2,3,4,5]
noncomputable def QP(d:Cl)(c:Ev):Option Ev:=(EE d Qb c).bind λe=>QK e λa b=>(Io a).bind λa=>(Io b).bind λb=>match decide (b=0)with
 |true=>(c.get 38).bind λt=>dD (c.put 33 (.t [Cv,t]))
 |false=>(d 9 [.int a,.int b]).bind λv=>dD (c.put 33 v)
noncomputable def Yy(a:Cl)(e:V):Option V:=((ev a T8 [(0,e)]).bind LG).bind λf=>(putAll A0 f [(0,e)]).bind λb=>((AX a fG Am b []).bind M5).bind λc=>(QP a c).bind λd=>(AX a fG GN d []).bind QF
inductive ry:Prop
 |mk (es) (kq) (q1) (el) (cs) (sc') (pc) (q2) (r) (st) (post):CN 23=.Assign [.Tuple es kq q1] (.ListComp el cs sc' pc) q2::r->r.drop Am.len=st::post->Pq (Aq 23) st->EK (Aq 23) A0 es=er->AH (Aq 23) T8 (.ListComp el cs sc' pc)=er->C1 (Aq 23) Am (r.take Am.len)=er->C1 (Aq 23) GN post=er->ry
theorem e8:ry:=
 ⟨_,_,_,_,_,_,_,_,_,_,_,rfl,rfl,⟨_,_,_,_,_,_,_,_,_,_,_,_,_,_,_,_,_,_,_,_,_,rfl,by nofun,by nofun,by nofun,by nofun,by nofun,by nofun,by nofun,by nofun⟩,by nofun,by nofun,by nofun,by nofun⟩
theorem Rx{Z:Bs}(O:Z.Ok)(W:Wd Z)(I:HV Z)(hW:W.fnA=I.fnA){n:Nat}{J:Cl}(y:B2 Z W J n)(z:Av Z W n)(hz:Z.mg "ZeroDivisionError" =eu/\Z.mb "ZeroDivisionError" =dD (.type XZ))(hn:0<n){sv v:V}(u:Yy J sv=dD v)
  {A:mx} {ok:ls->Prop} {s:lb} {us:List gx} (ha:OkA (n+1) A) (i:Inv Z s) (k:∀a,s.heap.get? a=eu->ok a) (hv:VRs Z.prog Z.w ok s.heap us [sv]) (L:A.frames=dD []):
  WP Z A (t9 (.ref (W.fnA 23)) us) (Gv Z ok s v) s:=by
 rw[hW];refine Fj (n:=n) O (I.fn 23 _ _ _ _ (Cb (k:=23) rfl)).2 kD (by exact dv) ha i k hv λenv B tk o cd ho a2 M N a3 C h S1 a1 Q F0=>?_;refine pF (E:=li) ?_ (λX X q=>q) λX X=>False.elim;obtain⟨es,kq,q1,el,cs,a4,pc,q2,r,st,p,hb,hd,k4,k1,k2,k3,k5⟩:=e8;have U:r=r.take Am.len++(st::p):=by rw[<-hd,List.take_append_drop]
 refine EY u λxs Y u=>EY u λa5 e2 u=>EY u λa0 e3 u=>EY u λD d e5=>?_;replace Y:=bO F9 Y;replace e3:=bO (g:=λρ=>.nx ρ []) Ln e3;replace e5:=bO XG e5;have E:=AAB (env:=env) L;have G:∀{s':lb},Ch Z (Fp (Aq 23) env []) (λX=>False) {s with heap:=B,toks:=tk} s'->Same Z s s':=λ{s'} c=>((S1.ch.trans c)).same (λb o e f=>by
  rcases f with(f|⟨m,_,f⟩)|⟨j,hj⟩
  ·rw[f,C]at e;exact nS e
  ·rw[h m b f]at e;exact nS e
  ·cases hj) λX X f=>f
 rw[hb];refine pz (A1 (VI O W y z k1 k2 Y e2 F0) (λf s2 g=>?_));obtain⟨c2,rfl,W2,_,_,_,F2⟩:=g;have:=F2.noW;subst this;rw[U];refine GO (C7 O W y z Am) k3 e3 F2 λf s3 c3 g=>?_;obtain⟨rfl,g⟩:=g;have F3:=g rfl;have tr:WP Z (A.deeper env) (yL st env) (Post Z n (A.deeper env) (Aq 23) env (λb=>ok b/\b≠env.locals/\∀m,env.cells.lookup m≠dD b) [] fG s3 (.nx D [])) s3:=by
  refine EY d λvs x d=>Ui d λa b q d=>EY d λa ea d=>EY d λb eb d=>?_;simp only[q,Cu ea,Cu eb]at x;by_cases l:b=0
  ·(replace l:=l.symm;subst l)
   exact EY d λt ht d=>dE d▸Xs O W I hW y z hz k4 x ht hn F3 E Q
  ·rw[decide_eq_false l]at d;refine EY d λw hw d=>dE d▸Sf O W y z k4 ?_ F3 ⟨_,rfl⟩;have H:EE J (.cons (.b .Add (.v 38) (.v 39)) (.cons (.b .Pow (.b .Add (.c (.int 1)) (.v 34)) (.c (.int 3))) .nil)) a0=dD [.int a,.int b]:=x;unfold We;simp only[Ht,GG,RV,Dz,H,hw,T.names,Dk,Bz,DN,BM]
 refine pz (A1 tr (λf s4 g=>?_))
 (refine CB λX kk=>?_;(obtain⟨c4,qz,W4,_,_,_,F4⟩:=g<;>try subst qz)<;>refine kk ?_)
 have:=F4.noW;subst this;refine A1 (C7 O W y z GN (Aq 23) p k5 fG env _ [] s4 D [] _ e5 F4) (λf s5 g=>?_);obtain⟨c5,u',rfl,hu⟩:=g;refine⟨?_,G ((((c2.trans c3).trans c4).trans c5))⟩;exact hu.mono (λX X X e X=>e) λX X q X=>q.1
end
section
open PySem.W
theorem JX{h:qX}{c P:ls}{C:Prop}(x:yv h c P)(k:∀o f,h.get? c=dD o->o.cls=.type "code" ->o.data=.fields f->(∀g:qX,g.get? c=dD o->yv g c P)->c≠P->C):C:=by obtain⟨o,f,b,q,a,s,i,d,t,v,l,n,r⟩:=x;exact k o f v l n (λg e=>⟨o,f,b,q,a,s,i,d,t,e,l,n,r⟩) r.2.2.2.2.2.2
theorem Mw{h f:qX}{c P:ls}{a:tE}{q:pw}(T:D6 h c P a q)(g:∀o,h.get? P=dD o->AB o=er->f.get? P=dD o)(i:∀b o,h.get? b=dD o->o.cls=.type "code" ->(∃e,o.data=.fields e)->f.get? b=dD o):D6 f c P a q:=
 ⟨JX T.1 λo e k l n r z=>r f (i _ _ k l ⟨e,n⟩),T.2.imp (λd=>g _ d rfl) λd=>d.imp λs d=>d.imp λv d=>d.imp λe d=>d.imp λt d=>⟨g _ d.1 rfl,i _ _ d.2.1 d.2.2.1 ⟨e,d.2.2.2.1⟩,d.2.2⟩⟩
theorem Ib{o:xE}(h:AB o=er):CE o:=by
 obtain⟨c,n,d,e⟩:=o;have⟨a,b⟩:=(pl _ _).mp h;induction d using ABF with
 |fields f=>induction c using AAf with
  |none=>exact⟨.inl rfl,_,rfl⟩
  |_=>exact fT b
 |_=>exact fT a
theorem J4{h f:qX}{c P:ls}{a:tE}{q:pw}(T:D6 h c P a q)(g:∀b o,h.get? b=dD o->CE o->f.get? b=dD o):D6 f c P a q:=
 Mw T (λo e t=>g _ _ e (Ib t)) λb o e c d=>d.elim λi d=>g b o e ⟨.inr c,i,d⟩
theorem Hb{h i:qX}{c P d:ls}{a:tE}{q:pw}(T:D6 h c P a q)(f:P≠d)(k:sm d h i)(g:∃o,h.get? d=dD o/\AB o=er):D6 i c P a q:=
 A2 g λs l n=>Mw T (λo e z=>k _ o f e) λb o e r z=>k b o (λq=>fT ((A9 r).symm.trans ((dE ((q▸e).symm.trans l)).symm▸n))) e
noncomputable def XT(prog:qK)(w:sO)(j:lb)(mg mb:pw->Option gx)(c6 P6 c7 P7:ls):Bs:=
 {prog,w,B:=j,mg,mb,TI:=λh=>D6 h c6 P6 (Hv 6) (CF 6)/\D6 h c7 P7 (Hv 7) (CF 7)/\∀b o,j.heap.get? b=dD o->AB o=er->b≠P6->b≠P7->h.get? b=dD o}
section
variable{prog:qK}{w:sO}{j:lb}{mg mb:pw->Option gx}{c6 P6 c7 P7:ls}{p:qK}{m:List pw}{u:z7->Option gx}
theorem ri(T:Top p m u mg mb j.heap):(XT prog w j mg mb c6 P6 c7 P7).Ok where
 ti:=λh i t a=>⟨J4 t.1 a,J4 t.2.1 a,λb o e c d f=>a b o (t.2.2 b o e c d f) (Ib c)⟩
 g:=T.g
 b:=T.b
 nolimit:=T.nolimit
theorem JZ{h b:qX}{c P e:ls}{a:tE}{q:pw}{d:xE}{f:Array gx}{t:yE}(T:D6 h c P a q)(g:sm P h b)(i:b.get? P=dD (vt #[uC a.line,uC a.col,.ref e]))(k:b.get? e=dD d)(l:d.cls=.type "code")(n:d.data=.fields f)(r:f[1]?=dD (.str q t)):D6 b c P a q:=
 ⟨JX T.1 λo s v z z x y=>x b (g _ _ y v),.inr ⟨e,d,f,t,i,k,l,n,r⟩⟩
theorem aA(T:Top p m u mg mb j.heap){P:ls}(f:j.heap.get? P=dD (vt #[])):j.heap.BuiltinsAt mg P:=by
 refine fY T.bmain λg h i k a c l b=>?_;refine⟨g,h,i,k,λq=>?_,λq=>?_,a,c,l,b⟩
 ·obtain⟨o,n,r,e,d,_⟩:=T.g;rw[q,e]at a;(replace a:=dE a;subst a);rw[d]at b;cases b
 ·rw[q,f]at a;(replace a:=dE a;subst a);cases c
theorem oj(T:Top p m u mg mb j.heap){a:ls}(c:P6≠P7)(l:sf≠P6)(n:∀o i,j.heap.get? a=dD o->o.data=.func i->i.code=.ref c6)(q:j.heap.get? P6=dD (vt #[])):Gm (XT prog w j mg mb c6 P6 c7 P7) a c6 P6 (Hv 6) (CF 6) where
 code:=n
 ti:=λh t=>t.1
 up:=λh B C D E t d r f g s v x y=>⟨JZ d.1 f g s v x y,Hb d.2.1 c.symm f r,λb o e z k A=>f b o k (d.2.2 b o e z k A)⟩
 gP:=l
 bm:=aA T q
theorem pD(T:Top p m u mg mb j.heap){a:ls}(c:P6≠P7)(l:sf≠P7)(n:∀o i,j.heap.get? a=dD o->o.data=.func i->i.code=.ref c7)(q:j.heap.get? P7=dD (vt #[])):Gm (XT prog w j mg mb c6 P6 c7 P7) a c7 P7 (Hv 7) (CF 7) where
 code:=n
 ti:=λh t=>t.2.1
 up:=λh B C D E t d r f g s v x y=>⟨Hb d.1 c f r,JZ d.2.1 f g s v x y,λb o e z A k=>f b o k (d.2.2 b o e z A k)⟩
 gP:=l
 bm:=aA T q
theorem QD(a:j.gens= #[])(c:D6 j.heap c6 P6 (Hv 6) (CF 6))(d:D6 j.heap c7 P7 (Hv 7) (CF 7)):Inv (XT prog w j mg mb c6 P6 c7 P7) j:=
 ⟨λz z e z=>e,λb o e=>⟨o,e⟩,.of_eq a,rfl,c,d,λz z e z z z=>e⟩
theorem KS{h b:qX}{c P:ls}{a:tE}{q:pw}(e:yv h c P)(f:h.get? P=dD (vt #[]))(T:D6 b c P a q):asItWas h b P (vt #[]):=by
 rcases T.2 with d|⟨k,l,g,t,i,_⟩
 ·exact .inl d
 ·exact .inr (.inl ⟨((e.tab f).isCodeTable),rfl,#[],_,rfl,by rw[Array.empty_append];exact i⟩)
theorem Uw{h:lb}(q:yv j.heap c6 P6)(r:yv j.heap c7 P7)(k:j.heap.get? P6=dD (vt #[]))(l:j.heap.get? P7=dD (vt #[]))(i:Inv (XT prog w j mg mb c6 P6 c7 P7) h)
  {f:ClaimW} {s:pw->Option ls} {mn:z7->Option gx} {a:List w6} (t:∀g,f.raises a g=fG) (v:f.post a (.bool er) a=er):GoodWG f s mn a j (.ok (.ret (.bool er))) h:=by
 refine⟨.inl ⟨.bool er,.bool er,[],rfl,t,.bool _,v,λz=>⟨List.nodup_nil,by simp⟩⟩,⟨λb o e=>?_,i.there⟩,i.os,i.bare⟩;cases n:AB o with
 |false=>exact .inl (i.keep b o e n)
 |true=>
  refine BO i.ti λt6 x y=>?_;by_cases c:b=P6
  ·(replace c:=c.symm;subst c)
   rw[k]at e;(replace e:=dE e;refine e▸?_);exact KS q k t6
  ·by_cases d:b=P7
   ·(replace d:=d.symm;subst d)
    rw[l]at e;refine dE e▸?_;exact KS r l x
   ·exact .inl (y b o e n c d)
end
noncomputable def KC:List V->Option (List Int)
 |[]=>dD []
 |v::r=>(Io v).bind λi=>(KC r).bind λl=>dD (i::l)
theorem Sn{a:List V}:∀{l:List Int},KC a=dD l->a=l.map V.int:=by
 induction a with
 |nil=>exact λh=>dE h▸rfl
 |cons v r b=>exact λh=>EY h λi e h=>EY h λl q h=>dE h▸Cu e▸b q▸rfl
theorem QR(l:List Int):KC (l.map V.int)=dD l:=by
 induction l with
 |nil=>rfl
 |cons i r a=>show(KC (r.map V.int)).bind _=_;rw[a];rfl
noncomputable def H6(b:List V):Option V:=QK b λa w=>(O2 a).bind λa=>(O2 w).bind λw=>match pq 0 w&&ph w 300&&pq a (2^4000)&&ph (Bf a w) 8&&(lf a 0==lf (Bf a w) 0)with
 |true=>dD (.l ((CU w (Bf a w) a).map V.int))
 |false=>eu
noncomputable def H7(b:List V):Option V:=QK b λa w=>(LG a).bind λa=>(O2 w).bind λw=>(KC a).bind λa=>match ph w 300&&ph a.length 8&&a.all (λd=>pq d.natAbs (2^1000))with
 |true=>dD (.int (CM w a))
 |false=>eu
noncomputable def HH:Nat->List V->Option V
 |6,a=>H6 a
 |7,a=>H7 a
 |20,a=>VG a
 |_,_=>eu
theorem VJ{Z:Bs}(O:Z.Ok)(W:Wd Z)(d:HV Z)(l:W.fnA=d.fnA)(o:∀n,Av Z W (n+1)){c6 P6 c7 P7:ls}(B:Gm Z (d.fnA 6) c6 P6 (Hv 6) (CF 6))(C:Gm Z (d.fnA 7) c7 P7 (Hv 7) (CF 7))(n:Nat):Ng Z W HH (n+8):=by
 intro f g x h A y s z r i k c;unfold HH at h;split at h
 ·revert c
  refine Np (P:=λg=>VRs Z.prog Z.w y s.heap z g->_) h λa w h=>EY h λa t h=>EY h λw v h=>?_;rw[FG t,FG v];refine bS h λb h=>dE h▸λc=>?_;simp only[pl,yM,ze,beq_iff_eq]at b;refine kx O W d l o B b.1.1.1.1 b.1.1.1.2 b.1.1.2 b.1.2 (λe=>?_) (λe=>?_) r i k c
  ·refine w0 λq=>?_;have:=b.2;rw[q]at this;exact um e (lk (this.trans rfl))
  ·(replace e:=e.symm;subst e)
   exact lk (b.2.symm.trans rfl)
 ·revert c
  refine Np (P:=λg=>VRs Z.prog Z.w y s.heap z g->_) h λD w h=>EY h λD t h=>EY h λw v h=>EY h λG E h=>?_;rw[F9 t,FG v,Sn E];refine bS h λb h=>dE h▸λc=>?_;simp only[pl,ze,mH,yM]at b;exact iI O W d l o C b.1.1 b.1.2 b.2 r i k c
 ·exact cO O W d l o h r i k c
 ·exact nS h
end
section
open PySem.W
def U1(P:yz)(h:qX)(v:gx)(d:w6):Prop:=match d with
 |.int i=>∃t,v=.int i t
 |.list c=>∃a b,v=.ref a/\h.get? a=dD {cls:=.type "list",data:=.seq b.toArray}/\ACt P h b c
 |_=>True
theorem MY{P:yz}{h:qX}{v:gx}{d:w6}(x:Well P h v d):U1 P h v d:=by
 induction x using Well.casesOn with
 |int i t=>exact⟨t,rfl⟩
 |list g r=>exact⟨_,_,rfl,g,r⟩
 |_=>trivial
def aB(P:yz)(h:qX)(b:List gx)(a:List w6):Prop:=match a with
 |[]=>b=[]
 |d::a=>∃v c,b=v::c/\Well P h v d/\ACt P h c a
theorem NK{P:yz}{h:qX}{b:List gx}{c:List w6}(x:ACt P h b c):aB P h b c:=by
 induction x using WellAll.casesOn with
 |nil=>rfl
 |cons a r=>exact⟨_,_,rfl,a,r⟩
theorem QX{d:qK}{w:sO}{f:ls->Prop}{P:yz}{h:qX}{b:List Int}:∀{c:List gx},ACt P h c (ofPys (b.map sV))->VRs d w f h c (b.map V.int):=by
 induction b with
 |nil=>exact λx=>(NK x:_=[])▸.nil
 |cons i b g=>exact λx=>BJ (NK x:aB P h _ (.int i::ofPys (b.map sV))) λv j e a r=>e▸(MY a:U1 P h v (.int i)).elim λt q=>q▸.cons (.int _ _) (g r)
theorem R3{f:qK}{w:sO}{d:ls->Prop}{P:yz}{h:qX}{v:gx}{b:List Int}(x:Well P h v (ofPy (ACc (b.map sV))))(c:∀a,d a):VR f w d h v (.l (b.map V.int)):=
 BJ (MY x:U1 P h v (.list (ofPys (b.map sV)))) λa i e g r=>e▸.l (c _) g (by simp only[AA4];exact QX r)
structure lL(p:qK)(loose:List pw)(mg:pw->Option gx)(h:qX)(c6 P6 c7 P7:ls):Prop where
 recs:((yu p).map λd=>(d.name,d.params,d.body,d.scope))=EU
 free:∀x∈("ZeroDivisionError" :pw)::Gc,x∉ABc/\x∉loose/\x∉(yu p).map (·.name)/\x∉(litsOf p).map (·.1)/\x∉(clssOf p loose).map (·.name)
 loosev:ABd [("ONE_THIRD",.float 4599676419421066581),("ONE_SIXTH",.float 4595172819793696085),("TWO_THIRD",.float 4604180019048437077)] mg h
 c:[("_DIV_LIMIT" :pw),"_MAX_STRING_SIZE","_MOVE_COST","_CASE_COST"].map (valOf p)=[dD (sV 4000),dD (sV 40),dD (sV 2),dD (sV 1)]
 h6:yv h c6 P6/\h.get? P6=dD (vt #[])
 h7:yv h c7 P7/\h.get? P7=dD (vt #[])
 hc6:∀a o fd,mg "_int2digits" =dD (.ref a)->h.get? a=dD o->o.data=.func fd->fd.code=.ref c6
 hc7:∀a o fd,mg "_digits2int" =dD (.ref a)->h.get? a=dD o->o.data=.func fd->fd.code=.ref c7
 ne:P6≠P7/\sf≠P6/\sf≠P7
theorem Qn:OkA 14 callerA:=by refine⟨rfl,?_,?_⟩<;>nofun
theorem XW{i:qK}{w:sO}{h:lb}{m t:pw->Option gx}{r y s z:ls}{p:qK}{l:List pw}{A:z7->Option gx}(T:Top p l A m t h.heap)(R:lL p l m h.heap r y s z)(B:h.gens= #[])
  {D:ls} (G:m "law" =dD (.ref D)) {u:gx} {P:yz} {Q:List Int} (hu:Well P h.heap u (ofPy (ACc (Q.map sV)))) (plain:Yy (AR HH 6) (.l (Q.map V.int))=dD (.bool er))
  {H:ClaimW} {cl:pw->Option ls} {mn:z7->Option gx} {j:List w6} {E:gx->lb->Prop} (hr:∀I,H.raises j I=fG) (hp:H.post j (.bool er) j=er):
  qH (qQ i w) callerA (t9 (.ref D) [u]) (λv U=>GoodWG H cl mn j h (.ok (.ret v)) U) E h:=by
 have O:(XT i w h m t r y s z).Ok:=ri T;obtain⟨q⟩:=XC (Z:=XT i w h m t r y s z) T R.recs;obtain⟨W,C⟩:=j0 (Z:=XT i w h m t r y s z) T q (λx hx=>R.free x (.tail _ hx)) R.loosev R.c;have J:∀k,pq k 24=er->m (D4 k)=dD (.ref (q.fnA k)):=λk hk=>(q.fn k _ _ _ _ (Cb hk)).1;have n6:D4 6="_int2digits" :=by nofun
 have n7:D4 7="_digits2int" :=by nofun
 have L:D4 23="law" :=by nofun
 have M:∀n,Av _ W (n+1):=λn=>dz O W q C n;have hz:m "ZeroDivisionError" =eu/\t "ZeroDivisionError" =dD (.type XZ):=by refine JG (R.free "ZeroDivisionError" (.head _)) λa b c d e=>?_;exact⟨T.free _ a b c d e,(T.builtins _ (by decide)).trans AAY.boot⟩
 have ef:D=W.fnA 23:=by have:=J 23 rfl;rw[L,G]at this;rw[C];injection this with this;injection this
 rw[ef];have i0:Inv (XT i w h m t r y s z) h:=QD B ⟨R.h6.1,.inl R.h6.2⟩ ⟨R.h7.1,.inl R.h7.2⟩;refine pF (Rx (ok:=λX=>True) O W q C (K1 (H:=HH) O W q C M (VJ O W q C M (oj (prog:=i) (w:=w) (c6:=r) (c7:=s) (P7:=z) T (a:=q.fnA 6) R.ne.1 R.ne.2.1 (λo N=>R.hc6 _ o N (n6▸J 6 rfl)) R.h6.2) (pD (prog:=i) (w:=w) (c6:=r) (c7:=s) (P6:=y) T (a:=q.fnA 7) R.ne.1 R.ne.2.2 (λo N=>R.hc7 _ o N (n7▸J 7 rfl)) R.h7.2)) 6) (M 12) hz (by decide) plain Qn i0 (λX X=>trivial) (.cons (R3 hu λX=>trivial) .nil) rfl) (λv U g=>?_) λX X f=>f.elim;obtain⟨Y,g2⟩:=g
 (refine VR.kBool Y ?_;clear Y)
 exact Uw R.h6.1 R.h7.1 R.h6.2 R.h7.2 (g2.inv i0) hr hp
end
noncomputable section
noncomputable def Hs{a:Type}(b:List a):Nat->Option a:=List.rec (λz=>eu) (λx z c k=>Nat.rec (dD x) (λn z=>c n) k) b
theorem Cx{b:Type}:∀(a:List b) (k:Nat),Hs a k=a[k]?
 |[],k=>rfl
 |x::r,0=>rfl
 |x::r,k+1=>by
  rw[vU,<-Cx r k];rfl
noncomputable def Zd(k:Nat):Bool:=pq k 4611686018427387904
noncomputable def OW(o i:V):Option V:=match i with
 |.int k=>match k with
  |.ofNat k=>match Zd k with
   |true=>match o with
    |.str s=>match Hs s k with
     |some c=>dD (.str [c])
     |none=>eu
    |.l s=>Hs s k
    |.t s=>Hs s k
    |_=>eu
   |false=>C0 o (.int (.ofNat k))
  |.negSucc k=>C0 o (.int (.negSucc k))
 |i=>C0 o i
theorem YW{a:Type}(s:List a)(k:Nat):(tY (.ofNat k) s.length).bind (s[·]?)=s[k]?:=by
 unfold tY;have b:¬(wn k<0):=by simp
 simp only[b,if_false];by_cases h:k<s.length
 ·have:(decide (0<=wn k)&&decide (wn k<(s.length:Int)))=er:=by
   simp;exact h
  simp only[pl,decide_eq_true_eq]at this;rw[if_pos (by simpa using h)];rfl
 ·rw[if_neg (by simpa using h)];rw[List.getElem?_eq_none (by lia)];rfl
set_option tactic.hygienic true in
theorem FD(o i:V):OW o i=C0 o i:=by
 unfold OW;split
 case h_2=>rfl
 rename_i k;split
 case h_2=>rfl
 rename_i k;split
 case h_2=>rfl
 rename_i h;have a:VM (.ofNat k)=er:=h;cases o<;>simp only[C0,a,if_true,YW,Cx]<;>rfl
structure QL where
 l:Ev->Option (List V)
 a:Ev->Option V
 r:Ev->Option V
structure QO where
 p:Ev->Option (Option Int)
 t:Ev->Option Bool
noncomputable abbrev Qx:=Ev->Option V
noncomputable abbrev Qi:=Ev->Option (List V)
noncomputable abbrev Qg:=Ev->(Ev->Option (List V))->Option (List V)
noncomputable def TW(o:qp)(_ _:X)(l r:Qx):Qx:=λa=>Aj (AD o) (l a) (r a)
noncomputable def Vp(_:X)(x:Qx):Qx:=λa=>match x a with
 |some v=>N8 v
 |none=>eu
noncomputable def UZ(_:X)(x:Qx):Qx:=λa=>match x a with
 |some v=>Tc v
 |none=>eu
noncomputable def Uz(_:X)(x:Qx):Qx:=λa=>match tr (x a)with
 |some b=>dD (.bool (!b))
 |none=>eu
noncomputable def Rp(_:X)(o:xG)(_:X)(l r:Qx):Qx:=λc=>match l c,r c with
 |some a,dD b=>Ao (Cd o a b)
 |_,_=>eu
noncomputable def UP(_ _ _:X)(t b e:Qx):Qx:=λa=>match tr (t a)with
 |some er=>b a
 |some fG=>e a
 |none=>eu
noncomputable def SF(_ _:X)(o i:Qx):Qx:=λa=>Aj OW (o a) (i a)
noncomputable def Tv(_:X)(_ _ _:XO)(o:Qx)(l u s:QO):Qx:=λa=>Lm (o a) (l.p a) (u.p a) (s.p a)
noncomputable def MF(cl:Cl)(f:Nat)(_:XL)(a:QL):Qx:=λb=>match a.l b with
 |some c=>cl f c
 |none=>eu
noncomputable def iq(f:BI)(_:XL)(a:QL):Qx:=λb=>match a.l b with
 |some c=>Ju f c
 |none=>eu
noncomputable def NO(_:XL)(a:QL):Qx:=λb=>match a.l b with
 |some c=>match JW c with
  |some d=>dD (.l d)
  |none=>eu
 |none=>eu
noncomputable def NX(_:X)(m:MI)(_:XL)(o:Qx)(b:QL):Qx:=λa=>match o a,b.l a with
 |some v,dD c=>Qt m v c
 |_,_=>eu
noncomputable def Mb(_:X)(t:T)(_:It)(_:XO)(_:GL)(f:List (Nat×Nat))(b:Qx)(g:Qi)(c:QO)(h:Qg):Qx:=λe=>match g e with
 |some i=>EV (Ai t (Bu e f) (λa=>BD (c.t a) (h a λd=>one (b d))) i)
 |none=>eu
noncomputable def qL(_:X)(r:XL)(x:Qx)(q:QL):QL where
 l:=λb=>match x b,q.l b with
  |some v,dD c=>dD (v::c)
  |_,_=>eu
 a:=match r with
  |.nil=>x
  |.cons _ _=>λb=>match x b with
   |some v=>match AI v with
    |some er=>q.a b
    |some fG=>dD v
    |none=>eu
   |none=>eu
 r:=match r with
  |.nil=>x
  |.cons _ _=>λb=>match x b with
   |some v=>match AI v with
    |some er=>dD v
    |some fG=>q.r b
    |none=>eu
   |none=>eu
noncomputable def qO(_:X)(x:Qx):QO where
 p:=λa=>Fc (x a)
 t:=λa=>tr (x a)
noncomputable def qG(t:T)(_:It)(_:XO)(_:GL)(d:Qi)(b:QO)(r:Qg):Qg:=λc k=>match d c with
 |some e=>Ai t c (λa=>BD (b.t a) (r a k)) e
 |none=>eu
noncomputable def UJ(_:X)(x:Qx):Qi:=λa=>match Rk (x a)with
 |some b=>dD (Fl 0 b)
 |none=>eu
noncomputable def T4(_:XL)(a:QL):Qi:=λb=>match a.l b with
 |some c=>JW c
 |none=>eu
section
variable(cl:Cl)
noncomputable def Eb(x:X):Qx:=X.rec (motive_1:=λz=>Qx) (motive_2:=λz=>QL) (motive_3:=λz=>QO) (motive_4:=λz=>Qg) (motive_5:=λz=>Qi)
 (λv z=>dD v) (λi a=>a.get i) (λk z=>RT k) TW Vp UZ Uz (λz b=>b.a) (λz b=>b.r) Rp UP SF Tv (MF cl) iq NO NX
 (λz b a=>EV (b.l a)) (λz b a=>Hw (b.l a)) Mb
 ⟨λz=>dD [],λz=>eu,λz=>eu⟩ qL ⟨λz=>dD eu,λz=>dD er⟩ qO (λa k=>k a) qG
 (λz x a=>Z5 (x a)) UJ (λz z x y a=>Mn (x a) (y a)) T4 (λz x a=>Ly (x a)) (λz x a=>Mg (x a)) x
noncomputable def M3(x:It):Qi:=It.rec (motive_1:=λz=>Qx) (motive_2:=λz=>QL) (motive_3:=λz=>QO) (motive_4:=λz=>Qg) (motive_5:=λz=>Qi)
 (λv z=>dD v) (λi a=>a.get i) (λk z=>RT k) TW Vp UZ Uz (λz b=>b.a) (λz b=>b.r) Rp UP SF Tv (MF cl) iq NO NX
 (λz b a=>EV (b.l a)) (λz b a=>Hw (b.l a)) Mb
 ⟨λz=>dD [],λz=>eu,λz=>eu⟩ qL ⟨λz=>dD eu,λz=>dD er⟩ qO (λa k=>k a) qG
 (λz x a=>Z5 (x a)) UJ (λz z x y a=>Mn (x a) (y a)) T4 (λz x a=>Ly (x a)) (λz x a=>Mg (x a)) x
noncomputable def ct(x:XL):QL:=XL.rec (motive_1:=λz=>Qx) (motive_2:=λz=>QL) (motive_3:=λz=>QO) (motive_4:=λz=>Qg) (motive_5:=λz=>Qi)
 (λv z=>dD v) (λi a=>a.get i) (λk z=>RT k) TW Vp UZ Uz (λz b=>b.a) (λz b=>b.r) Rp UP SF Tv (MF cl) iq NO NX
 (λz b a=>EV (b.l a)) (λz b a=>Hw (b.l a)) Mb
 ⟨λz=>dD [],λz=>eu,λz=>eu⟩ qL ⟨λz=>dD eu,λz=>dD er⟩ qO (λa k=>k a) qG
 (λz x a=>Z5 (x a)) UJ (λz z x y a=>Mn (x a) (y a)) T4 (λz x a=>Ly (x a)) (λz x a=>Mg (x a)) x
noncomputable def Qc(x:XO):QO:=XO.rec (motive_1:=λz=>Qx) (motive_2:=λz=>QL) (motive_3:=λz=>QO) (motive_4:=λz=>Qg) (motive_5:=λz=>Qi)
 (λv z=>dD v) (λi a=>a.get i) (λk z=>RT k) TW Vp UZ Uz (λz b=>b.a) (λz b=>b.r) Rp UP SF Tv (MF cl) iq NO NX
 (λz b a=>EV (b.l a)) (λz b a=>Hw (b.l a)) Mb
 ⟨λz=>dD [],λz=>eu,λz=>eu⟩ qL ⟨λz=>dD eu,λz=>dD er⟩ qO (λa k=>k a) qG
 (λz x a=>Z5 (x a)) UJ (λz z x y a=>Mn (x a) (y a)) T4 (λz x a=>Ly (x a)) (λz x a=>Mg (x a)) x
noncomputable def UL(x:GL):Qg:=GL.rec (motive_1:=λz=>Qx) (motive_2:=λz=>QL) (motive_3:=λz=>QO) (motive_4:=λz=>Qg) (motive_5:=λz=>Qi)
 (λv z=>dD v) (λi a=>a.get i) (λk z=>RT k) TW Vp UZ Uz (λz b=>b.a) (λz b=>b.r) Rp UP SF Tv (MF cl) iq NO NX
 (λz b a=>EV (b.l a)) (λz b a=>Hw (b.l a)) Mb
 ⟨λz=>dD [],λz=>eu,λz=>eu⟩ qL ⟨λz=>dD eu,λz=>dD er⟩ qO (λa k=>k a) qG
 (λz x a=>Z5 (x a)) UJ (λz z x y a=>Mn (x a) (y a)) T4 (λz x a=>Ly (x a)) (λz x a=>Mg (x a)) x
def EX(x:X):Prop:=∀a,Eb cl x a=ev cl x a
def EL(x:XL):Prop:=∀a,(ct cl x).l a=EE cl x a/\(ct cl x).a a=I9 cl x a/\(ct cl x).r a=IG cl x a
def EO(x:XO):Prop:=∀a,(Qc cl x).p a=PQ cl x a/\(Qc cl x).t a=Hk cl x a
def EG(x:GL):Prop:=∀a k,UL cl x a k=Jl cl x a k
def EI(x:It):Prop:=∀a,M3 cl x a=EW cl x a
theorem Vi{c:X}{t:T}{g:It}{d:XO}{f:GL}{i:List (Nat×Nat)}(j:EX cl c)(k:EI cl g)(l:EO cl d)(m:EG cl f):EX cl (.cm c t g d f i):=by
 intro h;show(match M3 cl g h with
  |some n=>EV (Ai t (Bu h i) (λa=>BD ((Qc cl d).t a) (UL cl f a λb=>one (Eb cl c b))) n)
  |none=>eu)=_
 simp only[LD,k h];have e:(λa=>BD ((Qc cl d).t a) (UL cl f a λb=>one (Eb cl c b)))=λa=>BD (Hk cl d a) (Jl cl f a λb=>one (ev cl c b)):=by funext a;rw[(l a).2,m];congr 1;congr 1;funext b;rw[j]
 rw[e]<;>rfl
theorem Ae(x:X):EX cl x:=
 X.rec (motive_1:=EX cl) (motive_2:=EL cl) (motive_3:=EO cl) (motive_4:=EG cl) (motive_5:=EI cl)
  (λv c=>by simp only[C6];rfl) (λi c=>by simp only[Af];rfl) (λk c=>by simp only[RS];rfl)
  (λo l r q j c=>by rw[Do,<-q,<-j];rfl)
  (λx d c=>by rw[WZ,<-d];rfl) (λx d c=>by rw[mD,<-d];rfl) (λx d c=>by rw[lm,<-d];rfl)
  (λz h c=>by rw[kL,<-(h c).2.1];rfl) (λz h c=>by rw[eK,<-(h c).2.2];rfl)
  (λl o r q j c=>by rw[DW,<-q,<-j];rfl) (λt b e B C D c=>by rw[Kr,<-B,<-C,<-D];rfl)
  (λo i n A c=>by
   rw[CC,<-n,<-A];show Aj OW (Eb cl o c) (Eb cl i c)=_;rw[show OW=C0 from funext λa=>funext λb=>FD a b])
  (λo l u s n q E G c=>by rw[Lc,<-n,<-(q c).1,<-(E c).1,<-(G c).1];rfl)
  (λf w h c=>by rw[Dz,<-(h c).1];rfl) (λf w h c=>by rw[FU,<-(h c).1];rfl) (λw h c=>by rw[WX,<-(h c).1];rfl)
  (λo m w n h c=>by rw[Gl,<-n,<-(h c).1];rfl) (λz h c=>by rw[NS,<-(h c).1];rfl) (λz h c=>by rw[ER,<-(h c).1];rfl)
  (λZ Z Z Z Z Z H I J L=>Vi cl H I J L)
  (λc=>by simp only[Bt,lw,lj];exact⟨rfl,rfl,rfl⟩)
  (λx r d j c=>by
   refine⟨?_,?_,?_⟩
   ·rw[Bj,<-d,<-(j c).1];rfl
   ·induction r using XL.casesOn with
    |nil=>rw[sD,<-d];rfl
    |cons y r=>rw[pS,<-d,<-(j c).2.1];rfl
   ·induction r using XL.casesOn with
    |nil=>rw[WN,<-d];rfl
    |cons y r=>rw[np,<-d,<-(j c).2.2];rfl)
  (λc=>by simp only[Zr,Yi];exact⟨rfl,rfl⟩) (λx d c=>by rw[Xc,pM,<-d];exact⟨rfl,rfl⟩)
  (λc k=>by simp only[et]<;>rfl)
  (λt M p r A n j c k=>by
   rw[sK,<-A];show(match M3 cl M c with
    |some N=>Ai t c (λg=>BD ((Qc cl p).t g) (UL cl r g k)) N
    |none=>eu)=_
   have e:(λg=>BD ((Qc cl p).t g) (UL cl r g k))=λg=>BD (Hk cl p g) (Jl cl r g k):=by funext g;rw[(n g).2,j]
   rw[e]<;>rfl)
  (λx d c=>by rw[Zu,<-d];rfl) (λx d c=>by rw[cW,<-d];rfl) (λx y d O c=>by rw[mL,<-d,<-O];rfl)
  (λw h c=>by rw[WL,<-(h c).1];rfl) (λx d c=>by rw[ji,<-d];rfl) (λx d c=>by rw[mR,<-d];rfl) x
end
end
noncomputable section
noncomputable abbrev Qs:=Bool->Ev->Ev->Option Rs
section
variable(cl:Cl)
noncomputable def ku(t:T)(x:X):Qs:=λz b c=>match Ag c t.names with
 |true=>match Eb cl x b with
  |some v=>match BM t v b with
   |some a=>dD (.nx a c)
   |none=>eu
  |none=>eu
 |false=>eu
noncomputable def lD(i:Nat)(x:X):Qs:=λz b a=>match AN (a.get i)with
 |true=>match Eb cl x (a++b)with
  |some v=>match By v with
   |true=>dD (.nx (b.put i v) a)
   |false=>eu
  |none=>eu
 |false=>eu
noncomputable def lK(i j:Nat)(x:X):Qs:=λz b a=>match AN (a.get i)&&AN (a.get j)with
 |true=>match Eb cl x b with
  |some v=>dD (.nx ((b.put i v).put j v) a)
  |none=>eu
 |false=>eu
noncomputable def jm(i j:Nat)(x y:X):Qs:=λz a b=>match AN (b.get i)&&AN (b.get j)&&!lf i j with
 |true=>match Eb cl x a,Eb cl y a with
  |some v,dD u=>dD (.nx ((a.put i v).put j u) b)
  |_,_=>eu
 |false=>eu
noncomputable def fO(i:Nat)(o:qp)(x:X):Qs:=λz c d=>match AN (d.get i)with
 |true=>match c.get i,Eb cl x c with
  |some a,dD b=>match W5 o a b with
   |some v=>dD (.nx (c.put i v) d)
   |none=>eu
  |_,_=>eu
 |false=>eu
noncomputable def ky(i:Nat)(x:X):Qs:=λd a b=>match !d&&AN (b.get i)&&AN (a.get i)with
 |true=>match Eb cl x (Dj a)with
  |some (.l c)=>match CP c with
   |true=>dD (.nx a (b.put i (.l c)))
   |false=>eu
  |_=>eu
 |false=>eu
noncomputable def jZ(i:Nat)(x y:X):Qs:=λc a b=>match !c&&AN (b.get i)&&AN (a.get i)with
 |true=>match Eb cl x a,Eb cl y a with
  |some (.str k),dD v=>match By v with
   |true=>dD (.nx a (b.put i (.d [k] [v])))
   |false=>eu
  |_,_=>eu
 |false=>eu
noncomputable def jp(i j:Nat):Qs:=λc a b=>match !c&&AN (b.get i)&&AN (a.get i)&&AN (b.get j)&&AN (a.get j)&&!lf i j with
 |true=>dD (.nx a ((b.put i (.d [] [])).put j (.d [] [])))
 |false=>eu
noncomputable def gk(i:Nat)(x:X):Qs:=λz a b=>match b.get i,Eb cl x a with
 |some (.l c),dD v=>match A5 c with
  |true=>dD (.nx a (b.put i (.l (c++ [v]))))
  |false=>eu
 |_,_=>eu
noncomputable def kJ(i:Nat):Qs:=λz c a=>match a.get i with
 |some (.l b)=>match A5 b with
  |true=>dD (.nx c (a.put i (.l b.reverse)))
  |false=>eu
 |_=>eu
noncomputable def fc(i:Nat)(k x:X):Qs:=λz a c=>match Eb cl x (c++a),Eb cl k a with
 |some v,dD u=>match By v with
  |true=>match He c i u v with
   |some b=>dD (.nx a b)
   |none=>eu
  |false=>eu
 |_,_=>eu
noncomputable def jH(x:X):Qs:=λz a b=>match Eb cl x (b++a)with
 |some v=>dD (.ret v)
 |none=>eu
noncomputable def i9(x:X)(_ _:Cs)(a b:Qs):Qs:=λe c d=>match tr (Eb cl x (d++c))with
 |some er=>a e c d
 |some fG=>b e c d
 |none=>eu
noncomputable def kn(t:T)(e:It)(_:Cs)(b:Qs):Qs:=λz d f=>match M3 cl e d with
 |some g=>As t (λa c=>b er a c) g d f
 |none=>eu
noncomputable def kN(t:T)(x:X)(_:Cs)(b:Qs):Qs:=λz d e=>match Eb cl x (e++d)with
 |some (.l f)=>match CP f with
  |true=>As t (λa c=>b er a c) f d e
  |false=>eu
 |_=>eu
noncomputable def jK(n:Nat)(x:X)(_:Cs)(b:Qs):Qs:=λz d e=>Cr (λa=>tr (Eb cl x a)) (λa c=>b er a c) n d e
noncomputable def Za(_:Cm)(_:Cs)(c r:Qs):Qs:=λd e f=>match c d e f with
 |some (.nx a b)=>r d a b
 |some (.ret v)=>dD (.ret v)
 |none=>eu
noncomputable def FX(b:Cs):Qs:=Cs.rec (motive_1:=λz=>Qs) (motive_2:=λz=>Qs) (ku cl) (lD cl) (lK cl) (jm cl) (fO cl) (ky cl) (jZ cl) jp (gk cl) kJ (fc cl) (jH cl) (i9 cl) (kn cl) (kN cl) (jK cl) (λz z z=>eu)
 (λz a c=>dD (.nx a c)) Za b
noncomputable def bC(b:Cm):Qs:=Cm.rec (motive_1:=λz=>Qs) (motive_2:=λz=>Qs) (ku cl) (lD cl) (lK cl) (jm cl) (fO cl) (ky cl) (jZ cl) jp (gk cl) kJ (fc cl) (jH cl) (i9 cl) (kn cl) (kN cl) (jK cl) (λz z z=>eu)
 (λz a c=>dD (.nx a c)) Za b
theorem Kt(x:It)(a:Ev):M3 cl x a=EW cl x a:=by
 have L:∀c:XL,EL cl c:=λc=>XL.rec (motive_1:=EX cl) (motive_2:=EL cl) (motive_3:=λz=>True) (motive_4:=λz=>True) (motive_5:=λz=>True)
  (λz=>Ae cl _) (λz=>Ae cl _) (λz=>Ae cl _) (λz z z z z=>Ae cl _) (λz z=>Ae cl _) (λz z=>Ae cl _) (λz z=>Ae cl _) (λz z=>Ae cl _) (λz z=>Ae cl _)
  (λz z z z z=>Ae cl _) (λz z z z z z=>Ae cl _) (λz z z z=>Ae cl _) (λz z z z z z z z=>Ae cl _) (λz z z=>Ae cl _) (λz z z=>Ae cl _) (λz z=>Ae cl _) (λz z z z z=>Ae cl _) (λz z=>Ae cl _) (λz z=>Ae cl _) (λz z z z z z z z z z=>Ae cl _)
  (λa=>by simp only[Bt,lw,lj];exact⟨rfl,rfl,rfl⟩)
  (λx r b d a=>by
   refine⟨?_,?_,?_⟩
   ·rw[Bj,<-b,<-(d a).1];rfl
   ·cases r with
    |nil=>rw[sD,<-b];rfl
    |cons y r=>rw[pS,<-b,<-(d a).2.1];rfl
   ·cases r with
    |nil=>rw[WN,<-b];rfl
    |cons y r=>rw[np,<-b,<-(d a).2.2];rfl)
  trivial (λz z=>trivial) trivial (λz z z z z z z=>trivial) (λz z=>trivial) (λz z=>trivial) (λz z z z=>trivial) (λz z=>trivial) (λz z=>trivial) (λz z=>trivial) c
 cases x
 ·rw[Zu,<-Ae cl];rfl
 ·rw[cW,<-Ae cl];rfl
 ·rw[mL,<-Ae cl,<-Ae cl];rfl
 ·rw[WL,<-(L _ a).1];rfl
 ·rw[ji,<-Ae cl];rfl
 ·rw[mR,<-Ae cl];rfl
theorem CQ(x:X):Eb cl x=ev cl x:=funext λa=>Ae cl x a
def ES(c:Cm):Prop:=∀a b d,bC cl c a b d=BK cl a c b d
def EC(c:Cs):Prop:=∀a b d,FX cl c a b d=AX cl a c b d
theorem IB(b:Cs):EC cl b:=
 Cs.rec (motive_1:=ES cl) (motive_2:=EC cl)
  (λt x h f g=>by rw[RV,<-CQ];rfl) (λt x h f g=>by rw[oJ,<-CQ];rfl) (λi j x h f g=>by rw[qg,<-CQ];rfl) (λi j x y h f g=>by rw[lq,<-CQ,<-CQ];rfl)
  (λi o x h f g=>by rw[p8,<-CQ];rfl) (λi x h f g=>by rw[pE,<-CQ];rfl) (λi x y h f g=>by rw[rO,<-CQ,<-CQ];rfl) (λi j h f g=>by simp only[rQ];rfl)
  (λi x h f g=>by rw[pu,<-CQ];rfl) (λi h f g=>by simp only[l8];rfl) (λi k x h f g=>by rw[jX,<-CQ,<-CQ];rfl) (λx h f g=>by rw[Ef,<-CQ];rfl)
  (λx a b p l h f g=>by rw[DS,<-CQ,<-p,<-l];rfl)
  (λt s b l h f g=>by
   rw[VE,<-Kt];show(match M3 cl s f with
    |some m=>As t (λd e=>FX cl b er d e) m f g
    |none=>eu)=_
   rw[show(λd e=>FX cl b er d e)=λd e=>AX cl er b d e from funext λd=>funext λe=>l er d e]<;>rfl)
  (λt x b l h f g=>by
   rw[mX,<-CQ];show(match Eb cl x (g++f)with
    |some (.l m)=>match CP m with
     |true=>As t (λd e=>FX cl b er d e) m f g
     |false=>eu
    |_=>eu)=_
   rw[show(λd e=>FX cl b er d e)=λd e=>AX cl er b d e from funext λd=>funext λe=>l er d e]<;>rfl)
  (λn x b l h f g=>by
   rw[eM,<-CQ];show Cr (λd=>tr (Eb cl x d)) (λd e=>FX cl b er d e) n f g=_;rw[show(λd e=>FX cl b er d e)=λd e=>AX cl er b d e from funext λd=>funext λe=>l er d e])
  (λh f g=>by simp only[pd];rfl)
  (λh f g=>by simp only[Ht];rfl)
  (λc r u w h f g=>by
   rw[GG,<-u];show(match bC cl c h f g with
    |some (.nx d e)=>FX cl r h d e
    |some (.ret v)=>dD (.ret v)
    |none=>eu)=_
   cases bC cl c h f g with
   |none=>rfl
   |some q=>induction q using Rs.casesOn with
    |nx d e=>exact w h d e
    |ret v=>rfl) b
end
noncomputable def Dp(cl:Cl)(n:Nat)(b:Cs)(a:List V):Option V:=match lf a.length n with
 |true=>Es (FX cl b fG (Ah 0 a) [])
 |false=>eu
noncomputable def mu(H:Nat->List V->Option V)(cl:Cl):List (List V->Option V):=[H 0,Dp cl 1 B1,Dp cl 1 Bi,Dp cl 1 BE,Dp cl 3 CW,H 5,H 6,H 7,Dp cl 2 BS,Dp cl 2 At,
 Dp cl 3 EF,Dp cl 3 Dx,Dp cl 3 eW,Dp cl 3 E8,Dp cl 3 Dy,Dp cl 2 Al,Dp cl 3 AM,Dp cl 3 DO,Dp cl 3 EZ,Dp cl 2 DR,H 20,Dp cl 2 Dv,Dp cl 3 Em]
noncomputable def dX(H:Nat->List V->Option V)(cl:Cl):Cl:=λf a=>match Hs (mu H cl) f with
 |some g=>g a
 |none=>H f a
noncomputable def NY(H:Nat->List V->Option V)(n:Nat):Cl:=Nat.rec (λz z=>eu) (λz a=>dX H a) n
theorem Az(cl:Cl)(n:Nat)(b:Cs)(a:List V):Dp cl n b a=Kc cl n b a:=by unfold Dp Kc Dg;rw[IB]<;>rfl
theorem XK(H:Nat->List V->Option V)(cl:Cl):dX H cl=gn H cl:=by
 funext f a
 match f with
 |0=>rfl
 |1=>exact Az ..
 |2=>exact Az ..
 |3=>exact Az ..
 |4=>exact Az ..
 |5=>rfl
 |6=>rfl
 |7=>rfl
 |8=>exact Az ..
 |9=>exact Az ..
 |10=>exact Az ..
 |11=>exact Az ..
 |12=>exact Az ..
 |13=>exact Az ..
 |14=>exact Az ..
 |15=>exact Az ..
 |16=>exact Az ..
 |17=>exact Az ..
 |18=>exact Az ..
 |19=>exact Az ..
 |20=>rfl
 |21=>exact Az ..
 |22=>exact Az ..
 |n+23=>rfl
theorem VT(H:Nat->List V->Option V):∀n,NY H n=AR H n
 |0=>rfl
 |n+1=>by
  show dX H (NY H n)=gn H (AR H n);rw[VT H n,XK]
end
mutual
noncomputable def Bb:X->List Nat
 |.c _=>[]
 |.v i=>[i]
 |.gl _=>[]
 |.b _ l r=>Bb l++Bb r
 |.neg x=>Bb x
 |.inv x=>Bb x
 |.not x=>Bb x
 |.and a=>JB a
 |.or a=>JB a
 |.q l _ r=>Bb l++Bb r
 |.ite t b e=>Bb t++(Bb b++Bb e)
 |.sub o i=>Bb o++Bb i
 |.sl o l u s=>Bb o++(X3 l++(X3 u++X3 s))
 |.call _ c=>JB c
 |.bi _ c=>JB c
 |.lr c=>JB c
 |.me o _ c=>Bb o++JB c
 |.l a=>JB a
 |.t a=>JB a
 |.cm _ _ d _ _ f=>Xq d++f.map (·.2)
noncomputable def JB:XL->List Nat
 |.nil=>[]
 |.cons x r=>Bb x++JB r
noncomputable def X3:XO->List Nat
 |.no=>[]
 |.yes x=>Bb x
noncomputable def Xq:It->List Nat
 |.val x=>Bb x
 |.en x=>Bb x
 |.zip x y=>Bb x++Bb y
 |.rg a=>JB a
 |.rev x=>Bb x
 |.gen x=>Bb x
end
theorem gJ{v:V}:Bb (X.c v)=[]:=rfl
theorem fj{i:Nat}:Bb (X.v i)=[i]:=rfl
theorem lP{k:Nat}:Bb (X.gl k)=[]:=rfl
theorem Zv{o:qp}{l r:X}:Bb (X.b o l r)=Bb l++Bb r:=rfl
theorem Zy{a:X}:Bb a.neg=Bb a:=rfl
theorem Zt{a:X}:Bb a.inv=Bb a:=rfl
theorem ZP{a:X}:Bb a.not=Bb a:=rfl
theorem ZM{a:XL}:Bb (X.and a)=JB a:=rfl
theorem ZG{a:XL}:Bb (X.or a)=JB a:=rfl
theorem Tn{l:X}{o:xG}{r:X}:Bb (l.q o r)=Bb l++Bb r:=rfl
theorem TG{t b e:X}:Bb (t.ite b e)=Bb t++(Bb b++Bb e):=rfl
theorem TY{o i:X}:Bb (o.sub i)=Bb o++Bb i:=rfl
theorem U'{o:X}{l u s:XO}:Bb (o.sl l u s)=Bb o++(X3 l++(X3 u++X3 s)):=rfl
theorem UN{f:Nat}{a:XL}:Bb (X.call f a)=JB a:=rfl
theorem Vr{f:BI}{a:XL}:Bb (X.bi f a)=JB a:=rfl
theorem Vq{a:XL}:Bb (X.lr a)=JB a:=rfl
theorem Ue{o:X}{m:MI}{a:XL}:Bb (o.me m a)=Bb o++JB a:=rfl
theorem Rd{a:XL}:Bb (X.l a)=JB a:=rfl
theorem V5{a:XL}:Bb (X.t a)=JB a:=rfl
theorem V0{a:X}{t:T}{c:It}{b:XO}{e:GL}{d:List (Nat×Nat)}:Bb (a.cm t c b e d)=Xq c++AD9 (λx=>x.snd) d:=rfl
theorem fu{a:X}:X3 (XO.yes a)=Bb a:=rfl
theorem kO{a:X}{r:XL}:JB (XL.cons a r)=Bb a++JB r:=rfl
theorem jG{a:X}:Xq (It.val a)=Bb a:=rfl
theorem gW{a:X}:Xq (It.en a)=Bb a:=rfl
theorem lN{a y:X}:Xq (It.zip a y)=Bb a++Bb y:=rfl
theorem sJ{a:XL}:Xq (It.rg a)=JB a:=rfl
theorem je{a:X}:Xq (It.rev a)=Bb a:=rfl
theorem kS{a:X}:Xq (It.gen a)=Bb a:=rfl
def Agree(l:List Nat)(b a:Ev):Prop:=∀i∈l,b.get i=a.get i
theorem Agree.left{a b:List Nat}{d c:Ev}(h:Agree (a++b) d c):Agree a d c:=λi e=>h i (u4 _ e)
theorem Agree.right{a b:List Nat}{d c:Ev}(h:Agree (a++b) d c):Agree b d c:=λi e=>h i (tK _ e)
theorem J6:∀(a:List (Nat×Nat)) {ρ ρ':Ev},Agree (a.map (·.2)) ρ ρ'->Bu ρ a=Bu ρ' a
 |[],_,_,_=>rfl
 |(i,j)::r,ρ,ρ',h=>by
  have b:=J6 r (ρ:=ρ) (ρ':=ρ') λk c=>h k (by simp only[pj];exact oP _ c);simp only[C2,C2,(h j (by simp)),b]
theorem Ew(cl:Cl)(x y:X)(r:XL)(a:Ev):I9 cl (.cons x (.cons y r)) a=match ev cl x a with
  |some v=>match AI v with
   |some er=>I9 cl (.cons y r) a
   |some fG=>dD v
   |none=>eu
  |none=>eu:=by
 rw[pS]
 all_goals first|rfl|(intro q;cases q)
theorem CZ(cl:Cl)(x y:X)(r:XL)(a:Ev):IG cl (.cons x (.cons y r)) a=match ev cl x a with
  |some v=>match AI v with
   |some er=>dD v
   |some fG=>IG cl (.cons y r) a
   |none=>eu
  |none=>eu:=by
 rw[np]
 all_goals first|rfl|(intro q;cases q)
section
variable(cl:Cl)
def CX(x:X):Prop:=∀b a,Agree (Bb x) b a->ev cl x b=ev cl x a
def CL(x:XL):Prop:=∀b a,Agree (JB x) b a->EE cl x b=EE cl x a/\I9 cl x b=I9 cl x a/\IG cl x b=IG cl x a
def CO(x:XO):Prop:=∀b a,Agree (X3 x) b a->PQ cl x b=PQ cl x a/\Hk cl x b=Hk cl x a
def CI(x:It):Prop:=∀b a,Agree (Xq x) b a->EW cl x b=EW cl x a
theorem Ay(x:X):CX cl x:=
 X.rec (motive_1:=CX cl) (motive_2:=CL cl) (motive_3:=CO cl) (motive_4:=λZ=>True) (motive_5:=CI cl)
  (λv c a h=>by simp only[C6,C6]) (λi c a h=>by simp only[Af,Af];exact h i (by simp[gJ,fj,lP,Zv,Zy,Zt,ZP,ZM,ZG,Tn,TG,TY,U',UN,Vr,Vq,Ue,Rd,V5,V0])) (λk c a h=>by simp only[RS,RS])
  (λo l r n g c a h=>by simp only[Zv]at h;simp only[Do,Do,n c a h.left,g c a h.right])
  (λx d c a h=>by simp only[Zy]at h;simp only[WZ,WZ,d c a h]) (λx d c a h=>by simp only[Zt]at h;simp only[mD,mD,d c a h]) (λx d c a h=>by simp only[ZP]at h;simp only[lm,lm,d c a h])
  (λw d c a h=>by simp only[ZM]at h;simp only[kL,kL];exact(d c a h).2.1) (λw d c a h=>by simp only[ZG]at h;simp only[eK,eK];exact(d c a h).2.2)
  (λl o r n g c a h=>by simp only[Tn]at h;simp only[DW,DW,n c a h.left,g c a h.right])
  (λt b e z A B c a h=>by simp only[TG]at h;simp only[Kr,Kr,z c a h.left,A c a h.right.left,B c a h.right.right])
  (λo i p q c a h=>by simp only[TY]at h;simp only[CC,CC,p c a h.left,q c a h.right])
  (λo l u s p n C D c a h=>by simp only[U']at h;simp only[Lc,Lc,p c a h.left,(n c a h.right.left).1,(C c a h.right.right.left).1,(D c a h.right.right.right).1])
  (λf j d c a h=>by simp only[UN]at h;simp only[Dz,Dz,(d c a h).1]) (λf j d c a h=>by simp only[Vr]at h;simp only[FU,FU,(d c a h).1]) (λj d c a h=>by simp only[Vq]at h;simp only[WX,WX,(d c a h).1])
  (λo m j p d c a h=>by simp only[Ue]at h;simp only[Gl,Gl,p c a h.left,(d c a h.right).1])
  (λj d c a h=>by simp only[Rd]at h;simp only[NS,NS,(d c a h).1]) (λj d c a h=>by simp only[V5]at h;simp only[ER,ER,(d c a h).1])
  (λE t J G L H Z q Z Z c a h=>by simp only[V0]at h;simp only[LD,LD,q c a h.left,J6 H h.right])
  (λc a h=>by rw[Bt,Bt,lw,lw,lj,lj];exact⟨rfl,rfl,rfl⟩)
  (λx r d g c a h=>by
   simp only[kO]at h;refine⟨by simp only[Bj,Bj,d c a h.left,(g c a h.right).1],?_,?_⟩
   ·induction r using XL.casesOn with
    |nil=>simp only[sD,sD,d c a h.left]
    |cons y r=>rw[Ew,Ew,d c a h.left,(g c a h.right).2.1]
   ·induction r using XL.casesOn with
    |nil=>simp only[WN,WN,d c a h.left]
    |cons y r=>rw[CZ,CZ,d c a h.left,(g c a h.right).2.2])
  (λc a h=>by rw[Zr,Zr,Yi,Yi];exact⟨rfl,rfl⟩) (λx d c a h=>by simp only[fu]at h;rw[Xc,Xc,pM,pM,d c a h];exact⟨rfl,rfl⟩)
  trivial (λZ Z Z Z Z Z Z=>trivial)
  (λx d c a h=>by simp only[jG]at h;simp only[Zu,Zu,d c a h]) (λx d c a h=>by simp only[gW]at h;simp only[cW,cW,d c a h])
  (λx y d I c a h=>by simp only[lN]at h;simp only[mL,mL,d c a h.left,I c a h.right])
  (λj d c a h=>by simp only[sJ]at h;simp only[WL,WL,(d c a h).1]) (λx d c a h=>by simp only[je]at h;simp only[ji,ji,d c a h]) (λx d c a h=>by simp only[kS]at h;simp only[mR,mR,d c a h]) x
noncomputable def Holds(a:Ev):Cm->Prop
 |.ag (.one i) x=>∃v,ev cl x a=dD v/\a.get i=dD v
 |.ag (.many c) x=>∃b,ev cl x a=dD (.t b)/\c.length=b.length/\∀(j i:Nat) (v:V),c[j]?=dD i->b[j]?=dD v->a.get i=dD v
 |.sw i j x y=>∃u v,ev cl x a=dD u/\ev cl y a=dD v/\a.get i=dD u/\a.get j=dD v
 |.ie x _ .nil=>tr (ev cl x a)=dD fG
 |_=>False
noncomputable def Pt:Cm->List Nat
 |.ag _ x=>Bb x
 |.sw _ _ x y=>Bb x++Bb y
 |.ie x _ _=>Bb x
 |_=>[]
noncomputable def E9:Cm->List Nat
 |.ag t _=>t.names
 |.sw i j _ _=>[i,j]
 |_=>[]
noncomputable def subB(a b:List Nat):Bool:=a.all λi=>b.contains i
theorem Be{a b:List Nat}(h:subB a b=er){i:Nat}(c:i∈a):i∈b:=by have:=mH.mp h i c;simpa using this
noncomputable def Gy:List Nat->Bool
 |[]=>er
 |i::r=>!(r.contains i)&&Gy r
theorem WB{i:Nat}{r:List Nat}:Gy (i::r)=(!r.contains i&&Gy r):=rfl
noncomputable def Pu:Cs->Bool
 |.nil=>er
 |_=>fG
noncomputable def Zn:Cs->Bool
 |.cons (.ret _) .nil=>er
 |_=>fG
noncomputable def ZN:Cm->Bool
 |.ag t _=>Gy t.names
 |.sw i j _ _=>!lf i j
 |.ie _ a b=>Zn a&&Pu b
 |_=>fG
noncomputable def DI:List Nat->Cs->Bool
 |_,.nil=>er
 |D,.cons c r=>ZN c&&subB (Pt c) D&&(E9 c).all (λi=>!(D.contains i))&&DI (E9 c++D) r
theorem LY{x:List Nat}{c:Cm}{r:Cs}:DI x (Cs.cons c r)=((ZN c&&subB (Pt c) x&&(E9 c).all λi=>!x.contains i)&&DI (E9 c++x) r):=rfl
noncomputable def GJ(P:Cm->Prop):Cs->Prop
 |.nil=>True
 |.cons c r=>P c/\GJ P r
theorem DH:∀(c:List Nat) (f:List V) (d b:Ev),Gy c=er->putAll c f d=dD b->∀k,(∀(j i:Nat) (v:V),c[j]?=dD i->f[j]?=dD v->i=k->b.get k=dD v)/\(k∉c->b.get k=d.get k)
 |[],[],d,b,_,h,k=>by(replace h:=(dE h).symm;subst h);exact⟨λj i v e=>by simp at e,λz=>rfl⟩
 |i::c,v::f,d,b,g,h,k=>by
  rewrite [WB]at g
  rw[pl,qI,AAi,decide_eq_false_iff_not]at g;have q:putAll c f (d.put i v)=dD b:=h;obtain⟨r,o⟩:=DH c f (d.put i v) b g.2 q k;refine⟨λj a u l m p=>?_,λn=>?_⟩
  ·induction j using uK with
   |zero=>simp at l m;subst l;subst m;subst p;rw[o g.1,Ev.get_put,if_pos rfl]
   |succ j=>simp at l m;exact r j a u l m p
  ·rw[md,not_or]at n;rw[o n.2,Ev.get_put,if_neg (ub n.1)]
 |[],_::_,_,_,_,h,_=>by exact nS h
 |_::_,[],_,_,_,h,_=>by exact nS h
theorem Hg:∀(b:List Nat) (c:List V) (a:Ev),b.length=c.length->∃d,putAll b c a=dD d
 |[],[],a,_=>⟨a,rfl⟩
 |i::b,v::c,a,h=>Hg b c (a.put i v) (by simpa using h)
 |[],_::_,_,h=>by simp at h
 |_::_,[],_,h=>by simp at h
theorem NQ:∀a:List Nat,Ag [] a=er
 |[]=>rfl
 |_::r=>NQ r
theorem MH{d:Ev}{c:Cm}{D:List Nat}(s:ZN c=er)(M:subB (Pt c) D=er)(N:(E9 c).all (λi=>!(D.contains i))=er)(w:Holds cl d c){f:Ev}(m:Agree D f d):
  ∃n,BK cl fG c f []=dD (.nx n [])/\Agree (E9 c++D) n d:=by
 have B:Agree (Pt c) f d:=λi C=>m i (Be M C);have hd:∀i∈D,i∉E9 c:=λi C O=>by
  have:=mH.mp N i O;simp[C]at this
 induction c using Cm.casesOn with
 |ag t x=>
  have z:ev cl x f=ev cl x d:=Ay cl x f d B;induction t using T.casesOn with
  |one i=>
   obtain⟨v,o,h⟩:=w;refine⟨f.put i v,?_,λk e=>?_⟩
   ·simp only[RV,z,o];rfl
   ·rw[Ev.get_put];by_cases q:i=k
    ·refine q▸?_;rw[if_pos rfl,h]
    ·rw[if_neg q];rcases tH.mp e with e|e
     ·simp[E9,T.names]at e;exact absurd e.symm q
     ·exact m k e
  |many p=>
   obtain⟨l,o,h,E⟩:=w;obtain⟨g,A⟩:=Hg p l f h;refine⟨g,?_,λk e=>?_⟩
   ·simp only[RV,z,o];show(match Ag [] p with
     |true=>match putAll p l f with
      |some g=>dD (Rs.nx g [])
      |none=>eu
     |false=>eu)=_
    simp only[NQ,A]
   ·obtain⟨Q,U⟩:=DH p l f g s A k;by_cases q:k∈p
    ·obtain⟨j,G⟩:=u5 q;have H:j<l.length:=by rw[<-h];exact(qR.mp G).1
     have L:l[j]?=dD l[j]:=uP H;simp only[Q j k _ G L rfl,E j k _ G L]
    ·rw[U q];rcases tH.mp e with e|e
     ·exact absurd e q
     ·exact m k e
 |sw i j x y=>
  (refine CB λZ Y=>?_;obtain⟨u,v,o,h,E,A⟩:=w<;>refine Y ?_)
  have r:Agree (Bb x++Bb y) f d:=B;have z:ev cl x f=ev cl x d:=Ay cl x f d r.left;refine⟨(f.put i u).put j v,?_,λk e=>?_⟩
  ·simp only[lq,z,(Ay cl y f d r.right),o,h];have:(!lf i j)=er:=s;show(match !lf i j with
    |true=>dD (Rs.nx ((f.put i u).put j v) [])
    |false=>eu)=_
   rw[this]
  ·rw[Ev.get_put,Ev.get_put];by_cases q:j=k
   ·rw[<-q];rw[if_pos rfl,A]
   ·rw[if_neg q];by_cases I:i=k
    ·subst I;rw[if_pos rfl,E]
    ·rw[if_neg I];rcases tH.mp e with e|e
     ·simp[E9]at e;rcases e with e|e
      ·exact absurd e.symm I
      ·exact absurd e.symm q
     ·exact m k e
 |ie x a b=>
  induction b using Cs.casesOn with
  |cons=>simp[ZN,Pu]at s
  |nil=>
   have J:tr (ev cl x d)=dD fG:=w;refine⟨f,?_,m⟩;simp only[DS];show(match tr (ev cl x f)with
    |some er=>AX cl fG a f []
    |some fG=>AX cl fG .nil f []
    |none=>eu)=_
   simp only[(Ay cl x f d B),J];show AX cl fG .nil f []=_;simp only[Ht]
 |_=>cases s
end
section
variable(cl:Cl)
theorem Y0{a:Cs}(h:Zn a=er):∃x,a=.cons (.ret x) .nil:=by
 induction a using Cs.casesOn with
 |nil=>exact fT h
 |cons c r=>induction r using Cs.casesOn with
  |nil=>induction c using Cm.casesOn with
   |ret x=>exact⟨x,rfl⟩
   |_=>exact fT h
  |cons d r=>induction c using Cm.casesOn with|_=>exact fT h
theorem eO{t:T}{x:X}{D:List Nat}{c b h:Ev}(p:ZN (.ag t x)=er)(f:BK cl fG (.ag t x) c []=dD (.nx b h))(hd:∀k∈D,k∉E9 (.ag t x))(l:Agree D c b->∀a,Agree (E9 (.ag t x)++D) b a->Agree (Pt (.ag t x)) c a):h=[]/\Agree D c b/\∀a,Agree (E9 (.ag t x)++D) b a->Holds cl a (.ag t x):=by
 rw[RV]at f;refine bS f λZ f=>oV f λv r f=>oE f λy g f=>?_;have q:=Oq (dE f);have q1:=q.1.symm;have q2:=q.2.symm;subst q1 q2;induction t using T.casesOn with
 |one i=>
  (replace g:=dE g;subst g)
  have m:Agree D c (c.put i v):=λk n=>by
   rw[Ev.get_put,if_neg];rintro rfl;exact hd _ n (by simp[E9,T.names])
  refine⟨rfl,m,λa d=>⟨v,?_,?_⟩⟩
  ·rw[<-Ay cl x c a (l m a d)];exact r
  ·rw[<-d i (by simp[E9,T.names]),Ev.get_put,if_pos rfl]
 |many s=>
  refine UF g λo e g=>?_;subst e;have m:Agree D c b:=λk n=>by
   rw[(DH s o c b p g k).2 (hd k n)]
  refine⟨rfl,m,λa d=>⟨o,?_,Ee g,λj i u w z=>?_⟩⟩
  ·rw[<-Ay cl x c a (l m a d)];exact r
  ·rw[<-d i (u4 _ (qk w))];exact(DH s o c b p g i).1 j i u w z rfl
theorem du{i j:Nat}{x y:X}{D:List Nat}{d b f:Ev}(n:ZN (.sw i j x y)=er)(e:BK cl fG (.sw i j x y) d []=dD (.nx b f))(hd:∀k∈D,k∉E9 (.sw i j x y))(g:Agree D d b->∀a,Agree (E9 (.sw i j x y)++D) b a->Agree (Pt (.sw i j x y)) d a):f=[]/\Agree D d b/\∀a,Agree (E9 (.sw i j x y)++D) b a->Holds cl a (.sw i j x y):=by
 rw[lq]at e;refine bS e λz e=>f7 e λu v o p e=>?_;have q:=Oq (dE e);have q1:=q.1.symm;have q2:=q.2.symm;subst q1 q2;have l:i≠j:=λq=>by
  have h:(!lf i j)=er:=n;subst q;have:lf i i=er:=xh i;rw[this]at h;cases h
 have m:Agree D d ((d.put i u).put j v):=λk r=>by
  have:=hd k r;simp[E9]at this;rw[Ev.get_put,if_neg (ub this.2),Ev.get_put,if_neg (ub this.1)]
 refine⟨rfl,m,λa c=>⟨u,v,?_,?_,?_,?_⟩⟩
 ·rw[<-Ay cl x d a (Agree.left (g m a c))];exact o
 ·rw[<-Ay cl y d a (Agree.right (g m a c))];exact p
 ·rw[<-c i (by simp[E9]),Ev.get_put,if_neg (ub l),Ev.get_put,if_pos rfl]
 ·rw[<-c j (by simp[E9]),Ev.get_put,if_pos rfl]
theorem dn{x:X}{a b:Cs}{D:List Nat}{g d h:Ev}(m:ZN (.ie x a b)=er)(f:BK cl fG (.ie x a b) g []=dD (.nx d h))(hd:∀k∈D,k∉E9 (.ie x a b))(j:Agree D g d->∀c,Agree (E9 (.ie x a b)++D) d c->Agree (Pt (.ie x a b)) g c):h=[]/\Agree D g d/\∀c,Agree (E9 (.ie x a b)++D) d c->Holds cl c (.ie x a b):=by
 have i:=nM.mp m;induction b using Cs.casesOn with
 |cons _ _=>exact fT i.2
 |nil=>
  rw[DS]at f;refine ZX f (λz f=>?_) λn f=>?_
  ·refine(Y0 i.1).elim λy e=>?_;rw[e,GG,Ef]at f;generalize ev cl y ([]++g)=o at f;induction o using m8 with
   |none=>exact nS f
   |some v=>exact Rs.noConfusion (dE f)
  ·have q:=Oq (dE f);have q1:=q.1.symm;have q2:=q.2.symm;subst q1 q2;refine⟨rfl,λz z=>rfl,λc l=>?_⟩;show tr (ev cl x c)=dD fG;rw[<-Ay cl x d c (j (λz z=>rfl) c l)];exact n
theorem Ov{c:Cm}{D:List Nat}(h:ZN c=er)(m:subB (Pt c) D=er)(o:(E9 c).all (λi=>!(D.contains i))=er){k e g:Ev}(n:BK cl fG c k []=dD (.nx e g)):
  g=[]/\Agree D k e/\∀d,Agree (E9 (c)++D) e d->Holds cl d (c):=by
 have hd:∀i∈D,i∉E9 c:=λi l p=>by
  have:=mH.mp o i p;simp[l]at this
 have f:Agree D k e->∀d,Agree (E9 c++D) e d->Agree (Pt c) k d:=λa d b i l=>(a i (Be m l)).trans (b i (tK _ (Be m l)));clear m o;induction c using Cm.casesOn with
 |ag t x=>exact eO cl h n hd f
 |sw i j x y=>exact du cl h n hd f
 |ie x a b=>exact dn cl h n hd f
 |_=>exact fT h
set_option tactic.hygienic true in
theorem H3:∀(b:Cs) (D:List Nat) (f a d:Ev),DI D b=er->AX cl fG b f []=dD (.nx a d)->d=[]/\Agree D f a/\GJ (Holds cl a) b:=by
 intro b;refine Cs.rec (motive_1:=λ_=>True) (motive_2:=λb=>∀(D:List Nat) (f a d:Ev),DI D b=er->AX cl fG b f []=dD (.nx a d)->d=[]/\Agree D f a/\GJ (Holds cl a) b)
  ?_ ?_ ?_ ?_ ?_ ?_ ?_ ?_ ?_ ?_ ?_ ?_ ?_ ?_ ?_ ?_ ?_ ?_ ?_ b<;>try (intros;trivial)
 ·intro D f a d _ h;rw[Ht]at h;have e:=Oq (dE h);exact⟨e.2.symm,λ_ _=>e.1▸rfl,trivial⟩
 ·intro c r _ m D f a d g h
  rewrite [LY]at g
  simp only[pl]at g;obtain⟨⟨⟨n,o⟩,p⟩,q⟩:=g;rw[GG]at h;split at h
  ·rename_i j s t
   (obtain⟨u,v,x⟩:=Ov cl n o p t<;>try subst u)
   obtain⟨w,k,y⟩:=m (E9 c++D) j a d q h;exact⟨w,λi l=>(v i l).trans (k i (tK _ l)),x a k,y⟩
  ·exact Rs.noConfusion (dE h)
  ·exact nS h
end
noncomputable def BH:Cs->Nat->Cm
 |.cons c _,0=>c
 |.cons _ r,n+1=>BH r n
 |.nil,_=>.ju
noncomputable def Mj:List Nat->Cs
 |[]=>.nil
 |k::r=>.cons (BH Am k) (Mj r)
noncomputable def qv(c:Cm):X:=by
 induction c using Cm.casesOn with
 |ag _ x=>exact x
 |ie x _ _=>exact x
 |_=>exact .c .none
noncomputable def xP(k:Nat):X:=qv (BH Am k)
noncomputable def Cq:V:=.d [[48,48],[48,49],[48,50],[49,48],[49,49],[49,50],[50,48],[50,49],[50,50]] [.int 0,.int 1680,.int 3360,.int 3360,.int 0,.int 1680,.int 1680,.int 3360,.int 0]
noncomputable def HZ:V:=.d [[48,49],[48,50],[49,48],[49,50],[50,48],[50,49]] [.str [50],.str [49],.str [50],.str [48],.str [49],.str [48]]
noncomputable def BV:V:=.l [.str [40,40,40,41,41,41],.str [40,40,41,40,41,41],.str [40,41,40,40,41,41],.str [41,40,40,40,41,41],.str [40,40,41,41,40,41],.str [40,41,40,41,40,41],.str [41,40,40,41,40,41],.str [40,41,41,40,40,41],.str [41,40,41,40,40,41],.str [41,41,40,40,40,41],.str [40,40,41,41,41,40],.str [40,41,40,41,41,40],.str [41,40,40,41,41,40],.str [40,41,41,40,41,40],.str [41,40,41,40,41,40],.str [41,41,40,40,41,40],.str [40,41,41,41,40,40],.str [41,40,41,41,40,40],.str [41,41,40,41,40,40],.str [41,41,41,40,40,40]]
noncomputable def JJ:V:=.t [.int 0,.int 1,.int 2,.int 4,.int 5,.int 6,.int 8,.int 9,.int 10]
noncomputable def DQ:V:=.l [.str [40,40,40,41,41,41],.str [40,40,41,40,41,41],.str [40,41,40,40,41,41],.str [40,40,41,41,40,41],.str [40,41,40,41,40,41]]
noncomputable def JO:V:=.l [.l [.int 5,.int 4,.int 3,.int 2,.int 1,.int 0],.l [.int 5,.int 2,.int 1,.int 4,.int 3,.int 0],.l [.int 1,.int 0,.int 5,.int 4,.int 3,.int 2],.l [.int 3,.int 2,.int 1,.int 0,.int 5,.int 4],.l [.int 1,.int 0,.int 3,.int 2,.int 5,.int 4]]
noncomputable def Ca:V:=.l [.int 1,.int 2,.int 1,.int 1,.int 2]
noncomputable def cT:Cs:=Mj [1,2,3,4,5,6,7,14,16,17,18,19,20,22,23,31,32]
noncomputable def jM(t:Nat):Ev:=[(2,.int t),(6,Cq),(7,HZ),(16,BV),(21,JO),(35,JJ)]
section
open PySem PySem.Spec PySem.Builtin PySem.Builtin.Str PyProof.Rows
noncomputable section
noncomputable def Lq(c d:Nat):List Nat->List Nat
 |[]=>[]
 |k::r=>match lf k c with
  |true=>d::Lq c d r
  |false=>k::Lq c d r
theorem Q4{c d k:Nat}{r:List Nat}:Lq c d (k::r)=
  match k.beq c with
  |true=>d::Lq c d r
  |false=>k::Lq c d r:=rfl
theorem JC(c d:Nat):∀a b:List Nat,Lq c d (a++b)=Lq c d a++Lq c d b
 |[],_=>rfl
 |k::r,b=>by
  rw[xN,Q4,Q4,JC c d r b];cases lf k c<;>rfl
theorem IR(c d:Nat):∀l:List Nat,c∉l->Lq c d l=l
 |[],_=>rfl
 |k::r,h=>by
  have a:lf k c=fG:=by
   cases q:lf k c with
   |false=>rfl
   |true=>exact absurd (md.mpr (.inl (lk q).symm)) h
  simp only[Q4,a,IR c d r λm=>h (oP _ m)]
theorem P5(c d:Nat):∀b:List pw,(∀p∈b,c∉p.cps.toList)->Lq c d (yV ⟨#[c]⟩ b).cps.toList=(yV ⟨#[d]⟩ b).cps.toList
 |[],_=>rfl
 |[p],h=>IR c d _ (h p (qw.mpr rfl))
 |p::q::r,h=>by
  show Lq c d (p++⟨#[c]⟩++yV ⟨#[c]⟩ (q::r)).cps.toList=(p++⟨#[d]⟩++yV ⟨#[d]⟩ (q::r)).cps.toList;simp only[Str.cps_append,AAc,JC];simp only[(P5 c d (q::r) λa e=>h a (oP _ e)),IR c d _ (h p (pg ..))];have:Lq c d [c]=[d]:=by simp only[Q4,xh];rfl
  show p.cps.toList++Lq c d [c]++_=_;rw[this]
theorem V1(x:List Nat)(c d:Nat):HW x c d=Lq c d x:=by unfold HW;show(Txt.replace (AP x) ⟨#[c]⟩ ⟨#[d]⟩).cps.toList=_;rw[StrLaws.replace_one,<-P5 c d _ (StrLaws.split_free (AP x) c),StrLaws.join_split];show Lq c d x.toArray.toList=_;simp only[AA4]
noncomputable def TQ:X:=match HN with
 |.yes x=>x
 |.no=>.c .none
noncomputable def PD(a:Ev):Option V:=((a.get 4).bind L3).bind λs=>((Eb D9 (.sub (.v 7) (.v 1)) a).bind Io).bind λk=>OW (.str s) (.int k)
noncomputable def P9(b:Ev):Option (List V):=(M3 D9 GX b).bind λc=>Ai (.one 1) (Bu b J9) (λa=>BD (tr (Eb D9 TQ a)) (one (PD a))) c
noncomputable def J7(e f:Ev):Option Rs:=match f with
 |[]=>((FX D9 Du fG e []).bind M5).bind λa=>(P9 a).bind λl=>two l λb c=>match lf c b with
  |true=>eu
  |false=>((a.get 4).bind L3).bind λd=>match pq d.length 1000 with
   |true=>dD (.nx ((a.put 8 (.l [.str [b],.str [c]])).put 4 (.str (Lq c b d))) [])
   |false=>eu
 |_::_=>eu
noncomputable def Ji(a:List V):Option V:=match lf a.length 4 with
 |true=>(M3 D9 Gp ((Ah 0 a).put 4 (.str CV))).bind λb=>((As (.one 5) J7 b ((Ah 0 a).put 4 (.str CV)) []).bind M5).bind λc=>Es (FX D9 Cf fG c [])
 |false=>eu
theorem Sl(c:Ev):PD c=R9 c:=by unfold PD R9;rw[CQ,show OW=C0 from funext λa=>funext λb=>FD a b]<;>rfl
theorem SY(b:Ev):P9 b=KU b:=by
 unfold P9 KU;rw[Kt];have:(λa=>BD (tr (Eb D9 TQ a)) (one (PD a)))=λa=>BD (Hk D9 HN a) (one (R9 a)):=by funext a;rw[Sl,CQ]<;>rfl
 rw[this]<;>rfl
theorem NB:J7=FL:=by funext a b;unfold J7 FL;rw[IB D9 Du fG a [],show P9=KU from funext SY,show Lq=λc d x=>HW x c d from funext λc=>funext λd=>funext λx=>(V1 x c d).symm]<;>rfl
theorem Wa:Ji=VG:=by funext b;unfold Ji VG;rw[Kt,NB];have:∀a,FX D9 Cf fG a []=AX D9 fG Cf a []:=λa=>IB D9 Cf fG a [];simp only[this]<;>rfl
noncomputable def HQ:Nat->List V->Option V
 |6,a=>H6 a
 |7,a=>H7 a
 |20,a=>Ji a
 |_,_=>eu
theorem jy:HQ=HH:=by funext f a;unfold HQ HH;rw[Wa]<;>rfl
end
end
noncomputable section
structure MC where
 b:List Nat
 u:Nat
 r0:List Nat
 r1:List Nat
noncomputable def Bd:List MC:=[
 ⟨[48,49,50,48,49,48,49,50,50,49,48,49,48,50,49,48],1680,[40,40,40,41,41,41],[40,40,40,41,41,41]⟩,
 ⟨[48,49,50,48,49,50,49,50,50,49,48,49,48,50,49,48],1680,[40,41,40,41,40,41],[40,41,40,41,40,41]⟩,
 ⟨[48,49,50,48,49,48,49,50,50,49,50,49,48,50,49,48],1680,[40,40,41,40,41,41],[40,40,41,40,41,41]⟩,
 ⟨[48,49,50,48,49,50,49,50,50,49,50,49,48,50,49,48],1680,[40,41,40,40,41,41],[40,40,41,41,40,41]⟩,
 ⟨[48,49,50,48,49,50,48,50,50,49,50,49,48,50,49,48],1680,[40,40,41,40,41,41],[40,41,40,41,40,41]⟩,
 ⟨[48,49,50,48,49,50,49,50,50,48,50,49,48,50,49,48],1680,[40,41,40,41,40,41],[40,40,41,40,41,41]⟩,
 ⟨[48,49,50,48,49,50,48,50,50,48,50,49,48,50,49,48],1680,[40,40,41,41,40,41],[40,41,40,40,41,41]⟩,
 ⟨[48,50,49,48,50,48,50,49,49,50,48,50,48,49,50,48],3360,[40,40,40,41,41,41],[40,40,40,41,41,41]⟩,
 ⟨[48,50,49,48,50,49,50,49,49,50,48,50,48,49,50,48],3360,[40,41,40,41,40,41],[40,41,40,41,40,41]⟩,
 ⟨[48,50,49,48,50,48,50,49,49,50,49,50,48,49,50,48],3360,[40,40,41,40,41,41],[40,40,41,40,41,41]⟩,
 ⟨[48,50,49,48,50,49,50,49,49,50,49,50,48,49,50,48],3360,[40,41,40,40,41,41],[40,40,41,41,40,41]⟩,
 ⟨[48,50,49,48,50,49,48,49,49,50,49,50,48,49,50,48],3360,[40,40,41,40,41,41],[40,41,40,41,40,41]⟩,
 ⟨[48,50,49,48,50,49,50,49,49,48,49,50,48,49,50,48],3360,[40,41,40,41,40,41],[40,40,41,40,41,41]⟩,
 ⟨[48,50,49,48,50,49,48,49,49,48,49,50,48,49,50,48],3360,[40,40,41,41,40,41],[40,41,40,40,41,41]⟩,
 ⟨[49,50,48,49,50,49,50,48,48,50,49,50,49,48,50,49],1680,[40,40,40,41,41,41],[40,40,40,41,41,41]⟩,
 ⟨[49,50,48,49,50,48,50,48,48,50,49,50,49,48,50,49],1680,[40,41,40,41,40,41],[40,41,40,41,40,41]⟩,
 ⟨[49,50,48,49,50,49,50,48,48,50,48,50,49,48,50,49],1680,[40,40,41,40,41,41],[40,40,41,40,41,41]⟩,
 ⟨[49,50,48,49,50,48,50,48,48,50,48,50,49,48,50,49],1680,[40,41,40,40,41,41],[40,40,41,41,40,41]⟩,
 ⟨[49,50,48,49,50,48,49,48,48,50,48,50,49,48,50,49],1680,[40,40,41,40,41,41],[40,41,40,41,40,41]⟩,
 ⟨[49,50,48,49,50,48,50,48,48,49,48,50,49,48,50,49],1680,[40,41,40,41,40,41],[40,40,41,40,41,41]⟩,
 ⟨[49,50,48,49,50,48,49,48,48,49,48,50,49,48,50,49],1680,[40,40,41,41,40,41],[40,41,40,40,41,41]⟩,
 ⟨[49,48,50,49,48,49,48,50,50,48,49,48,49,50,48,49],3360,[40,40,40,41,41,41],[40,40,40,41,41,41]⟩,
 ⟨[49,48,50,49,48,50,48,50,50,48,49,48,49,50,48,49],3360,[40,41,40,41,40,41],[40,41,40,41,40,41]⟩,
 ⟨[49,48,50,49,48,49,48,50,50,48,50,48,49,50,48,49],3360,[40,40,41,40,41,41],[40,40,41,40,41,41]⟩,
 ⟨[49,48,50,49,48,50,48,50,50,48,50,48,49,50,48,49],3360,[40,41,40,40,41,41],[40,40,41,41,40,41]⟩,
 ⟨[49,48,50,49,48,50,49,50,50,48,50,48,49,50,48,49],3360,[40,40,41,40,41,41],[40,41,40,41,40,41]⟩,
 ⟨[49,48,50,49,48,50,48,50,50,49,50,48,49,50,48,49],3360,[40,41,40,41,40,41],[40,40,41,40,41,41]⟩,
 ⟨[49,48,50,49,48,50,49,50,50,49,50,48,49,50,48,49],3360,[40,40,41,41,40,41],[40,41,40,40,41,41]⟩,
 ⟨[50,48,49,50,48,50,48,49,49,48,50,48,50,49,48,50],1680,[40,40,40,41,41,41],[40,40,40,41,41,41]⟩,
 ⟨[50,48,49,50,48,49,48,49,49,48,50,48,50,49,48,50],1680,[40,41,40,41,40,41],[40,41,40,41,40,41]⟩,
 ⟨[50,48,49,50,48,50,48,49,49,48,49,48,50,49,48,50],1680,[40,40,41,40,41,41],[40,40,41,40,41,41]⟩,
 ⟨[50,48,49,50,48,49,48,49,49,48,49,48,50,49,48,50],1680,[40,41,40,40,41,41],[40,40,41,41,40,41]⟩,
 ⟨[50,48,49,50,48,49,50,49,49,48,49,48,50,49,48,50],1680,[40,40,41,40,41,41],[40,41,40,41,40,41]⟩,
 ⟨[50,48,49,50,48,49,48,49,49,50,49,48,50,49,48,50],1680,[40,41,40,41,40,41],[40,40,41,40,41,41]⟩,
 ⟨[50,48,49,50,48,49,50,49,49,50,49,48,50,49,48,50],1680,[40,40,41,41,40,41],[40,41,40,40,41,41]⟩,
 ⟨[50,49,48,50,49,50,49,48,48,49,50,49,50,48,49,50],3360,[40,40,40,41,41,41],[40,40,40,41,41,41]⟩,
 ⟨[50,49,48,50,49,48,49,48,48,49,50,49,50,48,49,50],3360,[40,41,40,41,40,41],[40,41,40,41,40,41]⟩,
 ⟨[50,49,48,50,49,50,49,48,48,49,48,49,50,48,49,50],3360,[40,40,41,40,41,41],[40,40,41,40,41,41]⟩,
 ⟨[50,49,48,50,49,48,49,48,48,49,48,49,50,48,49,50],3360,[40,41,40,40,41,41],[40,40,41,41,40,41]⟩,
 ⟨[50,49,48,50,49,48,50,48,48,49,48,49,50,48,49,50],3360,[40,40,41,40,41,41],[40,41,40,41,40,41]⟩,
 ⟨[50,49,48,50,49,48,49,48,48,50,48,49,50,48,49,50],3360,[40,41,40,41,40,41],[40,40,41,40,41,41]⟩,
 ⟨[50,49,48,50,49,48,50,48,48,50,48,49,50,48,49,50],3360,[40,40,41,41,40,41],[40,41,40,40,41,41]⟩]
noncomputable def Zj(v:V):Option Bool:=match v with
 |.bool t=>dD t
 |_=>eu
theorem UQ{v:V}{t:Bool}(h:Zj v=dD t):v=.bool t:=by
 induction v using V.casesOn with
 |bool j=>exact dE h▸rfl
 |_=>exact nS h
noncomputable def jE(v:V):Option (List V):=match v with
 |.t t=>dD t
 |_=>eu
theorem Xy{v:V}{t:List V}(h:jE v=dD t):v=.t t:=by
 induction v using V.casesOn with
 |t j=>exact dE h▸rfl
 |_=>exact nS h
noncomputable def Z6(v:V):Bool:=match v with
 |.none=>er
 |_=>fG
theorem TV{v:V}(h:Z6 v=er):v=.none:=by
 induction v using V.casesOn with
 |none=>rfl
 |_=>exact fT h
noncomputable def dJ:List (List Nat)->List (List Nat)->Bool
 |[],l=>l.isEmpty
 |a::r,l=>match l with
  |[]=>fG
  |b::s=>FW a b&&dJ r s
theorem X1{a:List (List Nat)}:∀{b:List (List Nat)},dJ a b=er->a=b:=by
 induction a with
 |nil=>exact λh=>(ABt.mp h).symm
 |cons x r c=>
  intro b h;induction b using lz with
  |nil=>exact fT h
  |cons y t=>exact congr (congrArg ADy ((DM _ _).mp (nM.mp h).1)) (c (nM.mp h).2)
noncomputable def qZ(i j:Int):Bool:=match i with
 |.ofNat a=>(match j with
  |.ofNat b=>lf a b
  |.negSucc _=>fG)
 |.negSucc a=>match j with
  |.ofNat _=>fG
  |.negSucc b=>lf a b
theorem bn{i j:Int}(h:qZ i j=er):i=j:=by
 induction i using wO with
 |ofNat a=>induction j using wO with
  |ofNat b=>exact congrArg wn (lk h)
  |negSucc b=>exact fT h
 |negSucc a=>induction j using wO with
  |ofNat b=>exact fT h
  |negSucc b=>exact congrArg wU (lk h)
mutual
noncomputable def eG:V->V->Bool
 |.none,b=>Z6 b
 |.bool p,b=>oT (Zj b) λq=>p==q
 |.int i,b=>oT (Io b) λj=>qZ i j
 |.str s,b=>oT (L3 b) (FW s)
 |.fl _,_=>fG
 |.l a,b=>oT (LG b) λl=>Sx a l
 |.t a,b=>oT (jE b) λl=>Sx a l
 |.d ks a,b=>oT (Xp b) λp=>dJ ks p.1&&Sx a p.2
noncomputable def Sx:List V->List V->Bool
 |[],l=>l.isEmpty
 |x::r,l=>match l with
  |[]=>fG
  |y::t=>eG x y&&Sx r t
end
theorem O8(a:V):∀b:V,eG a b=er->a=b:=
 V.rec (motive_1:=λa=>∀b,eG a b=er->a=b) (motive_2:=λa=>∀b,Sx a b=er->a=b)
  (λz h=>(TV h).symm) (λz z h=>E1 h λz e h=>(congrArg V.bool (qy h)).trans (UQ e).symm) (λz z h=>E1 h λz e h=>(congrArg V.int (bn h)).trans (Cu e).symm)
  (λz z h=>E1 h λz e h=>(congrArg V.str ((DM _ _).mp h)).trans (FE e).symm) (λz z h=>fT h)
  (λz c z h=>E1 h λz e h=>(congrArg V.l (c _ h)).trans (F9 e).symm) (λz c z h=>E1 h λz e h=>(congrArg V.t (c _ h)).trans (Xy e).symm)
  (λz z c z h=>E1 h λz e h=>(congr (congrArg V.d (X1 (nM.mp h).1)) (c _ (nM.mp h).2)).trans (LQ e).symm)
  (λz h=>(ABt.mp h).symm)
  (λx r c d b h=>by
   induction b using lz with
   |nil=>exact fT h
   |cons y t=>exact congr (congrArg ADy (c _ (nM.mp h).1)) (d _ (nM.mp h).2)) a
noncomputable def Qa(o:Option V)(v:V):Bool:=oT o λw=>eG w v
theorem Cn{o:Option V}{v:V}(h:Qa o v=er):o=dD v:=E1 h λz e h=>e.trans (congrArg dD (O8 _ _ h))
noncomputable def Ha(b:List Nat)(u:Nat):List MC->Option MC
 |[]=>eu
 |e::r=>match lf e.u u with
  |true=>match FW e.b b with
   |true=>dD e
   |false=>Ha b u r
  |false=>Ha b u r
theorem X2{b:List Nat}{u:Nat}{e:MC}{r:List MC}:Ha b u (e::r)=
  match e.u.beq u with
  |true=>
   match FW e.b b with
   |true=>dD e
   |false=>Ha b u r
  |false=>Ha b u r:=rfl
theorem HR{b:List Nat}{u:Nat}:∀{l:List MC} {e:MC},Ha b u l=dD e->e∈l/\e.u=u/\e.b=b
 |[],_,h=>by exact nS h
 |a::r,e,h=>by
  rewrite [X2]at h
  split at h
  ·rename_i c;split at h
   ·rename_i d
    (replace h:=dE h;subst h)
    exact⟨pg,lk c,(DM _ _).mp d⟩
   ·exact(HR h).imp (oP _) id
  ·exact(HR h).imp (oP _) id
noncomputable def HX(e:MC):Bool:=Qa (Ji [.str e.b,Cq,.int (.ofNat e.u),.int (.ofNat 0)]) (.str e.r0)&&Qa (Ji [.str e.b,Cq,.int (.ofNat e.u),.int (.ofNat 1)]) (.str e.r1)
theorem aP:((Bd.drop 0).take 6).all HX=er:=by nofun
theorem ck:((Bd.drop 6).take 6).all HX=er:=by nofun
theorem Yp:((Bd.drop 12).take 6).all HX=er:=by nofun
theorem Yu:((Bd.drop 18).take 6).all HX=er:=by nofun
theorem XV:((Bd.drop 24).take 6).all HX=er:=by nofun
theorem Ww:((Bd.drop 30).take 6).all HX=er:=by nofun
theorem YF:((Bd.drop 36).take 6).all HX=er:=by nofun
theorem YR:∀e∈Bd,HX e=er:=by
 intro e a;have h:Bd=(Bd.drop 0).take 6++((Bd.drop 6).take 6++((Bd.drop 12).take 6++((Bd.drop 18).take 6++((Bd.drop 24).take 6++((Bd.drop 30).take 6++(Bd.drop 36).take 6))))):=rfl;rw[h]at a;simp only[tH]at a;rcases a with a|a|a|a|a|a|a
 ·exact mH.mp aP e a
 ·exact mH.mp ck e a
 ·exact mH.mp Yp e a
 ·exact mH.mp Yu e a
 ·exact mH.mp XV e a
 ·exact mH.mp Ww e a
 ·exact mH.mp YF e a
noncomputable def Wi(b a u k:V):Option V:=(L3 b).bind λb=>(O2 u).bind λu=>(O2 k).bind λk=>(Ha b u Bd).bind λe=>match eG a Cq with
 |true=>match lf k 0 with
  |true=>dD (.str e.r0)
  |false=>match lf k 1 with
   |true=>dD (.str e.r1)
   |false=>eu
 |false=>eu
theorem X'{b a u k r:V}(h:Wi b a u k=dD r):Ji [b,a,u,k]=dD r:=by
 refine EY h λo c h=>EY h λp d h=>EY h λj l h=>EY h λe m h=>?_;rw[FE c,FG d,FG l];refine BO (HR m) λn d c=>?_;have H:=nM.mp (YR e n);rw[<-d,<-c];cases f:eG a Cq with
 |false=>rw[f]at h;exact nS h
 |true=>
  simp only[f]at h;rw[O8 _ _ f];cases g:lf j 0 with
  |true=>rw[g]at h;rw[lk g,<-h];exact Cn H.1
  |false=>
   simp only[g]at h;cases i:lf j 1 with
   |true=>rw[i]at h;rw[lk i,<-h];exact Cn H.2
   |false=>rw[i]at h;exact nS h
noncomputable def AY(c:List V)(f:V->V->V->V->Option V):Option V:=match c with
 |[]=>eu
 |b::r=>match r with
  |[]=>eu
  |a::r=>match r with
   |[]=>eu
   |u::r=>match r with
    |[]=>eu
    |k::r=>match r with
     |[]=>f b a u k
     |_::_=>eu
theorem cm{c:List V}{f:V->V->V->V->Option V}{r:V}{P:List V->Prop}(h:AY c f=dD r)(k:∀b a u k,f b a u k=dD r->P [b,a,u,k]):P c:=by
 induction c using lz with
 |nil=>exact nS h
 |cons b c=>induction c using lz with
  |nil=>exact nS h
  |cons a c=>induction c using lz with
   |nil=>exact nS h
   |cons u c=>induction c using lz with
    |nil=>exact nS h
    |cons w c=>induction c using lz with
     |nil=>exact k _ _ _ _ h
     |cons _ _=>exact nS h
noncomputable def jC(a:List V):Option V:=match AY a Wi with
 |some r=>dD r
 |none=>Ji a
theorem Ya:jC=Ji:=by
 funext a;show(match AY a Wi with
 |some r=>dD r
 |none=>Ji a)=_
 cases h:AY a Wi with
 |none=>rfl
 |some r=>exact(cm (P:=λa=>Ji a=dD r) h λz z z z=>X').symm
noncomputable def HT:Nat->List V->Option V
 |6,a=>H6 a
 |7,a=>H7 a
 |20,a=>jC a
 |_,_=>eu
theorem fw:HT=HH:=by rw[<-jy];funext f a;unfold HT HQ;rw[Ya]<;>rfl
theorem Nj(n:Nat):NY HT n=AR HH n:=by rw[fw,VT]
end
noncomputable section
noncomputable def oO(x:X):XL:=by
 induction x using X.casesOn with
 |or l=>exact l
 |call _ l=>exact l
 |_=>exact .nil
noncomputable def fW(x:X):X:=by
 induction x using X.casesOn with
 |q _ _ b=>exact b
 |_=>exact .c .none
noncomputable def oG(l:XL):X:=by
 induction l using XL.casesOn with
 |nil=>exact .c .none
 |cons x _=>exact x
noncomputable def qh(l:XL):XL:=by
 induction l using XL.casesOn with
 |nil=>exact .nil
 |cons _ r=>exact r
noncomputable def Lo:X×X:=(fW (oG (oO (xP 13))),fW (oG (qh (qh (oO (xP 13))))))
noncomputable def cE:Cs:=Mj [9,30]
noncomputable def cV:Cs:=Mj [8,10,11,12,13,15]
noncomputable def kW(v:Nat):Ev:=[(3,.int (.ofNat (2*v))),(14,DQ),(16,BV),(20,DQ)]
noncomputable def ln(o:Option Rs)(f:Ev->Bool):Bool:=oT o λr=>match r with
 |.nx a _=>f a
 |.ret _=>fG
theorem Tp{o:Option Rs}{f:Ev->Bool}{C:Prop}(h:ln o f=er)(k:∀a b,o=dD (.nx a b)->f a=er->C):C:=E1 h λr e h=>by
 induction r using Rs.casesOn with
 |nx a b=>exact k a b e h
 |ret _=>exact fT h
noncomputable def LJ(v:Nat):Bool:=ln (FX (NY HT 6) cV fG (kW v) []) λa=>Qa (a.get 21) JO
theorem dF:LJ 0=er:=by nofun
theorem bJ:LJ 1=er:=by nofun
theorem eV:LJ 2=er:=by nofun
theorem bW:LJ 3=er:=by nofun
theorem aM:LJ 4=er:=by nofun
theorem bQ:LJ 5=er:=by nofun
theorem bL:LJ 6=er:=by nofun
noncomputable def mi:Bool:=ln (FX (NY HT 6) cE fG [] []) λa=>Qa (a.get 16) BV&&Qa (a.get 35) JJ
theorem TS:mi=er:=by nofun
theorem nW:DI [] cE=er:=by nofun
theorem nO:DI [3,14,16,20] cV=er:=by nofun
theorem oK:DI [2,6,7,16,21,35] cT=er:=by nofun
theorem ml:DI [0,1,2,3,4,5] Am=er:=by nofun
end
noncomputable section
noncomputable def x24:X:=oG (oO (xP 24))
noncomputable def Hx:List Nat->List Nat->List Nat
 |[],b=>b
 |a,[]=>a
 |a::r,b::s=>si a b::Hx r s
theorem IF{b:List Nat}:Hx [] b=b:=rfl
theorem JT{x:Nat}{a:List Nat}:Hx (x::a) []=x::a:=rfl
theorem Gz{x y:Nat}{a b:List Nat}:Hx (x::a) (y::b)=si x y::Hx a b:=rfl
noncomputable def LF:Nat->List Nat->List Nat
 |0,p=>p
 |n+1,p=>0::LF n p
theorem Vu{x:List Nat}:LF 0 x=x:=rfl
theorem LX{x:List Nat}{n:Nat}:LF n.succ x=0::LF n x:=rfl
noncomputable def GK:Nat->List Nat->List Nat
 |0,p=>p
 |n+1,p=>GK n (Hx p (0::p))
theorem Po{x:List Nat}:GK 0 x=x:=rfl
theorem I4{x:List Nat}{n:Nat}:GK n.succ x=GK n (Hx x (0::x)):=rfl
noncomputable def RD:V->Option Nat
 |.int i=>match i with
  |.ofNat n=>dD n
  |.negSucc _=>eu
 |_=>eu
noncomputable def Nd:List V->List V->Option (List Nat)
 |[],[]=>dD []
 |v::a,u::b=>match RD v with
  |some r=>match RD u with
   |some d=>match Nd a b with
    |some p=>dD (Hx (LF r (GK d [1])) p)
    |none=>eu
   |none=>eu
  |none=>eu
 |_,_=>eu
noncomputable def Oo(o p:Option V):Bool:=oT (o.bind LG) λa=>oT (p.bind LG) λb=>oT (Nd a b) λq=>FW q [1,3,3,1]&&lf a.length 7
noncomputable def Vg(a b:Option V):Bool:=oT a λx=>oT b λy=>eG x y
noncomputable def nx(v:Nat):V:=match Eb (NY HT 6) (xP 8) [(3,.int (.ofNat (2*v)))]with
 |some w=>match Eb (NY HT 6) (xP 10) [(15,w),(16,BV)]with
  |some u=>u
  |none=>.none
 |none=>.none
noncomputable def Nu(a:V)(v:Nat):Bool:=(λu=>Vg (Eb (NY HT 6) Lo.1 [(14,a),(16,BV),(17,u)]) (Eb (NY HT 6) Lo.1 [(14,DQ),(16,BV),(17,u)])) (nx v)
noncomputable def Od(a:V):Bool:=Vg (Eb (NY HT 6) Lo.2 [(14,a),(16,BV)]) (Eb (NY HT 6) Lo.2 [(14,DQ),(16,BV)])
noncomputable def Dc(b l:List Nat)(p:Nat):Bool:=oT (Hs b p) λx=>oT (Hs l p) λy=>!(lf x y)
noncomputable def maskOf(b l:List Nat):List Bool:=[Dc b l 5,Dc b l 6,Dc b l 9,Dc b l 10]
noncomputable def Bq:List Bool->Nat
 |[]=>0
 |true::r=>uM (Bq r)
 |false::r=>Bq r
noncomputable def l6:List Bool->List Bool->List Bool
 |a::r,b::s=>(match a with
  |true=>!b
  |false=>b)::l6 r s
 |_,_=>[]
noncomputable def HP(a b:List Bool):Nat:=Bq (l6 a b)
noncomputable def Wc:List Bool->Nat
 |[]=>0
 |true::r=>uM (rF 2 (Wc r))
 |false::r=>rF 2 (Wc r)
noncomputable def M7:List Nat:=[0,1,8,9,11,13,15]
noncomputable def oz(o:Option V)(n:Nat):Bool:=o.bind O2==dD n
noncomputable def j7(d:List Bool)(A3:List Nat)(ks:List (List Nat))(e:List V)(a:List (List Nat))(c:List V)(b:List Nat):Bool:=
 lf b.length 16&&Kx (Wc (maskOf b A3)) M7&&oz (EQ b ks e) (HP d (maskOf b A3))&&oz (EQ b a c) (Bq (maskOf b A3))
noncomputable def Ky(a c f lo:Option V):Bool:=oT (a.bind LG) λa=>oT (C4 a) λl=>oT (c.bind Xp) λd=>oT (f.bind Xp) λe=>oT (lo.bind L3) λA3=>match l with
 |b::r=>lf r.length 6&&(lf A3.length 16&&(b::r).all (j7 (maskOf b A3) A3 d.1 d.2 e.1 e.2))
 |[]=>fG
noncomputable def SH(a:Ev):Bool:=Qa (a.get 29) Ca&&(Qa (a.get 20) DQ&&(Qa (Eb (NY HT 6) x24 a) (.l [.int 6,.int 12,.int 6,.int 6,.int 12])&&(Oo (a.get 36) (a.get 37)&&(Ky (a.get 13) (a.get 12) (a.get 10) (a.get 9)&&
 oT (a.get 14) λb=>Od b&& [0,1,2,3,4,5,6].all (Nu b)))))
noncomputable def B3(t:Nat):Bool:=ln (FX (NY HT 6) cT fG (jM t) []) SH
end
theorem nq:B3 0=er:=by nofun
theorem nI:B3 1=er:=by nofun
theorem nu:B3 2=er:=by nofun
theorem om:B3 3=er:=by nofun
theorem mW:B3 4=er:=by nofun
theorem ng:B3 5=er:=by nofun
theorem ow:B3 6=er:=by nofun
theorem pW:B3 7=er:=by nofun
theorem pH:B3 8=er:=by nofun
theorem ol:B3 9=er:=by nofun
theorem lE:B3 10=er:=by nofun
theorem jL:B3 11=er:=by nofun
theorem ju:B3 12=er:=by nofun
theorem gm:B3 13=er:=by nofun
theorem kC:B3 14=er:=by nofun
theorem hM:B3 15=er:=by nofun
theorem kV:B3 16=er:=by nofun
theorem ff:B3 17=er:=by nofun
theorem im:B3 18=er:=by nofun
theorem j9:B3 19=er:=by nofun
theorem gL:B3 20=er:=by nofun
theorem iw:B3 21=er:=by nofun
theorem gI:B3 22=er:=by nofun
theorem fx:B3 23=er:=by nofun
theorem gY:B3 24=er:=by nofun
theorem jn:B3 25=er:=by nofun
theorem i4:B3 26=er:=by nofun
theorem jr:B3 27=er:=by nofun
theorem iT:B3 28=er:=by nofun
theorem jo:B3 29=er:=by nofun
theorem gr:B3 30=er:=by nofun
theorem gg:B3 31=er:=by nofun
theorem jB:B3 32=er:=by nofun
theorem i8:B3 33=er:=by nofun
theorem iY:B3 34=er:=by nofun
theorem lC:B3 35=er:=by nofun
theorem jc:B3 36=er:=by nofun
theorem jF:B3 37=er:=by nofun
theorem fN:B3 38=er:=by nofun
theorem fz:B3 39=er:=by nofun
theorem jO:B3 40=er:=by nofun
theorem fh:B3 41=er:=by nofun
def qt(t:Nat):Prop:=B3 t=er
theorem X4(t:Nat):t<42->qt t:=AO (n:=41) fh (AO (n:=40) jO (AO (n:=39) fz (AO (n:=38) fN (AO (n:=37) jF (AO (n:=36) jc (AO (n:=35) lC (AO (n:=34) iY (AO (n:=33) i8 (AO (n:=32) jB (AO (n:=31) gg (AO (n:=30) gr (AO (n:=29) jo (AO (n:=28) iT (AO (n:=27) jr (AO (n:=26) i4 (AO (n:=25) jn (AO (n:=24) gY (AO (n:=23) fx (AO (n:=22) gI (AO (n:=21) iw (AO (n:=20) gL (AO (n:=19) j9 (AO (n:=18) im (AO (n:=17) ff (AO (n:=16) kV (AO (n:=15) hM (AO (n:=14) kC (AO (n:=13) gm (AO (n:=12) ju (AO (n:=11) jL (AO (n:=10) lE (AO (n:=9) ol (AO (n:=8) pH (AO (n:=7) pW (AO (n:=6) ow (AO (n:=5) ng (AO (n:=4) mW (AO (n:=3) om (AO (n:=2) nu (AO (n:=1) nI (AO (n:=0) nq Q6)))))))))))))))))))))))))))))))))))))))))
theorem eD(t:Nat)(h:t<42):B3 t=er:=X4 t h
noncomputable abbrev kl:Cl:=AR HH 6
theorem BR{P:Cm->Prop}:∀(l:List Nat),GJ P (Mj l)->∀k∈l,P (BH Am k)
 |[],_,k,a=>by cases a
 |i::r,h,k,a=>by
  rcases md.mp a with rfl|a
  ·exact h.1
  ·exact BR r h.2 k a
theorem U4{P:Cm->Prop}(b:Cs)(h:∀k,k<b.len->P (BH b k)):GJ P b:=by
 revert h
 refine Cs.rec (motive_1:=λz=>True) (motive_2:=λb=>(∀k,k<b.len->P (BH b k))->GJ P b) ?_ ?_ ?_ ?_ ?_ ?_ ?_ ?_ ?_ ?_ ?_ ?_ ?_ ?_ ?_ ?_ ?_ ?_ ?_ b<;>try (intros;trivial)
 intro c r _ a h;exact⟨h 0 (tG _),a λk d=>h (k+1) (AB8 d)⟩
theorem NG{e:Cl}{c:Cm}{f d:Ev}(g:Agree (Pt c++E9 c) f d)(h:Holds e f c):Holds e d c:=by
 induction c using Cm.casesOn with
 |ag t x=>
  have n:ev e x f=ev e x d:=Ay e x f d g.left;induction t using T.casesOn with
  |one i=>obtain⟨v,k,l⟩:=h;exact⟨v,n▸k,by rw[<-g i (by simp[E9,T.names])];exact l⟩
  |many w=>obtain⟨p,k,l,m⟩:=h;exact⟨p,n▸k,l,λj i v o q=>by rw[<-g i (tK _ (qk o))];exact m j i v o q⟩
 |sw i j x y=>obtain⟨u,v,k,l,m,r⟩:=h;exact⟨u,v,Ay e x f d g.left.left▸k,Ay e y f d g.left.right▸l,by rw[<-g i (by simp[E9])];exact m,by rw[<-g j (by simp[E9])];exact r⟩
 |ie x a b=>
  induction b using Cs.casesOn with
  |nil=>have s:tr (ev e x f)=dD fG:=h;show tr (ev e x d)=dD fG;rw[<-(Ay e x f d g.left)];exact s
  |cons=>exact h.elim
 |_=>exact h.elim
noncomputable def Oj(a:Ev):List Nat->Ev
 |[]=>[]
 |i::r=>match a.get i with
  |some v=>(i,v)::Oj a r
  |none=>Oj a r
theorem fv{a:Ev}{i:Nat}{r:List Nat}:Oj a (i::r)=
  match a.get i with
  |some v=>(i,v)::Oj a r
  |none=>Oj a r:=rfl
theorem Ey(a:Ev):∀(ks:List Nat) (i:Nat),(Oj a ks).get i=if i∈ks then a.get i else eu
 |[],i=>rfl
 |j::r,i=>by
  simp only[fv];cases h:a.get j with
  |none=>
   simp only[show(match(eu:Option V)with
    |some v=>(j,v)::Oj a r
    |none=>Oj a r)=Oj a r from rfl,Ey a r i]
   by_cases q:i=j
   ·subst q;rw[if_pos pg,h];split<;>rfl
   ·simp[q]
  |some v=>
   show(match lf j i with
    |true=>dD v
    |false=>(Oj a r).get i)=_
   by_cases q:i=j
   ·subst q;rw[xh,if_pos pg,h]
   ·have:lf j i=fG:=by
     cases e:lf j i with
     |false=>rfl
     |true=>exact absurd (lk e).symm q
    rw[this];show(Oj a r).get i=_;rw[Ey a r i];simp[q]
noncomputable def dV:List Nat->Cs->List Nat
 |D,.nil=>D
 |D,.cons c r=>dV (E9 c++D) r
theorem VO(h:Cl){a:Ev}:∀(b:Cs) (D:List Nat),DI D b=er->GJ (Holds h a) b->∀f,Agree D f a->∃e,AX h fG b f []=dD (.nx e [])/\Agree (dV D b) e a:=by
 intro b;refine Cs.rec (motive_1:=λz=>True) (motive_2:=λb=>∀(D:List Nat),DI D b=er->GJ (Holds h a) b->∀f,Agree D f a->∃e,AX h fG b f []=dD (.nx e [])/\Agree (dV D b) e a)
  ?_ ?_ ?_ ?_ ?_ ?_ ?_ ?_ ?_ ?_ ?_ ?_ ?_ ?_ ?_ ?_ ?_ ?_ ?_ b<;>try (intros;trivial)
 ·intro D _ _ f i;exact⟨f,by simp only[Ht],i⟩
 ·intro c r _ l D d g f i
  rewrite [LY]at d
  refine(ba d).elim λd m=>?_;refine(ba d).elim λd n=>?_;refine(ba d).elim λo p=>?_;obtain⟨j,q,s⟩:=MH h o p n g.1 i;obtain⟨k,t,u⟩:=l (E9 c++D) m g.2 j s;exact⟨k,by simp only[GG,q];exact t,u⟩
theorem LP(b:Cs)(a:Ev):FX (NY HT 6) b fG a []=AX kl fG b a []:=by rw[IB,Nj]
theorem HJ(x:X)(a:Ev):Eb (NY HT 6) x a=ev kl x a:=by rw[Ae,Nj]
theorem bx{t:Nat}(h:t<42):∃a,GJ (Holds kl a) cT/\Agree [2,6,7,16,21,35] (jM t) a/\SH a=er:=by have b:=eD t h;refine Tp b λa c e b=>?_;rw[LP]at e;exact(H3 kl cT _ _ _ _ oK e).elim λz q=>⟨a,q.2,q.1,b⟩
def qo(v:Nat):Prop:=LJ v=er
theorem Ri{v:Nat}:v<7->qo v:=AO (n:=6) bL (AO (n:=5) bQ (AO (n:=4) aM (AO (n:=3) bW (AO (n:=2) eV (AO (n:=1) bJ (AO (n:=0) dF Q6))))))
theorem Tt{v:Nat}(h:v<7):LJ v=er:=Ri h
theorem eT{v:Nat}(h:v<7):∃a,GJ (Holds kl a) cV/\Agree [3,14,16,20] (kW v) a/\a.get 21=dD JO:=by have b:=Tt h;refine Tp b λa c e b=>?_;rw[LP]at e;exact(H3 kl cV _ _ _ _ nO e).elim λz q=>⟨a,q.2,q.1,Cn b⟩
theorem d4:∃b,GJ (Holds kl b) cE/\b.get 16=dD BV/\b.get 35=dD JJ:=by have a:=TS;refine Tp a λb c e a=>?_;rw[LP]at e;have a:=nM.mp a;exact(H3 kl cE _ _ _ _ nW e).elim λz q=>⟨b,q.2,Cn a.1,Cn a.2⟩
theorem Qw{a d:Type}(f:a->d)(b:List a)(lo c st:Option Int):Hm (b.map f) lo c st=(Hm b lo c st).map f:=by unfold Hm;rw[px,List.map_filterMap];congr 1;funext j;rw[uF]
noncomputable def OJ(a:List Int)(k:Int):List Int:=Hm a (dD k) (dD 60) (dD 5)
theorem Py(a:List Int)(k:Int)(d:0<=k)(f:a.length<=63):(OJ a k).length<=20:=by
 unfold OJ Hm;refine mE (List.length_filterMap_le _ _) ?_;have e:vy (dD k) (dD 60) (dD 5) a.length=(max 0 (min k (a.length:Int)),max 0 (min 60 (a.length:Int)),5):=by
  unfold vy;have g:¬k<0:=by lia
  simp[g]
 simp only[e];unfold ACP;simp only[px,ABT];rw[if_pos (by decide)];split
 ·have b:=Int.le_max_left 0 (min k (a.length:Int));have c:max 0 (min 60 (a.length:Int))<=60:=ADo.mpr ⟨by decide,Int.min_le_left _ _⟩
  revert b c
  generalize max 0 (min k (a.length:Int))=x;generalize max 0 (min 60 (a.length:Int))=y;clear d f e;intro b c
  lia
 ·decide
noncomputable def Ou(l:List Int):Int:=sumZ (l.map λx:Int=>x.fmod 5040)
theorem IV:∀l:List Int,0<=Ou l/\Ou l<=5040*l.length
 |[]=>by decide
 |x::r=>by
  have h:=IV r;have e:Ou (x::r)=x.fmod 5040+Ou r:=rfl;rw[e];exact⟨Int.add_nonneg (AAZ x (by decide)) h.1,wg (Int.add_le_add (yS (ABg x (by decide))) h.2) (Int.le_of_eq (by rw[wf];exact(zB 5040 (r.length:Int) 1).symm))⟩
theorem P8:∀l:List Int,Ai (.one 1) [] (λa=>BD (Hk kl .no a) (Jl kl .nil a λb=>Mine.Internal.one (ev kl (.b .Mod (.v 1) (.c (.int 5040))) b))) (l.map V.int)=dD ((l.map λx:Int=>x.fmod 5040).map V.int)
 |[]=>rfl
 |x::r=>by
  rw[pj,FR];have d:((5040:Int) != 0)=er:=by decide
  simp only[(rfl),Yi,BD,et,C6,Af,Do,AC,lf,Aj,AD,binI,d,if_true,Mine.Internal.one];have c:=P8 r;simp only[Yi,BD,et,C6,Af,Do,Aj,AD,binI,Mine.Internal.one]at c;simp only[c];rfl
noncomputable def Cc(a:List Int)(k c:Nat):Nat:=c+(Ou (OJ a k)).toNat
theorem Tf(a:List Int)(k c:Nat):(c:Int)+Ou (OJ a k)=(Cc a k c:Int):=by unfold Cc;rw[Int.natCast_add,ABL (IV (OJ a k)).1]
theorem TU(a:List Int)(k c:Nat)(b:a.length<=63):Cc a k c<=c+110000:=by unfold Cc;have h:=IV (OJ a k);have d:=Py a k (pP _) b;exact qf (yT.mpr (wg h.2 (wg (Int.mul_le_mul_of_nonneg_left (tD.mpr d) (by decide)) (by decide)))) c
noncomputable def mG:X:=.sl (.v 4) (.yes (.v 1)) (.yes (.c (.int 60))) (.yes (.c (.int 5)))
noncomputable def U3:X:=.b .Add (.v 2) (.bi .sum (.cons (.cm (.b .Mod (.v 1) (.c (.int 5040))) (.one 1) (.val mG) .no .nil []) .nil))
theorem Xn:T8=.cm U3 (.many [1,2]) (.en (.t (.cons (.c (.int 92)) (.cons (.c (.int 26)) (.cons (.c (.int 51)) (.cons (.c (.int 1)) (.cons (.c (.int 1234)) .nil))))))) .no .nil [(4,0)]:=rfl
theorem NV(l:List Int):Ju .sum [.l (l.map V.int)]=dD (.int (sumZ l)):=by
 have h:∀l:List Int,BX (l.map V.int)=dD l:=λl=>by
  induction l with
  |nil=>rfl
  |cons x r a=>simp only[pj,TM,a];rfl
 show(match BX (l.map V.int)with
  |some l=>dD (V.int (sumZ l))
  |none=>eu)=_
 rw[h]
theorem aW(a:List Int)(d:a.length<=63)(k c:Nat):ev kl U3 [(4,.l (a.map V.int)),(1,.int k),(2,.int c)]=dD (.int (Cc a k c)):=by
 have e:A5 (a.map V.int)=er:=by unfold A5;exact mK (by rw[px];lia)
 have f:ev kl mG [(4,.l (a.map V.int)),(1,.int k),(2,.int c)]=dD (.l ((OJ a k).map V.int)):=by
  unfold mG;simp only[C6,Af,Lc,Xc,AC,lf,Fc,Lm,R6,e];have:((5:Int) != 0)=er:=by decide
  rw[this];show dD (V.l (Hm (a.map V.int) (dD (k:Int)) (dD 60) (dD 5)))=_;rw[Qw];rfl
 have b:A5 ((OJ a k).map λx:Int=>x.fmod 5040)=er:=by unfold A5;have:=Py a k (pP _) d;exact mK (by rw[px];lia)
 have g:ev kl (.cm (.b .Mod (.v 1) (.c (.int 5040))) (.one 1) (.val mG) .no .nil []) [(4,.l (a.map V.int)),(1,.int k),(2,.int c)]=dD (.l (((OJ a k).map λx:Int=>x.fmod 5040).map V.int)):=by
  simp only[LD,Zu,f];show EV (Ai (.one 1) [] _ ((OJ a k).map V.int))=_;rw[P8];show(match A5 (((OJ a k).map λx:Int=>x.fmod 5040).map V.int)with
   |true=>dD (V.l (((OJ a k).map λx:Int=>x.fmod 5040).map V.int))
   |false=>eu)=_
  have h:A5 (((OJ a k).map λx:Int=>x.fmod 5040).map V.int)=er:=by unfold A5 at b⊢;rw[px];exact b
  rw[h]
 unfold U3;simp only[Do,Af,FU,Bj,Bt,g];show Aj (AD .Add) (dD (.int (c:Int))) (Ju .sum [.l (((OJ a k).map λx:Int=>x.fmod 5040).map V.int)])=_;rw[NV];show dD (V.int ((c:Int)+Ou (OJ a k)))=_;rw[Tf]
theorem iH(a:List Int)(f:a.length<=63):ev kl T8 [(0,.l (a.map V.int))]=dD (.l [.int (Cc a 0 92),.int (Cc a 1 26),.int (Cc a 2 51),.int (Cc a 3 1),.int (Cc a 4 1234)]):=by have e:∀(k c:Nat),ev kl U3 [(4,.l (a.map V.int)),(1,.int (k:Int)),(2,.int (c:Int))]=dD (.int (Cc a k c)):=aW a f;simp only[Xn];simp only[C6,ER,LD,cW,Bt,Bj,Hw,A5,Rk,E7,C2,AC,lf,pJ,List.length_nil];show EV (Ai (.many [1,2]) [(4,V.l (a.map V.int))] (λb=>BD (Hk kl .no b) (Jl kl .nil b λd=>Mine.Internal.one (ev kl U3 d))) [.t [.int (0:Nat),.int (92:Nat)],.t [.int (1:Nat),.int (26:Nat)],.t [.int (2:Nat),.int (51:Nat)],.t [.int (3:Nat),.int (1:Nat)],.t [.int (4:Nat),.int (1234:Nat)]])=_;have g:∀k c:Nat,EM (.many [1,2]) (.t [.int (k:Int),.int (c:Int)]) [(4,V.l (a.map V.int))]=dD [(4,.l (a.map V.int)),(1,.int (k:Int)),(2,.int (c:Int))]:=λz z=>rfl;simp only[LO,FR,g,Yi,BD,et,(e 0 92),(e 1 26),(e 2 51),(e 3 1),(e 4 1234),Mine.Internal.one];rfl
noncomputable section
noncomputable def S'(o:Option V):Bool:=Qa o (.t [Cq,HZ])
theorem QE{o:Option V}(h:S' o=er):o=dD (.t [Cq,HZ]):=Cn h
noncomputable def cF(x y z:Nat):Bool:=S' (NY HT 6 17 [.int (.ofNat x),.int (.ofNat y),.int (.ofNat z)])
noncomputable def AJ(x y:Nat):Nat->Bool
 |0=>er
 |z+1=>cF x y z&&AJ x y z
theorem UR:AJ 1 0 1=er:=by nofun
theorem Ru:AJ 1 1 1=er:=by nofun
theorem U6:AJ 1 2 1=er:=by nofun
theorem Vt:AJ 1 3 1=er:=by nofun
theorem SD:AJ 1 4 1=er:=by nofun
theorem Uf:AJ 1 5 1=er:=by nofun
theorem SO:AJ 1 6 1=er:=by nofun
theorem Sg:AJ 1 7 1=er:=by nofun
theorem UX:AJ 1 8 1=er:=by nofun
theorem V8:AJ 2 0 2=er:=by nofun
theorem VV:AJ 2 1 2=er:=by nofun
theorem UV:AJ 2 2 2=er:=by nofun
theorem W3:AJ 2 3 2=er:=by nofun
theorem TD:AJ 2 4 2=er:=by nofun
theorem WH:AJ 2 5 2=er:=by nofun
theorem Uh:AJ 2 6 2=er:=by nofun
theorem Ta:AJ 2 7 2=er:=by nofun
theorem WG:AJ 2 8 2=er:=by nofun
theorem V4:AJ 3 0 3=er:=by nofun
theorem Tg:AJ 3 1 3=er:=by nofun
theorem UA:AJ 3 2 3=er:=by nofun
theorem TX:AJ 3 3 3=er:=by nofun
theorem Rn:AJ 3 4 3=er:=by nofun
theorem Ua:AJ 3 5 3=er:=by nofun
theorem RW:AJ 3 6 3=er:=by nofun
theorem UC:AJ 3 7 3=er:=by nofun
theorem Sr:AJ 3 8 3=er:=by nofun
theorem Sq:AJ 4 0 4=er:=by nofun
theorem Uu:AJ 4 1 4=er:=by nofun
theorem Vm:AJ 4 2 4=er:=by nofun
theorem Rr:AJ 4 3 4=er:=by nofun
theorem US:AJ 4 4 4=er:=by nofun
theorem UW:AJ 4 5 4=er:=by nofun
theorem TN:AJ 4 6 4=er:=by nofun
theorem VF:AJ 4 7 4=er:=by nofun
theorem VL:AJ 4 8 4=er:=by nofun
theorem UB:AJ 5 0 5=er:=by nofun
theorem Vd:AJ 5 1 5=er:=by nofun
theorem Tx:AJ 5 2 5=er:=by nofun
theorem V':AJ 5 3 5=er:=by nofun
theorem Vw:AJ 5 4 5=er:=by nofun
theorem W0:AJ 5 5 5=er:=by nofun
theorem VS:AJ 5 6 5=er:=by nofun
theorem V2:AJ 5 7 5=er:=by nofun
theorem Sk:AJ 5 8 5=er:=by nofun
theorem UY:AJ 6 0 6=er:=by nofun
theorem UD:AJ 6 1 6=er:=by nofun
theorem VU:AJ 6 2 6=er:=by nofun
theorem SV:AJ 6 3 6=er:=by nofun
theorem UT:AJ 6 4 6=er:=by nofun
theorem WD:AJ 6 5 6=er:=by nofun
theorem TL:AJ 6 6 6=er:=by nofun
theorem U0:AJ 6 7 6=er:=by nofun
theorem UG:AJ 6 8 6=er:=by nofun
theorem UI:AJ 7 0 7=er:=by nofun
theorem Ur:AJ 7 1 7=er:=by nofun
theorem W9:AJ 7 2 7=er:=by nofun
theorem Vb:AJ 7 3 7=er:=by nofun
theorem U2:AJ 7 4 7=er:=by nofun
theorem VH:AJ 7 5 7=er:=by nofun
theorem WI:AJ 7 6 7=er:=by nofun
theorem Tj:AJ 7 7 7=er:=by nofun
theorem Us:AJ 7 8 7=er:=by nofun
theorem UH:AJ 8 0 8=er:=by nofun
theorem TZ:AJ 8 1 8=er:=by nofun
theorem Sm:AJ 8 2 8=er:=by nofun
theorem Uy:AJ 8 3 8=er:=by nofun
theorem Ug:AJ 8 4 8=er:=by nofun
theorem Vv:AJ 8 5 8=er:=by nofun
theorem Um:AJ 8 6 8=er:=by nofun
theorem Uq:AJ 8 7 8=er:=by nofun
theorem Vk:AJ 8 8 8=er:=by nofun
def Zf(x y:Nat):Prop:=AJ x y x=er
theorem cj(y:Nat):y<9->Zf 1 y:=AO (n:=8) UX (AO (n:=7) Sg (AO (n:=6) SO (AO (n:=5) Uf (AO (n:=4) SD (AO (n:=3) Vt (AO (n:=2) U6 (AO (n:=1) Ru (AO (n:=0) UR Q6))))))))
theorem eI(y:Nat):y<9->Zf 2 y:=AO (n:=8) WG (AO (n:=7) Ta (AO (n:=6) Uh (AO (n:=5) WH (AO (n:=4) TD (AO (n:=3) W3 (AO (n:=2) UV (AO (n:=1) VV (AO (n:=0) V8 Q6))))))))
theorem dw(y:Nat):y<9->Zf 3 y:=AO (n:=8) Sr (AO (n:=7) UC (AO (n:=6) RW (AO (n:=5) Ua (AO (n:=4) Rn (AO (n:=3) TX (AO (n:=2) UA (AO (n:=1) Tg (AO (n:=0) V4 Q6))))))))
theorem bR(y:Nat):y<9->Zf 4 y:=AO (n:=8) VL (AO (n:=7) VF (AO (n:=6) TN (AO (n:=5) UW (AO (n:=4) US (AO (n:=3) Rr (AO (n:=2) Vm (AO (n:=1) Uu (AO (n:=0) Sq Q6))))))))
theorem en(y:Nat):y<9->Zf 5 y:=AO (n:=8) Sk (AO (n:=7) V2 (AO (n:=6) VS (AO (n:=5) W0 (AO (n:=4) Vw (AO (n:=3) V' (AO (n:=2) Tx (AO (n:=1) Vd (AO (n:=0) UB Q6))))))))
theorem eH(y:Nat):y<9->Zf 6 y:=AO (n:=8) UG (AO (n:=7) U0 (AO (n:=6) TL (AO (n:=5) WD (AO (n:=4) UT (AO (n:=3) SV (AO (n:=2) VU (AO (n:=1) UD (AO (n:=0) UY Q6))))))))
theorem dI(y:Nat):y<9->Zf 7 y:=AO (n:=8) Us (AO (n:=7) Tj (AO (n:=6) WI (AO (n:=5) VH (AO (n:=4) U2 (AO (n:=3) Vb (AO (n:=2) W9 (AO (n:=1) Ur (AO (n:=0) UI Q6))))))))
theorem cM(y:Nat):y<9->Zf 8 y:=AO (n:=8) Vk (AO (n:=7) Uq (AO (n:=6) Um (AO (n:=5) Vv (AO (n:=4) Ug (AO (n:=3) Uy (AO (n:=2) Sm (AO (n:=1) TZ (AO (n:=0) UH Q6))))))))
def r6(y x:Nat):Prop:=0<x->AJ x y x=er
theorem Qe(x y:Nat)(a:y<9):x<9->r6 y x:=AO (n:=8) (λz=>cM y a) (AO (n:=7) (λz=>dI y a) (AO (n:=6) (λz=>eH y a) (AO (n:=5) (λz=>en y a) (AO (n:=4) (λz=>bR y a) (AO (n:=3) (λz=>dw y a) (AO (n:=2) (λz=>eI y a) (AO (n:=1) (λz=>cj y a) (AO (n:=0) (λh=>absurd h (vH 0)) Q6))))))))
theorem WA(x y:Nat)(a:0<x)(b:x<=8)(c:y<9):AJ x y x=er:=Qe x y c (ABu b) a
theorem U8{x y n:Nat}:∀{z:Nat},AJ x y n=er->z<n->cF x y z=er:=by
 induction n with
 |zero=>exact λw h=>absurd h (zC _)
 |succ n a=>intro z h;have h:=nM.mp h;exact AO (P:=λz=>cF x y z=er) h.1 (a h.2)
theorem R4{x y z:Nat}(a:x<=8)(b:y<9)(c:z<x):AR HH 6 17 [.int (x:Int),.int (y:Int),.int (z:Int)]=dD (.t [Cq,HZ]):=by rw[<-Nj];exact QE (U8 (WA x y (by omega) a b) c)
end
theorem nt:xP 0=(.call 17 (.cons (.b .Add (.c (.int 1)) (.b .Mod (.v 1) (.c (.int 8)))) (.cons (.b .Mod (.b .FloorDiv (.v 1) (.c (.int 8))) (.c (.int 9))) (.cons (.b .Mod (.b .FloorDiv (.v 1) (.c (.int 72))) (.b .Add (.c (.int 1)) (.b .Mod (.v 1) (.c (.int 8))))) .nil)))):=rfl
theorem pY:xP 1=(.b .Mult (.c (.int 1680)) (.b .Add (.c (.int 1)) (.b .Mod (.v 2) (.c (.int 2))))):=rfl
theorem nA:xP 2=(.me (.c (.str [])) .join (.cons (.cm (.sub (.c (.str [48,49,50])) (.b .Mod (.b .Add (.b .FloorDiv (.v 5) (.c (.int 2))) (.b .Mult (.b .Add (.c (.int 1)) (.b .Mod (.v 5) (.c (.int 2)))) (.bi .abs (.cons (.b .Sub (.v 1) (.v 2)) .nil)))) (.c (.int 3)))) (.one 1) (.rg (.cons (.c (.int 4)) .nil)) .no (.cons (.one 2) (.rg (.cons (.c (.int 4)) .nil)) .no .nil) [(5,2)]) .nil)):=rfl
theorem nN:xP 4=(.sub (.bi .list (.cons (.v 10) .nil)) (.b .Mod (.b .FloorDiv (.v 2) (.c (.int 6))) (.c (.int 7)))):=rfl
theorem pK:xP 8=(.sub (.t (.cons (.c (.str [])) (.cons (.c (.str [45])) (.cons (.c (.str [92,41])) (.cons (.c (.str [34,41,34])) (.cons (.c (.str [34,92,34,40,34])) (.cons (.c (.str [92,92])) (.cons (.c (.str [92,34])) .nil)))))))) (.b .Mod (.b .FloorDiv (.v 3) (.c (.int 2))) (.c (.int 7)))):=rfl
theorem fF:xP 25=(.call 7 (.cons (.v 29) (.cons (.v 26) .nil))):=rfl
theorem lT:xP 26=(.b .Mod (.v 5) (.v 31)):=rfl
theorem gR:xP 27=(.l (.cons (.call 9 (.cons (.b .Mult (.v 27) (.b .Add (.v 30) (.v 32))) (.cons (.b .Mult (.v 27) (.v 31)) .nil))) (.cons (.call 9 (.cons (.b .Mult (.neg (.v 27)) (.b .Add (.v 30) (.v 32))) (.cons (.b .Mult (.v 27) (.v 31)) .nil))) .nil))):=rfl
theorem jY:xP 28=(.or (.cons (.q (.v 33) .NotEq (.l (.cons (.t (.cons (.c (.int 6)) (.cons (.b .Mult (.v 27) (.v 32)) .nil))) (.cons (.ite (.q (.v 32) .Gt (.c (.int 0))) (.t (.cons (.neg (.c (.int 7))) (.cons (.b .Mult (.v 27) (.b .Sub (.v 31) (.v 32))) .nil))) (.t (.cons (.neg (.c (.int 6))) (.cons (.c (.int 0)) .nil)))) .nil)))) (.cons (.q (.call 6 (.cons (.v 31) (.cons (.v 26) .nil))) .NotEq (.v 29)) .nil))):=rfl
theorem jg:xP 29=(.b .Mult (.b .Sub (.b .Mod (.v 4) (.c (.int 9))) (.c (.int 4))) (.b .Pow (.b .Add (.b .Pow (.c (.int 10)) (.c (.int 9))) (.v 5)) (.b .Mod (.b .FloorDiv (.v 4) (.c (.int 9))) (.c (.int 2))))):=rfl
theorem kK:xP 34=(.ite (.q (.v 34) .NotEq (.neg (.c (.int 1)))) (.b .Mod (.v 5) (.b .Pow (.b .Add (.c (.int 1)) (.v 34)) (.c (.int 3)))) (.c (.int 0))):=rfl
theorem hS:BH Am 21=.sw 26 27 (.b .Add (.c (.int 2)) (.b .Mod (.b .FloorDiv (.v 3) (.c (.int 14))) (.c (.int 8)))) (.b .Sub (.c (.int 1)) (.b .Mult (.b .Mod (.v 3) (.c (.int 2))) (.c (.int 2)))):=rfl
noncomputable def q0:X:=(.q (.v 33) .NotEq (.ite (.q (.v 34) .NotEq (.neg (.c (.int 1)))) (.t (.cons (.c (.int 1)) (.cons (.v 39) .nil))) (.t (.cons (.c (.str [114,101,102,117,115,101,100])) (.cons (.c (.int 0)) .nil)))))
noncomputable def q1:X:=(.cm (.sub (.c (.str [97,98,107,122])) (.b .Mod (.b .FloorDiv (.v 2) (.b .Pow (.c (.int 4)) (.b .Add (.v 1) (.c (.int 1))))) (.c (.int 4)))) (.one 1) (.rg (.cons (.c (.int 4)) .nil)) .no .nil [(2,5)])
noncomputable def q2:X:=(.cm (.me (.c (.str [])) .join (.cons (.cm (.ite (.q (.sub (.v 3) (.v 2)) .NotEq (.sub (.v 4) (.v 2))) (.me (.sub (.v 5) (.v 1)) .upper .nil) (.sub (.v 5) (.v 1))) (.many [1,2]) (.en (.t (.cons (.c (.int 5)) (.cons (.c (.int 6)) (.cons (.c (.int 9)) (.cons (.c (.int 10)) .nil)))))) .no .nil [(3,1),(4,3),(5,4)]) .nil)) (.one 1) (.val (.v 13)) .no .nil [(3,9),(4,40)])
noncomputable def q3:X:=(.cm (.me (.c (.str [])) .join (.cons (.cm (.ite (.q (.sub (.v 3) (.v 2)) .Eq (.sub (.v 5) (.v 2))) (.sub (.v 6) (.v 1)) (.b .Mult (.c (.str [120])) (.b .Mod (.v 4) (.c (.int 2))))) (.many [1,2]) (.en (.t (.cons (.c (.int 5)) (.cons (.c (.int 6)) (.cons (.c (.int 9)) (.cons (.c (.int 10)) .nil)))))) .no .nil [(3,2),(4,1),(5,4),(6,5)]) .nil)) (.many [1,2]) (.en (.v 13)) .no .nil [(4,9),(5,40)])
noncomputable def q4:X:=(.b .Add (.cm (.t (.cons (.sub (.v 5) (.c (.int 0))) (.cons (.sub (.v 5) (.v 1)) (.cons (.b .Sub (.b .Add (.sub (.v 2) (.sub (.v 3) (.v 1))) (.b .Mod (.v 4) (.c (.int 4)))) (.c (.int 1))) .nil)))) (.one 1) (.rg (.cons (.c (.int 7)) .nil)) .no .nil [(2,12),(3,13),(4,5),(5,41)]) (.cm (.t (.cons (.me (.c (.str [])) .join (.cons (.v 6) .nil)) (.cons (.sub (.v 3) (.v 1)) (.cons (.b .Add (.b .Mult (.c (.int 2)) (.sub (.v 5) (.sub (.v 2) (.v 1)))) (.b .Mod (.v 4) (.c (.int 3)))) .nil)))) (.one 1) (.rg (.cons (.c (.int 7)) .nil)) .no .nil [(2,13),(3,42),(4,5),(5,10),(6,40)]))
noncomputable def q5:X:=(.q (.cm (.call 16 (.cons (.v 1) (.cons (.v 2) (.cons (.v 3) .nil)))) (.many [1,2,3]) (.val (.v 43)) .no .nil []) .Eq (.b .Add (.cm (.sub (.v 2) (.v 1)) (.one 1) (.val (.v 13)) .no .nil [(2,12)]) (.cm (.b .Mult (.c (.int 2)) (.sub (.v 2) (.v 1))) (.one 1) (.val (.v 13)) .no .nil [(2,10)])))
theorem post_eq:GN=.cons (.ie q0 (.cons (.ret (.c (.bool fG))) .nil) .nil) (.cons (.ag (.one 40) q1) (.cons (.ag (.one 41) q2) (.cons (.ag (.one 42) q3) (.cons (.ag (.one 43) q4) (.cons (.ret q5) .nil))))):=rfl
theorem bU(a b:Int)(h:a<=b):decide (a<=b)=er:=decide_eq_true h
theorem ZY(x b:Nat):(x:Int).fdiv (b:Int)=((x/b:Nat):Int):=by rw[tw _ (pP _)];rfl
theorem VY(x b:Nat):(x:Int).fmod (b:Int)=((x%b:Nat):Int):=by rw[Int.fmod_eq_emod_of_nonneg _ (pP _)];rfl
theorem rP:RT 3=dD (.int 4000):=rfl
theorem iz{c:Cl}{x b n:Nat}(f:0<b)(a:b<2^4000)(g:po (x:Int)<=4000):Dg c CW [.int x,.int b,.int n]=dD (.t [.int (x/b:Nat),.int (x%b:Nat)]):=by
 have d:(((po (x:Int):Nat):Int)-(n:Int)<=4000):=by lia
 have e:((b:Int) != 0)=er:=by simp;lia
 unfold Dg CW;simp only[DG,Ct,GG,Ef,DS,Af,RS,Do,DW,FU,Gl,Bt,Bj,sg,AC,lf,Aj,AD,binI,Qt,rP,Cd,Mk,Nx,Ao,tr,AI,bU _ _ d,Ju,e,(B8 a),rt,if_true,Es,ZY,VY]
noncomputable def Ft(b n:Nat):Nat->List Nat->List Nat×Nat
 |r,[]=>([],r)
 |r,d::L=>((r*2^n+d)/b::(Ft b n ((r*2^n+d)%b) L).1,(Ft b n ((r*2^n+d)%b) L).2)
theorem Gs{b n x:Nat}:Ft b n x []=([],x):=rfl
theorem Eg{b n x d:Nat}{L:List Nat}:Ft b n x (d::L)=
  ((x*2^n+d)/b::(Ft b n ((x*2^n+d)%b) L).fst,(Ft b n ((x*2^n+d)%b) L).snd):=rfl
noncomputable def Co(n:Nat):Nat->List Nat->Nat
 |r,[]=>r
 |r,d::L=>Co n (r*2^n+d) L
theorem SR{n x:Nat}:Co n x []=x:=rfl
theorem G5{n x d:Nat}{L:List Nat}:Co n x (d::L)=Co n (x*2^n+d) L:=rfl
theorem II(b n:Nat):∀(L:List Nat) (r:Nat),(Ft b n r L).1.length=L.length
 |[],_=>rfl
 |d::L,r=>by simp[Gs,Eg,II b n L]
theorem En(n:Nat):∀(L:List Nat) (r:Nat),Co n r L=r*2^(n*L.length)+Co n 0 L
 |[],r=>by simp[SR,G5]
 |d::L,r=>by
  rw[G5,G5,En n L (r*2^n+d),En n L (0*2^n+d),pJ,AC8,xD];simp only[AC9,tZ,x7];rw[ACu,uI (2^n),wM]
theorem PK(b n:Nat)(a:0<b):∀(L:List Nat) (r:Nat),r<b->Co n r L=Co n 0 (Ft b n r L).1*b+(Ft b n r L).2/\(Ft b n r L).2<b
 |[],r,h=>by simp[SR,G5,Gs,Eg];exact h
 |d::L,r,h=>by
  have c:=PK b n a L ((r*2^n+d)%b) (qY _ a);refine⟨?_,c.2⟩;rw[G5,Eg];simp only;simp only[G5,AC9,tZ,En n _ ((r*2^n+d)/b),II,En n L (r*2^n+d)];have e:=c.1;rw[En n L]at e;have f:=zN (r*2^n+d) b;generalize g:r*2^n+d=x at*;generalize i:2^(n*L.length)=P at*;rw[x7,wM,<-e];have:x*P=x/b*P*b+x%b*P:=by
   have:x/b*P*b=b*(x/b)*P:=by rw[Nat.mul_right_comm,uI (x/b) b]
   rw[this,<-x7,f]
  lia
theorem IX(b n:Nat)(c:0<b):∀(L:List Nat) (r:Nat),r<b->(∀d∈L,d<2^n)->∀q∈(Ft b n r L).1,q<2^n
 |[],r,_,_,q,a=>by simp[Gs,Eg]at a
 |d::L,r,h,hd,q,a=>by
  simp only[Eg]at a;rw[md]at a;rcases a with rfl|a
  ·rw[AAj c];have f:=hd d pg;have:(r+1)*2^n<=b*2^n:=u7 _ h;rw[x7,AAp]at this;exact nR (we f _) (uI (2^n) b▸this)
  ·exact IX b n c L _ (qY _ c) (λd e=>hd d (oP _ e)) q a
noncomputable def iN(n:Nat):V:=.int (n:Int)
noncomputable def Hl:Cs:=.cons (.ag (.many [7,4]) (.call 4 (.cons (.b .Add (.b .LShift (.v 4) (.v 2)) (.v 6)) (.cons (.v 1) (.cons (.v 2) .nil))))) (.cons (.app 5 (.v 7)) .nil)
theorem Wr(r n:Nat):((r:Int)*2^n:Int)=((r*2^n:Nat):Int):=by rw[xm];simp
theorem ZW{k:Cl}{b n:Nat}(u:0<b)(g:b<2^300)(o:n<=300)(w:∀x:Nat,x<2^600->k 4 [iN x,iN b,iN n]=dD (.t [iN (x/b),iN (x%b)])):
  ∀(L:List Nat) (a:Ev) (r:Nat) (c:List Nat),a.get 1=dD (iN b)->a.get 2=dD (iN n)->a.get 4=dD (iN r)->r<b->(∀d∈L,d<2^n)->c.length+L.length<=8->
   ∃e,As (.one 6) (λf i=>AX k er Hl f i) (L.map iN) a [(5,.l (c.map iN))]=dD (.nx e [(5,.l ((c++(Ft b n r L).1).map iN))])/\e.get 2=dD (iN n)/\e.get 4=dD (iN (Ft b n r L).2)
 |[],a,r,c,_,m,p,_,_,_=>⟨a,by simp[YI,I5,Gs,Eg],m,by simp[Gs,Eg,p]⟩
 |d::L,a,r,c,y,m,p,z,hd,A=>by
  have q:=hd d pg;have G:r*2^n+d<2^600:=by have B:(r+1)*2^n<=b*2^n:=u7 _ z;rw[x7,AAp]at B;have H:b*2^n<2^300*2^300:=Nat.mul_lt_mul_of_lt_of_le g (rv (by decide) o) (xj _);exact nR (we q _) (mE B (mE (nV H) (uJ (xD 2 300 300).symm)))
  have I:decide ((0:Int)<=(n:Int))=er:=decide_eq_true (pP _);have J:decide ((n:Int)<=1000000)=er:=decide_eq_true (tD.mpr (mE o (by decide)));have M:(r:Int)*2^n+(d:Int)=((r*2^n+d:Nat):Int):=by rw[Wr];rfl
  have C:A5 (c.map iN)=er:=by unfold A5;exact mK (by rw[px];simp at A;lia)
  have l:=w _ G;simp only[iN]at l;obtain⟨e,N,O,Q⟩:=ZW u g o w L (((a.put 6 (iN d)).put 7 (iN ((r*2^n+d)/b))).put 4 (iN ((r*2^n+d)%b))) ((r*2^n+d)%b) (c++ [(r*2^n+d)/b]) (by simp[Ev.get_put,y]) (by simp[Ev.get_put,m]) (by simp[Ev.get_put]) (qY _ u) (λU h=>hd U (oP _ h)) (by simp at A⊢;lia);refine⟨e,?_,O,Q⟩;simp only[pj,I5];have j:AX k er Hl (a.put 6 (iN d)) [(5,.l (c.map iN))]=dD (.nx (((a.put 6 (iN d)).put 7 (iN ((r*2^n+d)/b))).put 4 (iN ((r*2^n+d)%b))) [(5,.l ((c++ [(r*2^n+d)/b]).map iN))]):=by
   have q1:(a.put 6 (iN d)).get 1=dD (.int b):=by simp[Ev.get_put,y,iN]
   have q2:(a.put 6 (iN d)).get 2=dD (.int n):=by simp[Ev.get_put,m,iN]
   have q4:(a.put 6 (iN d)).get 4=dD (.int r):=by simp[Ev.get_put,p,iN]
   have D:(a.put 6 (iN d)).get 6=dD (.int d):=by simp[Ev.get_put,iN]
   have E:(((a.put 6 (iN d)).put 7 (iN ((r*2^n+d)/b))).put 4 (iN ((r*2^n+d)%b))).get 7=dD (iN ((r*2^n+d)/b)):=by simp[Ev.get_put]
   simp only[iN]at q1 q2 q4 D E C;unfold Hl;simp only[Ht,GG,RV,pu,Af,Do,Dz,Bt,Bj,T.names,Dk,Bz,DN,AC,lf,q1,q2,q4,D,Aj,AD,binI,(B8 (qS z (qS g (qJ (by decide) (by decide))))),I,J,rt,if_true,p7,M,l,BM,JY,Ig,iN,E,C,FO,List.map_append,pj,ACo]
  show(match Ag [(5,V.l (c.map iN))] [6]with
   |true=>match BM (.one 6) (iN d) a with
    |some f=>match AX k er Hl f [(5,V.l (c.map iN))]with
     |some (.nx s t)=>As (.one 6) (λf i=>AX k er Hl f i) (L.map iN) s t
     |some (.ret v)=>dD (.ret v)
     |none=>eu
    |none=>eu
   |false=>eu)=_
  have Y:Ag [(5,V.l (c.map iN))] [6]=er:=rfl;have f2:BM (.one 6) (iN d) a=dD (a.put 6 (iN d)):=rfl;rw[Y,f2];simp only[j];rw[N];simp[Gs,Eg,uz]
noncomputable def Ck(w:Nat):Nat->Nat->List Nat
 |0,_=>[]
 |1,x=>[x]
 |k+2,x=>x%2^w::Ck w (k+1) (x/2^w)
theorem O1{w x:Nat}:Ck w 0 x=[]:=rfl
theorem O5{w x:Nat}:Ck w 1 x=[x]:=rfl
theorem G4{w x k:Nat}:Ck w k.succ.succ x=x%2^w::Ck w (k+1) (x/2^w):=rfl
theorem P2(w:Nat):∀k x,(CU w k x).map V.int=(Ck w k x).map iN
 |0,_=>rfl
 |1,_=>rfl
 |k+2,x=>by rw[H9,G4,pj,pj,P2 w (k+1)];rfl
theorem JV(w:Nat):∀k x,(Ck w k x).length=k
 |0,_=>rfl
 |1,_=>rfl
 |k+2,x=>by rw[G4,pJ,JV w (k+1)]
theorem Fu(w:Nat):∀k x,x<2^(w*k)->∀d∈Ck w k x,d<2^w
 |0,_,_,d,h=>by simp[O1,O5,G4]at h
 |1,x,a,d,h=>by simp[O1,O5,G4]at h;subst h;simpa using a
 |k+2,x,a,d,h=>by
  rw[G4,md]at h;rcases h with rfl|h
  ·exact qY _ (xj w)
  ·refine Fu w (k+1) (x/2^w) ?_ d h;rw[AAj (xj w),<-xD];rwa [AC8]at a
noncomputable def valN(w:Nat):List Nat->Nat
 |[]=>0
 |d::r=>d+2^w*valN w r
theorem eC{w:Nat}:valN w []=0:=rfl
theorem O6{w d:Nat}{r:List Nat}:valN w (d::r)=d+2^w*valN w r:=rfl
theorem PY(w:Nat):∀l:List Nat,CM w (AD9 (λd:Nat=>(d:Int)) l)=((valN w l:Nat):Int)
 |[]=>rfl
 |d::r=>by
  rw[pj,Gr,PY w r,O6];simp
theorem Hd(w:Nat):∀(a b:List Nat) (r:Nat),Co w r (a++b)=Co w (Co w r a) b
 |[],_,_=>rfl
 |d::a,b,r=>by rw[xN,G5,Hd w a b];rfl
theorem IY(w:Nat):∀l:List Nat,Co w 0 l.reverse=valN w l
 |[]=>rfl
 |d::r=>by
  rw[yO,Hd,IY w r];show valN w r*2^w+d=d+2^w*valN w r;rw[uI,rZ]
theorem K7(w:Nat):∀k x,0<k->valN w (Ck w k x)=x
 |1,x,_=>by simp[O1,O5,G4,eC,O6]
 |k+2,x,_=>by
  rw[G4,O6,K7 w (k+1) (x/2^w) (tG _)];exact Nat.mod_add_div x (2^w)
theorem dW(l:List Nat):l.map iN=(l.map λd:Nat=>(d:Int)).map V.int:=by rw[List.map_map];rfl
theorem A4{a:Cl}{b:Bool}{c:Cm}{r:Cs}{d e ρ1 ω1:Ev}(h:BK a b c d e=dD (.nx ρ1 ω1)):AX a b (.cons c r) d e=AX a b r ρ1 ω1:=by rw[GG,h]
theorem Bn{b:Cl}{c:Bool}{i:Nat}{x:X}{a:Ev}{v:V}(h:ev b x a=dD v):BK b c (.ag (.one i) x) a []=dD (.nx (a.put i v) []):=by rw[RV,h];rfl
theorem gG{f:Cl}{a b n k:Nat}(g:0<b)(l:b<2^300)(w:n<=300)(m:po (b:Int)=n)(y:0<k)(o:k<=8)(t:a<2^(n*k))(z:∀x:Nat,x<2^600->f 4 [iN x,iN b,iN n]=dD (.t [iN (x/b),iN (x%b)]))
  (A:f 6 [iN a,iN n]=dD (.l ((Ck n k a).map iN))) (B:∀c:List Nat,c.length<=8->(∀q∈c,q<2^n)->f 7 [.l (c.map iN),iN n]=dD (iN (valN n c))):
  Dg f BS [iN a,iN b]=dD (.t [iN (a/b),iN (a%b)]):=by
 have C:(Ck n k a).reverse.length+0<=8:=by rw[sW,JV];assumption
 (refine CB λZ D=>?_;obtain⟨e,E,G,H⟩:=ZW g l w z (Ck n k a).reverse [(0,iN a),(1,iN b),(2,iN n),(3,.l ((Ck n k a).map iN)),(4,iN 0)] 0 [] rfl rfl rfl g (λd hd=>Fu n k a t d (yh.mp hd)) (by simpa using C)<;>refine D ?_)
 generalize i:(Ft b n 0 (Ck n k a).reverse).1=c at*;generalize I:(Ft b n 0 (Ck n k a).reverse).2=r at*;have J:c.length<=8:=by rw[<-i,II,sW,JV];exact o
 have L:∀q∈c,q<2^n:=λq h=>IX b n g (Ck n k a).reverse 0 g (λd hd=>Fu n k a t d (yh.mp hd)) q (by rw[i];exact h);have u:=PK b n g (Ck n k a).reverse 0 g;rw[i,I,IY,K7 n k a y]at u;have v:valN n c.reverse=Co n 0 c:=by rw[<-IY,List.reverse_reverse]
 obtain⟨o1,o2⟩:=u;have q1:a/b=Co n 0 c:=by simp only[o1,rZ,xw _ _ g,y0 o2,tZ]
 have q2:a%b=r:=by simp only[o1,rZ,zf,y6 o2]
 have j:=B c.reverse (by rw[sW];exact J) (λq h=>L q (by simpa using h));rw[v]at j;have M:A5 (c.map iN)=er:=by unfold A5;exact mK (by rw[px];lia)
 have N:Qt .bitLength (iN b) []=dD (iN n):=by show dD (V.int _)=_;rw[m];rfl
 have O:ev f (.me (.v 1) .bitLength .nil) [(0,iN a),(1,iN b)]=dD (iN n):=by simp only[Gl,Af,Bt];exact N
 have Q:ev f (.call 6 (.cons (.v 0) (.cons (.v 2) .nil))) [(0,iN a),(1,iN b),(2,iN n)]=dD (.l ((Ck n k a).map iN)):=by simp only[Af,Dz,Bt,Bj,AC,lf,A]
 have U:ev f (.c (.int 0)) [(0,iN a),(1,iN b),(2,iN n),(3,.l ((Ck n k a).map iN))]=dD (iN 0):=by simp only[C6];rfl
 have Y:BK f fG (.own 5 (.l .nil)) [(0,iN a),(1,iN b),(2,iN n),(3,.l ((Ck n k a).map iN)),(4,iN 0)] []=dD (.nx [(0,iN a),(1,iN b),(2,iN n),(3,.l ((Ck n k a).map iN)),(4,iN 0)] [(5,.l [])]):=by simp only[pE,NS,Bt];rfl
 have s5:BK f fG (.lp (.one 6) (.rev (.v 3)) Hl) [(0,iN a),(1,iN b),(2,iN n),(3,.l ((Ck n k a).map iN)),(4,iN 0)] [(5,.l [])]=dD (.nx e [(5,.l (c.map iN))]):=by simp only[VE,ji,Af];show As (.one 6) (λp s=>AX f er Hl p s) ((Ck n k a).map iN).reverse _ _=_;rw[<-xM];exact E
 have s6:BK f fG (.rev 5) e [(5,.l (c.map iN))]=dD (.nx e [(5,.l (c.reverse.map iN))]):=by
  simp only[l8];show(match A5 (c.map iN)with
   |true=>dD (Rs.nx e [(5,V.l (c.map iN).reverse)])
   |false=>eu)=_
  rw[M,xM]
 have s7:BK f fG (.as 8 (.call 7 (.cons (.v 5) (.cons (.v 2) .nil)))) e [(5,.l (c.reverse.map iN))]=dD (.nx (e.put 8 (iN (Co n 0 c))) [(5,.l (c.reverse.map iN))]):=by
  have g2:Ev.get ([(5,V.l (c.reverse.map iN))]++e) 2=dD (iN n):=G;have g5:Ev.get ([(5,V.l (c.reverse.map iN))]++e) 5=dD (.l (c.reverse.map iN)):=rfl;have:ev f (.call 7 (.cons (.v 5) (.cons (.v 2) .nil))) ([(5,V.l (c.reverse.map iN))]++e)=dD (iN (Co n 0 c)):=by simp only[Af,Dz,Bt,Bj,g2,g5,j]
  rw[oJ,this];rfl
 have s8:BK f fG (.ret (.t (.cons (.v 8) (.cons (.v 4) .nil)))) (e.put 8 (iN (Co n 0 c))) [(5,.l (c.reverse.map iN))]=dD (.ret (.t [iN (Co n 0 c),iN r])):=by
  have g8:Ev.get ([(5,V.l (c.reverse.map iN))]++(e.put 8 (iN (Co n 0 c)))) 8=dD (iN (Co n 0 c)):=by show(e.put 8 (iN (Co n 0 c))).get 8=_;rw[Ev.get_put,if_pos rfl]
  have g4:Ev.get ([(5,V.l (c.reverse.map iN))]++(e.put 8 (iN (Co n 0 c)))) 4=dD (iN r):=by show(e.put 8 (iN (Co n 0 c))).get 4=_;rw[Ev.get_put,if_neg (by decide),H]
  have:ev f (.t (.cons (.v 8) (.cons (.v 4) .nil))) ([(5,V.l (c.reverse.map iN))]++(e.put 8 (iN (Co n 0 c))))=dD (.t [iN (Co n 0 c),iN r]):=by simp only[Af,ER,Bt,Bj,g8,g4];rfl
  simp only[Ef,this]
 rw[q1,q2];unfold Dg;show Es (AX f fG BS [(0,iN a),(1,iN b)] [])=_;unfold BS;rw[A4 (Bn O)];show Es (AX f fG _ [(0,iN a),(1,iN b),(2,iN n)] [])=_;rw[A4 (Bn Q)];show Es (AX f fG _ [(0,iN a),(1,iN b),(2,iN n),(3,.l ((Ck n k a).map iN))] [])=_;rw[A4 (Bn U)];show Es (AX f fG _ [(0,iN a),(1,iN b),(2,iN n),(3,.l ((Ck n k a).map iN)),(4,iN 0)] [])=_;rw[A4 Y,show(Cs.cons (Cm.ag (T.many [7,4]) (X.call 4 (XL.cons (X.b Operator.Add (X.b Operator.LShift (X.v 4) (X.v 2)) (X.v 6)) (XL.cons (X.v 1) (XL.cons (X.v 2) XL.nil))))) (Cs.cons (Cm.app 5 (X.v 7)) Cs.nil))=Hl from rfl,A4 s5,A4 s6,A4 s7,GG,s8];rfl
section
set_option exponentiation.threshold 5000
theorem Gd{a:Nat}(h:0<a):po (a:Int)=a.log2+1:=by unfold po;have:((a:Int)==0)=fG:=beq_eq_false_iff_ne.mpr (ya (sT.mpr h));rw[this];rfl
theorem L'{a e:Nat}(h:a<2^e):po (a:Int)<=e:=by
 by_cases b:a=0
 ·rw[b];exact qd e
 ·rw[Gd (w0 b)];have:=(ADe b).mpr h;assumption
theorem Pz(a:Nat):a<2^po (a:Int):=by
 by_cases b:a=0
 ·subst b;decide
 ·rw[Gd (w0 b)];exact(ADe b).mp (rn _)
theorem CY{B n X:Nat}(a:0<n)(h:B+n-1<X+n):B<=X:=by
 induction n using uK with
 |zero=>exact absurd a (vH 0)
 |succ k=>exact Nat.le_of_add_le_add_right (yb h)
theorem HK{n:Nat}(h:0<n):n+3+n<=n*8:=by
 have e:n+3+n=n*2+3:=by rw[xB,vV]
 rw[e];exact mE (qf (mE (by decide:3<=1*6) (u7 6 h)) (n*2)) (uJ (xC n 2 6).symm)
theorem e6(m:Nat){a b:Nat}(r:0<a)(l:0<b)(o:a<8*b)(g:b<2^290):AR HH (m+2) 8 [iN a,iN b]=dD (.t [iN (a/b),iN (a%b)]):=by
 generalize j:po (b:Int)=n;have e:n<=290:=by rw[<-j];exact L' g
 have f:0<n:=by rw[<-j,Gd l];exact tG _
 have u:b<2^n:=by rw[<-j];exact Pz b
 have s:a<2^(n+3):=by rw[xD];exact qS o (uI 8 b▸(AA5 (by decide)).mpr u)
 have v:po (a:Int)<=n+3:=L' s;have w:0<po (a:Int):=by rw[Gd r];exact tG _
 have k8:Bf a n<=8:=by exact x6 (mE (sX _ 1) (mE (sn v n) (HK f)))
 have t:0<Bf a n:=by exact Nat.div_pos (AA6 (by rw[rZ (po (a:Int)) n];exact qf w n)) f
 have y:a<2^(n*Bf a n):=by refine nR (Pz a) (rv (by decide) ?_);unfold Bf;have h:=Nat.lt_mul_div_succ (po (a:Int)+n-1) f;rw[xC,AA1]at h;exact CY f h
 refine gG (n:=n) (k:=Bf a n) l (nR g (rv (by decide) (by decide))) (mE e (by decide)) j t k8 y (λx z=>?_) ?_ λi A B=>?_
 ·show Dg (AR HH m) CW [.int x,.int b,.int n]=_;exact iz l (nR g (rv (by decide) (by decide))) (mE (L' z) (by decide))
 ·show(match pq 0 n&&ph n 300&&pq a (2^4000)&&ph (Bf a n) 8&&(lf a 0==lf (Bf a n) 0)with
   |true=>dD (V.l ((CU n (Bf a n) a).map V.int))
   |false=>eu)=_
  have c:(pq 0 n&&ph n 300&&pq a (2^4000)&&ph (Bf a n) 8&&(lf a 0==lf (Bf a n) 0))=er:=by
   have C:lf a 0=fG:=by induction a using uK with|zero=>exact absurd r (by decide)|succ a=>rfl
   have D:lf (Bf a n) 0=fG:=by
    cases h:Bf a n with
    |zero=>exact absurd (h▸t) (by decide)
    |succ k=>rfl
   simp only[C,D];simp only[pl,yM,ze];exact⟨⟨⟨⟨f,mE e (by decide)⟩,(nR s (rv (by decide) (mE (sn e 3) (by decide))))⟩,k8⟩,rfl⟩
  simp only[c];rw[P2]
 ·show(KC (i.map iN)).bind (λp=>match ph n 300&&ph p.length 8&&p.all (λd=>pq d.natAbs (2^1000))with
   |true=>dD (V.int (CM n p))
   |false=>eu)=_
  rw[dW];have c:(ph n 300&&ph (i.map λd:Nat=>(d:Int)).length 8&&(i.map λd:Nat=>(d:Int)).all (λd=>pq d.natAbs (2^1000)))=er:=by simp only[pl,ze,px,mH,yM];refine⟨⟨mE e (by decide),A⟩,λd hd=>?_⟩;obtain⟨q,E,rfl⟩:=u8.mp hd;simp only[vS];exact nR (B q E) (rv (by decide) (mE e (by decide)))
  rw[QR];show(match(ph n 300&&ph (i.map λd:Nat=>(d:Int)).length 8&&(i.map λd:Nat=>(d:Int)).all (λd=>pq d.natAbs (2^1000)))with
   |true=>dD (V.int (CM n (i.map λd:Nat=>(d:Int))))
   |false=>eu)=_
  simp only[c,PY];rfl
noncomputable def B'(q r:Int):V:=.t [.int q,.int r]
theorem mB(m:Nat){a b:Nat}(f:0<a)(e:0<b)(c:a<8*b)(d:b<2^290):AR HH (m+3) 9 [.int (a:Int),.int (b:Int)]=dD (B' (a/b:Nat) (a%b:Nat)):=by show Dg (AR HH (m+2)) At [.int (a:Int),.int (b:Int)]=_;have g:((b:Int)==0)=fG:=beq_eq_false_iff_ne.mpr (ya (sT.mpr e));have i:decide ((b:Int)<0)=fG:=decide_eq_false (u6.mpr (pP b));have j:decide ((a:Int)<0)=fG:=decide_eq_false (u6.mpr (pP a));have h:=e6 m f e c d;simp only[iN]at h;unfold Dg At;simp only[DG,Ct,GG,Ef,DS,C6,Af,DW,Dz,Bt,Bj,sg,AC,lf,Cd,Mk,Nx,KP,Ao,tr,AI,g,i,j,h,Es];rfl
theorem rU(m:Nat){c b:Nat}(a:1<c)(f:0<b)(d:c<8*b)(e:b<2^290):AR HH (m+4) 9 [.int (-(c:Int)),.int (b:Int)]=dD (B' (-(((c-1)/b:Nat):Int)-1) ((b:Int)-(((c-1)%b:Nat):Int)-1)):=by
 show Dg (AR HH (m+3)) At [.int (-(c:Int)),.int (b:Int)]=_;have g:((b:Int)==0)=fG:=beq_eq_false_iff_ne.mpr (ya (sT.mpr f));have h:decide ((b:Int)<0)=fG:=decide_eq_false (u6.mpr (pP b));have i:decide (-(c:Int)<0)=er:=decide_eq_true (yN (sT.mpr (rb a)));have j:sH (-(c:Int))=((c-1:Nat):Int):=by unfold sH;rw[uH,th (nV a)];rfl
 have k:sH (((c-1)/b:Nat):Int)= -(((c-1)/b:Nat):Int)-1:=rfl;have l:(b:Int)+sH (((c-1)%b:Nat):Int)=(b:Int)-(((c-1)%b:Nat):Int)-1:=(ABi _ _ _).symm;unfold Dg At;simp only[DG,Ct,Ht,GG,RV,Ef,DS,C6,Af,Do,mD,DW,Dz,ER,Bt,Bj,sg,DN,AC,GV,FO,lf,Cd,Mk,Nx,KP,Ao,tr,AI,g,h,i,Tc,j,(mB m (a:=c-1) (b:=b) (AA6 a) f (mJ (sX c 1) d) e),B',T.names,Dk,Bz,BM,JY,Ig,k,Aj,AD,binI,l,Es];rfl
theorem lu(m:Nat){a b q r:Int}(c:b<0)(h:AR HH m 9 [.int (-a),.int (-b)]=dD (B' q r)):AR HH (m+1) 9 [.int a,.int b]=dD (B' q (-r)):=by show Dg (AR HH m) At [.int a,.int b]=_;have d:(b==0)=fG:=beq_eq_false_iff_ne.mpr (AC2 c);unfold Dg At;simp only[DG,Ct,Ht,GG,RV,Ef,DS,C6,Af,WZ,DW,Dz,ER,Bt,Bj,sg,DN,AC,GV,FO,lf,Cd,Mk,Nx,KP,Ao,tr,AI,d,(decide_eq_true c),N8,h,B',T.names,Dk,Bz,BM,JY,Ig,Es];rfl
end
theorem Ea(a b:Nat)(h:b≠0):AD .Mod (.int (a:Int)) (.int (b:Int))=dD (.int ((a%b:Nat):Int)):=by
 have e:((b:Int) != 0)=er:=by simp;assumption
 simp only[AD,binI,e,if_true,VY]
theorem Ls(a b:Nat)(h:b≠0)(f:b<2^4000):AD .FloorDiv (.int (a:Int)) (.int (b:Int))=dD (.int ((a/b:Nat):Int)):=by
 have e:((b:Int) != 0)=er:=by simp;assumption
 simp only[AD,binI,e,B8 f,rt,if_true,ZY]
theorem QJ(a b:Nat):AD .Add (.int (a:Int)) (.int (b:Int))=dD (.int ((a+b:Nat):Int)):=by simp only[AD,binI];rfl
theorem cY(a b:Nat)(h:a<2^4000)(e:b<2^4000):AD .Mult (.int (a:Int)) (.int (b:Int))=dD (.int ((a*b:Nat):Int)):=by simp only[AD,binI,B8 h,B8 e,rt,if_true];rfl
theorem Mt{a b:Nat}(h:a<=b)(e:ph b 2000=er):a<2^4000:=mJ (mE h (nY e)) (by nofun)
section
variable{d c:Ev}
theorem v0{one:Nat}(h:d.get 1=dD (.int one)):ev kl (xP 0) d=dD (.t [Cq,HZ]):=by have a:AD .Mod (.int one) (.int 8)=dD (.int ((one%8:Nat):Int)):=Ea one 8 (by decide);have b:AD .Add (.int 1) (.int ((one%8:Nat):Int))=dD (.int ((1+one%8:Nat):Int)):=QJ 1 (one%8);have e:AD .FloorDiv (.int one) (.int 8)=dD (.int ((one/8:Nat):Int)):=Ls one 8 (by decide) (Mt (qF _) rfl);have f:AD .Mod (.int ((one/8:Nat):Int)) (.int 9)=dD (.int ((one/8%9:Nat):Int)):=Ea _ 9 (by decide);have g:AD .FloorDiv (.int one) (.int 72)=dD (.int ((one/72:Nat):Int)):=Ls one 72 (by decide) (Mt (qF _) rfl);have i:AD .Mod (.int ((one/72:Nat):Int)) (.int ((1+one%8:Nat):Int))=dD (.int ((one/72% (1+one%8):Nat):Int)):=Ea _ _ (by lia);simp only[nt];simp only[C6,Af,Do,Dz,Bt,Bj,h,Aj,a,b,e,f,g,i];exact(R4 (x:=1+one%8) (y:=one/8%9) (z:=one/72% (1+one%8)) (by lia) (qY _ (by decide)) (qY _ (by lia)))
theorem v1{two:Nat}(h:d.get 2=dD (.int two)):ev kl (xP 1) d=dD (.int ((1680*(1+two%2):Nat):Int)):=by have a:AD .Mod (.int two) (.int 2)=dD (.int ((two%2:Nat):Int)):=Ea two 2 (by decide);have b:AD .Add (.int 1) (.int ((two%2:Nat):Int))=dD (.int ((1+two%2:Nat):Int)):=QJ 1 (two%2);have e:AD .Mult (.int 1680) (.int ((1+two%2:Nat):Int))=dD (.int ((1680*(1+two%2):Nat):Int)):=cY 1680 (1+two%2) (Mt (qF _) rfl) (Mt (b:=3) (by lia) rfl);simp only[pY];simp only[C6,Af,Do,h,Aj,a,b,e]
theorem v4{two:Nat}(h:d.get 2=dD (.int two))(b:c.get 2=dD (.int ((two%42:Nat):Int)))(a:d.get 10=c.get 10):ev kl (xP 4) d=ev kl (xP 4) c:=by
 have f:∀n:Nat,AD .FloorDiv (.int n) (.int 6)=dD (.int ((n/6:Nat):Int)):=λn=>Ls n 6 (by decide) (Mt (qF _) rfl);have g:∀n:Nat,AD .Mod (.int n) (.int 7)=dD (.int ((n%7:Nat):Int)):=λn=>Ea n 7 (by decide);have e:two/6%7=two%42/6%7:=by rw[show two%42/6=two/6%7 from wz two 6 7,ADf]
 simp only[nN];simp only[C6,Af,Do,CC,FU,Bt,Bj,h,b,a,Aj,f,g,e]
theorem v8{AK:Nat}(h:d.get 3=dD (.int AK))(b:c.get 3=dD (.int (wn (2*(AK/2%7))))):ev kl (xP 8) d=ev kl (xP 8) c:=by
 have f:∀n:Nat,AD .FloorDiv (.int n) (.int 2)=dD (.int ((n/2:Nat):Int)):=λn=>Ls n 2 (by decide) (Mt (qF _) rfl);have g:∀n:Nat,AD .Mod (.int n) (.int 7)=dD (.int ((n%7:Nat):Int)):=λn=>Ea n 7 (by decide);have a:c.get 3=dD (.int ((2*(AK/2%7):Nat):Int)):=b;have e:AK/2%7=2*(AK/2%7)/2%7:=by rw[Nat.mul_div_cancel_left _ (by decide),ADf]
 simp only[pK];simp only[C6,Af,Do,CC,ER,Bt,Bj,h,a,Aj,f,g];rw[<-e]
theorem rf{AK:Nat}(h:d.get 3=dD (.int AK)):∃x y,BH Am 21=.sw 26 27 x y/\ev kl x d=dD (.int ((2+AK/14%8:Nat):Int))/\ev kl y d=dD (.int (1-((AK%2*2:Nat):Int))):=by
 have a:AD .FloorDiv (.int AK) (.int 14)=dD (.int ((AK/14:Nat):Int)):=Ls AK 14 (by decide) (Mt (qF _) rfl);have b:AD .Mod (.int ((AK/14:Nat):Int)) (.int 8)=dD (.int ((AK/14%8:Nat):Int)):=Ea _ 8 (by decide);have e:AD .Add (.int 2) (.int ((AK/14%8:Nat):Int))=dD (.int ((2+AK/14%8:Nat):Int)):=QJ 2 _;have f:AD .Mod (.int AK) (.int 2)=dD (.int ((AK%2:Nat):Int)):=Ea AK 2 (by decide);have g:AD .Mult (.int ((AK%2:Nat):Int)) (.int 2)=dD (.int ((AK%2*2:Nat):Int)):=cY _ 2 (Mt (b:=2) (by lia) rfl) (Mt (qF _) rfl);refine⟨_,_,hS,?_,?_⟩
 ·simp only[C6,Af,Do,h,Aj,a,b,e]
 ·simp only[C6,Af,Do,h,Aj,f,g];rfl
end
noncomputable def Js:X:=.sub (.c (.str [48,49,50])) (.b .Mod (.b .Add (.b .FloorDiv (.v 5) (.c (.int 2))) (.b .Mult (.b .Add (.c (.int 1)) (.b .Mod (.v 5) (.c (.int 2)))) (.bi .abs (.cons (.b .Sub (.v 1) (.v 2)) .nil)))) (.c (.int 3)))
noncomputable def N6(i j:Nat):Nat:=(i-j)+(j-i)
theorem cw(i j:Nat):Ju .abs [.int ((i:Int)-(j:Int))]=dD (.int ((N6 i j:Nat):Int)):=by
 show dD (V.int (if(i:Int)-(j:Int)<0 then -((i:Int)-(j:Int))else(i:Int)-(j:Int)))=_;unfold N6;rcases Nat.lt_or_ge i j with h|h
 ·rw[if_pos (Int.sub_neg_of_lt (sG.mpr h)),AAm,<-th (nV h),wG (nV h),tZ]
 ·rw[if_neg (u6.mpr (Int.sub_nonneg.mpr (tD.mpr h))),<-th h,wG h];rfl
theorem Pd{two i j:Nat}(hd:N6 i j<=100):ev kl Js [(5,.int (two:Int)),(1,.int (i:Int)),(2,.int (j:Int))]=C0 (.str [48,49,50]) (.int (((two/2+(1+two%2)*N6 i j)%3:Nat):Int)):=by have a:AD .FloorDiv (.int two) (.int 2)=dD (.int ((two/2:Nat):Int)):=Ls two 2 (by decide) (Mt (qF _) rfl);have b:AD .Mod (.int two) (.int 2)=dD (.int ((two%2:Nat):Int)):=Ea two 2 (by decide);have d:AD .Add (.int 1) (.int ((two%2:Nat):Int))=dD (.int ((1+two%2:Nat):Int)):=QJ 1 _;have e:AD .Sub (.int (i:Int)) (.int (j:Int))=dD (.int ((i:Int)-(j:Int))):=rfl;have f:AD .Mult (.int ((1+two%2:Nat):Int)) (.int ((N6 i j:Nat):Int))=dD (.int (((1+two%2)*N6 i j:Nat):Int)):=cY _ _ (Mt (b:=2) (qf (yb (qY two (by decide))) 1) rfl) (Mt hd rfl);have g:∀x:Nat,AD .Mod (.int (x:Int)) (.int 3)=dD (.int ((x%3:Nat):Int)):=λx=>Ea x 3 (by decide);unfold Js;simp only[C6,Af,Do,CC,FU,Bt,Bj,AC,lf,Aj,a,b,d,e,cw,f,(QJ),g]
theorem YX(two d:Nat)(hd:d<4):(two/2+(1+two%2)*d)%3=(two%42/2+(1+two%42%2)*d)%3:=by
 rw[ABh two (by decide:2∣42),show two%42/2=two/2%21 from wz two 2 21];generalize(1+two%2)*d=X;generalize two/2=y;have f:(21*(y/21)+y%21+X)%3=(y%21+X)%3:=by rw[wM,show 21*(y/21)=3*(7*(y/21))from ACu 3 7 _,Nat.mul_add_mod]
 exact(congrArg (λz=>(z+X)%3) (zN y 21)).symm.trans f
section
variable{c ρ':Ev}
noncomputable def LW(b:Ev):Option (List V):=Ai (.one 2) b (λa=>BD (Hk kl .no a) (Jl kl .nil a λd=>Mine.Internal.one (ev kl Js d))) [.int (0:Nat),.int (1:Nat),.int (2:Nat),.int (3:Nat)]
theorem YU{i j:Nat}(a:i<4)(b:j<4):N6 i j<4:=by
 unfold N6;rcases AAD i j with h|h
 ·rw[wG h,tZ];exact mJ (sX _ _) b
 ·rw[wG h];exact mJ (sX _ _) a
theorem Hz{two:Nat}{i:Nat}(b:i<4):LW [(5,.int (two:Int)),(1,.int (i:Int))]=LW [(5,.int ((two%42:Nat):Int)),(1,.int (i:Int))]:=by
 have d:∀(t j:Nat),EM (.one 2) (.int (j:Int)) [(5,.int (t:Int)),(1,.int (i:Int))]=dD [(5,.int (t:Int)),(1,.int (i:Int)),(2,.int (j:Int))]:=λz z=>rfl;have hd:∀j:Nat,j<4->N6 i j<4:=λj a=>YU b a;have e:∀j:Nat,j<4->ev kl Js [(5,.int (two:Int)),(1,.int (i:Int)),(2,.int (j:Int))]=ev kl Js [(5,.int ((two%42:Nat):Int)),(1,.int (i:Int)),(2,.int (j:Int))]:=λj a=>by
  simp only[Pd (nV (nR (hd j a) (by decide))),Pd (nV (nR (hd j a) (by decide))),YX two _ (hd j a)]
 unfold LW;simp only[LO,FR,d,Yi,BD,et,e 0 (by decide),e 1 (by decide),e 2 (by decide),e 3 (by decide)]
theorem v2{two:Nat}(h:c.get 2=dD (.int two))(f:ρ'.get 2=dD (.int ((two%42:Nat):Int))):ev kl (xP 2) c=ev kl (xP 2) ρ':=by
 have b:∀c,EW kl (.rg (.cons (.c (.int 4)) .nil)) c=dD [.int (0:Nat),.int (1:Nat),.int (2:Nat),.int (3:Nat)]:=λc=>by
  simp only[WL,Bj,Bt,C6];rfl
 have g:Bu c [(5,2)]=[(5,.int (two:Int))]:=by simp only[C2,h];rfl
 have j:Bu ρ' [(5,2)]=[(5,.int ((two%42:Nat):Int))]:=by simp only[C2,f];rfl
 have k:∀(t i:Nat),EM (.one 1) (.int (i:Int)) [(5,.int (t:Int))]=dD [(5,.int (t:Int)),(1,.int (i:Int))]:=λz z=>rfl;have G:∀a,Jl kl (.cons (.one 2) (.rg (.cons (.c (.int 4)) .nil)) .no .nil) a (λd=>Mine.Internal.one (ev kl Js d))=LW a:=λa=>by
  simp only[sK,b];rfl
 have e:ev kl (.cm Js (.one 1) (.rg (.cons (.c (.int 4)) .nil)) .no (.cons (.one 2) (.rg (.cons (.c (.int 4)) .nil)) .no .nil) [(5,2)]) c=ev kl (.cm Js (.one 1) (.rg (.cons (.c (.int 4)) .nil)) .no (.cons (.one 2) (.rg (.cons (.c (.int 4)) .nil)) .no .nil) [(5,2)]) ρ':=by simp only[LD,LD,b,b,g,j];simp only[G];simp only[LO,FR,k,Yi,BD];rw[Hz (i:=0) (by decide),Hz (i:=1) (by decide),Hz (i:=2) (by decide),Hz (i:=3) (by decide)]
 simp only[nA];show ev kl (.me (.c (.str [])) .join (.cons (.cm Js (.one 1) (.rg (.cons (.c (.int 4)) .nil)) .no (.cons (.one 2) (.rg (.cons (.c (.int 4)) .nil)) .no .nil) [(5,2)]) .nil)) c=ev kl (.me (.c (.str [])) .join (.cons (.cm Js (.one 1) (.rg (.cons (.c (.int 4)) .nil)) .no (.cons (.one 2) (.rg (.cons (.c (.int 4)) .nil)) .no .nil) [(5,2)]) .nil)) ρ';rw[Gl,C6,Bj,Bt,e];rfl
theorem BP(d:Cl)(l r:X)(o:xG)(c:Ev):ev d (.q l o r) c=(match ev d l c,ev d r c with
  |some a,dD b=>Ao (Cd o a b)
  |_,_=>eu):=by rw[DW]<;>rfl
theorem rW(a:c.get 18=ρ'.get 18)(b:c.get 17=ρ'.get 17)(d:c.get 19=ρ'.get 19)(f:ev kl Lo.1 c=ev kl Lo.1 ρ')(g:ev kl Lo.2 c=ev kl Lo.2 ρ'):ev kl (xP 13) c=ev kl (xP 13) ρ':=by
 have h:xP 13=.or (.cons (.q (.call 3 (.cons (.v 18) .nil)) .NotEq Lo.1) (.cons (.q (.v 18) .NotEq (.v 17)) (.cons (.q (.v 19) .NotEq Lo.2) .nil))):=rfl;have i:ev kl (.q (.call 3 (.cons (.v 18) .nil)) .NotEq Lo.1) c=ev kl (.q (.call 3 (.cons (.v 18) .nil)) .NotEq Lo.1) ρ':=by rw[BP,BP,f,show ev kl (.call 3 (.cons (.v 18) .nil)) c=ev kl (.call 3 (.cons (.v 18) .nil)) ρ' from by simp only[Af,Dz,Bt,Bj,a]]
 have j:ev kl (.q (.v 18) .NotEq (.v 17)) c=ev kl (.q (.v 18) .NotEq (.v 17)) ρ':=by simp only[Af,DW,a,b]
 have k:ev kl (.q (.v 19) .NotEq Lo.2) c=ev kl (.q (.v 19) .NotEq Lo.2) ρ':=by rw[BP,BP,g,show ev kl (.v 19) c=ev kl (.v 19) ρ' from by simp only[Af,d]]
 have o:∀c e,ev kl (.or e) c=IG kl e c:=λc e=>by simp only[eK]
 simp only[h,o,o,CZ,CZ,i,CZ,CZ,j,WN,WN,k]
end
section
set_option exponentiation.threshold 5000
noncomputable def Wn(w:Nat):Nat:=1+2*2^w+2^(2*w)+2^(3*w)+2*2^(4*w)
noncomputable def Uo(w:Nat):Bool:=Qa (HH 7 [.l [.int 6,.int 12,.int 6,.int 6,.int 12],.int (.ofNat w)]) (.int (.ofNat (6*Wn w)))&&Qa (HH 7 [Ca,.int (.ofNat w)]) (.int (.ofNat (Wn w)))&&Qa (HH 6 [.int (.ofNat (Wn w)),.int (.ofNat w)]) Ca&&pq 1 (Wn w)&&pq (Wn w) (2^50)
def rJ(w:Nat):Prop:=2<=w->Uo w=er
theorem Xf{w:Nat}:w<10->rJ w:=AO (n:=9) (λz=>show Uo 9=er by nofun) (AO (n:=8) (λz=>show Uo 8=er by nofun) (AO (n:=7) (λz=>show Uo 7=er by nofun) (AO (n:=6) (λz=>show Uo 6=er by nofun) (AO (n:=5) (λz=>show Uo 5=er by nofun) (AO (n:=4) (λz=>show Uo 4=er by nofun) (AO (n:=3) (λz=>show Uo 3=er by nofun) (AO (n:=2) (λz=>show Uo 2=er by nofun) (AO (n:=1) (λh=>absurd h (show¬2<=1 by decide)) (AO (n:=0) (λh=>absurd h (show¬2<=0 by decide)) Q6)))))))))
theorem Xb{w:Nat}(a:2<=w)(b:w<=9):Uo w=er:=Xf (ABu b) a
theorem LZ{w:Nat}(i:2<=w)(j:w<=9):kl 7 [.l [.int 6,.int 12,.int 6,.int 6,.int 12],.int (w:Int)]=dD (.int ((6*Wn w:Nat):Int))/\kl 7 [Ca,.int (w:Int)]=dD (.int ((Wn w:Nat):Int))/\kl 6 [.int ((Wn w:Nat):Int),.int (w:Int)]=dD Ca/\1<Wn w/\Wn w<2^50:=by
 have h:=Xb i j;unfold Uo at h;simp only[pl,yM]at h
 (refine CB λz k=>?_;obtain⟨⟨⟨⟨a,b⟩,c⟩,d⟩,e⟩:=h<;>refine k ?_)
 exact⟨Cn a,Cn b,Cn c,d,e⟩
noncomputable def C'(W r:Nat)(s:Int):V:=.l [B' 6 (s*(r:Int)),if 0<r then B' (-7) (s*((W:Int)-(r:Int)))else B' (-6) 0]
theorem Cw{i:Int}(h:i.natAbs<2^4000):FP i=er:=by unfold FP;exact mK h
section
variable{f g:Ev}
theorem rG{w:Nat}(b:2<=w)(c:w<=9)(d:ev kl x24 f=dD (.l [.int 6,.int 12,.int 6,.int 6,.int 12]))(a:f.get 26=dD (.int (w:Int))):ev kl (xP 24) f=dD (.int ((6*Wn w:Nat):Int)):=by have e:xP 24=.call 7 (.cons x24 (.cons (.v 26) .nil)):=rfl;simp only[e,Dz,Bj,d,Bj,Af,a,Bt];exact(LZ b c).1
theorem r8{w:Nat}(c:2<=w)(d:w<=9)(a:f.get 29=dD Ca)(b:f.get 26=dD (.int (w:Int))):ev kl (xP 25) f=dD (.int ((Wn w:Nat):Int)):=by simp only[fF];simp only[Af,Dz,Bt,Bj,a,b];exact(LZ c d).2.1
theorem qu{A0 W:Nat}(b:f.get 5=dD (.int (A0:Int)))(a:f.get 31=dD (.int (W:Int)))(c:W≠0):ev kl (xP 26) f=dD (.int ((A0%W:Nat):Int)):=by simp only[lT];simp only[Af,Do,b,a,Aj];exact Ea A0 W c
theorem i'{q W k:Nat}(a:k<W):(q*W+k)/W=q/\(q*W+k)%W=k:=
 ⟨by rw[rZ,xw _ _ (mJ (qd k) a),y0 a,tZ],by rw[rZ,zf,y6 a]⟩
theorem JF{q W k:Nat}(a:k<W)(b:q<=6):q*W+k+1<8*W:=
 mJ (mE (qf a (q*W)) (by rw[<-ADA];exact u7 W (xO b))) ((AA5 (mJ (qd k) a)).mpr (by decide))
theorem dB(m:Nat){q W k:Nat}(a:k<W)(d:q<=6)(e:0<q)(b:W<2^290):AR HH (m+4) 9 [.int (-((q*W+k+1:Nat):Int)),.int (W:Int)]=dD (B' (-(q:Int)-1) ((W:Int)-(k:Int)-1)):=by have c:0<W:=mJ (qd k) a;have h:=rU m (c:=q*W+k+1) (AB8 (nR (ADg e c) (tN _ k))) c (JF a d) b;rw[Nat.add_sub_cancel,(i' a).1,(i' a).2]at h;exact h
theorem Wy{W r:Nat}(d:1<W)(c:W<2^50)(a:r<W):kl 9 [.int ((6*W+r:Nat):Int),.int (W:Int)]=dD (B' 6 (r:Int))/\AR HH 5 9 [.int ((6*W+r:Nat):Int),.int (W:Int)]=dD (B' 6 (r:Int))/\
  (∀m,AR HH (m+4) 9 [.int (-((6*W+r:Nat):Int)),.int (W:Int)]=dD (if 0<r then B' (-7) ((W:Int)-(r:Int))else B' (-6) 0)):=by
 have b:W<2^290:=qS c (qJ (by decide) (by decide));have e:0<W:=rb d;have A:∀m,AR HH (m+3) 9 [.int ((6*W+r:Nat):Int),.int (W:Int)]=dD (B' 6 (r:Int)):=λm=>by
  rw[mB m (nR (ADg (by decide) e) (tN _ r)) e (rb (JF a (by decide))) b,(i' a).1,(i' a).2];rfl
 refine⟨A 3,A 2,λm=>?_⟩;induction r using uK with
 |zero=>induction W using uK with
  |zero=>exact absurd d (by decide)
  |succ V=>have h:=dB m (q:=5) (rn V) (by decide) (by decide) b;rw[AAn,show((V.succ:Nat):Int)-((V:Int)+1)=0 from ACv _,show 5*V.succ+V+1=6*V.succ+0 from(ADA 5 V.succ).symm]at h;exact h
 |succ k=>rw[if_pos (tG k)];have h:=dB m (q:=6) (rb a) (by decide) (by decide) b;rw[AAn]at h;exact h
theorem A7(a:Int): -1*a= -a:=by rw[ADh,tj]
theorem qx{W r:Nat}{s:Int}(e:s=1\/s= -1)(o:1<W)(c:W<2^50)(p:r<W)(i:f.get 27=dD (.int s))(j:f.get 30=dD (.int ((6*W:Nat):Int)))(k:f.get 31=dD (.int (W:Int)))(l:f.get 32=dD (.int (r:Int))):ev kl (xP 27) f=dD (C' W r s):=by
 refine BO (Wy o c p) λt u q=>?_;have b:W<2^4000:=qS c (qJ (by decide) (by decide));have v:6*W+r<2^4000:=by exact qS (nR (rb (JF p (by decide))) (yB 8 (nV c))) (mJ (by decide:8*2^50<=2^60) (qJ (by decide) (by decide)))
 have os:FP s=er:=by rcases e with rfl|rfl<;>nofun
 have m:FP (-s)=er:=by rcases e with rfl|rfl<;>nofun
 have w:((6*W:Nat):Int)+(r:Int)=((6*W+r:Nat):Int):=rfl;have n: -(W:Int)<0:=yN (sT.mpr (rb o));have x:kl 9 [.int (s*((6*W+r:Nat):Int)),.int (s*(W:Int))]=dD (B' 6 (s*(r:Int))):=by
  (rcases e with d|d<;>(replace d:=d.symm;rw[<-d]))
  ·rw[tj,tj,tj];exact t
  ·have:=lu 5 (a:= -1*((6*W+r:Nat):Int)) (b:= -1*(W:Int)) (q:=6) (r:=r) ((A7 _).symm▸n) (by
    rw[A7,A7,uH,uH];exact u)
   exact(A7 (r:Int)).symm▸this
 have y:kl 9 [.int (-s*((6*W+r:Nat):Int)),.int (s*(W:Int))]=dD (if 0<r then B' (-7) (s*((W:Int)-(r:Int)))else B' (-6) 0):=by
  (rcases e with d|d<;>rw[d])
  ·rw[A7,tj,tj];exact q 2
  ·have a:AR HH 5 9 [.int (-(-(-1:Int)*((6*W+r:Nat):Int))),.int (-(-1*(W:Int)))]=dD (if 0<r then B' (-7) ((W:Int)-(r:Int))else B' (-6) 0):=by
    rw[ADh,A7,A7,uH,uH];exact q 1
   by_cases h:0<r
   ·rw[if_pos h]at a⊢;rw[A7 ((W:Int)-(r:Int))];exact lu 5 ((A7 _).symm▸n) a
   ·rw[if_neg h]at a⊢;exact lu 5 ((A7 _).symm▸n) a
 simp only[gR];simp only[Af,Do,WZ,Dz,NS,Bt,Bj,i,j,k,l,Aj,AD,binI,N8,w,(B8 b),(B8 v),os,m,rt,if_true,x,y];rfl
theorem VN(a b c d:Int):DT (.l [B' a b,B' c d]) (.l [B' a b,B' c d])=er:=by simp[Rt,Uj,Tl,Vo,Ro,Sz,SM,Up,OK,Oa,B']
theorem Mr(a b c d:Int):KP (.l [B' a b,B' c d]) (.l [B' a b,B' c d])=dD er:=by have o:GA (.l [B' a b,B' c d])=er:=rfl;show(if GA (.l [B' a b,B' c d])&&GA (.l [B' a b,B' c d])then dD (DT (.l [B' a b,B' c d]) (.l [B' a b,B' c d]))else eu)=_;rw[o,VN];rfl
theorem rk{W r w:Nat}{s:Int}(y:s=1\/s= -1)(j:2<=w)(k:w<=9)(l:W=Wn w)(u:r<W)(m:f.get 26=dD (.int (w:Int)))(c:f.get 27=dD (.int s))(n:f.get 29=dD Ca)(a:f.get 31=dD (.int (W:Int)))(d:f.get 32=dD (.int (r:Int)))
  (p:f.get 33=dD (C' W r s)):tr (ev kl (xP 28) f)=dD fG:=by
 refine JG (LZ j k) λg g v z i=>?_;rw[<-l]at v z i;have b:W<2^4000:=qS i (qJ (by decide) (by decide));have o1:FP (r:Int)=er:=B8 (qS u b);have o2:FP ((W:Int)-(r:Int))=er:=Cw (mJ (ABv _ _) (mJ (ACN (nV i) (nV (qS u i))) (mJ (by decide:2^50+2^50<=2^60) (qJ (by decide) (by decide)))));have os:FP s=er:=by(rcases y with x|x<;>rw[x])<;>nofun
 have A:ev kl (.l (.cons (.t (.cons (.c (.int 6)) (.cons (.b .Mult (.v 27) (.v 32)) .nil))) (.cons (.ite (.q (.v 32) .Gt (.c (.int 0))) (.t (.cons (.neg (.c (.int 7))) (.cons (.b .Mult (.v 27) (.b .Sub (.v 31) (.v 32))) .nil))) (.t (.cons (.neg (.c (.int 6))) (.cons (.c (.int 0)) .nil)))) .nil))) f=dD (C' W r s):=by
  by_cases h:0<r
  ·have e:decide ((0:Int)<(r:Int))=er:=decide_eq_true (sT.mpr h);simp only[C6,Af,Do,WZ,DW,Kr,NS,ER,Bt,Bj,c,a,d,Aj,AD,binI,N8,o1,o2,os,rt,if_true,Cd,Mk,Nx,Ao,tr,AI,e,C',if_pos h];rfl
  ·have e:decide ((0:Int)<(r:Int))=fG:=decide_eq_false λq=>h (sT.mp q);simp only[C6,Af,Do,WZ,DW,Kr,NS,ER,Bt,Bj,c,a,d,Aj,AD,binI,N8,o1,o2,os,rt,if_true,Cd,Mk,Nx,Ao,tr,AI,e,C',if_neg h];rfl
 have B:KP (C' W r s) (C' W r s)=dD er:=by
  unfold C';split
  ·exact Mr _ _ _ _
  ·exact Mr _ _ _ _
 have C:ev kl (.q (.v 33) .NotEq (.l (.cons (.t (.cons (.c (.int 6)) (.cons (.b .Mult (.v 27) (.v 32)) .nil))) (.cons (.ite (.q (.v 32) .Gt (.c (.int 0))) (.t (.cons (.neg (.c (.int 7))) (.cons (.b .Mult (.v 27) (.b .Sub (.v 31) (.v 32))) .nil))) (.t (.cons (.neg (.c (.int 6))) (.cons (.c (.int 0)) .nil)))) .nil)))) f=dD (.bool fG):=by simp only[BP,A,Af,p];show Ao ((KP (C' W r s) (C' W r s)).map (!·))=_;rw[B];rfl
 have D:ev kl (.q (.call 6 (.cons (.v 31) (.cons (.v 26) .nil))) .NotEq (.v 29)) f=dD (.bool fG):=by
  have:ev kl (.call 6 (.cons (.v 31) (.cons (.v 26) .nil))) f=dD Ca:=by simp only[Af,Dz,Bt,Bj,a,m];exact v
  simp only[BP,this,Af,n];rfl
 have o:∀t,ev kl (.or t) f=IG kl t f:=λt=>by simp only[eK]
 simp only[jY,o,CZ,C];show tr (IG kl (.cons _ .nil) f)=_;simp only[WN,D];rfl
end
end
section
set_option exponentiation.threshold 5000
noncomputable def pv(w:Int):List Nat->Int
 |[]=>0
 |c::r=>(c:Int)+w*pv w r
theorem XN{w:Int}:pv w []=0:=rfl
theorem LC{w:Int}{c:Nat}{r:List Nat}:pv w (c::r)= ↑c+w*pv w r:=rfl
theorem Oh(w:Int):∀a b:List Nat,pv w (Hx a b)=pv w a+pv w b
 |[],b=>by simp[IF,JT,Gz,XN,LC]
 |a::r,[]=>by simp[IF,JT,Gz,XN,LC]
 |a::r,b::s=>by
  rw[Gz,LC,LC,LC,Oh w r s,zB];show((a+b:Nat):Int)+_=_
  lia
theorem Pg(w:Int)(p:List Nat):∀n,pv w (LF n p)=w^n*pv w p
 |0=>by simp[Vu,LX]
 |n+1=>by
  rw[LX,LC,Pg w p n,vw,AC3 (w^n) w,xK];simp
theorem Mf(w:Int):∀(n:Nat) (p:List Nat),pv w (GK n p)=(1+w)^n*pv w p
 |0,p=>by simp[Po,I4]
 |n+1,p=>by
  rw[I4,Mf w n,Oh,LC,vw,xK];congr 1;rw[y8,tj];simp
theorem I':∀a b:List Nat,(Hx a b).length=max a.length b.length
 |[],b=>by simp[IF,JT,Gz]
 |a::r,[]=>by simp[IF,JT,Gz]
 |a::r,b::s=>by simp[IF,JT,Gz,I' r s]
theorem NT(p:List Nat):∀n,(LF n p).length=n+p.length
 |0=>by simp[Vu,LX]
 |n+1=>by rw[LX,pJ,NT p n];lia
theorem KO:∀(n:Nat) (p:List Nat),(GK n p).length=n+p.length
 |0,p=>by simp[Po,I4]
 |n+1,p=>by
  rw[I4,KO n,I',pJ];lia
theorem Yd(w:Int):pv w [1,3,3,1]=(1+w)^3:=by
 simp only[XN,LC,vw,yc,zB,y8,tj,ADi,AC4,AC5];rw[xK w w w];rw[show((1:Nat):Int)=1 from rfl,show((3:Nat):Int)=3 from rfl,ADi,<-xK w w 3]
 lia
theorem K2{v:V}{n:Nat}(h:RD v=dD n):v=.int (n:Int):=by
 unfold RD at h;split at h
 ·split at h
  ·exact dE h▸rfl
  ·exact nS h
 ·exact nS h
set_option tactic.hygienic true in
theorem Jv{v u:V}{a b:List V}{p:List Nat}(h:Nd (v::a) (u::b)=dD p):∃(r d:Nat) (q:List Nat),v=.int (r:Int)/\u=.int (d:Int)/\Nd a b=dD q/\p=Hx (LF r (GK d [1])) q/\r+d+1<=p.length/\q.length<=p.length:=by
 replace h:(match RD v with
  |some r=>match RD u with
   |some d=>match Nd a b with
    |some p=>dD (Hx (LF r (GK d [1])) p)
    |none=>eu
   |none=>eu
  |none=>eu)=dD p:=h
 split at h
 ·rename_i r c;split at h
  ·rename_i d hd;split at h
   ·rename_i q e
    (replace h:=dE h;subst h)
    refine⟨r,d,q,K2 c,K2 hd,e,rfl,?_,?_⟩
    ·simp only[I',NT,KO,List.length_singleton];lia
    ·rw[I'];lia
   ·exact nS h
  ·exact nS h
 ·exact nS h
theorem Ip:∀{a b:List V} {p:List Nat},Nd a b=dD p->a.length=b.length
 |[],[],_,_=>rfl
 |v::a,u::b,p,h=>by
  obtain⟨_,_,q,_,_,e,_⟩:=Jv h;simp only[pJ,pJ,Ip e]
 |[],u::b,p,h=>by cases h
 |v::a,[],p,h=>by cases h
noncomputable def Te:X:=.b .Mult (.b .Pow (.v 4) (.sub (.v 3) (.v 1))) (.b .Pow (.b .Add (.c (.int 1)) (.v 4)) (.sub (.v 2) (.v 1)))
theorem OB{x:Int}{n:Nat}(a:x.natAbs<2^60)(b:n<=3):(x^n).natAbs<2^4000:=by have h:x.natAbs^n<=(2^60)^3:=mE (ABP (nV a) n) (rv (by decide) b);rw[zd];exact mJ h (by decide)
theorem Xz{a b:List V}{w:Int}{k r d:Nat}(e:w.natAbs<2^50)(t:k<100)(i:a[k]?=dD (.int (r:Int)))(hd:b[k]?=dD (.int (d:Int)))(u:r+d<=3):
  ev kl Te [(2,.l b),(3,.l a),(4,.int w),(1,.int (k:Int))]=dD (.int (w^r*(1+w)^d)):=by
 have h:Zd k=er:=mK (by lia);have j:C0 (.l a) (.int (k:Int))=dD (.int (r:Int)):=by
  rw[<-FD];show(match Zd k with
   |true=>Hs a k
   |false=>C0 (.l a) (.int (.ofNat k)))=_
  rw[h,Cx];exact i
 have l:C0 (.l b) (.int (k:Int))=dD (.int (d:Int)):=by
  rw[<-FD];show(match Zd k with
   |true=>Hs b k
   |false=>C0 (.l b) (.int (.ofNat k)))=_
  rw[h,Cx];exact hd
 have o1:FP w=er:=Cw (qS e (qJ (by decide) (by decide)));have c:(1+w).natAbs<2^60:=mJ (yZ 1 w) (nR (we e 1) (by decide));have o2:FP (1+w)=er:=Cw (qS c (qJ (by decide) (by decide)));have m:FP (w^r)=er:=Cw (OB (by lia) (by lia));have n:FP ((1+w)^d)=er:=Cw (OB c (by lia));have o:decide ((0:Int)<=(r:Int))=er:=decide_eq_true (by lia);have p:decide ((r:Int)<=1000)=er:=decide_eq_true (by lia);have q:decide ((0:Int)<=(d:Int))=er:=decide_eq_true (by lia);have s:decide ((d:Int)<=1000)=er:=decide_eq_true (by lia);unfold Te;simp only[C6,Af,Do,CC,AC,lf,Aj,j,l,AD,binI,o1,o2,m,n,o,p,q,s,rt,if_true,p7]
noncomputable def db:Ev->Option (List V):=λa=>BD (Hk kl .no a) (Jl kl .nil a λb=>Mine.Internal.one (ev kl Te b))
theorem Mx{w:Int}(s:w.natAbs<2^50)(b c:List V):∀(a i:List V) (k:Nat) (p:List Nat),Nd a i=dD p->p.length<=4->b.drop k=a->c.drop k=i->k+a.length<=50->
  ∃l:List Int,Ai (.one 1) [(2,.l c),(3,.l b),(4,.int w)] db ((tg k a.length).map λj:Nat=>V.int (j:Int))=dD (l.map V.int)/\sumZ l=pv w p/\l.length=a.length
 |[],[],k,p,h,_,_,_,_=>⟨[],rfl,by(replace h:=dE h;subst h);rfl,rfl⟩
 |v::a,u::i,k,p,h,I,x,y,z=>by
  obtain⟨r,d,q,rfl,rfl,e,rfl,J,L⟩:=Jv h;have A:b[k]?=dD (.int (r:Int)):=by have:=congrArg (·[0]?) x;simpa using this
  have B:c[k]?=dD (.int (d:Int)):=by have:=congrArg (·[0]?) y;simpa using this
  have m:b.drop (k+1)=a:=by rw[<-tR,x];rfl
  have n:c.drop (k+1)=i:=by rw[<-tR,y];rfl
  have o:k+1+a.length<=50:=by rw[pJ]at z;lia
  obtain⟨l,C,D,E⟩:=Mx s b c a i (k+1) q e (by lia) m n o;have t:=Xz s (k:=k) (by rw[pJ]at z;lia) A B (by lia);have G:EM (.one 1) (.int (k:Int)) [(2,.l c),(3,.l b),(4,.int w)]=dD [(2,.l c),(3,.l b),(4,.int w),(1,.int (k:Int))]:=rfl;refine⟨(w^r*(1+w)^d)::l,?_,?_,by rw[pJ,pJ,E]⟩
  ·rw[pJ,yi,pj,FR,G];have H:db [(2,.l c),(3,.l b),(4,.int w),(1,.int (k:Int))]=dD [.int (w^r*(1+w)^d)]:=by
    unfold db;rw[Yi,et,t];rfl
   simp only[H,C];rfl
  ·rw[Vz,D,Oh,Pg,Mf];simp[XN,LC]
 |[],_::_,_,_,h,_,_,_,_=>by have:=Ip h;simp at this
 |_::_,[],_,_,h,_,_,_,_=>by have:=Ip h;simp at this
section
variable{f g:Ev}
theorem rI{w:Int}(s:w.natAbs<2^50)(h:f.get 34=dD (.int w))(a:Oo (f.get 36) (f.get 37)=er):ev kl (xP 33) f=dD (.int ((1+w)^3)):=by
 refine E1 a λi b a=>E1 a λk d a=>E1 a λq t a=>?_;replace b:=bO F9 b;replace d:=bO F9 d;have a:=nM.mp a;have m:=(DM _ _).mp a.1;have p:=lk a.2;subst m;obtain⟨l,r,u,x⟩:=Mx s i k i k 0 _ t (by decide) rfl rfl (by lia);rw[p]at r;have c:Bu f [(2,37),(3,36),(4,34)]=[(2,.l k),(3,.l i),(4,.int w)]:=by simp only[E7,C2,b,d,h]
 have r7:EW kl (.rg (.cons (.c (.int 7)) .nil)) f=dD ((tg 0 7).map λj:Nat=>V.int (j:Int)):=by rw[WL,Bj,Bt,C6];rfl
 have y:ev kl (.cm Te (.one 1) (.rg (.cons (.c (.int 7)) .nil)) .no .nil [(2,37),(3,36),(4,34)]) f=EV (dD (l.map V.int)):=by rw[LD,r7,c];exact congrArg EV r
 have e:xP 33=.bi .sum (.cons (.cm Te (.one 1) (.rg (.cons (.c (.int 7)) .nil)) .no .nil [(2,37),(3,36),(4,34)]) .nil):=rfl;have n:A5 (l.map V.int)=er:=by unfold A5;exact mK (by rw[px,x,p];decide)
 rw[e,FU,Bj,Bt,y];show(match(match(match A5 (l.map V.int)with
  |true=>dD (V.l (l.map V.int))
  |false=>eu),(dD []:Option (List V))with
  |some v,dD o=>dD (v::o)
  |_,_=>eu)with
  |some o=>Ju .sum o
  |none=>eu)=_
 rw[n];show Ju .sum [.l (l.map V.int)]=_;rw[NV,u,Yd]
end
end
section
set_option exponentiation.threshold 5000
noncomputable def wv(AY A0:Nat):Int:=(((AY%9:Nat):Int)-4)*(((1000000000+A0:Nat):Int)^(AY/9%2))
theorem BC(AY:Nat):(((AY%9:Nat):Int)-4).natAbs<=13:=mE (ABv _ _) (sn (nV (qY AY (by decide))) 4)
theorem Ii{w:Int}{B:Nat}(h:w.natAbs<B):(1+w).natAbs<=B:=mE (yZ 1 w) (rZ 1 w.natAbs▸h)
theorem Jq{M:Int}(h:M<0):∃m:Nat,0<m/\M= -(m:Int):=by
 induction M using wO with
 |ofNat n=>exact absurd h (u6.mpr (pP n))
 |negSucc n=>exact⟨n+1,tG n,rfl⟩
theorem LB{M:Int}(h:0<M):∃m:Nat,0<m/\M=(m:Int):=by
 induction M using wO with
 |ofNat n=>exact⟨n,sT.mp h,rfl⟩
 |negSucc n=>exact absurd h (u6.mpr (yS (x' n)))
theorem Lw{AY A0:Nat}(h:A0<=200000):(wv AY A0).natAbs<2^50:=by
 unfold wv;rw[ACb];have a:((((AY%9:Nat):Int)-4).natAbs)<=13:=BC AY;have b:((((1000000000+A0:Nat):Int)^(AY/9%2)).natAbs)<=1000200000:=
  (zg (AY/9)).elim (λe=>by rw[e,yc];decide) λe=>by rw[e,vw,yc,tj];exact qf h 1000000000
 exact mJ (vi a b) (by decide)
noncomputable def Kv(A0:Nat)(w:Int):Int:=if w= -1 then 0 else(A0:Int).fmod ((1+w)^3)
theorem Lh{w:Int}(h:w≠ -1):(1+w)^3≠0:=by
 intro q;have a:(1+w)≠0:=λe=>h (Int.add_left_cancel (e.trans (by rfl):1+w=1+ -1));simp only[vw,vw,vw,yc,tj]at q;rcases ACI.mp q with q|q
 ·rcases ACI.mp q with q|q<;>exact a q
 ·exact a q
theorem O9{w:Int}(h:w.natAbs<2^50):((1+w)^3).natAbs<2^200:=by rw[zd];have:(1+w).natAbs<=2^60:=mE (Ii h) (by decide);exact mJ (ABP this 3) (by decide)
theorem PM(k:Nat){m n:Nat}(a:0<m)(b:n<m)(e:m<2^200):AR HH (k+3) 9 [.int ((m+n:Nat):Int),.int (m:Int)]=dD (B' 1 (n:Int)):=by rw[mB k (nR a (tN m n)) a (nR (we b m) (by rw[<-zA];exact u7 m (by decide))) (qS e (by decide)),Nat.add_div_left n a,y0 b,Nat.add_mod_left,y6 b];rfl
theorem rT{A0:Nat}{M:Int}(g:M≠0)(b:M.natAbs<2^200):kl 9 [.int (M+(A0:Int).fmod M),.int M]=dD (B' 1 ((A0:Int).fmod M)):=by
 rcases Int.lt_or_gt_of_ne g with h|h
 ·obtain⟨m,a,rfl⟩:=Jq h;have i:(A0:Int).fmod (-(m:Int))= -((-(A0:Int)).fmod (m:Int)):=by
   have:=Int.neg_fmod_neg (-(A0:Int)) (m:Int);rw[uH]at this;exact this
  have e:=AAZ (-(A0:Int)) (sT.mpr a);have f:=ABg (-(A0:Int)) (sT.mpr a);rw[i];generalize(-(A0:Int)).fmod (m:Int)=q at e f;obtain⟨n,rfl⟩:=z4 e;rw[x0]at b;exact lu 5 (a:= -(m:Int)+ -(n:Int)) (b:= -(m:Int)) (q:=1) (r:=n) h (by rw[y7,uH,uH];exact PM 2 a (sG.mp f) b)
 ·obtain⟨m,a,rfl⟩:=LB h;rw[VY];exact PM 3 a (qY _ a) b
section
variable{c d:Ev}
theorem r5{AY A0:Nat}(a:A0<=200000)(e:c.get 4=dD (.int (AY:Int)))(f:c.get 5=dD (.int (A0:Int))):ev kl (xP 29) c=dD (.int (wv AY A0)):=by
 have g:AD .Mod (.int AY) (.int 9)=dD (.int ((AY%9:Nat):Int)):=Ea AY 9 (by decide);have h:AD .FloorDiv (.int AY) (.int 9)=dD (.int ((AY/9:Nat):Int)):=Ls AY 9 (by decide) (Mt (qF _) rfl);have i:AD .Mod (.int ((AY/9:Nat):Int)) (.int 2)=dD (.int ((AY/9%2:Nat):Int)):=Ea _ 2 (by decide);have j:AD .Pow (.int 10) (.int 9)=dD (.int ((1000000000:Nat):Int)):=rfl;have k:AD .Add (.int ((1000000000:Nat):Int)) (.int (A0:Int))=dD (.int ((1000000000+A0:Nat):Int)):=QJ _ _;have b:((1000000000+A0:Nat):Int).natAbs<2^60:=mJ (qf a 1000000000) (by decide);have l:decide ((0:Int)<=((AY/9%2:Nat):Int))=er:=decide_eq_true (pP _);have m:decide (((AY/9%2:Nat):Int)<=1000)=er:=decide_eq_true (tD.mpr (mE (nV (qY _ (by decide))) (by decide:2<=1000)));have o2:FP (((1000000000+A0:Nat):Int)^(AY/9%2))=er:=Cw (OB b (mE (nV (qY (AY/9) (by decide:2>0))) (by decide)));have n:FP (((AY%9:Nat):Int)-4)=er:=Cw (mJ (BC AY) (by decide));have o:AD .Pow (.int ((1000000000+A0:Nat):Int)) (.int ((AY/9%2:Nat):Int))=dD (.int (((1000000000+A0:Nat):Int)^(AY/9%2))):=by simp only[AD,binI,(Cw (qS b (qJ (by decide) (by decide)))),l,m,rt,if_true,p7]
 have p:AD .Sub (.int ((AY%9:Nat):Int)) (.int 4)=dD (.int (((AY%9:Nat):Int)-4)):=rfl;have q:AD .Mult (.int (((AY%9:Nat):Int)-4)) (.int (((1000000000+A0:Nat):Int)^(AY/9%2)))=dD (.int (wv AY A0)):=by simp only[AD,binI,o2,n,rt,if_true];rfl
 simp only[jg];simp only[C6,Af,Do,e,f,Aj,g,h,i,j,k,o,p,q]
theorem JI{a b:Int}(h:a≠b):(a==b)=fG:=beq_eq_false_iff_ne.mpr h
theorem N3{w:Int}(a:w.natAbs<2^50):Aj (AD .Pow) (Aj (AD .Add) (dD (.int 1)) (dD (.int w))) (dD (.int 3))=dD (.int ((1+w)^3)):=by have o1:FP (1+w)=er:=Cw (mJ (Ii a) (qJ (by decide) (by decide)));simp only[Aj,AD,binI,o1,(rfl),(rfl),rt,if_true];rfl
theorem rd{A0:Nat}{w:Int}(g:w.natAbs<2^50)(a:c.get 34=dD (.int w))(h:c.get 5=dD (.int (A0:Int))):ev kl (xP 34) c=dD (.int (Kv A0 w)):=by
 have i:ev kl (.b .Pow (.b .Add (.c (.int 1)) (.v 34)) (.c (.int 3))) c=dD (.int ((1+w)^3)):=by simp only[Do,C6,Do,C6,Af,a];exact N3 g
 have e:ev kl (xP 34) c=(match tr (Ao ((dD (w== -1)).map (!·)))with
  |some er=>Aj (AD .Mod) (dD (.int (A0:Int))) (dD (.int ((1+w)^3)))
  |some fG=>dD (.int 0)
  |none=>eu):=by
  have j:ev kl (.q (.v 34) .NotEq (.neg (.c (.int 1)))) c=Ao ((dD (w== -1)).map (!·)):=by simp only[BP,Af,a,WZ,C6];rfl
  have k:ev kl (.b .Mod (.v 5) (.b .Pow (.b .Add (.c (.int 1)) (.v 34)) (.c (.int 3)))) c=Aj (AD .Mod) (dD (.int (A0:Int))) (dD (.int ((1+w)^3))):=by simp only[Do,i,Af,h]
  have l:ev kl (.c (.int 0)) c=dD (.int 0):=by simp only[C6]
  simp only[kK,Kr,j,k,l]<;>rfl
 simp only[e,(λb=>rfl)];unfold Kv;by_cases q:w= -1
 ·rw[q];rfl
 ·rw[JI q,if_neg q];have f:((1+w)^3 != 0)=er:=by rw[bne_iff_ne];exact Lh q
  show AD .Mod (.int (A0:Int)) (.int ((1+w)^3))=_;simp only[AD,binI,f,if_true]
noncomputable def CH(A0:Nat)(w:Int):V:=if w= -1 then .t [Cv,.int 0]else B' 1 (Kv A0 w)
theorem oH{A0:Nat}{w:Int}(g:w.natAbs<2^50)(b:c.get 34=dD (.int w))(a:c.get 38=dD (.int ((1+w)^3)))(f:c.get 39=dD (.int (Kv A0 w))):QP kl c=dD (c.put 33 (CH A0 w)):=by
 have h:EE kl Qb c=dD [.int ((1+w)^3+Kv A0 w),.int ((1+w)^3)]:=by
  have i:ev kl (.b .Pow (.b .Add (.c (.int 1)) (.v 34)) (.c (.int 3))) c=dD (.int ((1+w)^3)):=by simp only[Do,C6,Do,C6,Af,b];exact N3 g
  have j:ev kl (.b .Add (.v 38) (.v 39)) c=dD (.int ((1+w)^3+Kv A0 w)):=by simp only[Do,Af,Af,a,f];rfl
  unfold Qb;simp only[Bj,Bj,Bt,i,j]
 unfold QP CH;simp only[h];show(match decide ((1+w)^3=0)with
  |true=>(c.get 38).bind λt=>dD (c.put 33 (.t [Cv,t]))
  |false=>(kl 9 [.int ((1+w)^3+Kv A0 w),.int ((1+w)^3)]).bind λv=>dD (c.put 33 v))=_
 by_cases q:w= -1
 ·subst q;have z:((1:Int)+ -1)^3=0:=by decide
  rw[z]at a⊢;rw[if_pos rfl];show(c.get 38).bind _=_;rw[a];rfl
 ·rw[if_neg q];simp only[(decide_eq_false (Lh q))];have:=rT (A0:=A0) (Lh q) (O9 g);have e:Kv A0 w=(A0:Int).fmod ((1+w)^3):=by unfold Kv;rw[if_neg q]
  rw[<-e]at this;rw[this];rfl
theorem rK{A0:Nat}{w:Int}(a:c.get 33=dD (CH A0 w))(b:c.get 34=dD (.int w))(e:c.get 39=dD (.int (Kv A0 w))):tr (ev kl q0 c)=dD fG:=by
 have f:ev kl (.q (.v 34) .NotEq (.neg (.c (.int 1)))) c=Ao ((dD (w== -1)).map (!·)):=by simp only[BP,Af,b,WZ,C6];rfl
 have g:ev kl (.ite (.q (.v 34) .NotEq (.neg (.c (.int 1)))) (.t (.cons (.c (.int 1)) (.cons (.v 39) .nil))) (.t (.cons (.c (.str [114,101,102,117,115,101,100])) (.cons (.c (.int 0)) .nil)))) c=dD (CH A0 w):=by
  simp only[Kr,f];unfold CH;by_cases q:w= -1
  ·rw[q];show ev kl (.t (.cons (.c (.str [114,101,102,117,115,101,100])) (.cons (.c (.int 0)) .nil))) c=_;simp only[C6,ER,Bt,Bj];rfl
  ·rw[JI q,if_neg q];show ev kl (.t (.cons (.c (.int 1)) (.cons (.v 39) .nil))) c=_;simp only[C6,Af,ER,Bt,Bj,e];rfl
 have h:KP (CH A0 w) (CH A0 w)=dD er:=by
  unfold CH;by_cases q:w= -1
  ·rw[if_pos q];nofun
  ·rw[if_neg q];have o:GA (B' 1 (Kv A0 w))=er:=rfl;show(if GA (B' 1 (Kv A0 w))&&GA (B' 1 (Kv A0 w))then dD (DT (B' 1 (Kv A0 w)) (B' 1 (Kv A0 w)))else eu)=_;rw[o];simp[Rt,Uj,Tl,Vo,Ro,Sz,SM,Up,OK,Oa,B']
 unfold q0;simp only[BP,g,Af,a];show tr (Ao ((KP (CH A0 w) (CH A0 w)).map (!·)))=_;rw[h];rfl
end
end
theorem NJ(A B:Ev)(i:Nat)(h:A.get i=eu):(A++B).get i=B.get i:=by rw[Ev.get_append,h]
theorem SU(A B:Ev)(i:Nat)(v:V)(h:A.get i=dD v):(A++B).get i=dD v:=by rw[Ev.get_append,h]
noncomputable def KT:List Nat:=[8,9,10,11,12,13,14,20,22,23,24,25,28,29,36,37]
noncomputable def KV:List Nat:=[15,17,18,19]
noncomputable def Hc(a:V)(one two AK AY A0:Nat):Ev:=[(0,a),(1,.int one),(2,.int two),(3,.int AK),(4,.int AY),(5,.int A0)]
noncomputable def W8(a W A0:Nat)(s w:Int):Ev:=[(6,Cq),(7,HZ),(16,BV),(21,JO),(35,JJ),(26,.int (a:Int)),(27,.int s),(30,.int ((6*W:Nat):Int)),(31,.int (W:Int)),(32,.int ((A0%W:Nat):Int)),(33,C' W (A0%W) s),(34,.int w),(38,.int ((1+w)^3)),(39,.int (Kv A0 w))]
noncomputable def LT:List Nat:=[3,5,6,7,14,16,17,18,19,20,22,23,31,32]
noncomputable def LV:List Nat:=[10,11,12,15]
noncomputable def LR:List Nat:=[0,1,2,4,8,13,21,24,25,26,27,28,29,33,34]
theorem ks:∀k,k<35->k∈LT\/k∈LV\/k∈ [9,30]\/k∈LR:=by decide
theorem fR:LT.all (λk=>subB (Pt (BH Am k)++E9 (BH Am k)) (KT++ [6,7,16,21,35]))=er:=by nofun
theorem kF:LV.all (λk=>subB (Pt (BH Am k)++E9 (BH Am k)) (KV++ [16,20,21]))=er:=by nofun
theorem jh:[9,30].all (λk=>subB (Pt (BH Am k)++E9 (BH Am k)) [16,35])=er:=by nofun
theorem Ki{l:List Nat}{K:List Nat}(h:l.all (λk=>subB (Pt (BH Am k)++E9 (BH Am k)) K)=er){k:Nat}(c:k∈l){b a:Ev}(d:Agree K b a)(e:Holds kl b (BH Am k)):Holds kl a (BH Am k):=
 NG (λi f=>d i (Be (mH.mp h k c) f)) e
theorem BB{k i:Nat}{a:Ev}{v:V}(e:BH Am k=.ag (.one i) (xP k))(h:ev kl (xP k) a=dD v)(g:a.get i=dD v):Holds kl a (BH Am k):=by rw[e];exact⟨v,h,g⟩
theorem DX{k i:Nat}{a:Ev}(e:BH Am k=.ag (.one i) (xP k))(h:Holds kl a (BH Am k)):∃v,ev kl (xP k) a=dD v/\a.get i=dD v:=by rw[e]at h;exact h
structure GT(ρ:Ev):Prop where
 cnt:ρ.get 29=dD Ca
 nam:ρ.get 20=dD DQ
 x24:ev kl x24 ρ=dD (.l [.int 6,.int 12,.int 6,.int 6,.int 12])
 pol:Oo (ρ.get 36) (ρ.get 37)=er
 brd:Ky (ρ.get 13) (ρ.get 12) (ρ.get 10) (ρ.get 9)=er
 row:∃rows,ρ.get 14=dD rows/\Od rows=er/\∀v,v<7->Nu rows v=er
theorem oR:∀{v:Nat},v<7->v∈ [0,1,2,3,4,5,6]:=by decide
theorem lU{c:Ev}(h:SH c=er):GT c:=by have h:=nM.mp h;have d:=nM.mp h.2;have e:=nM.mp d.2;have f:=nM.mp e.2;have g:=nM.mp f.2;refine E1 g.2 λa i b=>?_;have b:=nM.mp b;exact⟨Cn h.1,Cn d.1,by rw[<-HJ];exact Cn e.1,f.1,g.1,a,i,b.1,λv j=>mH.mp b.2 v (oR j)⟩
theorem ME{a b:Option V}(h:Vg a b=er):a=b:=E1 h λz e h=>E1 h λz q h=>e.trans ((congrArg dD (O8 _ _ h)).trans q.symm)
theorem Q2{x:X}{l:List Nat}(h:subB (Bb x) l=er){ρ ρ':Ev}(g:On (λi=>ρ.get i=ρ'.get i) l):ev kl x ρ=ev kl x ρ':=
 Ay kl x _ _ λi a=>On.all g i (Be h a)
theorem qA:∀i∈KT,i∉KV:=by decide
theorem Mc:∀{a:Ev} {i:Nat},(a.all λp=>!lf p.1 i)=er->a.get i=eu
 |[],_,_=>rfl
 |(j,v)::r,i,h=>by
  obtain⟨b,c⟩:=ba (h:(!lf j i&&r.all λp=>!lf p.1 i)=er);show(match lf j i with|true=>dD v|false=>Ev.get r i)=eu;rw[(qI _).mp b];exact Mc c
theorem sgn(t:Nat):(1:Int)-((t%2*2:Nat):Int)=1\/(1:Int)-((t%2*2:Nat):Int)= -1:=(zg t).imp (λe=>by rw[e];rfl) λe=>by rw[e];rfl
theorem bM(M:V){one two AK AY A0:Nat}(hf:A0<=200000):
  ∃m g,AX kl fG Am (Hc M one two AK AY A0) []=dD (.nx m [])/\GT g/\m.get 5=dD (.int (A0:Int))/\m.get 34=dD (.int (wv AY A0))/\m.get 38=dD (.int ((1+wv AY A0)^3))/\m.get 39=dD (.int (Kv A0 (wv AY A0)))/\
   (∀i∈ [9,10,12,13],m.get i=g.get i):=by
 (refine CB λZ H=>?_;obtain⟨g,fT,aT,gT⟩:=bx (t:=two%42) (qY _ (by decide))<;>refine H ?_)
 (refine CB λZ H=>?_;obtain⟨d,fV,aV,mV⟩:=eT (v:=AK/2%7) (qY _ (by decide))<;>refine H ?_)
 (refine CB λZ H=>?_;obtain⟨a1,fE,eE,sE⟩:=d4<;>refine H ?_)
 have G:=lU gT;generalize hw:wv AY A0=w;have a2:w.natAbs<2^50:=by rw[<-hw];exact Lw hf
 generalize N:2+AK/14%8=O;have r:2<=O:=N▸tN 2 _;have t:O<=9:=N▸qf (yb (qY _ (by decide))) 2
 (refine CB λZ H=>?_;obtain⟨_,_,_,W1,W2⟩:=LZ r t<;>refine H ?_)
 generalize hW:Wn O=W at W1 W2;generalize hs:(1:Int)-((AK%2*2:Nat):Int)=s;have a3:s=1\/s= -1:=hs▸sgn AK;generalize hA:Hc M one two AK AY A0++W8 O W A0 s w=AA;generalize Q:AA++(Oj g KT++Oj d KV)=b;have nT:∀i∈KT++KV,AA.get i=eu:=λi f=>by
  rw[<-hA];exact Mc (mH.mp (show((KT++KV).all λi=>(Hc M one two AK AY A0++W8 O W A0 s w).all λp=>!lf p.1 i)=er from rfl) i f)
 have u:∀i∈KT,b.get i=g.get i:=λi f=>by
  rw[<-Q,NJ _ _ _ (nT i (u4 _ f)),Ev.get_append,Ey,if_pos f];cases h:g.get i with
  |some v=>rfl
  |none=>show(Oj d KV).get i=eu;rw[Ey,if_neg (qA i f)]
 have gV:∀i∈KV,b.get i=d.get i:=λi f=>by
  rw[<-Q,NJ _ _ _ (nT i (tK _ f)),Ev.get_append,Ey,if_neg (λq=>qA i q f),Ey,if_pos f]
 have c:∀i v,(Hc M one two AK AY A0++W8 O W A0 s w).get i=dD v->b.get i=dD v:=λi v h=>by rw[<-Q];exact SU _ _ _ _ (hA▸h)
 have g1:b.get 1=dD (.int (one:Int)):=c 1 _ rfl;have g2:b.get 2=dD (.int (two:Int)):=c 2 _ rfl;have g3:b.get 3=dD (.int (AK:Int)):=c 3 _ rfl;have g4:b.get 4=dD (.int (AY:Int)):=c 4 _ rfl;have g5:b.get 5=dD (.int (A0:Int)):=c 5 _ rfl;have g6:b.get 6=dD Cq:=c 6 _ rfl;have g7:b.get 7=dD HZ:=c 7 _ rfl;have z:b.get 16=dD BV:=c 16 _ rfl;have a4:b.get 21=dD JO:=c 21 _ rfl;have a5:b.get 35=dD JJ:=c 35 _ rfl;have I:b.get 26=dD (.int (O:Int)):=c 26 _ rfl;have U:b.get 27=dD (.int s):=c 27 _ rfl;have a6:b.get 30=dD (.int ((6*W:Nat):Int)):=c 30 _ rfl;have J:b.get 31=dD (.int (W:Int)):=c 31 _ rfl;have Y:b.get 32=dD (.int ((A0%W:Nat):Int)):=c 32 _ rfl;have a7:b.get 33=dD (C' W (A0%W) s):=c 33 _ rfl;have L:b.get 34=dD (.int w):=c 34 _ rfl;have a8:b.get 38=dD (.int ((1+w)^3)):=c 38 _ rfl;have a9:b.get 39=dD (.int (Kv A0 w)):=c 39 _ rfl;have t2:g.get 2=dD (.int ((two%42:Nat):Int)):=(aT 2 (by decide)).symm;have aa:Agree (KT++ [6,7,16,21,35]) g b:=λi f=>by
  rcases tH.mp f with f|f
  ·exact(u i f).symm
  ·exact On.all (P:=λi=>g.get i=b.get i) (l:=[6,7,16,21,35]) ⟨(aT 6 (by decide)).symm.trans g6.symm,(aT 7 (by decide)).symm.trans g7.symm,(aT 16 (by decide)).symm.trans z.symm,(aT 21 (by decide)).symm.trans a4.symm,(aT 35 (by decide)).symm.trans a5.symm,trivial⟩ i f
 have an:b.get 20=dD DQ:=(u 20 (by decide)).trans G.nam;have ac:b.get 29=dD Ca:=(u 29 (by decide)).trans G.cnt;have ao:Agree (KV++ [16,20,21]) d b:=λi f=>by
  rcases tH.mp f with f|f
  ·exact(gV i f).symm
  ·exact On.all (P:=λi=>d.get i=b.get i) (l:=[16,20,21]) ⟨(aV 16 (by decide)).symm.trans z.symm,(aV 20 (by decide)).symm.trans an.symm,mV.trans a4.symm,trivial⟩ i f
 have ap:Agree [16,35] a1 b:=On.all (P:=λi=>a1.get i=b.get i) (l:=[16,35]) ⟨eE.trans z.symm,sE.trans a5.symm,trivial⟩;have aq:∀k∈LT,Holds kl b (BH Am k):=λk A=>Ki fR A aa (BR _ fT k (Be (a:=LT) (by nofun) A));have ar:∀k∈LV,Holds kl b (BH Am k):=λk A=>Ki kF A ao (BR _ fV k (Be (a:=LV) (by nofun) A));have as:∀k∈ [9,30],Holds kl b (BH Am k):=λk A=>Ki jh A ap (BR _ fE k A);have H0:Holds kl b (BH Am 0):=by
  show∃vs,ev kl (xP 0) b=dD (.t vs)/\[6,7].length=vs.length/\∀(j i:Nat) (v:V),[6,7][j]?=dD i->vs[j]?=dD v->b.get i=dD v;refine⟨[Cq,HZ],v0 g1,rfl,λj i v l o=>?_⟩
  match j,l,o with
  |0,l,o=>(replace l:=dE l;subst l);(replace o:=dE o;subst o);exact g6
  |1,l,o=>(replace l:=dE l;subst l);(replace o:=dE o;subst o);exact g7
  |n+2,l,o=>simp at l
 have H1:Holds kl b (BH Am 1):=by obtain⟨v,l,o⟩:=DX (k:=1) (i:=8) rfl (BR _ fT 1 (by decide));have e:two%42%2=two%2:=ABh two (by decide);rw[v1 t2,e]at l;exact BB (i:=8) rfl ((v1 g2).trans l) ((u 8 (by decide)).trans o)
 have H2:Holds kl b (BH Am 2):=by obtain⟨v,l,o⟩:=DX (k:=2) (i:=9) rfl (BR _ fT 2 (by decide));exact BB (i:=9) rfl ((v2 g2 t2).trans l) ((u 9 (by decide)).trans o)
 have H4:Holds kl b (BH Am 4):=by obtain⟨v,l,o⟩:=DX (k:=4) (i:=11) rfl (BR _ fT 4 (by decide));exact BB (i:=11) rfl ((v4 g2 t2 (u 10 (by decide))).trans l) ((u 11 (by decide)).trans o)
 have t3:d.get 3=dD (.int (wn (2*(AK/2%7)))):=(aV 3 (by decide)).symm;obtain⟨a0,ae,af⟩:=DX (k:=8) (i:=15) rfl (BR _ fV 8 (by decide));obtain⟨B,au,ag⟩:=DX (k:=10) (i:=17) rfl (BR _ fV 10 (by decide));have H8:Holds kl b (BH Am 8):=BB (i:=15) rfl ((v8 g3 t3).trans ae) ((gV 15 (by decide)).trans af);have av:nx (AK/2%7)=B:=by have k1:ev kl (xP 8) [(3,.int (wn (2*(AK/2%7))))]=dD a0:=(Q2 (x:=xP 8) (ρ:=[(3,.int (wn (2*(AK/2%7))))]) (ρ':=d) (l:=[3]) (by nofun) ⟨t3.symm,trivial⟩).trans ae;have k2:ev kl (xP 10) [(15,a0),(16,BV)]=dD B:=(Q2 (x:=xP 10) (ρ:=[(15,a0),(16,BV)]) (ρ':=d) (l:=[15,16]) (by nofun) ⟨af.symm,aV 16 (by decide),trivial⟩).trans au;unfold nx;rw[HJ,k1];simp only[HJ,k2]
 have aw:Holds kl b (BH Am 13):=by obtain⟨C,r1,r2,r3⟩:=G.row;have ah:b.get 14=dD C:=(u 14 (by decide)).trans r1;have ax:b.get 17=dD B:=(gV 17 (by decide)).trans ag;have ai:d.get 14=dD DQ:=(aV 14 (by decide)).symm;have aj:d.get 16=dD BV:=(aV 16 (by decide)).symm;have c1:∀(E:Ev) (a:V),E.get 14=dD a->E.get 16=dD BV->E.get 17=dD B->ev kl Lo.1 E=ev kl Lo.1 [(14,a),(16,BV),(17,B)]:=λE a h1 h2 h3=>Q2 (l:=[14,16,17]) (by nofun) ⟨h1,h2,h3,trivial⟩;have c2:∀(E:Ev) (a:V),E.get 14=dD a->E.get 16=dD BV->ev kl Lo.2 E=ev kl Lo.2 [(14,a),(16,BV)]:=λE a h1 h2=>Q2 (l:=[14,16]) (by nofun) ⟨h1,h2,trivial⟩;have w1:=r3 (AK/2%7) (qY _ (by decide));unfold Nu at w1;rw[av]at w1;simp only[HJ]at w1;have w2:=r2;unfold Od at w2;simp only[HJ,HJ]at w2;have hh:tr (ev kl (xP 13) d)=dD fG:=BR _ fV 13 (by decide);show tr (ev kl (xP 13) b)=dD fG;rw[rW (ρ':=d) (gV 18 (by decide)) (gV 17 (by decide)) (gV 19 (by decide)) (by simp only[c1 b C ah z ax,c1 d DQ ai aj ag];exact ME w1) (by simp only[c2 b C ah z,c2 d DQ ai aj];exact ME w2)];exact hh
 have ay:Holds kl b (BH Am 21):=by obtain⟨x,y,l,o,e3⟩:=rf g3;rw[l];rw[N]at o;rw[hs]at e3;exact⟨_,_,o,e3,I,U⟩
 have ak:ev kl x24 b=dD (.l [.int 6,.int 12,.int 6,.int 6,.int 12]):=by rw[<-G.x24];refine(Ay kl x24 g b λi f=>aa i ?_).symm;exact Be (a:=Bb x24) (by nofun) f
 have az:Holds kl b (BH Am 24):=BB (i:=30) rfl (by rw[rG r t ak I,hW]) a6;have b0:Holds kl b (BH Am 25):=BB (i:=31) rfl (by rw[r8 r t ac I,hW]) J;have b1:Holds kl b (BH Am 26):=BB (i:=32) rfl (qu g5 J (um (rb W1))) Y;have hr:A0%W<W:=qY _ (rb W1);have b2:Holds kl b (BH Am 27):=BB (i:=33) rfl (qx a3 W1 W2 hr U a6 J Y) a7;have b3:Holds kl b (BH Am 28):=rk a3 r t hW.symm hr I U ac J Y a7;have b4:Holds kl b (BH Am 29):=BB (i:=34) rfl (by rw[r5 hf g4 g5,hw]) L;have b5:Holds kl b (BH Am 33):=BB (i:=38) rfl (rI a2 L (by simp only[u 36 (by decide),u 37 (by decide)];exact G.pol)) a8;have b6:Holds kl b (BH Am 34):=BB (i:=39) rfl (rd a2 L g5) a9;have al:Am.len=35:=by nofun
 have am:GJ (Holds kl b) Am:=U4 Am λk A=>by
  rw[al]at A
  (refine CB λZ H=>?_;rcases ks k A with h|h|h|h<;>refine H ?_)
  ·exact aq k h
  ·exact ar k h
  ·exact as k h
  ·exact On.all (P:=λk=>Holds kl b (BH Am k)) (l:=LR) ⟨H0,H1,H2,H4,H8,aw,ay,az,b0,b1,b2,b3,b4,b5,b6,trivial⟩ k h
 have g0:b.get 0=dD M:=c 0 _ rfl;obtain⟨m,r1,r2⟩:=VO kl Am [0,1,2,3,4,5] ml am (Hc M one two AK AY A0) (On.all (P:=λi=>(Hc M one two AK AY A0).get i=b.get i) (l:=[0,1,2,3,4,5]) ⟨g0.symm,g1.symm,g2.symm,g3.symm,g4.symm,g5.symm,trivial⟩);have D:∀i∈ [5,34,38,39,9,10,12,13],m.get i=b.get i:=λi f=>r2 i (Be (a:=[5,34,38,39,9,10,12,13]) (by nofun) f);refine⟨m,g,r1,G,(D 5 (by decide)).trans g5,(D 34 (by decide)).trans L,(D 38 (by decide)).trans a8,(D 39 (by decide)).trans a9,λi f=>?_⟩;rw[D i (Be (a:=[9,10,12,13]) (by nofun) f)];exact u i (Be (a:=[9,10,12,13]) (by nofun) f)
noncomputable def Bv(x y:Nat):Nat:=match lf x y with
 |true=>0
 |false=>match lf (IW x) (IW y)with
  |true=>1
  |false=>2
theorem aK:RT 5=dD (.int 2):=rfl
theorem rY:RT 6=dD (.int 1):=rfl
theorem qi:RT 4=dD (.int 40):=rfl
theorem Tm(x y:Nat):FW [x] [y]=lf x y:=by show(lf x y).casesOn (motive:=λz=>Bool) fG er=lf x y;cases lf x y<;>rfl
theorem dA{cl:Cl}{x y:Nat}(e:x<128)(f:y<128):Dg cl Al [.str [x],.str [y]]=dD (iN (Bv x y)):=by
 have a:pq x 128=er:=mK e;have b:pq y 128=er:=mK f;unfold Dg Al Bv;cases h:lf x y with
 |true=>simp only[DG,Ct,GG,Ef,DS,C6,Af,DW,sg,AC,lf,Cd,KP,Tm,h,Ao,tr,AI,Es];rfl
 |false=>
  cases d:lf (IW x) (IW y)with
  |true=>simp only[DG,Ct,Ht,GG,Ef,DS,Af,RS,DW,Gl,Bt,sg,AC,lf,Cd,KP,Tm,h,d,Ao,tr,AI,Qt,a,b,if_true,Es,rY];rfl
  |false=>simp only[DG,Ct,Ht,GG,Ef,DS,Af,RS,DW,Gl,Bt,sg,AC,lf,Cd,KP,Tm,h,d,Ao,tr,AI,Qt,a,b,if_true,Es,aK];rfl
noncomputable def DD(a b:Nat):Nat:=match ph a b with
 |true=>a
 |false=>b
theorem UM(a b:Nat):Ju .min [iN a,iN b]=dD (iN (DD a b)):=by
 show dD (V.int (if(b:Int)<(a:Int)then(b:Int)else(a:Int)))=_;unfold DD;cases h:ph a b with
 |true=>have:=nY h;rw[if_neg (by lia)];rfl
 |false=>
  have:¬a<=b:=λq=>by exact tF ((mK q).symm.trans h)
  rw[if_pos (by lia)];rfl
section
variable(c:Nat->Nat->Nat)
noncomputable def BL(x:Nat):List Nat->List Nat->Nat->Nat->Nat->List Nat×Nat×Nat
 |y::a,w::e,d,r,mn=>(λb=>(λq:List Nat×Nat×Nat=>(b::q.1,q.2)) (BL x a e w b (match pq b mn with
   |true=>b
   |false=>mn))) (DD (si (DD r w) 2) (si d (c x y)))
 |_,_,_,r,mn=>([],r,mn)
end
theorem I8{c:Nat->Nat->Nat}{x y w d r mn:Nat}{a b:List Nat}:BL c x (y::a) (w::b) d r mn=(λe=>(λq:List Nat×Nat×Nat=>(e::q.1,q.2)) (BL c x a b w e (match pq e mn with
   |true=>e
   |false=>mn))) (DD (si (DD r w) 2) (si d (c x y))):=rfl
theorem K8(c:Nat->Nat->Nat)(x:Nat):∀(a b:List Nat) (d r mn:Nat),a.length=b.length->(BL c x a b d r mn).1.length=a.length
 |[],[],_,_,_,_=>rfl
 |y::a,w::b,d,r,mn,h=>by
  rw[I8];simp only[pJ];rw[K8 c x a b _ _ _ (by simpa using h)]
 |[],_::_,_,_,_,h=>by simp at h
 |_::_,[],_,_,_,h=>by simp at h
noncomputable def JH:Cs:=.cons (.ag (.one 12) (.b .Add (.v 9) (.call 15 (.cons (.v 8) (.cons (.sub (.v 0) (.v 11)) .nil))))) (.cons (.as 9 (.sub (.v 5) (.v 11))) (.cons (.ag (.one 13) (.b .Add (.bi .min (.cons (.v 6) (.cons (.v 9) .nil))) (.gl 5))) (.cons (.ag (.one 6) (.bi .min (.cons (.v 13) (.cons (.v 12) .nil)))) (.cons (.put 5 (.v 11) (.v 6)) (.cons (.ie (.q (.v 6) .Lt (.v 10)) (.cons (.ag (.one 10) (.v 6)) .nil) .nil) .nil)))))
theorem k8{a:Nat}(h:a<=8):a<1000:=mJ h (by decide)
theorem k6{a:Nat}(h:a<1000):a<1000000:=qS h (by decide)
theorem DK{s:List Nat}{k y:Nat}(h:s[k]?=dD y)(b:k<1000):C0 (.str s) (iN k)=dD (.str [y]):=by
 rw[<-FD];have a:Zd k=er:=mK (by lia);show(match Zd k with
  |true=>(match Hs s k with
   |some c=>dD (V.str [c])
   |none=>eu)
  |false=>C0 (.str s) (.int (.ofNat k)))=_
 simp only[a,Cx,h]
theorem FJ{s:List V}{k:Nat}{y:V}(h:s[k]?=dD y)(b:k<1000):C0 (.l s) (iN k)=dD y:=by
 rw[<-FD];have a:Zd k=er:=mK (by lia);show(match Zd k with
  |true=>Hs s k
  |false=>C0 (.l s) (.int (.ofNat k)))=_
 simp only[a,Cx,h]
theorem Qu(a b:Nat):AD .Add (iN a) (iN b)=dD (iN (a+b)):=by simp only[iN,AD,binI];rfl
theorem SW(a b:Nat):tr (Ao (Cd .Lt (iN a) (iN b)))=dD (pq a b):=by
 show dD (decide ((a:Int)<(b:Int)))=_;congr 1;cases h:pq a b with
 |true=>exact decide_eq_true (by have:a<b:=nY h;lia)
 |false=>exact decide_eq_false (λq=>by have:pq a b=er:=mK (by lia);exact fT (h.symm.trans this))
structure LS(ρ:Ev)(a b:List Nat)(m:Int):Prop where
 a:ρ.get 0=dD (.str a)
 b:ρ.get 1=dD (.str b)
 m:ρ.get 2=dD (.int m)
theorem LS.put{d:Ev}{a b:List Nat}{m:Int}(h:LS d a b m)(i:Nat)(v:V)(e:2<i):LS (d.put i v) a b m:=
 ⟨by rw[Ev.get_put,if_neg (by lia)];exact h.a,by rw[Ev.get_put,if_neg (by lia)];exact h.b,by rw[Ev.get_put,if_neg (by lia)];exact h.m⟩
theorem D3{d:Cl}{e:Bool}{i:Nat}{x:X}{b a:Ev}{v:V}(f:Ag a [i]=er)(h:ev d x b=dD v):BK d e (.ag (.one i) x) b a=dD (.nx (b.put i v) a):=by
 rw[RV,h];show(match Ag a [i]with
  |true=>dD (Rs.nx (b.put i v) a)
  |false=>eu)=_
 rw[f]
theorem VA{n:Nat}{u:Ev}{a b:List Nat}{m:Int}{x y d r mn w k:Nat}{pre post:List Nat}(hx:x<128)(hy:y<128)(S:LS u a b m)(g8:u.get 8=dD (.str [x]))(g9:u.get 9=dD (iN d))(g6:u.get 6=dD (iN r))(E:u.get 10=dD (iN mn))(A:u.get 11=dD (iN k))
  (hk:k<100) (hp:pre.length=k) (G:post.length<100) (ha:a[k]?=dD y):
  ∃v,AX (AR HH (n+1)) er JH u [(5,.l ((pre++w::post).map iN))]=dD (.nx v [(5,.l ((pre++DD (DD r w+2) (d+Bv x y)::post).map iN))])/\LS v a b m/\v.get 8=dD (.str [x])/\v.get 9=dD (iN w)/\v.get 6=dD (iN (DD (DD r w+2) (d+Bv x y)))/\
   v.get 10=dD (iN (match pq (DD (DD r w+2) (d+Bv x y)) mn with
    |true=>DD (DD r w+2) (d+Bv x y)
    |false=>mn)):=by
 have hc:AR HH (n+1) 15 [.str [x],.str [y]]=dD (iN (Bv x y)):=dA (cl:=AR HH n) hx hy;generalize H:DD (DD r w+2) (d+Bv x y)=h;have s1:ev (AR HH (n+1)) (.b .Add (.v 9) (.call 15 (.cons (.v 8) (.cons (.sub (.v 0) (.v 11)) .nil)))) u=dD (iN (d+Bv x y)):=by simp only[Af,Do,CC,Dz,Bt,Bj,g9,g8,S.a,A,Aj,DK ha (by lia),hc,Qu]
 generalize a4:d+Bv x y=sub at*;have I:A5 ((pre++w::post).map iN)=er:=by unfold A5;exact mK (by simp;lia)
 have gw:((pre++w::post).map iN)[k]?=dD (iN w):=by rw[uF,List.getElem?_append_right (by lia),hp,AAH];rfl
 have f:∀i,i≠5->Ag [(5,V.l ((pre++w::post).map iN))] [i]=er:=λi J=>by
  rewrite [Bz,AC]
  have:lf 5 i=fG:=by
   cases e:lf 5 i with
   |false=>rfl
   |true=>exact absurd (lk e).symm J
  rw[this];rfl
 have z:∀(X:V) (u:Ev) (i:Nat),i≠5->Ev.get ([(5,X)]++u) i=u.get i:=λX u i J=>by
  show(match lf 5 i with
   |true=>dD X
   |false=>u.get i)=_
  have:lf 5 i=fG:=by
   cases e:lf 5 i with
   |false=>rfl
   |true=>exact absurd (lk e).symm J
  rw[this]
 generalize l:u.put 12 (iN sub)=q;have B:q.get 11=dD (iN k):=by rw[<-l,Ev.get_put,if_neg (by decide)];exact A
 have a6:q.get 6=dD (iN r):=by rw[<-l,Ev.get_put,if_neg (by decide)];exact g6
 have a8:q.get 8=dD (.str [x]):=by rw[<-l,Ev.get_put,if_neg (by decide)];exact g8
 have L:q.get 10=dD (iN mn):=by rw[<-l,Ev.get_put,if_neg (by decide)];exact E
 have M:q.get 12=dD (iN sub):=by rw[<-l,Ev.get_put,if_pos rfl]
 have S1:LS q a b m:=by rw[<-l];exact S.put 12 _ (by decide)
 have s2:BK (AR HH (n+1)) er (.as 9 (.sub (.v 5) (.v 11))) q [(5,.l ((pre++w::post).map iN))]=dD (.nx (q.put 9 (iN w)) [(5,.l ((pre++w::post).map iN))]):=by
  have:ev (AR HH (n+1)) (.sub (.v 5) (.v 11)) ([(5,V.l ((pre++w::post).map iN))]++q)=dD (iN w):=by simp only[CC,Af,Af,(λc c=>rfl),z _ _ 11 (by decide),B];exact FJ gw (by lia)
  rw[oJ,this];rfl
 generalize o:q.put 9 (iN w)=s at s2;have b6:s.get 6=dD (iN r):=by rw[<-o,Ev.get_put,if_neg (by decide)];exact a6
 have b9:s.get 9=dD (iN w):=by rw[<-o,Ev.get_put,if_pos rfl]
 have b8:s.get 8=dD (.str [x]):=by rw[<-o,Ev.get_put,if_neg (by decide)];exact a8
 have N:s.get 10=dD (iN mn):=by rw[<-o,Ev.get_put,if_neg (by decide)];exact L
 have O:s.get 11=dD (iN k):=by rw[<-o,Ev.get_put,if_neg (by decide)];exact B
 have Q:s.get 12=dD (iN sub):=by rw[<-o,Ev.get_put,if_neg (by decide)];exact M
 have S2:LS s a b m:=by rw[<-o];exact S1.put 9 _ (by decide)
 have s3:ev (AR HH (n+1)) (.b .Add (.bi .min (.cons (.v 6) (.cons (.v 9) .nil))) (.gl 5)) s=dD (iN (DD r w+2)):=by
  have:ev (AR HH (n+1)) (.bi .min (.cons (.v 6) (.cons (.v 9) .nil))) s=dD (iN (DD r w)):=by simp only[Af,FU,Bt,Bj,b6,b9];exact UM r w
  simp only[Do,this,RS,aK];exact Qu _ 2
 generalize j:s.put 13 (iN (DD r w+2))=t;have U:t.get 12=dD (iN sub):=by rw[<-j,Ev.get_put,if_neg (by decide)];exact Q
 have Y:t.get 13=dD (iN (DD r w+2)):=by rw[<-j,Ev.get_put,if_pos rfl]
 have c8:t.get 8=dD (.str [x]):=by rw[<-j,Ev.get_put,if_neg (by decide)];exact b8
 have c9:t.get 9=dD (iN w):=by rw[<-j,Ev.get_put,if_neg (by decide)];exact b9
 have a0:t.get 10=dD (iN mn):=by rw[<-j,Ev.get_put,if_neg (by decide)];exact N
 have a1:t.get 11=dD (iN k):=by rw[<-j,Ev.get_put,if_neg (by decide)];exact O
 have S3:LS t a b m:=by rw[<-j];exact S2.put 13 _ (by decide)
 have s4:ev (AR HH (n+1)) (.bi .min (.cons (.v 13) (.cons (.v 12) .nil))) t=dD (iN h):=by simp only[Af,FU,Bt,Bj,U,Y];rw[<-H];exact UM _ _
 generalize p:t.put 6 (iN h)=g;have C:g.get 6=dD (iN h):=by rw[<-p,Ev.get_put,if_pos rfl]
 have d8:g.get 8=dD (.str [x]):=by rw[<-p,Ev.get_put,if_neg (by decide)];exact c8
 have d9:g.get 9=dD (iN w):=by rw[<-p,Ev.get_put,if_neg (by decide)];exact c9
 have D:g.get 10=dD (iN mn):=by rw[<-p,Ev.get_put,if_neg (by decide)];exact a0
 have a2:g.get 11=dD (iN k):=by rw[<-p,Ev.get_put,if_neg (by decide)];exact a1
 have S4:LS g a b m:=by rw[<-p];exact S3.put 6 _ (by decide)
 have s5:BK (AR HH (n+1)) er (.put 5 (.v 11) (.v 6)) g [(5,.l ((pre++w::post).map iN))]=dD (.nx g [(5,.l ((pre++h::post).map iN))]):=by
  have e1:ev (AR HH (n+1)) (.v 6) ([(5,V.l ((pre++w::post).map iN))]++g)=dD (iN h):=by simp only[Af,z _ _ 6 (by decide),C]
  have e2:ev (AR HH (n+1)) (.v 11) g=dD (iN k):=by simp only[Af,a2]
  have bl:pq k ((pre++w::post).map iN).length=er:=mK (by simp;lia);have st:((pre++w::post).map iN).set k (iN h)=(pre++h::post).map iN:=by rw[<-ACq];congr 1;rw[<-hp];simp
  simp only[jX,e1,e2];show(match He [(5,V.l ((pre++w::post).map iN))] 5 (iN k) (iN h)with
   |some a3=>dD (Rs.nx g a3)
   |none=>eu)=_
  have pi:He [(5,V.l ((pre++w::post).map iN))] 5 (iN k) (iN h)=dD [(5,V.l ((pre++h::post).map iN))]:=by
   show(match A5 ((pre++w::post).map iN)&&decide ((0:Int)<=(k:Int))&&pq ((k:Int)).toNat ((pre++w::post).map iN).length with
    |true=>dD [(5,V.l (((pre++w::post).map iN).set ((k:Int)).toNat (iN h)))]
    |false=>eu)=_
   simp only[I,decide_eq_true (by lia:(0:Int)<=(k:Int)),p7,bl,st];rfl
  simp only[pi]
 have s6:BK (AR HH (n+1)) er (.ie (.q (.v 6) .Lt (.v 10)) (.cons (.ag (.one 10) (.v 6)) .nil) .nil) g [(5,.l ((pre++h::post).map iN))]=dD (.nx (match pq h mn with
   |true=>g.put 10 (iN h)
   |false=>g) [(5,.l ((pre++h::post).map iN))]):=by
  have e1:tr (ev (AR HH (n+1)) (.q (.v 6) .Lt (.v 10)) ([(5,V.l ((pre++h::post).map iN))]++g))=dD (pq h mn):=by simp only[DW,Af,Af,z _ _ 6 (by decide),z _ _ 10 (by decide),C,D];exact SW _ _
  simp only[DS,e1];cases pq h mn with
  |true=>show AX (AR HH (n+1)) er (.cons (.ag (.one 10) (.v 6)) .nil) g [(5,.l ((pre++h::post).map iN))]=_;rw[A4 (D3 (v:=iN h) rfl (by simp only[Af,C])),Ht]
  |false=>simp only[Ht]
 refine⟨match pq h mn with
   |true=>g.put 10 (iN h)
   |false=>g,?_,?_,?_,?_,?_,?_⟩
 ·unfold JH;simp only[A4 (D3 (f 12 (by decide)) s1),l,A4 s2,A4 (D3 (f 13 (by decide)) s3),j,A4 (D3 (f 6 (by decide)) s4),p,A4 s5,A4 s6,Ht]
 ·cases pq h mn with
  |true=>exact S4.put 10 _ (by decide)
  |false=>exact S4
 ·cases pq h mn with
  |true=>show(g.put 10 (iN h)).get 8=_;rw[Ev.get_put,if_neg (by decide)];exact d8
  |false=>exact d8
 ·cases pq h mn with
  |true=>show(g.put 10 (iN h)).get 9=_;rw[Ev.get_put,if_neg (by decide)];exact d9
  |false=>exact d9
 ·cases pq h mn with
  |true=>show(g.put 10 (iN h)).get 6=_;rw[Ev.get_put,if_neg (by decide)];exact C
  |false=>exact C
 ·cases pq h mn with
  |true=>show(g.put 10 (iN h)).get 10=_;rw[Ev.get_put,if_pos rfl]
  |false=>exact D
theorem Zo{n:Nat}{a b:List Nat}{m:Int}{x:Nat}(G:x<128)(H:∀y∈a,y<128):∀(e c f:List Nat) (k:Nat) (i:Ev) (d r mn:Nat),a.drop k=e->f.length=k->c.length=e.length->k+e.length<=50->LS i a b m->i.get 8=dD (.str [x])->i.get 9=dD (iN d)->i.get 6=dD (iN r)->i.get 10=dD (iN mn)->
  ∃l,As (.one 11) (λg o=>AX (AR HH (n+1)) er JH g o) ((tg k e.length).map iN) i [(5,.l ((f++c).map iN))]=dD (.nx l [(5,.l ((f++(BL Bv x e c d r mn).1).map iN))])/\LS l a b m/\l.get 6=dD (iN (BL Bv x e c d r mn).2.1)/\l.get 10=dD (iN (BL Bv x e c d r mn).2.2)
 |[],[],f,k,i,d,r,mn,_,_,_,_,S,_,_,t,p=>⟨i,rfl,S,t,p⟩
 |y::e,w::c,f,k,i,d,r,mn,hd,I,L,u,S,M,N,t,p=>by
  have J:a[k]?=dD y:=by have:=congrArg (·[0]?) hd;simpa using this
  have O:y<128:=H y (qk J);have z:k<100:=by rw[pJ]at u;lia
  have s:c.length=e.length:=by simpa using L
  have A:(i.put 11 (iN k)).get 11=dD (iN k):=by rw[Ev.get_put,if_pos rfl]
  obtain⟨g,Q,U,Y,b4,b5,b6⟩:=VA (n:=n) (pre:=f) (post:=c) (w:=w) G O (S.put 11 (iN k) (by decide)) (by rw[Ev.get_put,if_neg (by decide)];exact M) (by rw[Ev.get_put,if_neg (by decide)];exact N) (by rw[Ev.get_put,if_neg (by decide)];exact t) (by rw[Ev.get_put,if_neg (by decide)];exact p) A z I (by rw[s,];rw[pJ]at u;lia) J;have B:a.drop (k+1)=e:=by rw[<-tR,hd];rfl
  generalize C:DD (DD r w+2) (d+Bv x y)=j at*;obtain⟨q,c1,c2,c3,c4⟩:=Zo (n:=n) (b:=b) (m:=m) G H e c (f++ [j]) (k+1) g w j (match pq j mn with
   |true=>j
   |false=>mn) B (by simp[I]) s (by rw[pJ]at u;lia) U Y b4 b5 b6
  have D:BL Bv x (y::e) (w::c) d r mn=(j::(BL Bv x e c w j (match pq j mn with
   |true=>j
   |false=>mn)).1,(BL Bv x e c w j (match pq j mn with
   |true=>j
   |false=>mn)).2):=by
   rw[I8,<-C];rfl
  rw[D];refine⟨q,?_,c2,c3,c4⟩;rw[pJ,yi,pj,I5];have f1:Ag [(5,V.l ((f++w::c).map iN))] [11]=er:=rfl;have f2:BM (.one 11) (iN k) i=dD (i.put 11 (iN k)):=rfl;show(match Ag [(5,V.l ((f++w::c).map iN))] [11]with
   |true=>match BM (.one 11) (iN k) i with
    |some g=>match AX (AR HH (n+1)) er JH g [(5,V.l ((f++w::c).map iN))]with
     |some (.nx q E)=>As (.one 11) (λg o=>AX (AR HH (n+1)) er JH g o) ((tg (k+1) e.length).map iN) q E
     |some (.ret v)=>dD (.ret v)
     |none=>eu
    |none=>eu
   |false=>eu)=_
  rw[f1,f2];simp only[Q];have ap:f++j::c=f++ [j]++c:=by simp
  rw[ap,c1];simp
 |[],_::_,_,_,_,_,_,_,_,_,h,_,_,_,_,_,_=>by simp at h
 |_::_,[],_,_,_,_,_,_,_,_,h,_,_,_,_,_,_=>by simp at h
theorem KZ{n:Nat}(h:n<=8):JW [iN n]=dD ((tg 0 n).map iN):=by
 match n,h with
 |0,_=>rfl
 |1,_=>rfl
 |2,_=>rfl
 |3,_=>rfl
 |4,_=>rfl
 |5,_=>rfl
 |6,_=>rfl
 |7,_=>rfl
 |8,_=>rfl
 |n+9,h=>exact absurd h (by lia)
noncomputable def Dq(n:Nat):List Nat:=(tg 1 n).map (2* ·)
theorem YS{n:Nat}(h:n<=8):JW [iN 2,iN (2*(n+1)),iN 2]=dD ((Dq n).map iN):=by
 match n,h with
 |0,_=>rfl
 |1,_=>rfl
 |2,_=>rfl
 |3,_=>rfl
 |4,_=>rfl
 |5,_=>rfl
 |6,_=>rfl
 |7,_=>rfl
 |8,_=>rfl
 |n+9,h=>exact absurd h (by lia)
noncomputable def Ep:Nat:=9223372036854775807
noncomputable def Bx(c:Nat->Nat->Nat)(a:List Nat)(d:Nat):List Nat->Nat->List Nat->Nat->Nat
 |[],_,_,r=>r
 |x::b,e,f,_=>(λq:List Nat×Nat×Nat=>match ph d q.2.2 with
  |true=>d
  |false=>Bx c a d b (uM e) q.1 q.2.1) (BL c x a f (rF e 2) (rF e 2) Ep)
theorem PU{c:Nat->Nat->Nat}{a:List Nat}{f x:Nat}{d:List Nat}{g e:Nat}{b:List Nat}:Bx c a f (e::b) x d g=
  (λq=>
    match f.ble q.snd.snd with
    |true=>f
    |false=>Bx c a f b x.succ q.fst q.snd.fst)
   (BL c e a d (x.mul 2) (x.mul 2) Ep):=rfl
noncomputable def EP:Cs:=.cons (.ag (.one 8) (.sub (.v 1) (.v 7))) (.cons (.as2 9 6 (.b .Mult (.v 7) (.gl 5))) (.cons (.ag (.one 10) (.c (.int 9223372036854775807))) (.cons (.lp (.one 11) (.rg (.cons (.bi .len (.cons (.v 0) .nil)) .nil)) JH) (.cons (.ie (.q (.v 10) .Gt (.v 2)) (.cons (.ret (.b .Add (.v 2) (.c (.int 1)))) .nil) .nil) .nil))))
theorem len_str{s:List Nat}(h:s.length<1000000):Ju .len [.str s]=dD (iN s.length):=by have:A5 s=er:=mK h;show(if A5 s then dD (V.int s.length)else eu)=_;rw[this];rfl
theorem QN{a b:Nat}(h:a<2^100)(c:b<2^100):AD .Mult (iN a) (iN b)=dD (iN (a*b)):=by have o1:FP (a:Int)=er:=B8 (qS h (qJ (by decide) (by decide)));have o2:FP (b:Int)=er:=B8 (qS c (qJ (by decide) (by decide)));simp only[iN,AD,binI,o1,o2,rt,if_true];rfl
theorem hK(a mn:Nat):tr (Ao (Cd .Gt (iN mn) (.int ((a:Int)-1))))=dD (ph a mn):=by
 show dD (decide (((a:Int)-1)<(mn:Int)))=_;congr 1;cases h:ph a mn with
 |true=>exact decide_eq_true (by have:=nY h;lia)
 |false=>exact decide_eq_false (λq=>by have:ph a mn=er:=mK (by lia);exact fT (h.symm.trans this))
theorem iV(a:Nat):AD .Add (.int ((a:Int)-1)) (.int 1)=dD (iN a):=by show dD (V.int ((a:Int)-1+1))=_;rw[ABR];rfl
theorem Tu{n:Nat}{k:Ev}{a b:List Nat}{g x c:Nat}{row:List Nat}(E:x<128)(G:∀y∈a,y<128)(H:a.length<=8)(hb:c<100)(S:LS k a b ((g:Int)-1))(B:k.get 7=dD (iN c))(I:b[c]?=dD x)(J:row.length=a.length):
  (ph g (BL Bv x a row (c*2) (c*2) Ep).2.2=er->AX (AR HH (n+1)) er EP k [(5,.l (row.map iN))]=dD (.ret (iN g)))/\
  (ph g (BL Bv x a row (c*2) (c*2) Ep).2.2=fG->∃l,AX (AR HH (n+1)) er EP k [(5,.l (row.map iN))]=dD (.nx l [(5,.l ((BL Bv x a row (c*2) (c*2) Ep).1.map iN))])/\LS l a b ((g:Int)-1)/\l.get 6=dD (iN (BL Bv x a row (c*2) (c*2) Ep).2.1)):=by
 have r:BK (AR HH (n+1)) er (.ag (.one 8) (.sub (.v 1) (.v 7))) k [(5,.l (row.map iN))]=dD (.nx (k.put 8 (.str [x])) [(5,.l (row.map iN))]):=by refine D3 rfl ?_;simp only[CC,Af,Af,S.b,B];exact DK I (by lia)
 generalize s:k.put 8 (.str [x])=i at r;have L:LS i a b ((g:Int)-1):=by rw[<-s];exact S.put 8 _ (by decide)
 have M:i.get 7=dD (iN c):=by rw[<-s,Ev.get_put,if_neg (by decide)];exact B
 have k8:i.get 8=dD (.str [x]):=by rw[<-s,Ev.get_put,if_pos rfl]
 have t:BK (AR HH (n+1)) er (.as2 9 6 (.b .Mult (.v 7) (.gl 5))) i [(5,.l (row.map iN))]=dD (.nx ((i.put 9 (iN (c*2))).put 6 (iN (c*2))) [(5,.l (row.map iN))]):=by
  have:ev (AR HH (n+1)) (.b .Mult (.v 7) (.gl 5)) i=dD (iN (c*2)):=by simp only[Do,Af,RS,M,aK];exact QN (qS (by lia:c<2^10) (qJ (by decide) (by decide))) (b:=2) (by decide)
  simp only[qg,this];rfl
 generalize o:(i.put 9 (iN (c*2))).put 6 (iN (c*2))=j at t;have N:LS j a b ((g:Int)-1):=by rw[<-o];exact(L.put 9 _ (by decide)).put 6 _ (by decide)
 have u:BK (AR HH (n+1)) er (.ag (.one 10) (.c (.int 9223372036854775807))) j [(5,.l (row.map iN))]=dD (.nx (j.put 10 (iN Ep)) [(5,.l (row.map iN))]):=D3 rfl (by simp only[C6];rfl);generalize m:j.put 10 (iN Ep)=f at u;have C:LS f a b ((g:Int)-1):=by rw[<-m];exact N.put 10 _ (by decide)
 have O:f.get 8=dD (.str [x]):=by rw[<-m,Ev.get_put,if_neg (by decide),<-o,Ev.get_put,if_neg (by decide),Ev.get_put,if_neg (by decide)];exact k8
 have Q:f.get 9=dD (iN (c*2)):=by rw[<-m,Ev.get_put,if_neg (by decide),<-o,Ev.get_put,if_neg (by decide),Ev.get_put,if_pos rfl]
 have U:f.get 6=dD (iN (c*2)):=by rw[<-m,Ev.get_put,if_neg (by decide),<-o,Ev.get_put,if_pos rfl]
 have v:f.get 10=dD (iN Ep):=by rw[<-m,Ev.get_put,if_pos rfl]
 (refine CB λZ Y=>?_;obtain⟨d,c1,w,c3,c4⟩:=Zo (n:=n) (b:=b) (m:=(g:Int)-1) E G a row [] 0 f (c*2) (c*2) Ep rfl rfl J (by lia) C O Q U v<;>refine Y ?_)
 have D:BK (AR HH (n+1)) er (.lp (.one 11) (.rg (.cons (.bi .len (.cons (.v 0) .nil)) .nil)) JH) f [(5,.l (row.map iN))]=dD (.nx d [(5,.l ((BL Bv x a row (c*2) (c*2) Ep).1.map iN))]):=by
  have:EW (AR HH (n+1)) (.rg (.cons (.bi .len (.cons (.v 0) .nil)) .nil)) f=dD ((tg 0 a.length).map iN):=by
   have e:ev (AR HH (n+1)) (.bi .len (.cons (.v 0) .nil)) f=dD (iN a.length):=by simp only[Af,FU,Bt,Bj,C.a];exact len_str (by lia)
   simp only[WL,Bj,Bt,e];exact KZ H
  simp only[VE,this];exact c1
 generalize hq:BL Bv x a row (c*2) (c*2) Ep=q at*;have p:tr (ev (AR HH (n+1)) (.q (.v 10) .Gt (.v 2)) ([(5,V.l (q.1.map iN))]++d))=dD (ph g q.2.2):=by have z1:Ev.get ([(5,V.l (q.1.map iN))]++d) 10=dD (iN q.2.2):=c4;have z:Ev.get ([(5,V.l (q.1.map iN))]++d) 2=dD (.int ((g:Int)-1)):=w.m;simp only[DW,Af,Af,z1,z];exact hK _ _
 constructor
 ·intro h;rw[h]at p;have A:BK (AR HH (n+1)) er (.ie (.q (.v 10) .Gt (.v 2)) (.cons (.ret (.b .Add (.v 2) (.c (.int 1)))) .nil) .nil) d [(5,.l (q.1.map iN))]=dD (.ret (iN g)):=by
   simp only[DS,p];show AX (AR HH (n+1)) er (.cons (.ret (.b .Add (.v 2) (.c (.int 1)))) .nil) d [(5,.l (q.1.map iN))]=_;have z:Ev.get ([(5,V.l (q.1.map iN))]++d) 2=dD (.int ((g:Int)-1)):=w.m;have:ev (AR HH (n+1)) (.b .Add (.v 2) (.c (.int 1))) ([(5,V.l (q.1.map iN))]++d)=dD (iN g):=by simp only[Do,C6,Af,z];exact iV g
   simp only[GG,Ef,this]
  unfold EP;rw[A4 r,A4 t,A4 u,A4 D,GG,A]
 ·intro h;rw[h]at p;have A:BK (AR HH (n+1)) er (.ie (.q (.v 10) .Gt (.v 2)) (.cons (.ret (.b .Add (.v 2) (.c (.int 1)))) .nil) .nil) d [(5,.l (q.1.map iN))]=dD (.nx d [(5,.l (q.1.map iN))]):=by
   simp only[DS,p];show AX (AR HH (n+1)) er .nil d [(5,.l (q.1.map iN))]=_;simp only[Ht]
  refine⟨d,?_,w,c3⟩;unfold EP;rw[A4 r,A4 t,A4 u,A4 D,A4 A,Ht]
theorem Zk{n:Nat}{a b:List Nat}{M1:Nat}(s:∀y∈a,y<128)(t:∀y∈b,y<128)(u:a.length<=8):∀(d:List Nat) (e:Nat) (i:Ev) (c:List Nat) (r:Nat),b.drop e=d->e+d.length<=50->c.length=a.length->LS i a b ((M1:Int)-1)->i.get 6=dD (iN r)->
  (As (.one 7) (λf g=>AX (AR HH (n+1)) er EP f g) ((tg e d.length).map iN) i [(5,.l (c.map iN))]=dD (.ret (iN (Bx Bv a M1 d e c r))))\/
  ∃j k,As (.one 7) (λf g=>AX (AR HH (n+1)) er EP f g) ((tg e d.length).map iN) i [(5,.l (c.map iN))]=dD (.nx j [(5,k)])/\j.get 6=dD (iN (Bx Bv a M1 d e c r))
 |[],e,i,c,r,_,_,_,S,w=>.inr ⟨i,_,rfl,w⟩
 |x::d,e,i,c,r,hd,C,z,S,w=>by
  have A:b[e]?=dD x:=by have:=congrArg (·[0]?) hd;simpa using this
  have l:b.drop (e+1)=d:=by rw[<-tR,hd];rfl
  have m:e+1+d.length<=50:=by simp only[pJ]at C;lia
  obtain⟨o1,o2⟩:=Tu (n:=n) (row:=c) (t x (qk A)) s u (by lia) (S.put 7 (iN e) (by decide)) (by rw[Ev.get_put,if_pos rfl]) A z;have B:∀R,AX (AR HH (n+1)) er EP (i.put 7 (iN e)) [(5,.l (c.map iN))]=R->As (.one 7) (λf g=>AX (AR HH (n+1)) er EP f g) ((tg e (x::d).length).map iN) i [(5,.l (c.map iN))]=(match R with
    |some (.nx o p)=>As (.one 7) (λf g=>AX (AR HH (n+1)) er EP f g) ((tg (e+1) d.length).map iN) o p
    |some (.ret v)=>dD (.ret v)
    |none=>eu):=λR h=>by
   rw[pJ,yi,pj,I5,<-h];rfl
  have D:Bx Bv a M1 (x::d) e c r=(match ph M1 (BL Bv x a c (e*2) (e*2) Ep).2.2 with
   |true=>M1
   |false=>Bx Bv a M1 d (e+1) (BL Bv x a c (e*2) (e*2) Ep).1 (BL Bv x a c (e*2) (e*2) Ep).2.1):=rfl
  have E:(BL Bv x a c (e*2) (e*2) Ep).1.length=a.length:=K8 Bv x a c _ _ _ z.symm;generalize BL Bv x a c (e*2) (e*2) Ep=q at*;rw[D];cases h:ph M1 q.2.2 with
  |true=>left;rw[B _ (o1 h)]
  |false=>
   (refine CB λZ G=>?_;obtain⟨f,H,I,J⟩:=o2 h<;>refine G ?_)
   rw[B _ H];exact Zk s t u d (e+1) f q.1 q.2.1 l m E I J
noncomputable def DU:List Nat->List Nat->Nat
 |x::a,y::b=>match lf x y with
  |true=>uM (DU a b)
  |false=>0
 |_,_=>0
theorem Hr{x y:Nat}{a b:List Nat}:DU (x::a) (y::b)=match lf x y with
  |true=>uM (DU a b)
  |false=>0:=rfl
theorem Z4{b:List Nat}:DU [] b=0:=rfl
theorem ZQ{x:Nat}{a:List Nat}:DU (x::a) []=0:=rfl
theorem No:∀a b:List Nat,DU a b<=a.length/\DU a b<=b.length
 |[],b=>by simp[Hr,Z4,ZQ]
 |x::a,[]=>by simp[Hr,Z4,ZQ]
 |x::a,y::b=>by
  have:=No a b;simp only[Hr];cases lf x y with
  |true=>simp only[pJ];lia
  |false=>simp
theorem JU{a:Ev}:∀{r:Ev} {i:Nat} {v w:V},r.get i=dD v->a.get i=dD w->By w=er->(De a r).get i=dD v
 |[],i,v,w,h,_,_=>by exact nS h
 |(j,u)::r,i,v,w,h,d,f=>by
  have b:(match lf j i with
   |true=>dD u
   |false=>Ev.get r i)=dD v:=h
  cases e:lf j i with
  |true=>
   rw[e]at b
   (replace b:=dE b;subst b)
   have:=lk e;subst this
   rewrite [Lj]
   simp only[d,f];show(match lf j j with
    |true=>dD u
    |false=>(De a r).get j)=_
   rw[xh]
  |false=>
   rw[e]at b;have c:=JU b d f
   rewrite [Lj]
   split
   ·split
    ·show(match lf j i with
      |true=>dD u
      |false=>(De a r).get i)=_
     exact e▸c
    ·exact c
   ·exact c
theorem Q9{a:Ev}{i:Nat}{s:List Nat}(h:a.get i=dD (.str s)):(Dj a).get i=dD (.str s):=JU h h rfl
theorem RX{n p:Nat}(h:p<=n):vE n (p:Int)=p:=by unfold vE;rw[if_neg (u6.mpr (pP p)),zE (tD.mpr h),ym (pP p),p7]
theorem Se{n q:Nat}(a:0<q)(h:q<=n):vE n (-(q:Int))=n-q:=by
 have e: -(q:Int)+(n:Int)=((n-q:Nat):Int):=by rw[wf,<-yD,<-th h]
 unfold vE;rw[if_pos (yN (sT.mpr a)),e,zE (tD.mpr (sX n q)),ym (pP _),p7]
theorem GQ{s:List Nat}{p:Nat}(h:p<=s.length)(b:s.length<1000000):R6 (.str s) (dD (p:Int)) eu eu=dD (.str (s.drop p)):=by
 have a:A5 s=er:=mK b;show(if A5 s then dD (V.str (Ej s (dD (p:Int)) eu))else eu)=_;rw[a];have:Ej s (dD (p:Int)) eu=s.drop p:=by unfold Ej;show(s.drop (vE s.length (p:Int))).take (s.length-vE s.length (p:Int))=_;rw[RX h];exact xT (by rw[rH];exact qF _)
 rw[this];rfl
theorem cQ{s:List Nat}{q:Nat}(h:q<=s.length)(b:s.length<1000000):R6 (.str s) eu (match lf q 0 with
  |true=>eu
  |false=>dD (-(q:Int))) eu=dD (.str (s.take (s.length-q))):=by
 have a:A5 s=er:=mK b;cases e:lf q 0 with
 |true=>have:=lk e;rw[this];show(if A5 s then dD (V.str (Ej s eu eu))else eu)=_;rw[a];show dD (V.str ((s.drop 0).take (s.length-0)))=_;rw[sY]
 |false=>
  have c:0<q:=w0 (mP e);show(if A5 s then dD (V.str (Ej s eu (dD (-(q:Int)))))else eu)=_;rw[a];have:Ej s eu (dD (-(q:Int)))=s.take (s.length-q):=by unfold Ej;show(s.drop 0).take (vE s.length (-(q:Int))-0)=_;simp only[sY,Se c h,AAS]
  rw[this];rfl
theorem Di{s:List Nat}(b:s.length<1000000):AI (.str s)=dD (!s.isEmpty):=by have a:A5 s=er:=mK b;show(if A5 s then dD (!s.isEmpty)else eu)=_;rw[a];rfl
theorem JM(x y:Nat):Ao (Cd .Eq (.str [x]) (.str [y]))=dD (.bool (lf x y)):=by show Ao (dD (FW [x] [y]))=_;rw[Tm];rfl
structure L5(ρ:Ev)(a b:List Nat)(m:Int):Prop extends LS ρ a b m where
 no:ρ.get 5=eu
theorem L5.put{c:Ev}{a b:List Nat}{m:Int}(h:L5 c a b m)(i:Nat)(v:V)(d:2<i)(e:i≠5):L5 (c.put i v) a b m:=
 ⟨h.toLS.put i v d,by rw[Ev.get_put,if_neg e];exact h.no⟩
noncomputable def Fi:X:=.and (.cons (.sl (.v 0) (.yes (.v 3)) .no .no) (.cons (.sl (.v 1) (.yes (.v 3)) .no .no) (.cons (.q (.sub (.v 0) (.v 3)) .Eq (.sub (.v 1) (.v 3))) .nil)))
noncomputable def Hn:Cs:=.cons (.aug 3 .Add (.c (.int 1))) .nil
section
variable{cl:Cl}
theorem Ts{c:Ev}{a b:List Nat}{m:Int}{p:Nat}(S:L5 c a b m)(d:c.get 3=dD (iN p))(e:a.length<1000)(g:b.length<1000)(h:p<=a.length)(j:p<=b.length):tr (ev cl Fi c)=dD (match a.drop p,b.drop p with
  |x::_,y::_=>lf x y
  |_,_=>fG):=by
 have k:ev cl (.sl (.v 0) (.yes (.v 3)) .no .no) c=dD (.str (a.drop p)):=by simp only[Af,Lc,Zr,Xc,S.a,d,iN,Fc,Lm];exact GQ h (k6 e)
 have l:ev cl (.sl (.v 1) (.yes (.v 3)) .no .no) c=dD (.str (b.drop p)):=by simp only[Af,Lc,Zr,Xc,S.b,d,iN,Fc,Lm];exact GQ j (k6 g)
 unfold Fi;rw[kL,Ew,k];show tr (match AI (.str (a.drop p))with
  |some er=>I9 cl _ c
  |some fG=>dD (.str (a.drop p))
  |none=>eu)=_
 rw[Di (k6 (rH▸mJ (sX _ _) e))];cases n:a.drop p with
 |nil=>rfl
 |cons x r=>
  show tr (I9 cl _ c)=_;rw[Ew,l];show tr (match AI (.str (b.drop p))with
   |some er=>I9 cl _ c
   |some fG=>dD (.str (b.drop p))
   |none=>eu)=_
  rw[Di (k6 (rH▸mJ (sX _ _) g))];cases o:b.drop p with
  |nil=>rfl
  |cons y s=>
   show tr (I9 cl _ c)=_;have q:a[p]?=dD x:=by have:=congrArg (·[0]?) n;simpa using this
   have f:b[p]?=dD y:=by have:=congrArg (·[0]?) o;simpa using this
   have i:p<1000:=mJ h e;rw[sD,BP,CC,Af,Af,S.a,d,CC,Af,S.b];show tr (match C0 (.str a) (iN p),Aj C0 (dD (.str b)) (c.get 3)with
    |some a,dD b=>Ao (Cd .Eq a b)
    |_,_=>eu)=_
   rw[d];show tr (match C0 (.str a) (iN p),C0 (.str b) (iN p)with
    |some a,dD b=>Ao (Cd .Eq a b)
    |_,_=>eu)=_
   rw[DK q i,DK f i];show tr (Ao (Cd .Eq (.str [x]) (.str [y])))=_;rw[JM];rfl
theorem ZC{a b:List Nat}{m:Int}(u:a.length<1000)(w:b.length<1000):∀(f p:Nat) (g:Ev),L5 g a b m->g.get 3=dD (iN p)->p<=a.length->p<=b.length->DU (a.drop p) (b.drop p)<f->
  ∃d,Cr (λc=>tr (ev cl Fi c)) (λc j=>AX cl er Hn c j) f g []=dD (.nx d [])/\L5 d a b m/\d.get 3=dD (iN (p+DU (a.drop p) (b.drop p)))
 |0,p,g,_,_,_,_,h=>by lia
 |f+1,p,g,S,n,C,D,h=>by
  have e:=Ts (cl:=cl) S n u w C D;have k:tr (ev cl Fi g)=dD fG->DU (a.drop p) (b.drop p)=0->∃d,Cr (λc=>tr (ev cl Fi c)) (λc j=>AX cl er Hn c j) (f+1) g []=dD (.nx d [])/\L5 d a b m/\d.get 3=dD (iN (p+DU (a.drop p) (b.drop p))):=λi l=>by
   refine⟨g,?_,S,by simp only[l,n];rfl⟩;simp only[I0];show(match tr (ev cl Fi g)with
    |some er=>_
    |some fG=>dD (Rs.nx g [])
    |none=>eu)=_
   rw[i]
  cases i:a.drop p with
  |nil=>rw[i]at e;rw[<-i];exact k e (by rw[i];rfl)
  |cons x o=>
   cases l:b.drop p with
   |nil=>simp only[i,l]at e;rw[<-i,<-l];exact k e (by simp only[i,l];rfl)
   |cons y r=>
    simp only[i,l]at e h;cases q:lf x y with
    |false=>rw[<-i,<-l];refine k (e.trans (by show dD (lf x y)=_;rw[q])) ?_;simp only[i,l,Hr,q]
    |true=>
     have z:DU (x::o) (y::r)=uM (DU o r):=by simp only[Hr,q]
     have A:a.drop (p+1)=o:=by rw[<-tR,i];rfl
     have B:b.drop (p+1)=r:=by rw[<-tR,l];rfl
     have E:p<a.length:=by have:=congrArg ug i;simp only[rH,pJ]at this;lia
     have G:p<b.length:=by have:=congrArg ug l;simp only[rH,pJ]at this;lia
     have H:AX cl er Hn g []=dD (.nx (g.put 3 (iN (p+1))) []):=by
      unfold Hn;have:BK cl er (.aug 3 .Add (.c (.int 1))) g []=dD (.nx (g.put 3 (iN (p+1))) []):=by simp only[p8,n,C6];rfl
      simp only[A4 this,Ht]
     obtain⟨d,I,J,L⟩:=ZC u w f (p+1) (g.put 3 (iN (p+1))) (S.put 3 _ (by decide) (by decide)) (by rw[Ev.get_put,if_pos rfl]) E G (by simp only[A,B];rw[z]at h;lia);refine⟨d,?_,J,?_⟩
     ·simp only[I0];show(match tr (ev cl Fi g)with
       |some er=>match AX cl er Hn g []with
        |some (.nx s t)=>Cr (λc=>tr (ev cl Fi c)) (λc j=>AX cl er Hn c j) f s t
        |some (.ret v)=>dD (.ret v)
        |none=>eu
       |some fG=>dD (Rs.nx g [])
       |none=>eu)=_
      rw[e.trans (by show dD (lf x y)=_;rw[q]),H];exact I
     ·simp only[L,A,B,z];congr 2
      lia
end
noncomputable def iM(q:Nat):V:=.int (-(q:Int))
noncomputable def eU:X:=.or (.cons (.v 4) (.cons (.c .none) .nil))
noncomputable def Fd:X:=.and (.cons (.sl (.v 0) .no (.yes eU) .no) (.cons (.sl (.v 1) .no (.yes eU) .no) (.cons (.q (.sub (.v 0) (.b .Sub (.v 4) (.c (.int 1)))) .Eq (.sub (.v 1) (.b .Sub (.v 4) (.c (.int 1))))) .nil)))
noncomputable def Ho:Cs:=.cons (.aug 4 .Sub (.c (.int 1))) .nil
section
variable{cl:Cl}
theorem eh{a:Ev}{q:Nat}(b:a.get 4=dD (iM q)):PQ cl (.yes eU) a=dD (match lf q 0 with
  |true=>eu
  |false=>dD (-(q:Int))):=by
 unfold eU;simp only[Xc,eK,CZ,Af,b];show Fc (match dD ((-(q:Int)) != 0)with
  |some er=>dD (iM q)
  |some fG=>IG cl (.cons (.c .none) .nil) a
  |none=>eu)=_
 cases e:lf q 0 with
 |true=>have:=lk e;rw[this];rw[WN,C6];rfl
 |false=>
  have:=mP e;have h:((-(q:Int)) != 0)=er:=by simp;assumption
  rw[h];rfl
theorem Km{ρ:Ev}{q i:Nat}{s:List Nat}(a:ρ.get i=dD (.str s))(b:ρ.get 4=dD (iM q))(c:q<=s.length)(d:s.length<1000):ev cl (.sl (.v i) .no (.yes eU) .no) ρ=dD (.str (s.take (s.length-q))):=by
 simp only[Lc,(eh (cl:=cl) b),Af,a];have e:PQ cl .no ρ=dD eu:=by simp only[Zr]
 simp only[e];exact cQ c (k6 d)
theorem oe(q:Nat): -(q:Int)-1=wU q:=by cases q<;>rfl
theorem N0{s:List Nat}{q x:Nat}(h:s.reverse[q]?=dD x)(b:s.length<1000):C0 (.str s) (.int (-(q:Int)-1))=dD (.str [x]):=by
 have a:q<s.length:=by have:=(qR.mp h).1;rw[sW]at this;exact this
 rw[AAN a]at h;rw[oe];have d:VM (wU q)=er:=mK (mE (xO (mE a (nV b))) (by decide:1001<=2^62));have f:tY (wU q) s.length=dD (s.length-1-q):=by unfold tY;have e:wU q+(s.length:Int)=((s.length-1-q:Nat):Int):=(Int.subNatNat_of_le a).trans (by rw[Nat.sub_sub,rZ 1 q]);rw[if_pos (x' q),e,if_pos,p7];exact nM.mpr ⟨decide_eq_true (pP _),decide_eq_true (sG.mpr (mJ (sX _ _) (Nat.sub_lt (mJ (qd q) a) Nat.one_pos)))⟩
 show(if VM (wU q)then match(tY (wU q) s.length).bind (s[·]?)with
  |some c=>dD (V.str [c])
  |none=>eu
  else eu)=_
 rw[d,f];show(match s[s.length-1-q]? with
  |some c=>dD (V.str [c])
  |none=>eu)=_
 rw[h]
theorem Ik{s:List Nat}{q:Nat}(a:q<=s.length):(s.take (s.length-q)).isEmpty=(s.reverse.drop q).isEmpty:=by
 by_cases h:q=s.length
 ·subst h;rw[AAH,ACH,List.drop_of_length_le (by simp)]
 ·have b:(s.take (s.length-q))≠[]:=λe=>by
   have:=congrArg ug e;rw[tM,uo (sX _ _)]at this;exact h (vM a (vh.mp this))
  have c:(s.reverse.drop q)≠[]:=λe=>by
   have:=congrArg ug e;rw[rH,sW]at this;exact h (vM a (vh.mp this))
  simp only[zh.mpr b,zh.mpr c]
theorem Tw{c:Ev}{a b:List Nat}{m:Int}{q:Nat}(S:L5 c a b m)(e:c.get 4=dD (iM q))(f:a.length<1000)(g:b.length<1000)(l:q<=a.length)(n:q<=b.length):tr (ev cl Fd c)=dD (match a.reverse.drop q,b.reverse.drop q with
  |x::_,y::_=>lf x y
  |_,_=>fG):=by
 have d:AI (.str (a.take (a.length-q)))=dD (!(a.take (a.length-q)).isEmpty):=Di (k6 (tM▸mJ (to _ _) f));have h:AI (.str (b.take (b.length-q)))=dD (!(b.take (b.length-q)).isEmpty):=Di (k6 (tM▸mJ (to _ _) g));have s:=d;rw[Ik l]at d;rw[Ik n]at h;unfold Fd;rw[kL,Ew,(Km (cl:=cl) S.a e l f)];show tr (match AI (.str (a.take (a.length-q)))with
  |some er=>I9 cl _ c
  |some fG=>dD (.str (a.take (a.length-q)))
  |none=>eu)=_
 rw[d];cases o:a.reverse.drop q with
 |nil=>show AI (.str (a.take (a.length-q)))=_;rw[d,o];rfl
 |cons x u=>
  show tr (I9 cl _ c)=_;rw[Ew,(Km (cl:=cl) S.b e n g)];show tr (match AI (.str (b.take (b.length-q)))with
   |some er=>I9 cl _ c
   |some fG=>dD (.str (b.take (b.length-q)))
   |none=>eu)=_
  rw[h];cases p:b.reverse.drop q with
  |nil=>show AI (.str (b.take (b.length-q)))=_;rw[h,p];rfl
  |cons y v=>
   show tr (I9 cl _ c)=_;have t:a.reverse[q]?=dD x:=by have:=congrArg (·[0]?) o;simpa using this
   have i:b.reverse[q]?=dD y:=by have:=congrArg (·[0]?) p;simpa using this
   have r:ev cl (.b .Sub (.v 4) (.c (.int 1))) c=dD (.int (-(q:Int)-1)):=by simp only[Do,C6,Af,e];rfl
   have j:ev cl (.sub (.v 0) (.b .Sub (.v 4) (.c (.int 1)))) c=dD (.str [x]):=by simp only[CC,r,Af,S.a];exact N0 t f
   have k:ev cl (.sub (.v 1) (.b .Sub (.v 4) (.c (.int 1)))) c=dD (.str [y]):=by simp only[CC,r,Af,S.b];exact N0 i g
   simp only[sD,BP,j,k];show tr (Ao (Cd .Eq (.str [x]) (.str [y])))=_;rw[JM];rfl
theorem ZK{a b:List Nat}{m:Int}(u:a.length<1000)(w:b.length<1000):∀(f q:Nat) (d:Ev),L5 d a b m->d.get 4=dD (iM q)->q<=a.length->q<=b.length->DU (a.reverse.drop q) (b.reverse.drop q)<f->
  ∃g,Cr (λc=>tr (ev cl Fd c)) (λc j=>AX cl er Ho c j) f d []=dD (.nx g [])/\L5 g a b m/\g.get 4=dD (iM (q+DU (a.reverse.drop q) (b.reverse.drop q)))
 |0,q,d,_,_,_,_,h=>by lia
 |f+1,q,d,S,o,C,D,h=>by
  have e:=Tw (cl:=cl) S o u w C D;have k:tr (ev cl Fd d)=dD fG->DU (a.reverse.drop q) (b.reverse.drop q)=0->∃g,Cr (λc=>tr (ev cl Fd c)) (λc j=>AX cl er Ho c j) (f+1) d []=dD (.nx g [])/\L5 g a b m/\g.get 4=dD (iM (q+DU (a.reverse.drop q) (b.reverse.drop q))):=λi l=>by
   refine⟨d,?_,S,by simp only[l,o];rfl⟩;simp only[I0];show(match tr (ev cl Fd d)with
    |some er=>_
    |some fG=>dD (Rs.nx d [])
    |none=>eu)=_
   rw[i]
  cases i:a.reverse.drop q with
  |nil=>rw[i]at e;rw[<-i];exact k e (by rw[i];rfl)
  |cons x p=>
   cases l:b.reverse.drop q with
   |nil=>simp only[i,l]at e;rw[<-i,<-l];exact k e (by simp only[i,l];rfl)
   |cons y r=>
    simp only[i,l]at e h;cases n:lf x y with
    |false=>rw[<-i,<-l];refine k (e.trans (by show dD (lf x y)=_;rw[n])) ?_;simp only[i,l,Hr,n]
    |true=>
     have z:DU (x::p) (y::r)=uM (DU p r):=by simp only[Hr,n]
     have A:a.reverse.drop (q+1)=p:=by rw[<-tR,i];rfl
     have B:b.reverse.drop (q+1)=r:=by rw[<-tR,l];rfl
     have E:q<a.length:=by have:=congrArg ug i;simp only[rH,pJ,sW]at this;lia
     have G:q<b.length:=by have:=congrArg ug l;simp only[rH,pJ,sW]at this;lia
     have H:AX cl er Ho d []=dD (.nx (d.put 4 (iM (q+1))) []):=by
      unfold Ho;have:BK cl er (.aug 4 .Sub (.c (.int 1))) d []=dD (.nx (d.put 4 (iM (q+1))) []):=by
       have I: -(q:Int)-1= -((q+1:Nat):Int):=by lia
       simp only[p8,o,C6];show dD (Rs.nx (d.put 4 (.int (-(q:Int)-1))) [])=_;rw[I];rfl
      simp only[A4 this,Ht]
     obtain⟨g,J,L,M⟩:=ZK u w f (q+1) (d.put 4 (iM (q+1))) (S.put 4 _ (by decide) (by decide)) (by rw[Ev.get_put,if_pos rfl]) E G (by simp only[A,B];rw[z]at h;lia);refine⟨g,?_,L,?_⟩
     ·simp only[I0];show(match tr (ev cl Fd d)with
       |some er=>match AX cl er Ho d []with
        |some (.nx s t)=>Cr (λc=>tr (ev cl Fd c)) (λc j=>AX cl er Ho c j) f s t
        |some (.ret v)=>dD (.ret v)
        |none=>eu
       |some fG=>dD (Rs.nx d [])
       |none=>eu)=_
      rw[e.trans (by show dD (lf x y)=_;rw[n]),H];exact J
     ·simp only[M,A,B,z];congr 2
      lia
end
theorem B6(c:Cl)(o:qp)(l r:X)(d:Ev):ev c (.b o l r) d=Aj (AD o) (ev c l d) (ev c r d):=by rw[Do]
theorem Nf(c:Cl)(k:Nat)(d:Ev):ev c (.gl k) d=RT k:=by rw[RS]
theorem C3(c:Cl)(v:V)(d:Ev):ev c (.c v) d=dD v:=by rw[C6]
theorem AS(c:Cl)(i:Nat)(d:Ev):ev c (.v i) d=d.get i:=by rw[Af]
noncomputable def IQ(c:Nat->Nat->Nat)(a b:List Nat)(M1:Nat):Nat:=match ph M1 (rF (so b.length a.length) 2)with
 |true=>M1
 |false=>Bx c a M1 b 0 (Dq a.length) 0
noncomputable def LU(c:Nat->Nat->Nat)(a b:List Nat)(M1:Nat):Nat:=match a with
 |[]=>rF 2 (si 0 b.length)
 |_::_=>match b with
  |[]=>rF 2 (si a.length 0)
  |_::_=>match pq b.length a.length with
   |true=>IQ c b a M1
   |false=>IQ c a b M1
noncomputable def Pp:Cs:=match AM with
 |.cons _ (.cons _ (.cons _ (.cons _ (.cons _ (.cons _ (.cons _ (.cons _ (.cons _ r))))))))=>r
 |_=>.nil
noncomputable def tail3:Cs:=match Pp with
 |.cons _ (.cons _ (.cons _ r))=>r
 |_=>.nil
noncomputable def o8:Cs:=match tail3 with
 |.cons _ r=>r
 |_=>.nil
theorem dH:o8=.cons (.own 5 (.lr (.cons (.gl 5) (.cons (.b .Mult (.gl 5) (.b .Add (.bi .len (.cons (.v 0) .nil)) (.c (.int 1)))) (.cons (.gl 5) .nil))))) (.cons (.ag (.one 6) (.c (.int 0))) (.cons (.lp (.one 7) (.rg (.cons (.bi .len (.cons (.v 1) .nil)) .nil)) EP) (.cons (.ret (.v 6)) .nil))):=rfl
theorem UE:tail3=.cons (.ie (.q (.b .Mult (.b .Sub (.bi .len (.cons (.v 1) .nil)) (.bi .len (.cons (.v 0) .nil))) (.gl 5)) .Gt (.v 2)) (.cons (.ret (.b .Add (.v 2) (.c (.int 1)))) .nil) .nil) o8:=rfl
theorem W6:Pp=.cons (.ie (.or (.cons (.not (.v 0)) (.cons (.not (.v 1)) .nil))) (.cons (.ret (.b .Mult (.gl 5) (.b .Add (.bi .len (.cons (.v 0) .nil)) (.bi .len (.cons (.v 1) .nil))))) .nil) .nil)
 (.cons (.ie (.or (.cons (.q (.bi .len (.cons (.v 0) .nil)) .Gt (.gl 4)) (.cons (.q (.bi .len (.cons (.v 1) .nil)) .Gt (.gl 4)) .nil))) (.cons (.ret (.b .Add (.v 2) (.c (.int 1)))) .nil) .nil)
 (.cons (.ie (.q (.bi .len (.cons (.v 1) .nil)) .Lt (.bi .len (.cons (.v 0) .nil))) (.cons (.sw 0 1 (.v 1) (.v 0)) .nil) .nil) tail3)):=rfl
section
variable{n:Nat}{a b:List Nat}{M1:Nat}{d:Ev}
theorem Z3{cl:Cl}{m:Int}(S:L5 d a b m)(c:a.length<=8):ev cl (.bi .len (.cons (.v 0) .nil)) d=dD (iN a.length):=by simp only[Af,FU,Bt,Bj,S.a];exact len_str (by lia)
theorem VX{cl:Cl}{m:Int}(S:L5 d a b m)(c:b.length<=8):ev cl (.bi .len (.cons (.v 1) .nil)) d=dD (iN b.length):=by simp only[Af,FU,Bt,Bj,S.b];exact len_str (by lia)
theorem XP(m:∀y∈a,y<128)(o:∀y∈b,y<128)(h:a.length<=8)(i:b.length<=8)(S:L5 d a b ((M1:Int)-1)):AX (AR HH (n+1)) fG o8 d []=dD (.ret (iN (Bx Bv a M1 b 0 (Dq a.length) 0))):=by
 have p:BK (AR HH (n+1)) fG (.own 5 (.lr (.cons (.gl 5) (.cons (.b .Mult (.gl 5) (.b .Add (.bi .len (.cons (.v 0) .nil)) (.c (.int 1)))) (.cons (.gl 5) .nil))))) d []=dD (.nx d [(5,.l ((Dq a.length).map iN))]):=by
  have q:ev (AR HH (n+1)) (.bi .len (.cons (.v 0) .nil)) (Dj d)=dD (iN a.length):=by simp only[Af,FU,Bt,Bj,Q9 S.a];exact len_str (by lia)
  have s:ev (AR HH (n+1)) (.b .Mult (.gl 5) (.b .Add (.bi .len (.cons (.v 0) .nil)) (.c (.int 1)))) (Dj d)=dD (iN (2*(a.length+1))):=by simp only[B6,B6,q,C3,Nf,aK];have:Aj (AD .Add) (dD (iN a.length)) (dD (.int 1))=dD (iN (a.length+1)):=Qu _ 1;rw[this];exact QN (a:=2) (by decide) (mJ (by lia:a.length+1<=100) (by decide))
  have t:ev (AR HH (n+1)) (.lr (.cons (.gl 5) (.cons (.b .Mult (.gl 5) (.b .Add (.bi .len (.cons (.v 0) .nil)) (.c (.int 1)))) (.cons (.gl 5) .nil)))) (Dj d)=dD (.l ((Dq a.length).map iN)):=by
   simp only[WX,Bj,Bj,Bj,Bt,s,RS,aK];show(match JW [iN 2,iN (2*(a.length+1)),iN 2]with
    |some u=>dD (V.l u)
    |none=>eu)=_
   rw[YS h]
  have v:CP ((Dq a.length).map iN)=er:=by
   generalize Dq a.length=l;induction l with
   |nil=>rfl
   |cons x r w=>exact w
  have z:(!fG&&AN (Ev.get [] 5)&&AN (d.get 5))=er:=by rw[S.no];rfl
  rw[pE,t];show(match !fG&&AN (Ev.get [] 5)&&AN (d.get 5)with
   |true=>match CP ((Dq a.length).map iN)with
    |true=>dD (Rs.nx d [(5,V.l ((Dq a.length).map iN))])
    |false=>eu
   |false=>eu)=_
  rw[z,v]
 have A:BK (AR HH (n+1)) fG (.ag (.one 6) (.c (.int 0))) d [(5,.l ((Dq a.length).map iN))]=dD (.nx (d.put 6 (iN 0)) [(5,.l ((Dq a.length).map iN))]):=D3 rfl (by simp only[C6];rfl);have j:L5 (d.put 6 (iN 0)) a b ((M1:Int)-1):=S.put 6 _ (by decide) (by decide);have B:(d.put 6 (iN 0)).get 6=dD (iN 0):=by rw[Ev.get_put,if_pos rfl]
 have C:(Dq a.length).length=a.length:=by unfold Dq;rw[px,List.length_range']
 have k:EW (AR HH (n+1)) (.rg (.cons (.bi .len (.cons (.v 1) .nil)) .nil)) (d.put 6 (iN 0))=dD ((tg 0 b.length).map iN):=by simp only[WL,Bj,Bt,VX j i];exact KZ i
 have L:=Zk (n:=n) (M1:=M1) m o h b 0 (d.put 6 (iN 0)) (Dq a.length) 0 rfl (by lia) C j.toLS B;simp only[dH,A4 p,A4 A];rcases L with L|⟨c,e,L,g⟩
 ·have f:BK (AR HH (n+1)) fG (.lp (.one 7) (.rg (.cons (.bi .len (.cons (.v 1) .nil)) .nil)) EP) (d.put 6 (iN 0)) [(5,.l ((Dq a.length).map iN))]=dD (.ret (iN (Bx Bv a M1 b 0 (Dq a.length) 0))):=by
   simp only[VE,k];exact L
  simp only[GG,f]
 ·have f:BK (AR HH (n+1)) fG (.lp (.one 7) (.rg (.cons (.bi .len (.cons (.v 1) .nil)) .nil)) EP) (d.put 6 (iN 0)) [(5,.l ((Dq a.length).map iN))]=dD (.nx c [(5,e)]):=by
   rw[VE,k];exact L
  have D:BK (AR HH (n+1)) fG (.ret (.v 6)) c [(5,e)]=dD (.ret (iN (Bx Bv a M1 b 0 (Dq a.length) 0))):=by
   have:ev (AR HH (n+1)) (.v 6) ([(5,e)]++c)=dD (iN (Bx Bv a M1 b 0 (Dq a.length) 0)):=by simp only[Af];exact g
   simp only[Ef,this]
  simp only[A4 f,GG,D]
theorem Me(j:∀y∈a,y<128)(k:∀y∈b,y<128)(i:a.length<=8)(c:b.length<=8)(f:a.length<=b.length)(S:L5 d a b ((M1:Int)-1)):AX (AR HH (n+1)) fG tail3 d []=dD (.ret (iN (IQ Bv a b M1))):=by
 have e:tr (ev (AR HH (n+1)) (.q (.b .Mult (.b .Sub (.bi .len (.cons (.v 1) .nil)) (.bi .len (.cons (.v 0) .nil))) (.gl 5)) .Gt (.v 2)) d)=dD (ph M1 ((b.length-a.length)*2)):=by
  have l:Aj (AD .Sub) (dD (iN b.length)) (dD (iN a.length))=dD (iN (b.length-a.length)):=by show dD (V.int ((b.length:Int)-(a.length:Int)))=_;rw[<-th f];rfl
  have m:Aj (AD .Mult) (dD (iN (b.length-a.length))) (dD (.int 2))=dD (iN ((b.length-a.length)*2)):=QN (b:=2) (mJ (mE (sX _ _) c) (by decide)) (by decide);simp only[BP,B6,B6,VX S c,Z3 S i,l,Nf,aK,m,AS,S.m];exact hK _ _
 have o:IQ Bv a b M1=(match ph M1 ((b.length-a.length)*2)with
  |true=>M1
  |false=>Bx Bv a M1 b 0 (Dq a.length) 0):=rfl
 simp only[UE,o];cases h:ph M1 ((b.length-a.length)*2)with
 |true=>
  rw[h]at e;have g:BK (AR HH (n+1)) fG (.ie (.q (.b .Mult (.b .Sub (.bi .len (.cons (.v 1) .nil)) (.bi .len (.cons (.v 0) .nil))) (.gl 5)) .Gt (.v 2)) (.cons (.ret (.b .Add (.v 2) (.c (.int 1)))) .nil) .nil) d []=dD (.ret (iN M1)):=by
   rw[DS];show(match tr (ev (AR HH (n+1)) _ d)with
    |some er=>AX (AR HH (n+1)) fG (.cons (.ret (.b .Add (.v 2) (.c (.int 1)))) .nil) d []
    |some fG=>AX (AR HH (n+1)) fG .nil d []
    |none=>eu)=_
   rw[e];have:ev (AR HH (n+1)) (.b .Add (.v 2) (.c (.int 1))) ([]++d)=dD (iN M1):=by show ev (AR HH (n+1)) (.b .Add (.v 2) (.c (.int 1))) d=_;simp only[Do,C6,Af,S.m];exact iV M1
   simp only[GG,Ef,this]
  simp only[GG,g]
 |false=>
  rw[h]at e;have g:BK (AR HH (n+1)) fG (.ie (.q (.b .Mult (.b .Sub (.bi .len (.cons (.v 1) .nil)) (.bi .len (.cons (.v 0) .nil))) (.gl 5)) .Gt (.v 2)) (.cons (.ret (.b .Add (.v 2) (.c (.int 1)))) .nil) .nil) d []=dD (.nx d []):=by
   rw[DS];show(match tr (ev (AR HH (n+1)) _ d)with
    |some er=>AX (AR HH (n+1)) fG (.cons (.ret (.b .Add (.v 2) (.c (.int 1)))) .nil) d []
    |some fG=>AX (AR HH (n+1)) fG .nil d []
    |none=>eu)=_
   rw[e];show AX (AR HH (n+1)) fG .nil d []=_;simp only[Ht]
  simp only[A4 g];exact XP j k i c S
theorem PW{cl:Cl}{i:Nat}{s:List Nat}(h:d.get i=dD (.str s))(c:s.length<=8):ev cl (.not (.v i)) d=dD (.bool s.isEmpty):=by
 simp only[lm,Af,h];show(match AI (.str s)with
  |some b=>dD (V.bool (!b))
  |none=>eu)=_
 rw[Di (by lia)];simp
theorem ig{x:Nat}(h:x<=8):Ao (Cd .Gt (iN x) (.int 40))=dD (.bool fG):=by show dD (V.bool (decide ((40:Int)<(x:Int))))=_;rw[decide_eq_false (by lia)]
theorem X7(z:∀y∈a,y<128)(A:∀y∈b,y<128)(j:a.length<=8)(k:b.length<=8)(S:L5 d a b ((M1:Int)-1)):AX (AR HH (n+1)) fG Pp d []=dD (.ret (iN (LU Bv a b M1))):=by
 have o:∀q,ev (AR HH (n+1)) (.or q) d=IG (AR HH (n+1)) q d:=λq=>by simp only[eK]
 have m:tr (ev (AR HH (n+1)) (.or (.cons (.not (.v 0)) (.cons (.not (.v 1)) .nil))) d)=dD (a.isEmpty||b.isEmpty):=by
  rw[o,CZ,(PW (cl:=AR HH (n+1)) S.a j)];induction a using lz with
  |nil=>rfl
  |cons x r=>show tr (IG (AR HH (n+1)) (.cons (.not (.v 1)) .nil) d)=_;simp only[WN,(PW (cl:=AR HH (n+1)) S.b k)];rfl
 have f:∀(c:X) (t:Cs) (B:Bool),tr (ev (AR HH (n+1)) c d)=dD B->BK (AR HH (n+1)) fG (.ie c t .nil) d []=(match B with
  |true=>AX (AR HH (n+1)) fG t d []
  |false=>dD (.nx d [])):=λc t B h=>by
  simp only[DS];show(match tr (ev (AR HH (n+1)) c d)with
   |some er=>AX (AR HH (n+1)) fG t d []
   |some fG=>AX (AR HH (n+1)) fG .nil d []
   |none=>eu)=_
  rw[h];induction B using qV with
  |true=>rfl
  |false=>simp only[Ht]
 have g:=Z3 (cl:=AR HH (n+1)) S j;have i:=VX (cl:=AR HH (n+1)) S k;simp only[W6];cases l:(a.isEmpty||b.isEmpty)with
 |true=>
  rw[l]at m;have C:=f _ (.cons (.ret (.b .Mult (.gl 5) (.b .Add (.bi .len (.cons (.v 0) .nil)) (.bi .len (.cons (.v 1) .nil))))) .nil) _ m;have u:ev (AR HH (n+1)) (.b .Mult (.gl 5) (.b .Add (.bi .len (.cons (.v 0) .nil)) (.bi .len (.cons (.v 1) .nil)))) ([]++d)=dD (iN (2*(a.length+b.length))):=by show ev (AR HH (n+1)) (.b .Mult (.gl 5) (.b .Add (.bi .len (.cons (.v 0) .nil)) (.bi .len (.cons (.v 1) .nil)))) d=_;have:Aj (AD .Add) (dD (iN a.length)) (dD (iN b.length))=dD (iN (a.length+b.length)):=Qu _ _;simp only[B6,B6,g,i,this,Nf,aK];exact QN (a:=2) (by decide) (mJ (by lia:_<=100) (by decide))
  have v:LU Bv a b M1=2*(a.length+b.length):=by
   induction a using lz with
   |nil=>rfl
   |cons x r=>
    induction b using lz with
    |nil=>rfl
    |cons y s=>simp at l
  have D:BK (AR HH (n+1)) fG (.ie (.or (.cons (.not (.v 0)) (.cons (.not (.v 1)) .nil))) (.cons (.ret (.b .Mult (.gl 5) (.b .Add (.bi .len (.cons (.v 0) .nil)) (.bi .len (.cons (.v 1) .nil))))) .nil) .nil) d []=dD (.ret (iN (LU Bv a b M1))):=by simp only[C,v];show AX (AR HH (n+1)) fG (.cons (.ret _) .nil) d []=_;simp only[GG,Ef,u]
  simp only[GG,D]
 |false=>
  rw[l]at m;have u:tr (ev (AR HH (n+1)) (.or (.cons (.q (.bi .len (.cons (.v 0) .nil)) .Gt (.gl 4)) (.cons (.q (.bi .len (.cons (.v 1) .nil)) .Gt (.gl 4)) .nil))) d)=dD fG:=by
   have E:ev (AR HH (n+1)) (.q (.bi .len (.cons (.v 0) .nil)) .Gt (.gl 4)) d=dD (.bool fG):=by simp only[BP,g,RS,qi];exact ig j
   have G:ev (AR HH (n+1)) (.q (.bi .len (.cons (.v 1) .nil)) .Gt (.gl 4)) d=dD (.bool fG):=by simp only[BP,i,RS,qi];exact ig k
   rw[o,CZ,E];show tr (IG (AR HH (n+1)) (.cons (.q (.bi .len (.cons (.v 1) .nil)) .Gt (.gl 4)) .nil) d)=_;simp only[WN,G];rfl
  have H:tr (ev (AR HH (n+1)) (.q (.bi .len (.cons (.v 1) .nil)) .Lt (.bi .len (.cons (.v 0) .nil))) d)=dD (pq b.length a.length):=by simp only[BP,i,g];exact SW _ _
  have p:=f _ (.cons (.sw 0 1 (.v 1) (.v 0)) .nil) _ H;rw[A4 (ρ1:=d) (ω1:=[]) (f _ (.cons (.ret (.b .Mult (.gl 5) (.b .Add (.bi .len (.cons (.v 0) .nil)) (.bi .len (.cons (.v 1) .nil))))) .nil) _ m),A4 (ρ1:=d) (ω1:=[]) (f _ (.cons (.ret (.b .Add (.v 2) (.c (.int 1)))) .nil) _ u)];have v:LU Bv a b M1=(match pq b.length a.length with
   |true=>IQ Bv b a M1
   |false=>IQ Bv a b M1):=by
   induction a using lz with
   |nil=>simp at l
   |cons x r=>
    induction b using lz with
    |nil=>simp at l
    |cons y s=>rfl
  rw[v];cases h:pq b.length a.length with
  |true=>
   simp only[h]at p;have I:b.length<a.length:=nY h;have J:BK (AR HH (n+1)) fG (.sw 0 1 (.v 1) (.v 0)) d []=dD (.nx ((d.put 0 (.str b)).put 1 (.str a)) []):=by simp only[lq,Af,Af,S.a,S.b];rfl
   have L:BK (AR HH (n+1)) fG (.ie (.q (.bi .len (.cons (.v 1) .nil)) .Lt (.bi .len (.cons (.v 0) .nil))) (.cons (.sw 0 1 (.v 1) (.v 0)) .nil) .nil) d []=dD (.nx ((d.put 0 (.str b)).put 1 (.str a)) []):=by rw[p];show AX (AR HH (n+1)) fG (.cons (.sw 0 1 (.v 1) (.v 0)) .nil) d []=_;simp only[A4 J,Ht]
   have M:L5 ((d.put 0 (.str b)).put 1 (.str a)) b a ((M1:Int)-1):=⟨⟨by rw[Ev.get_put,if_neg (by decide),Ev.get_put,if_pos rfl],by rw[Ev.get_put,if_pos rfl],by rw[Ev.get_put,if_neg (by decide),Ev.get_put,if_neg (by decide)];exact S.m⟩,by rw[Ev.get_put,if_neg (by decide),Ev.get_put,if_neg (by decide)];exact S.no⟩
   rw[A4 L];exact Me A z k j (by lia) M
  |false=>
   rw[h]at p;have w:a.length<=b.length:=by rw[FF.ble_dec (b.length+1) a.length |>(λe=>(show pq b.length a.length=decide (b.length+1<=a.length)from e))]at h;have:=of_decide_eq_false h;lia
   rw[A4 (ρ1:=d) (ω1:=[]) p];exact Me z A j k w S
end
noncomputable def gZ(c:Nat->Nat->Nat)(a b:List Nat)(M1:Nat):Nat:=match FW a b with
 |true=>0
 |false=>LU c (((a.drop (DU a b)).take ((a.drop (DU a b)).length-DU (a.drop (DU a b)).reverse (b.drop (DU a b)).reverse))) (((b.drop (DU a b)).take ((b.drop (DU a b)).length-DU (a.drop (DU a b)).reverse (b.drop (DU a b)).reverse))) M1
theorem Ux:AM=.cons (.ie (.q (.v 0) .Eq (.v 1)) (.cons (.ret (.c (.int 0))) .nil) .nil) (.cons (.ag (.one 3) (.c (.int 0))) (.cons (.wl 60 Fi Hn) (.cons (.ag (.one 0) (.sl (.v 0) (.yes (.v 3)) .no .no)) (.cons (.ag (.one 1) (.sl (.v 1) (.yes (.v 3)) .no .no)) (.cons (.ag (.one 4) (.c (.int 0))) (.cons (.wl 60 Fd Ho) (.cons (.ag (.one 0) (.sl (.v 0) .no (.yes eU) .no)) (.cons (.ag (.one 1) (.sl (.v 1) .no (.yes eU) .no)) Pp)))))))):=rfl
theorem V9{n:Nat}{a b:List Nat}{M1:Nat}(I:∀y∈a,y<128)(J:∀y∈b,y<128)(x:a.length<=8)(z:b.length<=8):AR HH (n+2) 16 [.str a,.str b,.int ((M1:Int)-1)]=dD (iN (gZ Bv a b M1)):=by
 show Dg (AR HH (n+1)) AM [.str a,.str b,.int ((M1:Int)-1)]=_;unfold Dg;generalize L:Ah 0 [.str a,.str b,.int ((M1:Int)-1)]=d;have S:L5 d a b ((M1:Int)-1):=by rw[<-L];exact⟨⟨rfl,rfl,rfl⟩,rfl⟩
 have v:tr (ev (AR HH (n+1)) (.q (.v 0) .Eq (.v 1)) d)=dD (FW a b):=by simp only[BP,Af,Af,S.a,S.b];rfl
 have t:gZ Bv a b M1=(match FW a b with
  |true=>0
  |false=>LU Bv (((a.drop (DU a b)).take ((a.drop (DU a b)).length-DU (a.drop (DU a b)).reverse (b.drop (DU a b)).reverse))) (((b.drop (DU a b)).take ((b.drop (DU a b)).length-DU (a.drop (DU a b)).reverse (b.drop (DU a b)).reverse))) M1):=rfl
 simp only[Ux,t];cases h:FW a b with
 |true=>
  rw[h]at v;have A:BK (AR HH (n+1)) fG (.ie (.q (.v 0) .Eq (.v 1)) (.cons (.ret (.c (.int 0))) .nil) .nil) d []=dD (.ret (iN 0)):=by
   simp only[DS];show(match tr (ev (AR HH (n+1)) _ d)with
    |some er=>AX (AR HH (n+1)) fG (.cons (.ret (.c (.int 0))) .nil) d []
    |some fG=>AX (AR HH (n+1)) fG .nil d []
    |none=>eu)=_
   rw[v];simp only[GG,Ef,C6];rfl
  simp only[GG,A];rfl
 |false=>
  rw[h]at v;have A:BK (AR HH (n+1)) fG (.ie (.q (.v 0) .Eq (.v 1)) (.cons (.ret (.c (.int 0))) .nil) .nil) d []=dD (.nx d []):=by
   rw[DS];show(match tr (ev (AR HH (n+1)) _ d)with
    |some er=>AX (AR HH (n+1)) fG (.cons (.ret (.c (.int 0))) .nil) d []
    |some fG=>AX (AR HH (n+1)) fG .nil d []
    |none=>eu)=_
   rw[v];show AX (AR HH (n+1)) fG .nil d []=_;simp only[Ht]
  have M:BK (AR HH (n+1)) fG (.ag (.one 3) (.c (.int 0))) d []=dD (.nx (d.put 3 (iN 0)) []):=Bn (by simp only[C6];rfl);have H:=No a b;obtain⟨l,N,w,B⟩:=ZC (cl:=AR HH (n+1)) (k8 x) (k8 z) 60 0 (d.put 3 (iN 0)) (S.put 3 _ (by decide) (by decide)) (by rw[Ev.get_put,if_pos rfl]) (qd _) (qd _) (by rw[sY,sY];lia);simp only[sY,sY,tZ]at B;generalize DU a b=p at*;have O:BK (AR HH (n+1)) fG (.wl 60 Fi Hn) (d.put 3 (iN 0)) []=dD (.nx l []):=by simp only[eM];exact N
  have v4:ev (AR HH (n+1)) (.sl (.v 0) (.yes (.v 3)) .no .no) l=dD (.str (a.drop p)):=by simp only[Af,Lc,Zr,Xc,w.a,B,iN,Fc,Lm];exact GQ H.1 (k6 (k8 x))
  generalize c:l.put 0 (.str (a.drop p))=g;have Q:ev (AR HH (n+1)) (.sl (.v 1) (.yes (.v 3)) .no .no) g=dD (.str (b.drop p)):=by
   have U:g.get 1=dD (.str b):=by rw[<-c,Ev.get_put,if_neg (by decide)];exact w.b
   have Y:g.get 3=dD (iN p):=by rw[<-c,Ev.get_put,if_neg (by decide)];exact B
   simp only[Af,Lc,Zr,Xc,U,Y,iN,Fc,Lm];exact GQ H.2 (k6 (k8 z))
  generalize i:g.put 1 (.str (b.drop p))=f;have S5:L5 f (a.drop p) (b.drop p) ((M1:Int)-1):=by rw[<-i,<-c];exact⟨⟨by rw[Ev.get_put,if_neg (by decide),Ev.get_put,if_pos rfl],by rw[Ev.get_put,if_pos rfl],by rw[Ev.get_put,if_neg (by decide),Ev.get_put,if_neg (by decide)];exact w.m⟩,by rw[Ev.get_put,if_neg (by decide),Ev.get_put,if_neg (by decide)];exact w.no⟩
  have m:(a.drop p).length<=8:=rH▸mE (sX _ _) x;have o:(b.drop p).length<=8:=rH▸mE (sX _ _) z;have C:∀y∈a.drop p,y<128:=λy r=>I y (xy r);have D:∀y∈b.drop p,y<128:=λy r=>J y (xy r);generalize a.drop p=s at*;generalize b.drop p=j at*;have s6:BK (AR HH (n+1)) fG (.ag (.one 4) (.c (.int 0))) f []=dD (.nx (f.put 4 (iM 0)) []):=Bn (by exact C6);have S6:L5 (f.put 4 (iM 0)) s j ((M1:Int)-1):=S5.put 4 _ (by decide) (by decide);have E:=No s.reverse j.reverse;simp only[sW,sW]at E
  (refine CB λZ kk=>?_;obtain⟨NZ,q1,q2,q3⟩:=ZK (cl:=AR HH (n+1)) (k8 m) (k8 o) 60 0 (f.put 4 (iM 0)) S6 (by rw[Ev.get_put,if_pos rfl]) (qd _) (qd _) (by simp only[sY,sY];lia)<;>refine kk ?_)
  simp only[sY,sY,tZ]at q3;generalize DU s.reverse j.reverse=q at*;have s7:BK (AR HH (n+1)) fG (.wl 60 Fd Ho) (f.put 4 (iM 0)) []=dD (.nx NZ []):=by simp only[eM];exact q1
  have v8:=Km (cl:=AR HH (n+1)) q2.a q3 E.1 (k8 m);generalize e:NZ.put 0 (.str (s.take (s.length-q)))=u;have v9:=Km (cl:=AR HH (n+1)) (ρ:=u) (i:=1) (s:=j) (q:=q) (by rw[<-e,Ev.get_put,if_neg (by decide)];exact q2.b) (by rw[<-e,Ev.get_put,if_neg (by decide)];exact q3) E.2 (k8 o);generalize k:u.put 1 (.str (j.take (j.length-q)))=G;have S9:L5 G (s.take (s.length-q)) (j.take (j.length-q)) ((M1:Int)-1):=by rw[<-k,<-e];exact⟨⟨by rw[Ev.get_put,if_neg (by decide),Ev.get_put,if_pos rfl],by rw[Ev.get_put,if_pos rfl],by rw[Ev.get_put,if_neg (by decide),Ev.get_put,if_neg (by decide)];exact q2.m⟩,by rw[Ev.get_put,if_neg (by decide),Ev.get_put,if_neg (by decide)];exact q2.no⟩
  rw[A4 A,A4 M,A4 O,A4 (Bn v4),c,A4 (Bn Q),i,A4 s6,A4 s7,A4 (Bn v8),e,A4 (Bn v9),k,X7 (λy r=>C y (xz r)) (λy r=>D y (xz r)) (tM▸mE (to _ _) m) (tM▸mE (to _ _) o) S9];rfl
noncomputable section
noncomputable def WM(c:Nat->Nat->Nat):List Nat->List Nat->Bool
 |[],[]=>er
 |x::a,y::b=>match lf (c x y) 0 with
  |true=>WM c a b
  |false=>fG
 |_,_=>fG
theorem WK{c:Nat->Nat->Nat}{x y:Nat}{a b:List Nat}:WM c (x::a) (y::b)=match lf (c x y) 0 with
  |true=>WM c a b
  |false=>fG:=rfl
noncomputable def IN(c:Nat->Nat->Nat):List Nat->List Nat->Nat
 |x::a,y::b=>match lf (c x y) 0 with
  |true=>uM (IN c a b)
  |false=>0
 |_,_=>0
theorem Og{c:Nat->Nat->Nat}{x y:Nat}{a b:List Nat}:IN c (x::a) (y::b)=match lf (c x y) 0 with
  |true=>uM (IN c a b)
  |false=>0:=rfl
noncomputable def dZ(c:Nat->Nat->Nat)(a b:List Nat)(q d:Nat):Nat:=LU c (a.take (a.length-q)) (b.take (b.length-q)) d
noncomputable def eY(c:Nat->Nat->Nat)(a b:List Nat)(d:Nat):Nat:=dZ c a b (IN c a.reverse b.reverse) d
noncomputable def Jm(c:Nat->Nat->Nat)(a b:List Nat)(d:Nat):Nat:=match WM c a b with
 |true=>0
 |false=>eY c (a.drop (IN c a b)) (b.drop (IN c a b)) d
theorem M2(x y:Nat):lf (Bv x y) 0=lf x y:=by
 unfold Bv;cases lf x y with
 |true=>rfl
 |false=>cases lf (IW x) (IW y)<;>rfl
theorem TK:∀a b:List Nat,WM Bv a b=FW a b
 |[],[]=>rfl
 |x::a,y::b=>by
  simp only[WK,M2,TK a b];show _=(lf x y).casesOn (motive:=λz=>Bool) fG (FW a b);cases lf x y<;>rfl
 |[],_::_=>rfl
 |_::_,[]=>rfl
theorem LA:∀a b:List Nat,IN Bv a b=DU a b
 |[],b=>by cases b<;>rfl
 |x::a,y::b=>by rw[Og,Hr,M2,LA a b]<;>rfl
 |x::a,[]=>rfl
theorem Xw(a b:List Nat)(d:Nat):gZ Bv a b d=Jm Bv a b d:=by unfold gZ Jm eY dZ;rw[TK,LA,LA]<;>rfl
section
variable(c:Nat->Nat->Nat)(f:Nat->Nat)
noncomputable abbrev cf:Nat->Nat->Nat:=λx y=>c (f x) (f y)
theorem Pr:∀a b:List Nat,WM c (a.map f) (b.map f)=WM (cf c f) a b
 |[],[]=>rfl
 |x::a,y::b=>by rw[pj,pj,WK,WK,Pr a b]
 |[],_::_=>rfl
 |_::_,[]=>rfl
theorem IM:∀a b:List Nat,IN c (a.map f) (b.map f)=IN (cf c f) a b
 |[],b=>by cases b<;>rfl
 |x::a,y::b=>by rw[pj,pj,Og,Og,IM a b]
 |x::a,[]=>rfl
theorem K4(x:Nat):∀(a b:List Nat) (d r mn:Nat),BL c (f x) (a.map f) b d r mn=BL (cf c f) x a b d r mn
 |y::a,w::b,d,r,mn=>by
  rw[pj,I8,I8];simp only[K4 x a b]
 |[],b,d,r,mn=>by cases b<;>rfl
 |y::a,[],d,r,mn=>rfl
theorem K3(a:List Nat)(e:Nat):∀(b:List Nat) (g:Nat) (d:List Nat) (r:Nat),Bx c (a.map f) e (b.map f) g d r=Bx (cf c f) a e b g d r
 |[],_,_,_=>rfl
 |x::b,g,d,r=>by
  rw[pj,PU,PU,K4];simp only[K3 a e b]
theorem Lz(a b:List Nat)(d:Nat):IQ c (a.map f) (b.map f) d=IQ (cf c f) a b d:=by unfold IQ;simp only[px,px,K3]
theorem Re(a b:List Nat)(d:Nat):LU c (a.map f) (b.map f) d=LU (cf c f) a b d:=by
 induction a using lz with
 |nil=>show rF 2 (si 0 (b.map f).length)=rF 2 (si 0 b.length);rw[px]
 |cons x a=>
  induction b using lz with
  |nil=>show rF 2 (si ((x::a).map f).length 0)=rF 2 (si (x::a).length 0);rw[px]
  |cons y b=>
   show(match pq ((y::b).map f).length ((x::a).map f).length with
    |true=>IQ c ((y::b).map f) ((x::a).map f) d
    |false=>IQ c ((x::a).map f) ((y::b).map f) d)=_
   simp only[px,px,Lz,Lz];rfl
theorem Ul(a b:List Nat)(d:Nat):Jm c (a.map f) (b.map f) d=Jm (cf c f) a b d:=by unfold Jm eY dZ;rw[Pr,IM];simp only[<-zm,<-xM,IM,<-List.map_take,px,Re]
end
noncomputable def Bg(e:Nat):Nat:=match e with
 |0=>97
 |1=>98
 |2=>107
 |_=>122
noncomputable def BW(E:List Nat)(i:Nat):Nat:=match Hs E i with
 |some e=>e
 |none=>0
noncomputable def fE(E:List Nat)(s:Nat):Nat:=match ph 8 s with
 |true=>120
 |false=>match lf (s%2) 0 with
  |true=>Bg (BW E (s/2))
  |false=>FY (Bg (BW E (s/2)))
noncomputable def cP(P:List Nat)(x y:Nat):Nat:=match ph 8 x with
 |true=>(match ph 8 y with
  |true=>0
  |false=>2)
 |false=>match ph 8 y with
  |true=>2
  |false=>match lf (BW P (xZ x 2)) (BW P (xZ y 2))with
   |true=>(match lf (xa x 2) (xa y 2)with
    |true=>0
    |false=>1)
   |false=>2
noncomputable def canon(E:List Nat):List Nat:=match E with
 |[a,b,c,d]=>[0,(match lf b a with
  |true=>0
  |false=>1),(match lf c a with
  |true=>0
  |false=>match lf c b with
   |true=>1
   |false=>2),(match lf d a with
  |true=>0
  |false=>match lf d b with
   |true=>(match lf b a with
    |true=>0
    |false=>1)
   |false=>match lf d c with
    |true=>(match lf c a with
     |true=>0
     |false=>match lf c b with
      |true=>1
      |false=>2)
    |false=>3)]
 |l=>l
theorem Nb:∀e,e<4->∀a,a<4->(Bv (Bg e) (Bg a)=(if e=a then 0 else 2)/\Bv (FY (Bg e)) (Bg a)=(if e=a then 1 else 2)/\Bv (Bg e) (FY (Bg a))=(if e=a then 1 else 2)/\Bv (FY (Bg e)) (FY (Bg a))=(if e=a then 0 else 2)/\Bv 120 (Bg e)=2/\Bv 120 (FY (Bg e))=2/\Bv (Bg e) 120=2/\Bv (FY (Bg e)) 120=2):=by nofun
theorem j6{E:List Nat}(s:E.length=4)(n:∀e∈E,e<4):(λx y=>Bv (fE E x) (fE E y))=cP E:=by
 have g:∀i,i<4->BW E i<4:=λi u=>by
  unfold BW;rw[Cx,uP (by lia)];exact n _ (List.getElem_mem _)
 have a:∀x,ph 8 x=fG->x/2<4:=λx h=>by
  have:¬8<=x:=λq=>by exact tF ((mK q).symm.trans h)
  lia
 funext x y;unfold fE cP;have o:∀x:Nat,xa x 2=x%2:=λz=>rfl;have p:∀x:Nat,xZ x 2=x/2:=λz=>rfl;have b:∀x:Nat,lf (x%2) 0=fG->x%2=1:=λx h=>by
  have:=mP h;lia
 cases m:ph 8 x with
 |true=>
  cases j:ph 8 y with
  |true=>rfl
  |false=>
   have t:=Nb _ (g _ (a y j)) 0 (by decide);cases d:lf (y%2) 0 with
   |true=>exact t.2.2.2.2.1
   |false=>exact t.2.2.2.2.2.1
 |false=>
  cases j:ph 8 y with
  |true=>
   have t:=Nb _ (g _ (a x m)) 0 (by decide);cases k:lf (x%2) 0 with
   |true=>exact t.2.2.2.2.2.2.1
   |false=>exact t.2.2.2.2.2.2.2
  |false=>
   have t:=Nb _ (g _ (a x m)) _ (g _ (a y j));simp only[o,p];simp only[FF.beq_dec (BW E (x/2)),FF.beq_dec (x%2) (y%2)];cases k:lf (x%2) 0 with
   |true=>
    have r:=lk k;cases d:lf (y%2) 0 with
    |true=>
     have l:=lk d;refine t.1.trans ?_;by_cases q:BW E (x/2)=BW E (y/2)
     ·rw[if_pos q,decide_eq_true q,decide_eq_true (by lia)]
     ·rw[if_neg q,decide_eq_false q]
    |false=>
     have l:=b y d;refine t.2.2.1.trans ?_;by_cases q:BW E (x/2)=BW E (y/2)
     ·rw[if_pos q,decide_eq_true q,decide_eq_false (by lia)]
     ·rw[if_neg q,decide_eq_false q]
   |false=>
    have r:=b x k;cases d:lf (y%2) 0 with
    |true=>
     have l:=lk d;refine t.2.1.trans ?_;by_cases q:BW E (x/2)=BW E (y/2)
     ·rw[if_pos q,decide_eq_true q,decide_eq_false (by lia)]
     ·rw[if_neg q,decide_eq_false q]
    |false=>
     have l:=b y d;refine t.2.2.2.1.trans ?_;by_cases q:BW E (x/2)=BW E (y/2)
     ·rw[if_pos q,decide_eq_true q,decide_eq_true (by lia)]
     ·rw[if_neg q,decide_eq_false q]
noncomputable def iU:List (List Nat):=[[0,0,0,0],[0,0,0,3],[0,0,2,0],[0,0,2,2],[0,0,2,3],[0,1,0,0],[0,1,0,1],[0,1,0,3],[0,1,1,0],[0,1,1,1],[0,1,1,3],[0,1,2,0],[0,1,2,1],[0,1,2,2],[0,1,2,3]]
noncomputable def Q0(E:List Nat):Bool:=iU.any (λp=>FW p (canon E))&& [0,1,2,3].all λi=>[0,1,2,3].all λj=>(lf (BW E i) (BW E j)==lf (BW (canon E) i) (BW (canon E) j))
theorem RN:∀a,a<4->∀b,b<4->∀c,c<4->∀d,d<4->Q0 [a,b,c,d]=er:=by nofun
theorem RY{a b c d:Nat}(n:a<4)(o:b<4)(r:c<4)(hd:d<4):∃p∈iU,cP [a,b,c,d]=cP p:=by
 have h:=RN a n b o c r d hd;unfold Q0 at h;refine(ba h).elim λs t=>?_;obtain⟨p,u,e⟩:=List.any_eq_true.mp s;have v:=(DM _ _).mp e;refine⟨p,u,?_⟩;rw[v];have g:∀i j,i<4->j<4->lf (BW [a,b,c,d] i) (BW [a,b,c,d] j)=lf (BW (canon [a,b,c,d]) i) (BW (canon [a,b,c,d]) j):=λi j A B=>by
  have k:i∈ [0,1,2,3]:=by simp;lia
  have l:j∈ [0,1,2,3]:=by simp;lia
  exact qy (mH.mp (mH.mp t i k) j l)
 funext x y;unfold cP;cases w:ph 8 x with
 |true=>rfl
 |false=>
  cases z:ph 8 y with
  |true=>rfl
  |false=>
   have m:∀x,ph 8 x=fG->xZ x 2<4:=λx h=>by
    have:¬8<=x:=λq=>by exact tF ((mK q).symm.trans h)
    show x/2<4
    lia
   simp only[g _ _ (m x w) (m y z)]
noncomputable def bN(b:Bool):Nat:=match b with
 |true=>1
 |false=>0
noncomputable def wS:Nat->List Bool->List Nat
 |_,[]=>[]
 |i,b::r=>si (rF 2 i) (bN b)::wS (uM i) r
theorem nj{x:Nat}{b:Bool}{r:List Bool}:wS x (b::r)=(rF 2 x).add (bN b)::wS x.succ r:=rfl
noncomputable def fS(a:Bool):Nat->List Bool->List Nat
 |_,[]=>[]
 |i,er::r=>(match a with
  |true=>8::fS a (uM i) r
  |false=>fS a (uM i) r)
 |i,fG::r=>rF 2 i::fS a (uM i) r
theorem kz{a:Bool}{x:Nat}{r:List Bool}:fS a x (er::r)=
  match a with
  |true=>8::fS a x.succ r
  |false=>fS a x.succ r:=rfl
theorem ms{a:Bool}{x:Nat}{r:List Bool}:fS a x (fG::r)=rF 2 x::fS a x.succ r:=rfl
noncomputable def Pk:List (List Bool):=[[fG,fG,fG,fG],[er,fG,fG,fG],[fG,fG,fG,er],[er,fG,fG,er],[er,er,fG,er],[er,fG,er,er],[er,er,er,er]]
noncomputable def ZL(p:List Nat)(a:List Bool):Bool:=Pk.all λm=>[0,1,2,3].all λd=>lf (Jm (cP p) (wS 0 a) (wS 0 m) (si (HP a m) d)) (HP a m)
noncomputable def Zw(p:List Nat):Bool:=Pk.all λm=>[er,fG].all λa=>[0,1,2].all λd=>lf (Jm (cP p) [0,2,4,6] (fS a 0 m) (uM (si (rF 2 (Bq m)) d))) (rF 2 (Bq m))
end
noncomputable section
noncomputable def ET(p:List Nat):Bool:=Pk.all (ZL p)&&Zw p
theorem mU:ET [0,0,0,0]=er:=by nofun
theorem oF:ET [0,0,0,3]=er:=by nofun
theorem oi:ET [0,0,2,0]=er:=by nofun
theorem nJ:ET [0,0,2,2]=er:=by nofun
theorem mY:ET [0,0,2,3]=er:=by nofun
theorem nQ:ET [0,1,0,0]=er:=by nofun
theorem pV:ET [0,1,0,1]=er:=by nofun
theorem oq:ET [0,1,0,3]=er:=by nofun
theorem pZ:ET [0,1,1,0]=er:=by nofun
theorem nk:ET [0,1,1,1]=er:=by nofun
theorem lG:ET [0,1,1,3]=er:=by nofun
theorem ka:ET [0,1,2,0]=er:=by nofun
theorem ft:ET [0,1,2,1]=er:=by nofun
theorem jt:ET [0,1,2,2]=er:=by nofun
theorem iA:ET [0,1,2,3]=er:=by nofun
theorem Ss:∀p∈iU,ET p=er:=by
 intro p e;simp only[iU,md,r4,or_false]at e;rcases e with rfl|rfl|rfl|rfl|rfl|rfl|rfl|rfl|rfl|rfl|rfl|rfl|rfl|rfl|rfl
 ·exact mU
 ·exact oF
 ·exact oi
 ·exact nJ
 ·exact mY
 ·exact nQ
 ·exact pV
 ·exact oq
 ·exact pZ
 ·exact nk
 ·exact lG
 ·exact ka
 ·exact ft
 ·exact jt
 ·exact iA
theorem gU(E:List Nat)(s:Nat):fE E s<128:=by
 have h:∀e,Bg e<128/\FY (Bg e)<128:=λe=>by
  unfold Bg;split<;>exact⟨by decide,by decide⟩
 unfold fE;split
 ·decide
 ·split
  ·exact(h _).1
  ·exact(h _).2
theorem Ob:∀(i:Nat) (m:List Bool),(wS i m).length=m.length
 |_,[]=>rfl
 |i,b::r=>by rw[nj,pJ,pJ,Ob]
theorem Nv(e:Bool):∀(i:Nat) (m:List Bool),(fS e i m).length<=m.length
 |_,[]=>qF _
 |i,er::r=>by
  have:=Nv e (uM i) r;induction e using qV with
  |true=>simp only[kz,pJ];lia
  |false=>simp only[kz,pJ];lia
 |i,fG::r=>by
  have:=Nv e (uM i) r;simp only[ms,pJ];lia
theorem Kj{E l:List Nat}:∀y∈l.map (fE E),y<128:=λy e=>by
 obtain⟨s,_,rfl⟩:=u8.mp e;exact gU E s
section
variable{a b c d:Nat}(f:a<4)(g:b<4)(hc:c<4)(hd:d<4)
include f g hc hd
theorem Oz(u v:List Nat)(i:Nat):∃p∈iU,gZ Bv (u.map (fE [a,b,c,d])) (v.map (fE [a,b,c,d])) i=Jm (cP p) u v i:=by
 obtain⟨p,k,e⟩:=RY f g hc hd;refine⟨p,k,?_⟩;rw[Xw,Ul];have:cf Bv (fE [a,b,c,d])=cP [a,b,c,d]:=j6 rfl (λe j=>by
  simp only[md,r4,or_false]at j
  ((((rcases j with h|h|h|h<;>try (replace h:=h.symm;subst h))<;>try (replace h:=h.symm;subst h))<;>try (replace h:=h.symm;subst h))<;>try rw[h])<;>assumption)
 rw[this,e]
theorem pX{i m:List Bool}(k:i∈Pk)(l:m∈Pk){j:Nat}(s:j<4):kl 16 [.str ((wS 0 i).map (fE [a,b,c,d])),.str ((wS 0 m).map (fE [a,b,c,d])),.int (((HP i m+j:Nat):Int)-1)]=dD (iN (HP i m)):=by
 have n:∀m∈Pk,m.length=4:=by decide
 obtain⟨p,q,e⟩:=Oz f g hc hd (wS 0 i) (wS 0 m) (HP i m+j);have h:=Ss p q;unfold ET at h;simp only[pl]at h;have o:=mH.mp h.1 i k;unfold ZL at o;have r:Jm (cP p) (wS 0 i) (wS 0 m) (HP i m+j)=HP i m:=lk (mH.mp (mH.mp o m l) j (by simp;lia));simp only[r]at e;exact(V9 (n:=4) (a:=(wS 0 i).map (fE [a,b,c,d])) (b:=(wS 0 m).map (fE [a,b,c,d])) (M1:=HP i m+j) Kj Kj (by simp only[px,Ob,n _ k];decide) (by simp only[px,Ob,n _ l];decide)).trans (by rw[e])
theorem pB{m:List Bool}(k:m∈Pk)(i:Bool){j:Nat}(s:j<3):kl 16 [.str ([0,2,4,6].map (fE [a,b,c,d])),.str ((fS i 0 m).map (fE [a,b,c,d])),.int ((2*Bq m+j:Nat):Int)]=dD (iN (2*Bq m)):=by
 have n:∀m∈Pk,m.length=4:=by decide
 obtain⟨p,o,e⟩:=Oz f g hc hd [0,2,4,6] (fS i 0 m) (2*Bq m+j+1);have L:=V9 (n:=4) (a:=[0,2,4,6].map (fE [a,b,c,d])) (b:=(fS i 0 m).map (fE [a,b,c,d])) (M1:=2*Bq m+j+1) Kj Kj (by rw[px];decide) (by have:=Nv i 0 m;simp only[n _ k]at this;rw[px];lia)
 have h:=Ss p o;unfold ET at h;simp only[pl]at h;have l:=h.2;unfold Zw at l;have q:=mH.mp (mH.mp (mH.mp l m k) i (by cases i<;>simp)) j (by simp;lia);have r:Jm (cP p) [0,2,4,6] (fS i 0 m) (2*Bq m+j+1)=2*Bq m:=lk q;simp only[r]at e;rw[show((2*Bq m+j:Nat):Int)=((2*Bq m+j+1:Nat):Int)-1 by lia];exact L.trans (by rw[e])
end
end
section
set_option exponentiation.threshold 5000
theorem QG{d:List V}:∀{l:List (List Nat)},C4 d=dD l->d=l.map V.str:=by
 induction d with
 |nil=>exact λh=>dE h▸rfl
 |cons v d e=>exact λh=>Hp h λs r a b c=>by rw[c,a,e b];rfl
theorem Rv:∀a b c d:Bool,Kx (Wc [a,b,c,d]) M7=er->[a,b,c,d]∈Pk:=by nofun
theorem VP{o:Option V}{n:Nat}(h:oz o n=er):o=dD (iN n):=bO FG (qy h)
structure BF(b0 A3 b:List Nat)(ks ks2:List (List Nat))(as as2:List V):Prop where
 len:b.length=16
 mem:maskOf b A3∈Pk
 aw:EQ b ks as=dD (iN (HP (maskOf b0 A3) (maskOf b A3)))
 lo:EQ b ks2 as2=dD (iN (Bq (maskOf b A3)))
theorem nE{n m:Nat}{C:Prop}(h:n=m)(q:lf n m=fG):C:=absurd h (mP q)
theorem rV{i:Type}{r:List i}{P:List i->Prop}(h:r.length=6)(k:∀a b c d e f,P [a,b,c,d,e,f]):P r:=by
 induction r using lz with
 |nil=>exact nE h rfl
 |cons a r=>induction r using lz with
  |nil=>exact nE h rfl
  |cons b r=>induction r using lz with
   |nil=>exact nE h rfl
   |cons c r=>induction r using lz with
    |nil=>exact nE h rfl
    |cons d r=>induction r using lz with
     |nil=>exact nE h rfl
     |cons e r=>induction r using lz with
      |nil=>exact nE h rfl
      |cons f r=>induction r using lz with
       |nil=>exact k a b c d e f
       |cons g r=>cases h
theorem RA{j m n lo:Option V}{C:Prop}(h:Ky j m n lo=er)(k:∀(a o p q s t u A3:List Nat) (ks f:List (List Nat)) (v i:List V),j=dD (.l [.str a,.str o,.str p,.str q,.str s,.str t,.str u])->m=dD (.d ks v)->n=dD (.d f i)->lo=dD (.str A3)->A3.length=16->
  (∀b∈ [a,o,p,q,s,t,u],BF a A3 b ks f v i)->C):C:=by
 refine E1 h λD c h=>E1 h λl z h=>E1 h λd hd h=>E1 h λe A h=>E1 h λA3 B h=>?_;rw[QG z]at c;induction l using lz with
 |nil=>exact fT h
 |cons a r=>
  have h:=nM.mp h;have w:=nM.mp h.2;have F:∀b∈a::r,BF a A3 b d.1 e.1 d.2 e.2:=λb c=>by
   have g:=nM.mp (mH.mp w.2 b c);have x:=nM.mp g.1;have y:=nM.mp x.1;exact⟨lk y.1,Rv _ _ _ _ y.2,VP x.2,VP g.2⟩
  exact rV (P:=λr=>j.bind LG=dD ((a::r).map V.str)->(∀b∈a::r,BF a A3 b d.1 e.1 d.2 e.2)->C) (lk h.1) (λZ Z Z Z Z Z c F=>k a _ _ _ _ _ _ A3 d.1 e.1 d.2 e.2 (bO F9 c) (bO LQ hd) (bO LQ A) (bO FE B) (lk w.1) F) c F
noncomputable def eE(A0:Nat):List Nat:=[A0/4%4,A0/16%4,A0/64%4,A0/256%4]
noncomputable def AT(E:List Nat):V:=.l [.str [Bg (BW E 0)],.str [Bg (BW E 1)],.str [Bg (BW E 2)],.str [Bg (BW E 3)]]
theorem YZ(e:Nat)(h:e<4):C0 (.str [97,98,107,122]) (.int (e:Int))=dD (.str [Bg e]):=by
 match e,h with
 |0,_=>rfl
 |1,_=>rfl
 |2,_=>rfl
 |3,_=>rfl
 |n+4,h=>exact absurd h (by lia)
section
variable{ρ:Ev}
noncomputable def pI:X:=.sub (.c (.str [97,98,107,122])) (.b .Mod (.b .FloorDiv (.v 2) (.b .Pow (.c (.int 4)) (.b .Add (.v 1) (.c (.int 1))))) (.c (.int 4)))
theorem La{A0 k p:Nat}(c:Aj (AD .Pow) (dD (.int 4)) (Aj (AD .Add) (dD (.int (k:Int))) (dD (.int 1)))=dD (.int (p:Int)))(a:p≠0)(b:p<2^100):ev kl pI [(2,.int (A0:Int)),(1,.int (k:Int))]=dD (.str [Bg (A0/p%4)]):=by have d:AD .Mod (.int ((A0/p:Nat):Int)) (.int 4)=dD (.int ((A0/p%4:Nat):Int)):=Ea _ 4 (by decide);have e:Ev.get [(2,V.int (A0:Int)),(1,V.int (k:Int))] 1=dD (.int (k:Int)):=rfl;unfold pI;simp only[CC,C3,B6,B6,B6,B6,AS,AS,C3,C3,e,(rfl)];rw[c];show Aj C0 (dD (.str [97,98,107,122])) (Aj (AD .Mod) (AD .FloorDiv (.int (A0:Int)) (.int (p:Int))) (dD (.int 4)))=_;rw[(Ls A0 p a (qS b (qJ (by decide) (by decide))))];show Aj C0 (dD (.str [97,98,107,122])) (AD .Mod (.int ((A0/p:Nat):Int)) (.int 4))=_;rw[d];exact YZ _ (qY _ (by decide))
theorem rE{A0:Nat}(a:ρ.get 5=dD (.int (A0:Int))):ev kl q1 ρ=dD (AT (eE A0)):=by
 have c:Bu ρ [(2,5)]=[(2,.int (A0:Int))]:=by simp only[C2,a];rfl
 have b:EW kl (.rg (.cons (.c (.int 4)) .nil)) ρ=dD [.int (0:Nat),.int (1:Nat),.int (2:Nat),.int (3:Nat)]:=by simp only[WL,Bj,Bt,C6];rfl
 have q:q1=.cm pI (.one 1) (.rg (.cons (.c (.int 4)) .nil)) .no .nil [(2,5)]:=rfl;exact q▸DP b c (Bp (La (A0:=A0) (k:=0) (p:=4) rfl (by decide) (by decide)) rfl (Bp (La (A0:=A0) (k:=1) (p:=16) rfl (by decide) (by decide)) rfl (Bp (La (A0:=A0) (k:=2) (p:=64) rfl (by decide) (by decide)) rfl (Bp (La (A0:=A0) (k:=3) (p:=256) rfl (by decide) (by decide)) rfl rfl)))) rfl
end
end
section
set_option exponentiation.threshold 5000
theorem Xk(e:Nat):Bg e<128:=by unfold Bg;split<;>decide
theorem Kb(E:List Nat){k:Nat}(a:k<4):C0 (AT E) (.int (k:Int))=dD (.str [Bg (BW E k)]):=by
 match k,a with
 |0,_=>rfl
 |1,_=>rfl
 |2,_=>rfl
 |3,_=>rfl
 |n+4,h=>exact absurd h (by lia)
theorem oQ(E:List Nat){k:Nat}(a:k<4):fE E (2*k+bN fG)=Bg (BW E k):=by
 match k,a with
 |0,_=>rfl
 |1,_=>rfl
 |2,_=>rfl
 |3,_=>rfl
 |n+4,h=>exact absurd h (by lia)
theorem nv(E:List Nat){k:Nat}(a:k<4):fE E (2*k+bN er)=FY (Bg (BW E k)):=by
 match k,a with
 |0,_=>rfl
 |1,_=>rfl
 |2,_=>rfl
 |3,_=>rfl
 |n+4,h=>exact absurd h (by lia)
noncomputable def wE:X:=.ite (.q (.sub (.v 3) (.v 2)) .NotEq (.sub (.v 4) (.v 2))) (.me (.sub (.v 5) (.v 1)) .upper .nil) (.sub (.v 5) (.v 1))
noncomputable def mN:X:=.ite (.q (.sub (.v 3) (.v 2)) .Eq (.sub (.v 5) (.v 2))) (.sub (.v 6) (.v 1)) (.b .Mult (.c (.str [120])) (.b .Mod (.v 4) (.c (.int 2))))
theorem PR{b A3:List Nat}{p x y:Nat}(a:b[p]?=dD x)(c:A3[p]?=dD y):Dc b A3 p=!(lf x y):=by unfold Dc;simp only[Cx,Cx,a,c];rfl
theorem I2{b:List Nat}{p:Nat}(h:b.length=16)(a:p<16):∃x,b[p]?=dD x:=⟨b[p]'(by lia),uP (by lia)⟩
theorem PP{b A3 E:List Nat}{k p:Nat}(l:b.length=16)(m:A3.length=16)(e:k<4)(f:p<16):ev kl wE [(3,.str b),(4,.str A3),(5,AT E),(1,.int (k:Int)),(2,.int (p:Int))]=dD (.str [fE E (2*k+bN (Dc b A3 p))]):=by
 obtain⟨x,g⟩:=I2 l f;obtain⟨y,h⟩:=I2 m f;obtain⟨a,d⟩:∃a:Ev,a=[(3,V.str b),(4,.str A3),(5,AT E),(1,.int (k:Int)),(2,.int (p:Int))]:=⟨_,rfl⟩
 rw[<-d];have n:a.get 3=dD (.str b):=by rw[d];rfl
 have o:a.get 4=dD (.str A3):=by rw[d];rfl
 have q:a.get 5=dD (AT E):=by rw[d];rfl
 have r:a.get 1=dD (.int (k:Int)):=by rw[d];rfl
 have i:a.get 2=dD (iN p):=by rw[d];rfl
 have s:ev kl (.sub (.v 3) (.v 2)) a=dD (.str [x]):=by simp only[CC,AS,AS,n,i];exact DK g (by lia)
 have t:ev kl (.sub (.v 4) (.v 2)) a=dD (.str [y]):=by simp only[CC,AS,AS,o,i];exact DK h (by lia)
 have j:ev kl (.sub (.v 5) (.v 1)) a=dD (.str [Bg (BW E k)]):=by simp only[CC,AS,AS,q,r];exact Kb E e
 have c:ev kl (.q (.sub (.v 3) (.v 2)) .NotEq (.sub (.v 4) (.v 2))) a=dD (.bool (!(lf x y))):=by simp only[BP,s,t];show Ao ((dD (FW [x] [y])).map (!·))=_;rw[Tm];rfl
 have u:ev kl (.me (.sub (.v 5) (.v 1)) .upper .nil) a=dD (.str [FY (Bg (BW E k))]):=by have v:pq (Bg (BW E k)) 128=er:=mK (Xk _);simp only[Gl,j,Bt];show(if pq (Bg (BW E k)) 128 then dD (V.str [FY (Bg (BW E k))])else eu)=_;rw[v];rfl
 unfold wE;simp only[Kr,c,(PR g h)];cases lf x y with
 |true=>show ev kl (.sub (.v 5) (.v 1)) a=_;simp only[j,show(!er)=fG from rfl,oQ E e]
 |false=>show ev kl (.me (.sub (.v 5) (.v 1)) .upper .nil) a=_;simp only[u,show(!fG)=er from rfl,nv E e]
noncomputable def O7(E:List Nat)(a:Bool)(i:Nat)(d:Bool):List Nat:=match d with
 |false=>[Bg (BW E i)]
 |true=>match a with
  |true=>[120]
  |false=>[]
noncomputable def G8(a:Nat):Bool:=lf (a%2) 1
theorem L1{b A3 E:List Nat}{kk k p:Nat}(j:b.length=16)(l:A3.length=16)(m:k<4)(e:p<16):ev kl mN [(3,.str b),(4,.int (kk:Int)),(5,.str A3),(6,AT E),(1,.int (k:Int)),(2,.int (p:Int))]=dD (.str (O7 E (G8 kk) k (Dc b A3 p))):=by
 obtain⟨x,f⟩:=I2 j e;obtain⟨y,g⟩:=I2 l e;obtain⟨d,a⟩:∃d:Ev,d=[(3,V.str b),(4,.int (kk:Int)),(5,.str A3),(6,AT E),(1,.int (k:Int)),(2,.int (p:Int))]:=⟨_,rfl⟩
 rw[<-a];have n:d.get 3=dD (.str b):=by rw[a];rfl
 have o:d.get 5=dD (.str A3):=by rw[a];rfl
 have q:d.get 6=dD (AT E):=by rw[a];rfl
 have r:d.get 4=dD (.int (kk:Int)):=by rw[a];rfl
 have s:d.get 1=dD (.int (k:Int)):=by rw[a];rfl
 have i:d.get 2=dD (iN p):=by rw[a];rfl
 have t:ev kl (.sub (.v 3) (.v 2)) d=dD (.str [x]):=by simp only[CC,AS,AS,n,i];exact DK f (by lia)
 have v:ev kl (.sub (.v 5) (.v 2)) d=dD (.str [y]):=by simp only[CC,AS,AS,o,i];exact DK g (by lia)
 have w:ev kl (.sub (.v 6) (.v 1)) d=dD (.str [Bg (BW E k)]):=by simp only[CC,AS,AS,q,s];exact Kb E m
 have c:ev kl (.q (.sub (.v 3) (.v 2)) .Eq (.sub (.v 5) (.v 2))) d=dD (.bool (lf x y)):=by simp only[BP,t,v];exact JM x y
 have u:ev kl (.b .Mult (.c (.str [120])) (.b .Mod (.v 4) (.c (.int 2)))) d=dD (.str (match G8 kk with
  |true=>[120]
  |false=>[])):=by
  have z:Aj (AD .Mod) (dD (.int (kk:Int))) (dD (.int 2))=dD (.int ((kk%2:Nat):Int)):=Ea kk 2 (by decide);simp only[B6,B6,AS,r,C3,C3,z];unfold G8;have:kk%2=0\/kk%2=1:=by lia
  rcases this with h|h<;>rw[h]<;>rfl
 unfold mN;simp only[Kr,c,(PR f g)];cases lf x y with
 |true=>exact w
 |false=>exact u
noncomputable def wJ:X:=.me (.c (.str [])) .join (.cons (.cm wE (.many [1,2]) (.en (.t (.cons (.c (.int 5)) (.cons (.c (.int 6)) (.cons (.c (.int 9)) (.cons (.c (.int 10)) .nil)))))) .no .nil [(3,1),(4,3),(5,4)]) .nil)
noncomputable def fJ:X:=.me (.c (.str [])) .join (.cons (.cm mN (.many [1,2]) (.en (.t (.cons (.c (.int 5)) (.cons (.c (.int 6)) (.cons (.c (.int 9)) (.cons (.c (.int 10)) .nil)))))) .no .nil [(3,2),(4,1),(5,4),(6,5)]) .nil)
noncomputable def AG(E b A3:List Nat):List Nat:=(wS 0 (maskOf b A3)).map (fE E)
noncomputable def Ak(E b A3:List Nat)(a:Nat):List Nat:=(fS (G8 a) 0 (maskOf b A3)).map (fE E)
theorem iP(a:Ev):EW kl (.en (.t (.cons (.c (.int 5)) (.cons (.c (.int 6)) (.cons (.c (.int 9)) (.cons (.c (.int 10)) .nil)))))) a=dD [.t [.int (0:Nat),.int (5:Nat)],.t [.int (1:Nat),.int (6:Nat)],.t [.int (2:Nat),.int (9:Nat)],.t [.int (3:Nat),.int (10:Nat)]]:=by simp only[cW,C6,ER,Bt,Bj];rfl
theorem iF{b A3 E:List Nat}(a:b.length=16)(d:A3.length=16):ev kl wJ [(3,.str A3),(4,AT E),(1,.str b)]=dD (.str (AG E b A3)):=by
 have c:Bu [(3,V.str A3),(4,AT E),(1,.str b)] [(3,1),(4,3),(5,4)]=[(3,.str b),(4,.str A3),(5,AT E)]:=rfl;have k:∀i p:Nat,EM (.many [1,2]) (.t [.int (i:Int),.int (p:Int)]) [(3,.str b),(4,.str A3),(5,AT E)]=dD [(3,.str b),(4,.str A3),(5,AT E),(1,.int (i:Int)),(2,.int (p:Int))]:=λz z=>rfl;have e:=PP (E:=E) a d (k:=0) (p:=5) (by decide) (by decide);have f:=PP (E:=E) a d (k:=1) (p:=6) (by decide) (by decide);have g:=PP (E:=E) a d (k:=2) (p:=9) (by decide) (by decide);have h:=PP (E:=E) a d (k:=3) (p:=10) (by decide) (by decide);have j:ev kl (.cm wE (.many [1,2]) (.en (.t (.cons (.c (.int 5)) (.cons (.c (.int 6)) (.cons (.c (.int 9)) (.cons (.c (.int 10)) .nil)))))) .no .nil [(3,1),(4,3),(5,4)]) [(3,V.str A3),(4,AT E),(1,.str b)]=dD (.l [.str [fE E (2*0+bN (Dc b A3 5))],.str [fE E (2*1+bN (Dc b A3 6))],.str [fE E (2*2+bN (Dc b A3 9))],.str [fE E (2*3+bN (Dc b A3 10))]]):=by exact DP (iP _) c (Bp e rfl (Bp f rfl (Bp g rfl (Bp h rfl rfl)))) rfl
 unfold wJ;simp only[Gl,C3,Bj,Bt,j];rfl
theorem Rf(E:List Nat)(a:Bool):∀b c d e:Bool,Fg [] [O7 E a 0 b,O7 E a 1 c,O7 E a 2 d,O7 E a 3 e]=(fS a 0 [b,c,d,e]).map (fE E):=by intro b c d e;cases a<;>cases b<;>cases c<;>cases d<;>cases e<;>rfl
theorem kr{b A3 E:List Nat}{a:Nat}(j:b.length=16)(k:A3.length=16):ev kl fJ [(4,.str A3),(5,AT E),(1,.int (a:Int)),(2,.str b)]=dD (.str (Ak E b A3 a)):=by
 have c:Bu [(4,V.str A3),(5,AT E),(1,.int (a:Int)),(2,.str b)] [(3,2),(4,1),(5,4),(6,5)]=[(3,.str b),(4,.int (a:Int)),(5,.str A3),(6,AT E)]:=rfl;have t:∀i p:Nat,EM (.many [1,2]) (.t [.int (i:Int),.int (p:Int)]) [(3,.str b),(4,.int (a:Int)),(5,.str A3),(6,AT E)]=dD [(3,.str b),(4,.int (a:Int)),(5,.str A3),(6,AT E),(1,.int (i:Int)),(2,.int (p:Int))]:=λz z=>rfl;have m:=L1 (E:=E) (kk:=a) j k (k:=0) (p:=5) (by decide) (by decide);have n:=L1 (E:=E) (kk:=a) j k (k:=1) (p:=6) (by decide) (by decide);have o:=L1 (E:=E) (kk:=a) j k (k:=2) (p:=9) (by decide) (by decide);have q:=L1 (E:=E) (kk:=a) j k (k:=3) (p:=10) (by decide) (by decide);have r:ev kl (.cm mN (.many [1,2]) (.en (.t (.cons (.c (.int 5)) (.cons (.c (.int 6)) (.cons (.c (.int 9)) (.cons (.c (.int 10)) .nil)))))) .no .nil [(3,2),(4,1),(5,4),(6,5)]) [(4,V.str A3),(5,AT E),(1,.int (a:Int)),(2,.str b)]=dD (.l [.str (O7 E (G8 a) 0 (Dc b A3 5)),.str (O7 E (G8 a) 1 (Dc b A3 6)),.str (O7 E (G8 a) 2 (Dc b A3 9)),.str (O7 E (G8 a) 3 (Dc b A3 10))]):=by exact DP (iP _) c (Bp m rfl (Bp n rfl (Bp o rfl (Bp q rfl rfl)))) rfl
 have s:∀e f g h:List Nat,e.length<=1->f.length<=1->g.length<=1->h.length<=1->Qt .join (.str []) [.l [.str e,.str f,.str g,.str h]]=dD (.str (Fg [] [e,f,g,h])):=λe f g h u v w x=>by
  have:pq (CD 0 [e,f,g,h] 0) 1000000=er:=by
   refine mK ?_;show 0+e.length+0+f.length+0+g.length+0+h.length+0+1<=1000000
   lia
  show(if pq (CD 0 [e,f,g,h] 0) 1000000 then dD (V.str (Fg [] [e,f,g,h]))else eu)=_;rw[this];rfl
 have l:∀i d,(O7 E (G8 a) i d).length<=1:=λi d=>by
  induction d using qV with
  |false=>exact qF _
  |true=>
   unfold O7;cases G8 a
   ·exact qd 1
   ·exact qF 1
 unfold fJ;simp only[Gl,C3,Bj,Bt,r];show Qt .join (.str []) [.l [.str (O7 E (G8 a) 0 (Dc b A3 5)),.str (O7 E (G8 a) 1 (Dc b A3 6)),.str (O7 E (G8 a) 2 (Dc b A3 9)),.str (O7 E (G8 a) 3 (Dc b A3 10))]]=_;rw[s _ _ _ _ (l _ _) (l _ _) (l _ _) (l _ _),Rf];rfl
end
section
set_option exponentiation.threshold 5000
noncomputable def aE:X:=.t (.cons (.sub (.v 5) (.c (.int 0))) (.cons (.sub (.v 5) (.v 1)) (.cons (.b .Sub (.b .Add (.sub (.v 2) (.sub (.v 3) (.v 1))) (.b .Mod (.v 4) (.c (.int 4)))) (.c (.int 1))) .nil)))
noncomputable def bE:X:=.t (.cons (.me (.c (.str [])) .join (.cons (.v 6) .nil)) (.cons (.sub (.v 3) (.v 1)) (.cons (.b .Add (.b .Mult (.c (.int 2)) (.sub (.v 5) (.sub (.v 2) (.v 1)))) (.b .Mod (.v 4) (.c (.int 3)))) .nil)))
theorem JQ{ks:List (List Nat)}{c bs b:List V}{A0 k e:Nat}{h wk bk:List Nat}(C:k<100)(p:b[0]?=dD (.str h))(q:b[k]?=dD (.str wk))(r:bs[k]?=dD (.str bk))(s:EQ bk ks c=dD (iN e)):
  ev kl aE [(2,.d ks c),(3,.l bs),(4,.int (A0:Int)),(5,.l b),(1,.int (k:Int))]=dD (.t [.str h,.str wk,.int (((e+A0%4:Nat):Int)-1)]):=by
 obtain⟨ρ,a⟩:∃ρ:Ev,ρ=[(2,.d ks c),(3,.l bs),(4,.int (A0:Int)),(5,.l b),(1,.int (k:Int))]:=⟨_,rfl⟩
 rw[<-a];have i:ρ.get 1=dD (iN k):=by rw[a];rfl
 have t:ρ.get 2=dD (.d ks c):=by rw[a];rfl
 have u:ρ.get 3=dD (.l bs):=by rw[a];rfl
 have v:ρ.get 4=dD (.int (A0:Int)):=by rw[a];rfl
 have o:ρ.get 5=dD (.l b):=by rw[a];rfl
 have w:ev kl (.sub (.v 5) (.c (.int 0))) ρ=dD (.str h):=by simp only[CC,AS,o,C3];exact FJ (k:=0) p (by decide)
 have x:ev kl (.sub (.v 5) (.v 1)) ρ=dD (.str wk):=by simp only[CC,AS,o,AS,i];exact FJ q (by lia)
 have y:ev kl (.sub (.v 3) (.v 1)) ρ=dD (.str bk):=by simp only[CC,AS,u,AS,i];exact FJ r (by lia)
 have z:ev kl (.sub (.v 2) (.sub (.v 3) (.v 1))) ρ=dD (iN e):=by simp only[CC,AS,t,y];exact s
 have A:Aj (AD .Mod) (dD (.int (A0:Int))) (dD (.int 4))=dD (iN (A0%4)):=Ea A0 4 (by decide);have B:ev kl (.b .Sub (.b .Add (.sub (.v 2) (.sub (.v 3) (.v 1))) (.b .Mod (.v 4) (.c (.int 4)))) (.c (.int 1))) ρ=dD (.int (((e+A0%4:Nat):Int)-1)):=by simp only[B6,B6,z,B6,AS,v,C3,C3,A,(Qu _ _)];rfl
 unfold aE;simp only[ER,Bj,Bj,Bj,Bt,w,x,B];rfl
theorem Im{ks:List (List Nat)}{c bs fs:List V}{E:List Nat}{A0 k b:Nat}{fk bk:List Nat}(D:k<100)(h:fs[k]?=dD (.str fk))(i:bs[k]?=dD (.str bk))(o:EQ bk ks c=dD (iN b))(p:b<2^100):
  ev kl bE [(2,.l bs),(3,.l fs),(4,.int (A0:Int)),(5,.d ks c),(6,AT E),(1,.int (k:Int))]=dD (.t [.str ([0,2,4,6].map (fE E)),.str fk,iN (2*b+A0%3)]):=by
 obtain⟨ρ,a⟩:∃ρ:Ev,ρ=[(2,.l bs),(3,.l fs),(4,.int (A0:Int)),(5,.d ks c),(6,AT E),(1,.int (k:Int))]:=⟨_,rfl⟩
 rw[<-a];have e:ρ.get 1=dD (iN k):=by rw[a];rfl
 have q:ρ.get 2=dD (.l bs):=by rw[a];rfl
 have r:ρ.get 3=dD (.l fs):=by rw[a];rfl
 have s:ρ.get 4=dD (.int (A0:Int)):=by rw[a];rfl
 have t:ρ.get 5=dD (.d ks c):=by rw[a];rfl
 have u:ρ.get 6=dD (AT E):=by rw[a];rfl
 have v:ev kl (.me (.c (.str [])) .join (.cons (.v 6) .nil)) ρ=dD (.str ([0,2,4,6].map (fE E))):=by simp only[Gl,C3,Bj,Bt,AS,u];rfl
 have w:ev kl (.sub (.v 3) (.v 1)) ρ=dD (.str fk):=by simp only[CC,AS,r,AS,e];exact FJ h (by lia)
 have x:ev kl (.sub (.v 2) (.v 1)) ρ=dD (.str bk):=by simp only[CC,AS,q,AS,e];exact FJ i (by lia)
 have y:ev kl (.sub (.v 5) (.sub (.v 2) (.v 1))) ρ=dD (iN b):=by simp only[CC,AS,t,x];exact o
 have z:Aj (AD .Mod) (dD (.int (A0:Int))) (dD (.int 3))=dD (iN (A0%3)):=Ea A0 3 (by decide);have A:Aj (AD .Mult) (dD (.int 2)) (dD (iN b))=dD (iN (2*b)):=QN (a:=2) (by decide) p;have B:Aj (AD .Add) (dD (iN (2*b))) (dD (iN (A0%3)))=dD (iN (2*b+A0%3)):=Qu _ _;have C:ev kl (.b .Add (.b .Mult (.c (.int 2)) (.sub (.v 5) (.sub (.v 2) (.v 1)))) (.b .Mod (.v 4) (.c (.int 3)))) ρ=dD (iN (2*b+A0%3)):=by simp only[B6,B6,y,B6,AS,s,C3,C3,z,A,B]
 unfold bE;simp only[ER,Bj,Bj,Bj,Bt,v,w,C];rfl
noncomputable def B7(n j f l m d g:List Nat):List V:=[.str n,.str j,.str f,.str l,.str m,.str d,.str g]
section
variable{ρ:Ev}{n j f l m d g A3 E:List Nat}
theorem r7(ρ:Ev):EW kl (.rg (.cons (.c (.int 7)) .nil)) ρ=dD [.int (0:Nat),.int (1:Nat),.int (2:Nat),.int (3:Nat),.int (4:Nat),.int (5:Nat),.int (6:Nat)]:=by simp only[WL,Bj,Bt,C6];rfl
theorem ql(o:A3.length=16)(p:∀b∈ [n,j,f,l,m,d,g],b.length=16)(r:ρ.get 9=dD (.str A3))(a:ρ.get 40=dD (AT E))(k:ρ.get 13=dD (.l (B7 n j f l m d g))):
  ev kl q2 ρ=dD (.l (B7 (AG E n A3) (AG E j A3) (AG E f A3) (AG E l A3) (AG E m A3) (AG E d A3) (AG E g A3))):=by
 have q:q2=.cm wJ (.one 1) (.val (.v 13)) .no .nil [(3,9),(4,40)]:=rfl;have c:Bu ρ [(3,9),(4,40)]=[(3,.str A3),(4,AT E)]:=by simp only[E7,C2,r,a]
 have i:EW kl (.val (.v 13)) ρ=dD (B7 n j f l m d g):=by simp only[Zu,AS,k];rfl
 have e:∀b∈ [n,j,f,l,m,d,g],ev kl wJ [(3,.str A3),(4,AT E),(1,.str b)]=dD (.str (AG E b A3)):=λb h=>iF (p b h) o;exact q▸DP i c (Bp (e n (by simp)) rfl (Bp (e j (by simp)) rfl (Bp (e f (by simp)) rfl (Bp (e l (by simp)) rfl (Bp (e m (by simp)) rfl (Bp (e d (by simp)) rfl (Bp (e g (by simp)) rfl rfl))))))) rfl
theorem rM(p:A3.length=16)(r:∀b∈ [n,j,f,l,m,d,g],b.length=16)(s:ρ.get 9=dD (.str A3))(a:ρ.get 40=dD (AT E))(k:ρ.get 13=dD (.l (B7 n j f l m d g))):
  ev kl q3 ρ=dD (.l (B7 (Ak E n A3 0) (Ak E j A3 1) (Ak E f A3 2) (Ak E l A3 3) (Ak E m A3 4) (Ak E d A3 5) (Ak E g A3 6))):=by
 have q:q3=.cm fJ (.many [1,2]) (.en (.v 13)) .no .nil [(4,9),(5,40)]:=rfl;have c:Bu ρ [(4,9),(5,40)]=[(4,.str A3),(5,AT E)]:=by simp only[E7,C2,s,a]
 have i:EW kl (.en (.v 13)) ρ=dD [.t [.int (0:Nat),.str n],.t [.int (1:Nat),.str j],.t [.int (2:Nat),.str f],.t [.int (3:Nat),.str l],.t [.int (4:Nat),.str m],.t [.int (5:Nat),.str d],.t [.int (6:Nat),.str g]]:=by simp only[cW,AS,k];rfl
 have e:∀b∈ [n,j,f,l,m,d,g],∀o:Nat,ev kl fJ [(4,.str A3),(5,AT E),(1,.int (o:Int)),(2,.str b)]=dD (.str (Ak E b A3 o)):=λb h o=>kr (r b h) p;have t:=e n (by simp) 0;have u:=e j (by simp) 1;have v:=e f (by simp) 2;have w:=e l (by simp) 3;have x:=e m (by simp) 4;have y:=e d (by simp) 5;exact q▸DP i c (Bp t rfl (Bp u rfl (Bp v rfl (Bp w rfl (Bp x rfl (Bp y rfl (Bp (e g (by simp) 6) rfl rfl))))))) rfl
end
end
section
set_option exponentiation.threshold 5000
noncomputable section
noncomputable def tA(E a A3:List Nat)(A0:Nat)(b:List Nat):V:=.t [.str (AG E a A3),.str (AG E b A3),.int (((HP (maskOf a A3) (maskOf b A3)+A0%4:Nat):Int)-1)]
noncomputable def tB(E A3:List Nat)(A0:Nat)(b:List Nat)(k:Nat):V:=.t [.str ([0,2,4,6].map (fE E)),.str (Ak E b A3 k),iN (2*Bq (maskOf b A3)+A0%3)]
theorem CK:∀m∈Pk,Bq m<2^100:=by nofun
section
variable{ρ:Ev}{a f d g h c e A3 E:List Nat}{ks j:List (List Nat)}{l i:List V}{A0:Nat}
theorem rs(F:∀b∈ [a,f,d,g,h,c,e],BF a A3 b ks j l i)(N:ρ.get 5=dD (.int (A0:Int)))(t:ρ.get 10=dD (.d j i))(u:ρ.get 12=dD (.d ks l))(s:ρ.get 13=dD (.l (B7 a f d g h c e)))(v:ρ.get 40=dD (AT E))
  (w:ρ.get 41=dD (.l (B7 (AG E a A3) (AG E f A3) (AG E d A3) (AG E g A3) (AG E h A3) (AG E c A3) (AG E e A3))))
  (x:ρ.get 42=dD (.l (B7 (Ak E a A3 0) (Ak E f A3 1) (Ak E d A3 2) (Ak E g A3 3) (Ak E h A3 4) (Ak E c A3 5) (Ak E e A3 6)))):
  ev kl q4 ρ=dD (.l [tA E a A3 A0 a,tA E a A3 A0 f,tA E a A3 A0 d,tA E a A3 A0 g,tA E a A3 A0 h,tA E a A3 A0 c,tA E a A3 A0 e,tB E A3 A0 a 0,tB E A3 A0 f 1,tB E A3 A0 d 2,tB E A3 A0 g 3,tB E A3 A0 h 4,tB E A3 A0 c 5,tB E A3 A0 e 6]):=by
 have q:q4=.b .Add (.cm aE (.one 1) (.rg (.cons (.c (.int 7)) .nil)) .no .nil [(2,12),(3,13),(4,5),(5,41)]) (.cm bE (.one 1) (.rg (.cons (.c (.int 7)) .nil)) .no .nil [(2,13),(3,42),(4,5),(5,10),(6,40)]):=rfl;have y:=F a (by simp);have z:=F f (by simp);have A:=F d (by simp);have B:=F g (by simp);have C:=F h (by simp);have D:=F c (by simp);have G:=F e (by simp);have O:Bu ρ [(2,12),(3,13),(4,5),(5,41)]=[(2,.d ks l),(3,.l (B7 a f d g h c e)),(4,.int (A0:Int)),(5,.l (B7 (AG E a A3) (AG E f A3) (AG E d A3) (AG E g A3) (AG E h A3) (AG E c A3) (AG E e A3)))]:=by simp only[E7,C2,N,u,s,w]
 have Q:Bu ρ [(2,13),(3,42),(4,5),(5,10),(6,40)]=[(2,.l (B7 a f d g h c e)),(3,.l (B7 (Ak E a A3 0) (Ak E f A3 1) (Ak E d A3 2) (Ak E g A3 3) (Ak E h A3 4) (Ak E c A3 5) (Ak E e A3 6))),(4,.int (A0:Int)),(5,.d j i),(6,AT E)]:=by simp only[E7,C2,N,t,s,x,v]
 have U:ev kl (.cm aE (.one 1) (.rg (.cons (.c (.int 7)) .nil)) .no .nil [(2,12),(3,13),(4,5),(5,41)]) ρ=dD (.l [tA E a A3 A0 a,tA E a A3 A0 f,tA E a A3 A0 d,tA E a A3 A0 g,tA E a A3 A0 h,tA E a A3 A0 c,tA E a A3 A0 e]):=by
  refine DP (r7 _) O ?_ rfl;generalize k:B7 a f d g h c e=n;generalize m:B7 (AG E a A3) (AG E f A3) (AG E d A3) (AG E g A3) (AG E h A3) (AG E c A3) (AG E e A3)=Y;have p:Y[0]?=dD (.str (AG E a A3)):=by rw[<-m];rfl
  have H:=JQ (A0:=A0) (k:=0) (by decide) p (wk:=AG E a A3) (by rw[<-m];rfl) (bk:=a) (bs:=n) (by rw[<-k];rfl) y.aw;have I:=JQ (A0:=A0) (k:=1) (by decide) p (wk:=AG E f A3) (by rw[<-m];rfl) (bk:=f) (bs:=n) (by rw[<-k];rfl) z.aw;have J:=JQ (A0:=A0) (k:=2) (by decide) p (wk:=AG E d A3) (by rw[<-m];rfl) (bk:=d) (bs:=n) (by rw[<-k];rfl) A.aw;have L:=JQ (A0:=A0) (k:=3) (by decide) p (wk:=AG E g A3) (by rw[<-m];rfl) (bk:=g) (bs:=n) (by rw[<-k];rfl) B.aw;have M:=JQ (A0:=A0) (k:=4) (by decide) p (wk:=AG E h A3) (by rw[<-m];rfl) (bk:=h) (bs:=n) (by rw[<-k];rfl) C.aw;exact(Bp H rfl (Bp I rfl (Bp J rfl (Bp L rfl (Bp M rfl (Bp (JQ (A0:=A0) (k:=5) (by decide) p (wk:=AG E c A3) (by rw[<-m];rfl) (bk:=c) (bs:=n) (by rw[<-k];rfl) D.aw) rfl (Bp (JQ (A0:=A0) (k:=6) (by decide) p (wk:=AG E e A3) (by rw[<-m];rfl) (bk:=e) (bs:=n) (by rw[<-k];rfl) G.aw) rfl rfl)))))))
 have h2:ev kl (.cm bE (.one 1) (.rg (.cons (.c (.int 7)) .nil)) .no .nil [(2,13),(3,42),(4,5),(5,10),(6,40)]) ρ=dD (.l [tB E A3 A0 a 0,tB E A3 A0 f 1,tB E A3 A0 d 2,tB E A3 A0 g 3,tB E A3 A0 h 4,tB E A3 A0 c 5,tB E A3 A0 e 6]):=by refine DP (r7 _) Q ?_ rfl;generalize k:B7 a f d g h c e=n;generalize o:B7 (Ak E a A3 0) (Ak E f A3 1) (Ak E d A3 2) (Ak E g A3 3) (Ak E h A3 4) (Ak E c A3 5) (Ak E e A3 6)=r;have H:=Im (E:=E) (A0:=A0) (k:=0) (by decide) (fk:=Ak E a A3 0) (fs:=r) (by rw[<-o];rfl) (bk:=a) (bs:=n) (by rw[<-k];rfl) y.lo (CK _ y.mem);have I:=Im (E:=E) (A0:=A0) (k:=1) (by decide) (fk:=Ak E f A3 1) (fs:=r) (by rw[<-o];rfl) (bk:=f) (bs:=n) (by rw[<-k];rfl) z.lo (CK _ z.mem);have J:=Im (E:=E) (A0:=A0) (k:=2) (by decide) (fk:=Ak E d A3 2) (fs:=r) (by rw[<-o];rfl) (bk:=d) (bs:=n) (by rw[<-k];rfl) A.lo (CK _ A.mem);have L:=Im (E:=E) (A0:=A0) (k:=3) (by decide) (fk:=Ak E g A3 3) (fs:=r) (by rw[<-o];rfl) (bk:=g) (bs:=n) (by rw[<-k];rfl) B.lo (CK _ B.mem);have M:=Im (E:=E) (A0:=A0) (k:=4) (by decide) (fk:=Ak E h A3 4) (fs:=r) (by rw[<-o];rfl) (bk:=h) (bs:=n) (by rw[<-k];rfl) C.lo (CK _ C.mem);exact(Bp H rfl (Bp I rfl (Bp J rfl (Bp L rfl (Bp M rfl (Bp (Im (E:=E) (A0:=A0) (k:=5) (by decide) (fk:=Ak E c A3 5) (fs:=r) (by rw[<-o];rfl) (bk:=c) (bs:=n) (by rw[<-k];rfl) D.lo (CK _ D.mem)) rfl (Bp (Im (E:=E) (A0:=A0) (k:=6) (by decide) (fk:=Ak E e A3 6) (fs:=r) (by rw[<-o];rfl) (bk:=e) (bs:=n) (by rw[<-k];rfl) G.lo (CK _ G.mem)) rfl rfl)))))))
 simp only[q,B6,U,h2];rfl
end
end
end
section
set_option exponentiation.threshold 5000
noncomputable section
noncomputable def Qj:X:=.call 16 (.cons (.v 1) (.cons (.v 2) (.cons (.v 3) .nil)))
noncomputable def gH:X:=.sub (.v 2) (.v 1)
noncomputable def mQ:X:=.b .Mult (.c (.int 2)) (.sub (.v 2) (.v 1))
section
variable{ρ:Ev}{e m j p r g l A3:List Nat}{ks t:List (List Nat)}{u s:List V}{A0:Nat}
theorem lA(a:maskOf e A3∈Pk){b:List Nat}(f:maskOf b A3∈Pk):ev kl Qj [(1,.str (AG (eE A0) e A3)),(2,.str (AG (eE A0) b A3)),(3,.int (((HP (maskOf e A3) (maskOf b A3)+A0%4:Nat):Int)-1))]=dD (iN (HP (maskOf e A3) (maskOf b A3))):=by unfold Qj;simp only[Af,Dz,Bt,Bj,AC,lf];exact pX (qY _ (by decide)) (qY _ (by decide)) (qY _ (by decide)) (qY _ (by decide)) a f (qY _ (by decide))
theorem lB{b:List Nat}(f:maskOf b A3∈Pk)(k:Nat):ev kl Qj [(1,.str ([0,2,4,6].map (fE (eE A0)))),(2,.str (Ak (eE A0) b A3 k)),(3,iN (2*Bq (maskOf b A3)+A0%3))]=dD (iN (2*Bq (maskOf b A3))):=by unfold Qj;simp only[Af,Dz,Bt,Bj,AC,lf];exact pB (qY _ (by decide)) (qY _ (by decide)) (qY _ (by decide)) (qY _ (by decide)) f (G8 k) (qY _ (by decide))
theorem Ed{b:List Nat}{n:Nat}(h:EQ b ks u=dD (iN n)):ev kl gH [(2,.d ks u),(1,.str b)]=dD (iN n):=by unfold gH;simp only[Af,CC,AC,lf];exact h
theorem Fk{b:List Nat}{n:Nat}(h:EQ b ks u=dD (iN n))(a:n<2^100):ev kl mQ [(2,.d ks u),(1,.str b)]=dD (iN (2*n)):=by have:=Ed h;unfold gH at this;unfold mQ;simp only[B6,C3,this];exact QN (a:=2) (by decide) a
noncomputable def res(e A3 m j p r g l:List Nat):List V:=[iN (HP (maskOf e A3) (maskOf e A3)),iN (HP (maskOf e A3) (maskOf m A3)),iN (HP (maskOf e A3) (maskOf j A3)),iN (HP (maskOf e A3) (maskOf p A3)),iN (HP (maskOf e A3) (maskOf r A3)),iN (HP (maskOf e A3) (maskOf g A3)),iN (HP (maskOf e A3) (maskOf l A3)),
 iN (2*Bq (maskOf e A3)),iN (2*Bq (maskOf m A3)),iN (2*Bq (maskOf j A3)),iN (2*Bq (maskOf p A3)),iN (2*Bq (maskOf r A3)),iN (2*Bq (maskOf g A3)),iN (2*Bq (maskOf l A3))]
theorem YO(a b c d f h i k n q v w x y:Nat):KP (.l [iN a,iN b,iN c,iN d,iN f,iN h,iN i,iN k,iN n,iN q,iN v,iN w,iN x,iN y]) (.l [iN a,iN b,iN c,iN d,iN f,iN h,iN i,iN k,iN n,iN q,iN v,iN w,iN x,iN y])=dD er:=by have o:GA (.l [iN a,iN b,iN c,iN d,iN f,iN h,iN i,iN k,iN n,iN q,iN v,iN w,iN x,iN y])=er:=rfl;show(if GA (.l [iN a,iN b,iN c,iN d,iN f,iN h,iN i,iN k,iN n,iN q,iN v,iN w,iN x,iN y])&&GA (.l [iN a,iN b,iN c,iN d,iN f,iN h,iN i,iN k,iN n,iN q,iN v,iN w,iN x,iN y])then dD (DT (.l [iN a,iN b,iN c,iN d,iN f,iN h,iN i,iN k,iN n,iN q,iN v,iN w,iN x,iN y]) (.l [iN a,iN b,iN c,iN d,iN f,iN h,iN i,iN k,iN n,iN q,iN v,iN w,iN x,iN y]))else eu)=_;rw[o];simp[Rt,Uj,Tl,Vo,Ro,Sz,SM,Up,OK,Oa,iN]
theorem mT(F:∀b∈ [e,m,j,p,r,g,l],BF e A3 b ks t u s)(w:ρ.get 10=dD (.d t s))(x:ρ.get 12=dD (.d ks u))(y:ρ.get 13=dD (.l (B7 e m j p r g l)))
  (z:ρ.get 43=dD (.l [tA (eE A0) e A3 A0 e,tA (eE A0) e A3 A0 m,tA (eE A0) e A3 A0 j,tA (eE A0) e A3 A0 p,tA (eE A0) e A3 A0 r,tA (eE A0) e A3 A0 g,tA (eE A0) e A3 A0 l,tB (eE A0) A3 A0 e 0,tB (eE A0) A3 A0 m 1,tB (eE A0) A3 A0 j 2,tB (eE A0) A3 A0 p 3,tB (eE A0) A3 A0 r 4,tB (eE A0) A3 A0 g 5,tB (eE A0) A3 A0 l 6])):
  ev kl q5 ρ=dD (.bool er):=by
 have q:q5=.q (.cm Qj (.many [1,2,3]) (.val (.v 43)) .no .nil []) .Eq (.b .Add (.cm gH (.one 1) (.val (.v 13)) .no .nil [(2,12)]) (.cm mQ (.one 1) (.val (.v 13)) .no .nil [(2,10)])):=rfl;have a:=F e (by simp);have d:=F m (by simp);have f:=F j (by simp);have h:=F p (by simp);have k:=F r (by simp);have n:=F g (by simp);have o:=F l (by simp);have A:ev kl (.cm Qj (.many [1,2,3]) (.val (.v 43)) .no .nil []) ρ=dD (.l (res e A3 m j p r g l)):=by
  have i:EW kl (.val (.v 43)) ρ=dD [tA (eE A0) e A3 A0 e,tA (eE A0) e A3 A0 m,tA (eE A0) e A3 A0 j,tA (eE A0) e A3 A0 p,tA (eE A0) e A3 A0 r,tA (eE A0) e A3 A0 g,tA (eE A0) e A3 A0 l,tB (eE A0) A3 A0 e 0,tB (eE A0) A3 A0 m 1,tB (eE A0) A3 A0 j 2,tB (eE A0) A3 A0 p 3,tB (eE A0) A3 A0 r 4,tB (eE A0) A3 A0 g 5,tB (eE A0) A3 A0 l 6]:=by simp only[Zu,AS,z];rfl
  have B:=lB (A0:=A0) n.mem 5;have k6:=lB (A0:=A0) o.mem 6;exact DP i rfl (Bp (lA (A0:=A0) a.mem a.mem) rfl (Bp (lA (A0:=A0) a.mem d.mem) rfl (Bp (lA (A0:=A0) a.mem f.mem) rfl (Bp (lA (A0:=A0) a.mem h.mem) rfl (Bp (lA (A0:=A0) a.mem k.mem) rfl (Bp (lA (A0:=A0) a.mem n.mem) rfl (Bp (lA (A0:=A0) a.mem o.mem) rfl (Bp (lB (A0:=A0) a.mem 0) rfl (Bp (lB (A0:=A0) d.mem 1) rfl (Bp (lB (A0:=A0) f.mem 2) rfl (Bp (lB (A0:=A0) h.mem 3) rfl (Bp (lB (A0:=A0) k.mem 4) rfl (Bp B rfl (Bp k6 rfl rfl)))))))))))))) rfl
 have v:EW kl (.val (.v 13)) ρ=dD [.str e,.str m,.str j,.str p,.str r,.str g,.str l]:=by simp only[Zu,AS,y];rfl
 have C:ev kl (.cm gH (.one 1) (.val (.v 13)) .no .nil [(2,12)]) ρ=dD (.l [iN (HP (maskOf e A3) (maskOf e A3)),iN (HP (maskOf e A3) (maskOf m A3)),iN (HP (maskOf e A3) (maskOf j A3)),iN (HP (maskOf e A3) (maskOf p A3)),iN (HP (maskOf e A3) (maskOf r A3)),iN (HP (maskOf e A3) (maskOf g A3)),iN (HP (maskOf e A3) (maskOf l A3))]):=by
  have c:Bu ρ [(2,12)]=[(2,.d ks u)]:=by simp only[E7,C2,x]
  exact DP v c (Bp (Ed a.aw) rfl (Bp (Ed d.aw) rfl (Bp (Ed f.aw) rfl (Bp (Ed h.aw) rfl (Bp (Ed k.aw) rfl (Bp (Ed n.aw) rfl (Bp (Ed o.aw) rfl rfl))))))) rfl
 have D:ev kl (.cm mQ (.one 1) (.val (.v 13)) .no .nil [(2,10)]) ρ=dD (.l [iN (2*Bq (maskOf e A3)),iN (2*Bq (maskOf m A3)),iN (2*Bq (maskOf j A3)),iN (2*Bq (maskOf p A3)),iN (2*Bq (maskOf r A3)),iN (2*Bq (maskOf g A3)),iN (2*Bq (maskOf l A3))]):=by
  have c:Bu ρ [(2,10)]=[(2,.d t s)]:=by simp only[E7,C2,w]
  exact DP v c (Bp (Fk a.lo (CK _ a.mem)) rfl (Bp (Fk d.lo (CK _ d.mem)) rfl (Bp (Fk f.lo (CK _ f.mem)) rfl (Bp (Fk h.lo (CK _ h.mem)) rfl (Bp (Fk k.lo (CK _ k.mem)) rfl (Bp (Fk n.lo (CK _ n.mem)) rfl (Bp (Fk o.lo (CK _ o.mem)) rfl rfl))))))) rfl
 simp only[q,BP,A,B6,C,D];show Ao (KP (.l (res e A3 m j p r g l)) (.l (res e A3 m j p r g l)))=_;unfold res;rw[YO];rfl
end
theorem X8{ρ:Ev}{A0:Nat}{w:Int}(B:ρ.get 33=dD (CH A0 w))(C:ρ.get 34=dD (.int w))(D:ρ.get 39=dD (.int (Kv A0 w)))(N:ρ.get 5=dD (.int (A0:Int)))(U:Ky (ρ.get 13) (ρ.get 12) (ρ.get 10) (ρ.get 9)=er):
  AX kl fG GN ρ []=dD (.ret (.bool er)):=by
 refine RA U λe m j p r g l A3 ks t u s f x y O Q F=>?_;have k:∀b∈ [e,m,j,p,r,g,l],b.length=16:=λb h=>(F b h).len;have Y:BK kl fG (.ie q0 (.cons (.ret (.c (.bool fG))) .nil) .nil) ρ []=dD (.nx ρ []):=by
  simp only[DS];show(match tr (ev kl q0 ρ)with
   |some er=>AX kl fG (.cons (.ret (.c (.bool fG))) .nil) ρ []
   |some fG=>AX kl fG .nil ρ []
   |none=>eu)=_
  rw[rK B C D];show AX kl fG .nil ρ []=_;simp only[Ht]
 obtain⟨c,E⟩:∃c,ρ.put 40 (AT (eE A0))=c:=⟨_,rfl⟩
 have z:∀i,i≠40->c.get i=ρ.get i:=λi n=>by rw[<-E,Ev.get_put,if_neg (ub n)]
 have o:c.get 40=dD (AT (eE A0)):=by rw[<-E,Ev.get_put,if_pos rfl]
 obtain⟨d,q⟩:∃d,c.put 41 (.l (B7 (AG (eE A0) e A3) (AG (eE A0) m A3) (AG (eE A0) j A3) (AG (eE A0) p A3) (AG (eE A0) r A3) (AG (eE A0) g A3) (AG (eE A0) l A3)))=d:=⟨_,rfl⟩
 have A:∀i,i≠41->d.get i=c.get i:=λi n=>by rw[<-q,Ev.get_put,if_neg (ub n)]
 have G:d.get 41=dD (.l (B7 (AG (eE A0) e A3) (AG (eE A0) m A3) (AG (eE A0) j A3) (AG (eE A0) p A3) (AG (eE A0) r A3) (AG (eE A0) g A3) (AG (eE A0) l A3))):=by rw[<-q,Ev.get_put,if_pos rfl]
 obtain⟨Lp,H⟩:∃Lp,d.put 42 (.l (B7 (Ak (eE A0) e A3 0) (Ak (eE A0) m A3 1) (Ak (eE A0) j A3 2) (Ak (eE A0) p A3 3) (Ak (eE A0) r A3 4) (Ak (eE A0) g A3 5) (Ak (eE A0) l A3 6)))=Lp:=⟨_,rfl⟩
 have k6:∀i,i≠42->Lp.get i=d.get i:=λi n=>by rw[<-H,Ev.get_put,if_neg (ub n)]
 have I:Lp.get 42=dD (.l (B7 (Ak (eE A0) e A3 0) (Ak (eE A0) m A3 1) (Ak (eE A0) j A3 2) (Ak (eE A0) p A3 3) (Ak (eE A0) r A3 4) (Ak (eE A0) g A3 5) (Ak (eE A0) l A3 6))):=by rw[<-H,Ev.get_put,if_pos rfl]
 have a:∀i,i<40->Lp.get i=ρ.get i:=λi n=>(k6 i (by lia)).trans ((A i (by lia)).trans (z i (by lia)));obtain⟨NZ,J⟩:∃NZ,Lp.put 43 (.l [tA (eE A0) e A3 A0 e,tA (eE A0) e A3 A0 m,tA (eE A0) e A3 A0 j,tA (eE A0) e A3 A0 p,tA (eE A0) e A3 A0 r,tA (eE A0) e A3 A0 g,tA (eE A0) e A3 A0 l,tB (eE A0) A3 A0 e 0,tB (eE A0) A3 A0 m 1,tB (eE A0) A3 A0 j 2,tB (eE A0) A3 A0 p 3,tB (eE A0) A3 A0 r 4,tB (eE A0) A3 A0 g 5,tB (eE A0) A3 A0 l 6])=NZ:=⟨_,rfl⟩
 have L:∀i,i≠43->NZ.get i=Lp.get i:=λi n=>by rw[<-J,Ev.get_put,if_neg (ub n)]
 have M:NZ.get 43=dD (.l [tA (eE A0) e A3 A0 e,tA (eE A0) e A3 A0 m,tA (eE A0) e A3 A0 j,tA (eE A0) e A3 A0 p,tA (eE A0) e A3 A0 r,tA (eE A0) e A3 A0 g,tA (eE A0) e A3 A0 l,tB (eE A0) A3 A0 e 0,tB (eE A0) A3 A0 m 1,tB (eE A0) A3 A0 j 2,tB (eE A0) A3 A0 p 3,tB (eE A0) A3 A0 r 4,tB (eE A0) A3 A0 g 5,tB (eE A0) A3 A0 l 6]):=by rw[<-J,Ev.get_put,if_pos rfl]
 have s5:BK kl fG (.ret q5) NZ []=dD (.ret (.bool er)):=by
  simp only[Ef];show(match ev kl q5 NZ with
   |some v=>dD (Rs.ret v)
   |none=>eu)=_
  rw[(mT F ((L 10 (by decide)).trans ((a 10 (by decide)).trans y)) ((L 12 (by decide)).trans ((a 12 (by decide)).trans x)) ((L 13 (by decide)).trans ((a 13 (by decide)).trans f)) M)]
 rw[post_eq,A4 Y,A4 (Bn (rE N)),E,A4 (Bn (ql (ρ:=c) (E:=eE A0) Q k ((z 9 (by decide)).trans O) o ((z 13 (by decide)).trans f))),q,A4 (Bn (rM (ρ:=d) (E:=eE A0) Q k ((A 9 (by decide)).trans ((z 9 (by decide)).trans O)) ((A 40 (by decide)).trans o) ((A 13 (by decide)).trans ((z 13 (by decide)).trans f)))),H,A4 (Bn (rs (ρ:=Lp) (E:=eE A0) F ((a 5 (by decide)).trans N) ((a 10 (by decide)).trans y) ((a 12 (by decide)).trans x) ((a 13 (by decide)).trans f) ((k6 40 (by decide)).trans ((A 40 (by decide)).trans o)) ((k6 41 (by decide)).trans G) I)),J,GG,s5]
theorem plain(b:List Int)(z:b.length<=63):Yy (AR HH 6) (.l (b.map V.int))=dD (.bool er):=by
 have d:=iH b z;have v:Cc b 4 1234<=200000:=mE (TU b 4 1234 z) (by decide);generalize Cc b 0 92=one at d;generalize Cc b 1 26=two at d;generalize Cc b 2 51=AK at d;generalize Cc b 3 1=AY at d;generalize Cc b 4 1234=f at d v;generalize V.l (b.map V.int)=h at d⊢
 (refine CB λu A=>?_;refine pR (bM h (one:=one) (two:=two) (AK:=AK) (AY:=AY) (A0:=f) v) λa B C G D n x o q=>?_<;>refine A ?_)
 have E:=Lw (AY:=AY) v;generalize wv AY f=w at*;have H:putAll A0 [.int (one:Int),.int (two:Int),.int (AK:Int),.int (AY:Int),.int (f:Int)] [(0,h)]=dD (Hc h one two AK AY f):=rfl;have k:∀i,i≠33->(a.put 33 (CH f w)).get i=a.get i:=λi I=>by rw[Ev.get_put,if_neg (ub I)]
 have P:=X8 (ρ:=a.put 33 (CH f w)) (A0:=f) (w:=w) (by rw[Ev.get_put,if_pos rfl]) ((k 34 (by decide)).trans n) ((k 39 (by decide)).trans o) ((k 5 (by decide)).trans D) (by simp only[k 13 (by decide),k 12 (by decide),k 10 (by decide),k 9 (by decide),q 13 (by nofun),q 12 (by nofun),q 10 (by nofun),q 9 (by decide)];exact G.brd)
 show((ev _ T8 [(0,h)]).bind LG).bind _=_;rw[d];show(putAll A0 [.int (one:Int),.int (two:Int),.int (AK:Int),.int (AY:Int),.int (f:Int)] [(0,h)]).bind (λy=>((AX (AR HH 6) fG Am y []).bind M5).bind λa=>(QP (AR HH 6) a).bind λc=>(AX (AR HH 6) fG GN c []).bind QF)=_;rw[H];show((AX (AR HH 6) fG Am (Hc h one two AK AY f) []).bind M5).bind (λa=>(QP (AR HH 6) a).bind λc=>(AX (AR HH 6) fG GN c []).bind QF)=_;rw[C];show(QP (AR HH 6) a).bind (λc=>(AX (AR HH 6) fG GN c []).bind QF)=_;rw[(oH E n x o)];show(AX (AR HH 6) fG GN (a.put 33 (CH f w)) []).bind QF=_;rw[P];rfl
end
end
end Mine.Internal
section
namespace PySem.W.Fast
def tw140001813534094272:=True
def tw11727137361768719330:=True
def tw9495317472360511255:=True
def tw14842496431369740429:=True
def tw15779231459743154856:=True
def tw447263597446747957:=True
def tw15042883488752021643:=True
def tw8060666987683057360:=True
def tw13769103115541136327:=True
def tw4039707410889071942:=True
def tw12330612334027959195:=True
def tw11766667032028208565:=True
def tw9919008367099125623:=True
def tw87601786513091389:=True
def tw6953138203311097117:=True
def tw7164969610272591079:=True
def tw10519837036962490867:=True
def tw9536688357841153863:=True
def tw6128106870883400570:=True
def tw209982475168477708:=True
def tw2353497105660221152:=True
def tw8899516883271353254:=True
def tw6469784823511061222:=True
def tw17292613610259460706:=True
def tw1383625962624193546:=True
def tw5444512763150141072:=True
def tw17062427158221528723:=True
def tw15861351967447197489:=True
def tw4849480874435393781:=True
def tw6549852094080907030:=True
def tw861502493610598483:=True
def tw5449601097390414333:=True
def tw6356304189028158447:=True
def tw4077048163395320219:=True
def tw11823594873375168262:=True
def tw12459912946257978736:=True
def tw13812277999558781770:=True
def tw7424060955962978353:=True
def tw17963105932079019327:=True
def tw13757698761724263525:=True
def tw2261719852989239553:=True
def tw9456574344343218679:=True
def tw11401859456886640639:=True
def tw1495895850433845275:=True
def tw938635154573522699:=True
def tw3419001889969749887:=True
def tw15402603294489630176:=True
def tw4635989785427082552:=True
def tw2400638427578300857:=True
def tw287299124023874762:=True
def tw3721919958574915784:=True
def tw6229817132586351632:=True
def tw2107523057676978006:=True
def tw14904681115217272601:=True
def tw3042748168174471775:=True
def tw3300454383303005205:=True
def tw7476452910721959123:=True
def tw14172470266813156586:=True
def tw3543459598558145280:=True
def tw18101783494082082527:=True
def tw10374632558016547081:=True
def tw4562827626845409882:=True
def tw2941924889016668590:=True
def tw643336161829623379:=True
def tw15401437161963490237:=True
def tw6522051377940421278:=True
def tw14760874974797668852:=True
def tw16409965706819354750:=True
def tw9796564346219866840:=True
def tw11564986514327137767:=True
def tw17464319187374939960:=True
def tw17518593693041627797:=True
def tw753900405779760800:=True
def tw4884199854448574:=True
def tw10016166984437732892:=True
def tw5362036446546632119:=True
def tw2295934692909999376:=True
def tw14226173905949225808:=True
def tw12382822922155266910:=True
def tw7217548393331319763:=True
def tw5537553045615171315:=True
def tw9977182230042388008:=True
def tw2646887283097553488:=True
def tw2144661209622563809:=True
def tw3382625519597670723:=True
def tw17187875760726034783:=True
def tw5498123283257192965:=True
def tw11521511281804667912:=True
def tw2692750590507578028:=True
def tw4953865588907285216:=True
def tw2135409205425526673:=True
def tw16053306600634468012:=True
def tw5101696844757716304:=True
def tw14935467056822913822:=True
def tw16864618592142003386:=True
def tw16955839230299176341:=True
def tw2789304352393801511:=True
def tw11266997524610791606:=True
def tw5702276774652866934:=True
def tw16279288168775177219:=True
def tw5994696166404524948:=True
def tw2483420100392427323:=True
def tw2950685276103557050:=True
def tw8739830900816887780:=True
def tw8219003486749837733:=True
def tw13622603851894308203:=True
def tw11161164713144168021:=True
def tw7513338879458284253:=True
def tw3985964047577975286:=True
def tw10294118229990073760:=True
def tw9116068151291705539:=True
def tw9942562575998753845:=True
def tw13135312941875745310:=True
def tw14243238205550065757:=True
def tw10792498714594961201:=True
def tw16670775579421159206:=True
def tw15062127977220616739:=True
def tw17351735930882485243:=True
def tw8912161614967838395:=True
def tw523537741815420091:=True
def tw10295913840692754127:=True
def tw17760279517084355780:=True
def tw3919386906821981792:=True
def tw7774113678449685934:=True
def tw4684226298888400098:=True
def tw5217270863462422736:=True
def tw18157406047293677543:=True
def tw15127105006835628225:=True
def tw896239598344801917:=True
def tw9848817304349107530:=True
def tw8159993647027272844:=True
def tw446995266069924076:=True
def tw11429584451438056573:=True
def tw3641951560692057861:=True
def tw8480184845173159842:=True
def tw8972062959192195235:=True
def tw14831331821628862639:=True
def tw12903330217458380548:=True
def tw15621415185263527259:=True
def tw2403389108928632939:=True
def tw8297923619242306668:=True
def tw16902440903046159558:=True
def tw11962351593759143498:=True
def tw3235425350174046738:=True
def tw4075453323654395381:=True
def tw16723463757517087524:=True
def tw4547051000311932777:=True
def tw8997383693586321770:=True
def tw14424681132571578402:=True
def tw17013487888433625170:=True
def tw11898673842065290130:=True
def tw8760152093665844161:=True
def tw9860861378791804195:=True
def tw2187251505897268136:=True
end PySem.W.Fast
open PySem.W
open_top hd for PySem.Challenge.rw_wb0083_01
end
namespace Mine.Internal
section
open PySem.W
theorem kj(p:yz):tabIn (hd.heap_39 p) "_int2digits" =dD (62,58):=by kernel_rfl
theorem jx(p:yz):tabIn (hd.heap_39 p) "_digits2int" =dD (69,65):=by kernel_rfl
theorem RF:((yu hd.view_39).map λd=>(d.name,d.params,d.body,d.scope))=EU:=by kernel_rfl
noncomputable def Kh:List pw:=looseW hd.view_39 ["ONE_THIRD","ONE_SIXTH","TWO_THIRD"]
noncomputable def S7(x:pw):Bool:=!(ABc.contains x)&&!(Kh.contains x)&&!(((yu hd.view_39).map (·.name)).contains x)&&!(((litsOf hd.view_39).map (·.1)).contains x)&&!(((clssOf hd.view_39 Kh).map (·.name)).contains x)
theorem Vx:(("ZeroDivisionError" :pw)::Gc).all S7=er:=by nofun
theorem Yo:[("_DIV_LIMIT" :pw),"_MAX_STRING_SIZE","_MOVE_COST","_CASE_COST"].map (valOf hd.view_39)=[dD (sV 4000),dD (sV 40),dD (sV 2),dD (sV 1)]:=by kernel_rfl
theorem kZ:∃d,(yu hd.view_39).find? (λe=>e.name==("_int2digits" :pw))=dD d:=vC.mp (by nofun)
theorem lO:∃d,(yu hd.view_39).find? (λe=>e.name==("_digits2int" :pw))=dD d:=vC.mp (by nofun)
theorem Xi{w:sO}{f:lb}{i:z7->Option gx}{k n:pw->Option gx}(T:Top hd.view_39 Kh i k n f.heap)(j:(hd.heap_39 w.params).In f.heap)
  (V:ABd [("ONE_THIRD",.float 4599676419421066581),("ONE_SIXTH",.float 4595172819793696085),("TWO_THIRD",.float 4604180019048437077)] k f.heap):lL hd.view_39 Kh k f.heap 62 58 69 65 where
 recs:=RF
 free:=λx p=>by
  have h:=mH.mp Vx x p;unfold S7 at h;simp only[pl,qI,AAi,decide_eq_false_iff_not]at h;obtain⟨⟨⟨⟨a,b⟩,c⟩,d⟩,e⟩:=h;exact⟨a,b,c,d,e⟩
 loosev:=V
 c:=Yo
 h6:=let ⟨_,h⟩:=kZ;tab_of T j h (kj _)
 h7:=let ⟨_,h⟩:=lO;tab_of T j h (jx _)
 hc6:=λa o q l m g=>law_code j T.g (kj _) l m g
 hc7:=λa o q l m g=>law_code j T.g (jx _) l m g
 ne:=by refine⟨by decide,by decide,by decide⟩
theorem UK(a b:List w6):AEA uN.row.records uN.row.post {args:=a,res:=dD (AA7 er),after:=b}=dD (.bool er):=by
 have h:uN.row.post=.eq .res (.lit (.bool er)):=rfl;rw[h];have e:same (AA7 er) (AA7 er)=er:=by nofun
 simp only[AEA,e]
theorem final(plain:∀g:List Int,g.length<=63->Yy (AR HH 6) (.l (g.map V.int))=dD (.bool er)):uN.Holds:=hd (by
 k_fill
 intro w h i q r G Y s o t u l v x y hd m z c n j k A a b d e f;have p:=km_in_of Y;have V:=(Ground.X G).2;refine Ground.open G ?_;intro T B D C E
 try (refine guard_noD D (by nofun) ?_;clear D)
 wrow_args a b d e f
 refine XW T (Xi T p V) n c (by assumption) (plain _ (by omega)) (λZ=>rfl) (postW_of (X:=true) (by nofun) (UK _ _) rfl))
end
end Mine.Internal
theorem PySem.Challenge.cw_wb0083_01_holds : PySem.Challenge.rw_wb0083_01.Holds :=
  Mine.Internal.final Mine.Internal.plain
